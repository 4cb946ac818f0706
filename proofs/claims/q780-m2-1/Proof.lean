import JvmDerived
import JvmDerived.Pilot.@@N@@Statement
import JvmDerived.Pilot.@@N@@Code
set_option linter.unusedVariables false
set_option linter.unusedSimpArgs false
@@BLOCK:NumsL.lean.txt@@
namespace Jvm.Pilot.@@N@@
open Jvm Jvm.ClassFile Sem Op Lib Jvm.Free Jvm.Stand Jvm.LawKit Jvm.RoadKit Bundle Jvm.Pilot.@@N@@.Jvm.D
section OwnLayer
variable {p : Program} {l : Launch} {e : Env} {R : Room} {s : State} {m : MethodId} {args : Array Value} {below : List Frame} {meth : Method} {c : Code} {T : State} {locs : List Loc} {cells slots : Nat}
variable {F : State → Outcome → Prop} {kc ks : Nat} {Q : Option Value → Heap → List Loc → Prop} {pc pc' : Nat} {ls : Array Slot} {st : List Value} {Z : State} {a0 : Array Value} {h : Heap}
/-- from this state and frame the run comes to an end of which F holds -/
def Goes (p : Program) (e : Env) (below : List Frame) (F : State → Outcome → Prop) (T : State) (g : JFrame) : Prop :=
  ∃ s₂ o, Steps p.tables e below (T.setTop g) s₂ ∧ s₂.status = .running ∧ Ended s₂ below o ∧ F s₂ o
/-- it returns, Q holds of the value, the heap and the places written; the frame is the plain one -/
def FinN (s : State) (kc ks : Nat) (Q : Option Value → Heap → List Loc → Prop) (s₂ : State) (o : Outcome) : Prop := ∃ v L, o = .returned v ∧ Q v s₂.heap L ∧ FrameEnd s o s₂ L kc ks
theorem Goes.fore {T' : State} {g g' : JFrame} (k : ∀ target, Steps p.tables e below (T'.setTop g') target → Steps p.tables e below (T.setTop g) target) (G : Goes p e below F T' g') : Goes p e below F T g := by
  obtain ⟨a, b, h, r⟩ := G; exact ⟨a, b, k _ h, r⟩
theorem Goes.tr {T' : State} {g g' : JFrame} (k : Steps p.tables e below (T.setTop g) (T'.setTop g')) (G : Goes p e below F T' g') : Goes p e below F T g := by
  obtain ⟨a, b, h, r⟩ := G; exact ⟨a, b, k.trans h, r⟩
theorem Goes.cast {g g' : JFrame} (q : g = g') (G : Goes p e below F T g') : Goes p e below F T g := q ▸ G
/-- a body's contract: called with these arguments on this heap it returns, and Q holds of the value, the heap and the places written -/
def Ctr (l : Launch) (Z : State) (y : MethodName) (bytes : ByteArray) (maxL : Nat) (ret : Option FieldType) (ws : List Jvm.Cond) (rm : Room) (as' : Array Value) (h0 : Heap) (Q : Option Value → Heap → List Loc → Prop) : Prop :=
  MetFree l y (head1 (Jvm.Cond.code y bytes maxL ret :: ws) rm) (fun a U => a = as' ∧ Z.Warmed39 U.vm ∧ U.heap = h0) (fun _ _ _ _ _ => True) (fun _ U o U' => ∃ v L, o = .returned v ∧ Q v U'.heap L ∧ FrameEnd U o U' L rm.cells rm.slots)
theorem Ctr.of {y : MethodName} {bytes : ByteArray} {maxL : Nat} {ret : Option FieldType} {ws : List Jvm.Cond} {rm : Room} {as' : Array Value} {h0 : Heap} (hp : plainFor y = true)
    (body : ∀ (p : Program) (e : Env) (s : State) (m : MethodId) (below : List Frame) (meth : Method) (c : Code) (s₁ : State), p.tables.exec = Jvm.exec → (∀ {pc : Nat} {r : Except ClassFile.DecodeError (ClassFile.Instr × Nat)}, ClassFile.decode bytes pc = r → ClassFile.decode c.code pc = r) → c.maxLocals = maxL → meth.sig.returnType = ret → s.vm.findClass y.cls = some m.cls → meth.name = y.name → Z.Warmed39 s.vm → meth.locks = false → Stand p l e rm s m as' below meth c s₁ [] 0 0 → s₁.heap = h0 → Goes p e below (FinN s rm.cells rm.slots Q) s₁ (entryFrame m as' maxL)) :
    Ctr l Z y bytes maxL ret ws rm as' h0 Q := by
  refine MetFree.of_bodySF hp hisR ?_
  intro p e s m args below meth c s₁ Bd hml hP hK
  obtain ⟨rfl, hZ, hh⟩ := hP
  exact body p e s m below meth c s₁ Bd.exec (fun h2 => hb Bd.bytes h2) hml Bd.returns (findClass_of_methodNamed Bd.named) (name_of_methodNamed Bd.named Bd.method).1 hZ Bd.notSynchronized (Stand.of_body Bd) (by rw [← hh, Bd.state]; rfl)
theorem Ctr.mono {y : MethodName} {bytes : ByteArray} {maxL : Nat} {ret : Option FieldType} {ws : List Jvm.Cond} {rm : Room} {as' : Array Value} {h0 : Heap} {Q' : Option Value → Heap → List Loc → Prop} (C : Ctr l Z y bytes maxL ret ws rm as' h0 Q) (hq : ∀ v h L, Q v h L → Q' v h L) : Ctr l Z y bytes maxL ret ws rm as' h0 Q' := by
  intro p e ha hc hk s m args below hf happ hP hK
  obtain ⟨n, o, h1, h2, h3, v, L, h4, h5, h6⟩ := C p e ha hc hk s m args below hf happ hP hK
  exact ⟨n, o, h1, h2, h3, v, L, h4, hq _ _ _ h5, h6⟩
/-- it returns w and leaves the heap as it was -/
def Just (h0 : Heap) (w : Value) (v : Option Value) (h : Heap) (L : List Loc) : Prop := v = some w ∧ h = h0 ∧ L = []
theorem gLoadIN (pc' : Nat) (X : Stand p l e R s m args below meth c T locs cells slots) (hx : p.tables.exec = Jvm.exec) {k : Fin 4} {v : Int32} (hd : decode c.code pc = .ok (.iload_n k, 1)) (hl : ls[k.val]? = some (.val (.int v))) (hp : pc + 1 = pc') (k : Goes p e below F T (mkF m pc' ls (.int v :: st))) : Goes p e below F T (mkF m pc ls st) := by
  subst hp; exact Goes.fore (fun _ q => XS.iloadN X.here hx rfl hd hl q) k
theorem gLoadI (pc' : Nat) (X : Stand p l e R s m args below meth c T locs cells slots) (hx : p.tables.exec = Jvm.exec) {k : Nat} {v : Int32} (hd : decode c.code pc = .ok (.iload k, 2)) (hl : ls[k]? = some (.val (.int v))) (hp : pc + 2 = pc') (k : Goes p e below F T (mkF m pc' ls (.int v :: st))) : Goes p e below F T (mkF m pc ls st) := by
  subst hp; exact Goes.fore (fun _ q => XS.iload X.here hx rfl hd hl q) k
theorem gStoreIN (pc' : Nat) (X : Stand p l e R s m args below meth c T locs cells slots) (hx : p.tables.exec = Jvm.exec) {k : Fin 4} {v : Int32} {l' : Array Slot} (hd : decode c.code pc = .ok (.istore_n k, 1)) (hl : storeLocals ls k.val (.int v) = some l') (hp : pc + 1 = pc') (k : Goes p e below F T (mkF m pc' l' st)) : Goes p e below F T (mkF m pc ls (.int v :: st)) := by
  subst hp; exact Goes.fore (fun _ q => XS.istoreN X.here hx rfl hd rfl hl q) k
theorem gStoreI (pc' : Nat) (X : Stand p l e R s m args below meth c T locs cells slots) (hx : p.tables.exec = Jvm.exec) {k : Nat} {v : Int32} {l' : Array Slot} (hd : decode c.code pc = .ok (.istore k, 2)) (hl : storeLocals ls k (.int v) = some l') (hp : pc + 2 = pc') (k : Goes p e below F T (mkF m pc' l' st)) : Goes p e below F T (mkF m pc ls (.int v :: st)) := by
  subst hp; exact Goes.fore (fun _ q => XS.istore X.here hx rfl hd rfl hl q) k
theorem gLoadJN (pc' : Nat) (X : Stand p l e R s m args below meth c T locs cells slots) (hx : p.tables.exec = Jvm.exec) {k : Fin 4} {v : Int64} (hd : decode c.code pc = .ok (.lload_n k, 1)) (hl : ls[k.val]? = some (.val (.long v))) (hp : pc + 1 = pc') (k : Goes p e below F T (mkF m pc' ls (.long v :: st))) : Goes p e below F T (mkF m pc ls st) := by
  subst hp; exact Goes.fore (fun _ q => XS.lloadN X.here hx rfl hd hl q) k
theorem gLoadJ (pc' : Nat) (X : Stand p l e R s m args below meth c T locs cells slots) (hx : p.tables.exec = Jvm.exec) {k : Nat} {v : Int64} (hd : decode c.code pc = .ok (.lload k, 2)) (hl : ls[k]? = some (.val (.long v))) (hp : pc + 2 = pc') (k : Goes p e below F T (mkF m pc' ls (.long v :: st))) : Goes p e below F T (mkF m pc ls st) := by
  subst hp; exact Goes.fore (fun _ q => XS.lload X.here hx rfl hd hl q) k
theorem gStoreJN (pc' : Nat) (X : Stand p l e R s m args below meth c T locs cells slots) (hx : p.tables.exec = Jvm.exec) {k : Fin 4} {v : Int64} {l' : Array Slot} (hd : decode c.code pc = .ok (.lstore_n k, 1)) (hl : storeLocals ls k.val (.long v) = some l') (hp : pc + 1 = pc') (k : Goes p e below F T (mkF m pc' l' st)) : Goes p e below F T (mkF m pc ls (.long v :: st)) := by
  subst hp; exact Goes.fore (fun _ q => XS.lstoreN X.here hx rfl hd rfl hl q) k
theorem gStoreJ (pc' : Nat) (X : Stand p l e R s m args below meth c T locs cells slots) (hx : p.tables.exec = Jvm.exec) {k : Nat} {v : Int64} {l' : Array Slot} (hd : decode c.code pc = .ok (.lstore k, 2)) (hl : storeLocals ls k (.long v) = some l') (hp : pc + 2 = pc') (k : Goes p e below F T (mkF m pc' l' st)) : Goes p e below F T (mkF m pc ls (.long v :: st)) := by
  subst hp; exact Goes.fore (fun _ q => XS.lstore X.here hx rfl hd rfl hl q) k
theorem gLoadAN (pc' : Nat) (X : Stand p l e R s m args below meth c T locs cells slots) (hx : p.tables.exec = Jvm.exec) {k : Fin 4} {v : Value} (hd : decode c.code pc = .ok (.aload_n k, 1)) (hl : ls[k.val]? = some (.val v)) (hv : v.isRef = true) (hp : pc + 1 = pc') (k : Goes p e below F T (mkF m pc' ls (v :: st))) : Goes p e below F T (mkF m pc ls st) := by
  subst hp; exact Goes.fore (fun _ q => XS.aloadN X.here hx rfl hd hl hv q) k
theorem gLoadA (pc' : Nat) (X : Stand p l e R s m args below meth c T locs cells slots) (hx : p.tables.exec = Jvm.exec) {k : Nat} {v : Value} (hd : decode c.code pc = .ok (.aload k, 2)) (hl : ls[k]? = some (.val v)) (hv : v.isRef = true) (hp : pc + 2 = pc') (k : Goes p e below F T (mkF m pc' ls (v :: st))) : Goes p e below F T (mkF m pc ls st) := by
  subst hp; exact Goes.fore (fun _ q => XS.aload X.here hx rfl hd hl hv q) k
theorem gStoreAN (pc' : Nat) (X : Stand p l e R s m args below meth c T locs cells slots) (hx : p.tables.exec = Jvm.exec) {k : Fin 4} {v : Value} {l' : Array Slot} (hd : decode c.code pc = .ok (.astore_n k, 1)) (hv : v.isRef = true) (hl : storeLocals ls k.val v = some l') (hp : pc + 1 = pc') (k : Goes p e below F T (mkF m pc' l' st)) : Goes p e below F T (mkF m pc ls (v :: st)) := by
  subst hp; exact Goes.fore (fun _ q => XS.astoreN X.here hx rfl hd rfl hv hl q) k
theorem gStoreA (pc' : Nat) (X : Stand p l e R s m args below meth c T locs cells slots) (hx : p.tables.exec = Jvm.exec) {k : Nat} {v : Value} {l' : Array Slot} (hd : decode c.code pc = .ok (.astore k, 2)) (hv : v.isRef = true) (hl : storeLocals ls k v = some l') (hp : pc + 2 = pc') (k : Goes p e below F T (mkF m pc' l' st)) : Goes p e below F T (mkF m pc ls (v :: st)) := by
  subst hp; exact Goes.fore (fun _ q => XS.astore X.here hx rfl hd rfl hv hl q) k
theorem gIconst (pc' : Nat) (X : Stand p l e R s m args below meth c T locs cells slots) (hx : p.tables.exec = Jvm.exec) {i : Int} {v : Int32} (hd : decode c.code pc = .ok (.iconst i, 1)) (hv : Int32.ofInt i = v) (hp : pc + 1 = pc') (k : Goes p e below F T (mkF m pc' ls (.int v :: st))) : Goes p e below F T (mkF m pc ls st) := by
  subst hp; exact Goes.fore (fun _ q => XT.iconstV X.here hx rfl v hd hv q) k
theorem gBipush (pc' : Nat) (X : Stand p l e R s m args below meth c T locs cells slots) (hx : p.tables.exec = Jvm.exec) {i : Int} {v : Int32} (hd : decode c.code pc = .ok (.bipush i, 2)) (hv : (Int8.ofInt i).toInt32 = v) (hp : pc + 2 = pc') (k : Goes p e below F T (mkF m pc' ls (.int v :: st))) : Goes p e below F T (mkF m pc ls st) := by
  subst hp; exact Goes.fore (fun _ q => XT.bipushV X.here hx rfl v hd hv q) k
theorem gSipush (pc' : Nat) (X : Stand p l e R s m args below meth c T locs cells slots) (hx : p.tables.exec = Jvm.exec) {i : Int} {v : Int32} (hd : decode c.code pc = .ok (.sipush i, 3)) (hv : (Int16.ofInt i).toInt32 = v) (hp : pc + 3 = pc') (k : Goes p e below F T (mkF m pc' ls (.int v :: st))) : Goes p e below F T (mkF m pc ls st) := by
  subst hp; exact Goes.fore (fun _ q => XT.sipushV X.here hx rfl v hd hv q) k
theorem gLconst (pc' : Nat) (X : Stand p l e R s m args below meth c T locs cells slots) (hx : p.tables.exec = Jvm.exec) {i : Fin 2} {v : Int64} (hd : decode c.code pc = .ok (.lconst i, 1)) (hv : Int64.ofNat i = v) (hp : pc + 1 = pc') (k : Goes p e below F T (mkF m pc' ls (.long v :: st))) : Goes p e below F T (mkF m pc ls st) := by
  subst hp; exact Goes.fore (fun _ q => XT.lconstV X.here hx rfl v hd hv q) k
theorem gNull (pc' : Nat) (X : Stand p l e R s m args below meth c T locs cells slots) (hx : p.tables.exec = Jvm.exec)  (hd : decode c.code pc = .ok (.aconst_null, 1))  (hp : pc + 1 = pc') (k : Goes p e below F T (mkF m pc' ls (.null :: st))) : Goes p e below F T (mkF m pc ls st) := by
  subst hp; exact Goes.fore (fun _ q => XS.aconstNull X.here hx rfl hd q) k
theorem gLdc (pc' : Nat) (X : Stand p l e R s m args below meth c T locs cells slots) (hx : p.tables.exec = Jvm.exec) {own : String} {i : Nat} {v : Int32} (hZ : Z.Warmed39 s.vm) (hown : s.vm.findClass own = some m.cls) (w : (Jvm.Cond.constant own i v).before a0 Z = true) (hd : decode c.code pc = .ok (.ldc i, 2))  (hp : pc + 2 = pc') (k : Goes p e below F T (mkF m pc' ls (.int v :: st))) : Goes p e below F T (mkF m pc ls st) := by
  subst hp; exact Goes.fore (fun _ q => X.ldcI hx hown (mvT hZ w) rfl hd q) k
theorem gLdcW (pc' : Nat) (X : Stand p l e R s m args below meth c T locs cells slots) (hx : p.tables.exec = Jvm.exec) {own : String} {i : Nat} {v : Int32} (hZ : Z.Warmed39 s.vm) (hown : s.vm.findClass own = some m.cls) (w : (Jvm.Cond.constant own i v).before a0 Z = true) (hd : decode c.code pc = .ok (.ldc_w i, 3))  (hp : pc + 3 = pc') (k : Goes p e below F T (mkF m pc' ls (.int v :: st))) : Goes p e below F T (mkF m pc ls st) := by
  subst hp; exact Goes.fore (fun _ q => X.ldcWI hx hown (mvT hZ w) rfl hd q) k
theorem gLdc2 (pc' : Nat) (X : Stand p l e R s m args below meth c T locs cells slots) (hx : p.tables.exec = Jvm.exec) {own : String} {i : Nat} {v : Int64} (hZ : Z.Warmed39 s.vm) (hown : s.vm.findClass own = some m.cls) (w : (Jvm.Cond.constantLong own i v).before a0 Z = true) (hd : decode c.code pc = .ok (.ldc2_w i, 3))  (hp : pc + 3 = pc') (k : Goes p e below F T (mkF m pc' ls (.long v :: st))) : Goes p e below F T (mkF m pc ls st) := by
  subst hp; exact Goes.fore (fun _ q => X.ldc2J hx hown (mvT hZ w) rfl hd q) k
theorem gIadd (pc' : Nat) (X : Stand p l e R s m args below meth c T locs cells slots) (hx : p.tables.exec = Jvm.exec) {x y : Int32} (hd : decode c.code pc = .ok (.iadd, 1))  (hp : pc + 1 = pc') (k : Goes p e below F T (mkF m pc' ls (.int (x + y) :: st))) : Goes p e below F T (mkF m pc ls (.int y :: .int x :: st)) := by
  subst hp; exact Goes.fore (fun _ q => XS.iadd X.here hx rfl hd rfl q) k
theorem gIsub (pc' : Nat) (X : Stand p l e R s m args below meth c T locs cells slots) (hx : p.tables.exec = Jvm.exec) {x y : Int32} (hd : decode c.code pc = .ok (.isub, 1))  (hp : pc + 1 = pc') (k : Goes p e below F T (mkF m pc' ls (.int (x - y) :: st))) : Goes p e below F T (mkF m pc ls (.int y :: .int x :: st)) := by
  subst hp; exact Goes.fore (fun _ q => XS.isub X.here hx rfl hd rfl q) k
theorem gImul (pc' : Nat) (X : Stand p l e R s m args below meth c T locs cells slots) (hx : p.tables.exec = Jvm.exec) {x y : Int32} (hd : decode c.code pc = .ok (.imul, 1))  (hp : pc + 1 = pc') (k : Goes p e below F T (mkF m pc' ls (.int (x * y) :: st))) : Goes p e below F T (mkF m pc ls (.int y :: .int x :: st)) := by
  subst hp; exact Goes.fore (fun _ q => XS.imul X.here hx rfl hd rfl q) k
theorem gIand (pc' : Nat) (X : Stand p l e R s m args below meth c T locs cells slots) (hx : p.tables.exec = Jvm.exec) {x y : Int32} (hd : decode c.code pc = .ok (.iand, 1))  (hp : pc + 1 = pc') (k : Goes p e below F T (mkF m pc' ls (.int (x &&& y) :: st))) : Goes p e below F T (mkF m pc ls (.int y :: .int x :: st)) := by
  subst hp; exact Goes.fore (fun _ q => XS.iand X.here hx rfl hd rfl q) k
theorem gIor (pc' : Nat) (X : Stand p l e R s m args below meth c T locs cells slots) (hx : p.tables.exec = Jvm.exec) {x y : Int32} (hd : decode c.code pc = .ok (.ior, 1))  (hp : pc + 1 = pc') (k : Goes p e below F T (mkF m pc' ls (.int (x ||| y) :: st))) : Goes p e below F T (mkF m pc ls (.int y :: .int x :: st)) := by
  subst hp; exact Goes.fore (fun _ q => XS.ior X.here hx rfl hd rfl q) k
theorem gIxor (pc' : Nat) (X : Stand p l e R s m args below meth c T locs cells slots) (hx : p.tables.exec = Jvm.exec) {x y : Int32} (hd : decode c.code pc = .ok (.ixor, 1))  (hp : pc + 1 = pc') (k : Goes p e below F T (mkF m pc' ls (.int (x ^^^ y) :: st))) : Goes p e below F T (mkF m pc ls (.int y :: .int x :: st)) := by
  subst hp; exact Goes.fore (fun _ q => XS.ixor X.here hx rfl hd rfl q) k
theorem gIshl (pc' : Nat) (X : Stand p l e R s m args below meth c T locs cells slots) (hx : p.tables.exec = Jvm.exec) {x y : Int32} (hd : decode c.code pc = .ok (.ishl, 1))  (hp : pc + 1 = pc') (k : Goes p e below F T (mkF m pc' ls (.int (x <<< (y &&& 31)) :: st))) : Goes p e below F T (mkF m pc ls (.int y :: .int x :: st)) := by
  subst hp; exact Goes.fore (fun _ q => XS.ishl X.here hx rfl hd rfl q) k
theorem gIshr (pc' : Nat) (X : Stand p l e R s m args below meth c T locs cells slots) (hx : p.tables.exec = Jvm.exec) {x y : Int32} (hd : decode c.code pc = .ok (.ishr, 1))  (hp : pc + 1 = pc') (k : Goes p e below F T (mkF m pc' ls (.int (x >>> (y &&& 31)) :: st))) : Goes p e below F T (mkF m pc ls (.int y :: .int x :: st)) := by
  subst hp; exact Goes.fore (fun _ q => XS.ishr X.here hx rfl hd rfl q) k
theorem gIushr (pc' : Nat) (X : Stand p l e R s m args below meth c T locs cells slots) (hx : p.tables.exec = Jvm.exec) {x y : Int32} (hd : decode c.code pc = .ok (.iushr, 1))  (hp : pc + 1 = pc') (k : Goes p e below F T (mkF m pc' ls (.int ((x.toUInt32 >>> (y &&& 31).toUInt32).toInt32) :: st))) : Goes p e below F T (mkF m pc ls (.int y :: .int x :: st)) := by
  subst hp; exact Goes.fore (fun _ q => XS.iushr X.here hx rfl hd rfl q) k
theorem gLadd (pc' : Nat) (X : Stand p l e R s m args below meth c T locs cells slots) (hx : p.tables.exec = Jvm.exec) {x y : Int64} (hd : decode c.code pc = .ok (.ladd, 1))  (hp : pc + 1 = pc') (k : Goes p e below F T (mkF m pc' ls (.long (x + y) :: st))) : Goes p e below F T (mkF m pc ls (.long y :: .long x :: st)) := by
  subst hp; exact Goes.fore (fun _ q => XS.ladd X.here hx rfl hd rfl q) k
theorem gLsub (pc' : Nat) (X : Stand p l e R s m args below meth c T locs cells slots) (hx : p.tables.exec = Jvm.exec) {x y : Int64} (hd : decode c.code pc = .ok (.lsub, 1))  (hp : pc + 1 = pc') (k : Goes p e below F T (mkF m pc' ls (.long (x - y) :: st))) : Goes p e below F T (mkF m pc ls (.long y :: .long x :: st)) := by
  subst hp; exact Goes.fore (fun _ q => XS.lsub X.here hx rfl hd rfl q) k
theorem gLmul (pc' : Nat) (X : Stand p l e R s m args below meth c T locs cells slots) (hx : p.tables.exec = Jvm.exec) {x y : Int64} (hd : decode c.code pc = .ok (.lmul, 1))  (hp : pc + 1 = pc') (k : Goes p e below F T (mkF m pc' ls (.long (x * y) :: st))) : Goes p e below F T (mkF m pc ls (.long y :: .long x :: st)) := by
  subst hp; exact Goes.fore (fun _ q => XS.lmul X.here hx rfl hd rfl q) k
theorem gLand (pc' : Nat) (X : Stand p l e R s m args below meth c T locs cells slots) (hx : p.tables.exec = Jvm.exec) {x y : Int64} (hd : decode c.code pc = .ok (.land, 1))  (hp : pc + 1 = pc') (k : Goes p e below F T (mkF m pc' ls (.long (x &&& y) :: st))) : Goes p e below F T (mkF m pc ls (.long y :: .long x :: st)) := by
  subst hp; exact Goes.fore (fun _ q => XS.land X.here hx rfl hd rfl q) k
theorem gLor (pc' : Nat) (X : Stand p l e R s m args below meth c T locs cells slots) (hx : p.tables.exec = Jvm.exec) {x y : Int64} (hd : decode c.code pc = .ok (.lor, 1))  (hp : pc + 1 = pc') (k : Goes p e below F T (mkF m pc' ls (.long (x ||| y) :: st))) : Goes p e below F T (mkF m pc ls (.long y :: .long x :: st)) := by
  subst hp; exact Goes.fore (fun _ q => XS.lor X.here hx rfl hd rfl q) k
theorem gLxor (pc' : Nat) (X : Stand p l e R s m args below meth c T locs cells slots) (hx : p.tables.exec = Jvm.exec) {x y : Int64} (hd : decode c.code pc = .ok (.lxor, 1))  (hp : pc + 1 = pc') (k : Goes p e below F T (mkF m pc' ls (.long (x ^^^ y) :: st))) : Goes p e below F T (mkF m pc ls (.long y :: .long x :: st)) := by
  subst hp; exact Goes.fore (fun _ q => XS.lxor X.here hx rfl hd rfl q) k
theorem gLshl (pc' : Nat) (X : Stand p l e R s m args below meth c T locs cells slots) (hx : p.tables.exec = Jvm.exec) {x : Int64} {y : Int32} (hd : decode c.code pc = .ok (.lshl, 1))  (hp : pc + 1 = pc') (k : Goes p e below F T (mkF m pc' ls (.long (x <<< (y &&& 0x3f).toInt64) :: st))) : Goes p e below F T (mkF m pc ls (.int y :: .long x :: st)) := by
  subst hp; exact Goes.fore (fun _ q => XS.lshl X.here hx rfl hd rfl q) k
theorem gLshr (pc' : Nat) (X : Stand p l e R s m args below meth c T locs cells slots) (hx : p.tables.exec = Jvm.exec) {x : Int64} {y : Int32} (hd : decode c.code pc = .ok (.lshr, 1))  (hp : pc + 1 = pc') (k : Goes p e below F T (mkF m pc' ls (.long (x >>> (y &&& 0x3f).toInt64) :: st))) : Goes p e below F T (mkF m pc ls (.int y :: .long x :: st)) := by
  subst hp; exact Goes.fore (fun _ q => XS.lshr X.here hx rfl hd rfl q) k
theorem gLushr (pc' : Nat) (X : Stand p l e R s m args below meth c T locs cells slots) (hx : p.tables.exec = Jvm.exec) {x : Int64} {y : Int32} (hd : decode c.code pc = .ok (.lushr, 1))  (hp : pc + 1 = pc') (k : Goes p e below F T (mkF m pc' ls (.long ((x.toUInt64 >>> (y &&& 0x3f).toInt64.toUInt64).toInt64) :: st))) : Goes p e below F T (mkF m pc ls (.int y :: .long x :: st)) := by
  subst hp; exact Goes.fore (fun _ q => XS.lushr X.here hx rfl hd rfl q) k
theorem gIdiv (pc' : Nat) (X : Stand p l e R s m args below meth c T locs cells slots) (hx : p.tables.exec = Jvm.exec) {x y : Int32} (hd : decode c.code pc = .ok (.idiv, 1)) (hy : y ≠ 0) (hp : pc + 1 = pc') (k : Goes p e below F T (mkF m pc' ls (.int (x / y) :: st))) : Goes p e below F T (mkF m pc ls (.int y :: .int x :: st)) := by
  subst hp; exact Goes.fore (fun _ q => XS.idiv X.here hx rfl hd rfl hy q) k
theorem gIrem (pc' : Nat) (X : Stand p l e R s m args below meth c T locs cells slots) (hx : p.tables.exec = Jvm.exec) {x y : Int32} (hd : decode c.code pc = .ok (.irem, 1)) (hy : y ≠ 0) (hp : pc + 1 = pc') (k : Goes p e below F T (mkF m pc' ls (.int (x % y) :: st))) : Goes p e below F T (mkF m pc ls (.int y :: .int x :: st)) := by
  subst hp; exact Goes.fore (fun _ q => iremM X hx rfl hd rfl hy q) k
theorem gIneg (pc' : Nat) (X : Stand p l e R s m args below meth c T locs cells slots) (hx : p.tables.exec = Jvm.exec) {x : Int32} (hd : decode c.code pc = .ok (.ineg, 1))  (hp : pc + 1 = pc') (k : Goes p e below F T (mkF m pc' ls (.int (-x) :: st))) : Goes p e below F T (mkF m pc ls (.int x :: st)) := by
  subst hp; exact Goes.fore (fun _ q => XS.ineg X.here hx rfl hd rfl q) k
theorem gLneg (pc' : Nat) (X : Stand p l e R s m args below meth c T locs cells slots) (hx : p.tables.exec = Jvm.exec) {x : Int64} (hd : decode c.code pc = .ok (.lneg, 1))  (hp : pc + 1 = pc') (k : Goes p e below F T (mkF m pc' ls (.long (-x) :: st))) : Goes p e below F T (mkF m pc ls (.long x :: st)) := by
  subst hp; exact Goes.fore (fun _ q => XS.lneg X.here hx rfl hd rfl q) k
theorem gI2l (pc' : Nat) (X : Stand p l e R s m args below meth c T locs cells slots) (hx : p.tables.exec = Jvm.exec) {x : Int32} (hd : decode c.code pc = .ok (.i2l, 1))  (hp : pc + 1 = pc') (k : Goes p e below F T (mkF m pc' ls (.long (x.toInt64) :: st))) : Goes p e below F T (mkF m pc ls (.int x :: st)) := by
  subst hp; exact Goes.fore (fun _ q => XS.i2l X.here hx rfl hd rfl q) k
theorem gL2i (pc' : Nat) (X : Stand p l e R s m args below meth c T locs cells slots) (hx : p.tables.exec = Jvm.exec) {x : Int64} (hd : decode c.code pc = .ok (.l2i, 1))  (hp : pc + 1 = pc') (k : Goes p e below F T (mkF m pc' ls (.int (x.toInt32) :: st))) : Goes p e below F T (mkF m pc ls (.long x :: st)) := by
  subst hp; exact Goes.fore (fun _ q => XS.l2i X.here hx rfl hd rfl q) k
theorem gI2b (pc' : Nat) (X : Stand p l e R s m args below meth c T locs cells slots) (hx : p.tables.exec = Jvm.exec) {x : Int32} (hd : decode c.code pc = .ok (.i2b, 1))  (hp : pc + 1 = pc') (k : Goes p e below F T (mkF m pc' ls (.int (x.toInt8.toInt32) :: st))) : Goes p e below F T (mkF m pc ls (.int x :: st)) := by
  subst hp; exact Goes.fore (fun _ q => XS.i2b X.here hx rfl hd rfl q) k
theorem gI2c (pc' : Nat) (X : Stand p l e R s m args below meth c T locs cells slots) (hx : p.tables.exec = Jvm.exec) {x : Int32} (hd : decode c.code pc = .ok (.i2c, 1))  (hp : pc + 1 = pc') (k : Goes p e below F T (mkF m pc' ls (.int (x.toUInt32.toUInt16.toUInt32.toInt32) :: st))) : Goes p e below F T (mkF m pc ls (.int x :: st)) := by
  subst hp; exact Goes.fore (fun _ q => XS.i2c X.here hx rfl hd rfl q) k
theorem gI2s (pc' : Nat) (X : Stand p l e R s m args below meth c T locs cells slots) (hx : p.tables.exec = Jvm.exec) {x : Int32} (hd : decode c.code pc = .ok (.i2s, 1))  (hp : pc + 1 = pc') (k : Goes p e below F T (mkF m pc' ls (.int (x.toInt16.toInt32) :: st))) : Goes p e below F T (mkF m pc ls (.int x :: st)) := by
  subst hp; exact Goes.fore (fun _ q => XS.i2s X.here hx rfl hd rfl q) k
theorem gLcmp (pc' : Nat) (X : Stand p l e R s m args below meth c T locs cells slots) (hx : p.tables.exec = Jvm.exec) {x y : Int64} (hd : decode c.code pc = .ok (.lcmp, 1))  (hp : pc + 1 = pc') (k : Goes p e below F T (mkF m pc' ls (.int (lcmpW x y) :: st))) : Goes p e below F T (mkF m pc ls (.long y :: .long x :: st)) := by
  subst hp; exact Goes.fore (fun _ q => XS.lcmp X.here hx rfl hd rfl q) k
theorem gIinc (X : Stand p l e R s m args below meth c T locs cells slots) (hx : p.tables.exec = Jvm.exec) {k : Nat} {i : Int} {x v : Int32} {l' : Array Slot} (hd : decode c.code pc = .ok (.iinc k i, 3)) (hv : Int32.ofInt i = v) (hl : ls[k]? = some (.val (.int x))) (hl' : storeLocals ls k (.int (x + v)) = some l') (hp : pc + 3 = pc') (k : Goes p e below F T (mkF m pc' l' st)) : Goes p e below F T (mkF m pc ls st) := by
  subst hp; exact Goes.fore (fun _ q => XT.iincV X.here hx rfl v hd hv hl hl' q) k
theorem gDup (pc' : Nat) (X : Stand p l e R s m args below meth c T locs cells slots) (hx : p.tables.exec = Jvm.exec) {v : Value} (hd : decode c.code pc = .ok (.dup, 1)) (hv : v.category = 1) (hp : pc + 1 = pc') (k : Goes p e below F T (mkF m pc' ls (v :: v :: st))) : Goes p e below F T (mkF m pc ls (v :: st)) := by
  subst hp; exact Goes.fore (fun _ q => XS.dup X.here hx rfl hd rfl hv q) k
theorem gPop (pc' : Nat) (X : Stand p l e R s m args below meth c T locs cells slots) (hx : p.tables.exec = Jvm.exec) {v : Value} (hd : decode c.code pc = .ok (.pop, 1)) (hv : v.category = 1) (hp : pc + 1 = pc') (k : Goes p e below F T (mkF m pc' ls st)) : Goes p e below F T (mkF m pc ls (v :: st)) := by
  subst hp; exact Goes.fore (fun _ q => XS.pop X.here hx rfl hd rfl hv q) k
theorem gDupX1 (pc' : Nat) (X : Stand p l e R s m args below meth c T locs cells slots) (hx : p.tables.exec = Jvm.exec) {v w : Value} (hd : decode c.code pc = .ok (.dup_x1, 1)) (hv : v.category = 1) (hw : w.category = 1) (hp : pc + 1 = pc') (k : Goes p e below F T (mkF m pc' ls (v :: w :: v :: st))) : Goes p e below F T (mkF m pc ls (v :: w :: st)) := by
  subst hp; exact Goes.fore (fun _ q => XS.dupX1 X.here hx rfl hd rfl hv hw q) k
theorem gDup2 (pc' : Nat) (X : Stand p l e R s m args below meth c T locs cells slots) (hx : p.tables.exec = Jvm.exec) {v w : Value} (hd : decode c.code pc = .ok (.dup2, 1)) (hv : v.category = 1) (hw : w.category = 1) (hp : pc + 1 = pc') (k : Goes p e below F T (mkF m pc' ls (v :: w :: v :: w :: st))) : Goes p e below F T (mkF m pc ls (v :: w :: st)) := by
  subst hp; exact Goes.fore (fun _ q => XT.dup2 X.here hx rfl hd rfl hv hw q) k
theorem gGoto (X : Stand p l e R s m args below meth c T locs cells slots) (hx : p.tables.exec = Jvm.exec) {o : Int} (hd : decode c.code pc = .ok (.goto o, 3)) (ho : 0 ≤ (pc : Int) + o) (hp : ((pc : Int) + o).toNat = pc') (k : Goes p e below F T (mkF m pc' ls st)) : Goes p e below F T (mkF m pc ls st) := Goes.fore (fun _ q => XS.goto X.here hx rfl rfl hd ho hp q) k
theorem gIcmp (X : Stand p l e R s m args below meth c T locs cells slots) (hx : p.tables.exec = Jvm.exec) {cd : ClassFile.Cond} {o : Int} {x y : Int32} {pn : Nat} (hd : decode c.code pc = .ok (.if_icmp cd o, 3)) (ho : 0 ≤ (pc : Int) + o) (hp : ((pc : Int) + o).toNat = pc') (hn : pc + 3 = pn) (kY : if_icmp.holds cd x y = true → Goes p e below F T (mkF m pc' ls st)) (kN : if_icmp.holds cd x y = false → Goes p e below F T (mkF m pn ls st)) : Goes p e below F T (mkF m pc ls (.int y :: .int x :: st)) := by
  subst hn
  cases hb : if_icmp.holds cd x y
  · exact Goes.fore (fun _ q => XS.icmpNo X.here hx rfl hd rfl hb q) (kN hb)
  · exact Goes.fore (fun _ q => XS.icmpYes X.here hx rfl rfl hd rfl hb ho hp q) (kY hb)
theorem gIf (X : Stand p l e R s m args below meth c T locs cells slots) (hx : p.tables.exec = Jvm.exec) {cd : ClassFile.Cond} {o : Int} {x : Int32} {pn : Nat} (hd : decode c.code pc = .ok (.ifCond cd o, 3)) (ho : 0 ≤ (pc : Int) + o) (hp : ((pc : Int) + o).toNat = pc') (hn : pc + 3 = pn) (kY : ifCond.holds cd x = true → Goes p e below F T (mkF m pc' ls st)) (kN : ifCond.holds cd x = false → Goes p e below F T (mkF m pn ls st)) : Goes p e below F T (mkF m pc ls (.int x :: st)) := by
  subst hn
  cases hb : ifCond.holds cd x
  · exact Goes.fore (fun _ q => XS.ifNo X.here hx rfl hd rfl hb q) (kN hb)
  · exact Goes.fore (fun _ q => XS.ifYes X.here hx rfl rfl hd rfl hb ho hp q) (kY hb)
theorem gIcmpEq (X : Stand p l e R s m args below meth c T locs cells slots) (hx : p.tables.exec = Jvm.exec) {o : Int} {x y : Int32} {pn : Nat} (hd : decode c.code pc = .ok (.if_icmp .eq o, 3)) (ho : 0 ≤ (pc : Int) + o) (hp : ((pc : Int) + o).toNat = pc') (hn : pc + 3 = pn) (kY : x = y → Goes p e below F T (mkF m pc' ls st)) (kN : ¬ x = y → Goes p e below F T (mkF m pn ls st)) : Goes p e below F T (mkF m pc ls (.int y :: .int x :: st)) :=
  gIcmp X hx hd ho hp hn (fun q => kY (by simpa [if_icmp.holds, Int32.lt_iff_toInt_lt, Int32.le_iff_toInt_le] using q)) (fun q => kN (by simpa [if_icmp.holds, Int32.lt_iff_toInt_lt, Int32.le_iff_toInt_le] using q))
theorem gIfEq (X : Stand p l e R s m args below meth c T locs cells slots) (hx : p.tables.exec = Jvm.exec) {o : Int} {x : Int32} {pn : Nat} (hd : decode c.code pc = .ok (.ifCond .eq o, 3)) (ho : 0 ≤ (pc : Int) + o) (hp : ((pc : Int) + o).toNat = pc') (hn : pc + 3 = pn) (kY : x = 0 → Goes p e below F T (mkF m pc' ls st)) (kN : ¬ x = 0 → Goes p e below F T (mkF m pn ls st)) : Goes p e below F T (mkF m pc ls (.int x :: st)) :=
  gIf X hx hd ho hp hn (fun q => kY (by simpa [ifCond.holds, Int32.lt_iff_toInt_lt, Int32.le_iff_toInt_le] using q)) (fun q => kN (by simpa [ifCond.holds, Int32.lt_iff_toInt_lt, Int32.le_iff_toInt_le] using q))
theorem gIcmpNe (X : Stand p l e R s m args below meth c T locs cells slots) (hx : p.tables.exec = Jvm.exec) {o : Int} {x y : Int32} {pn : Nat} (hd : decode c.code pc = .ok (.if_icmp .ne o, 3)) (ho : 0 ≤ (pc : Int) + o) (hp : ((pc : Int) + o).toNat = pc') (hn : pc + 3 = pn) (kY : ¬ x = y → Goes p e below F T (mkF m pc' ls st)) (kN : x = y → Goes p e below F T (mkF m pn ls st)) : Goes p e below F T (mkF m pc ls (.int y :: .int x :: st)) :=
  gIcmp X hx hd ho hp hn (fun q => kY (by simpa [if_icmp.holds, Int32.lt_iff_toInt_lt, Int32.le_iff_toInt_le] using q)) (fun q => kN (by simpa [if_icmp.holds, Int32.lt_iff_toInt_lt, Int32.le_iff_toInt_le] using q))
theorem gIfNe (X : Stand p l e R s m args below meth c T locs cells slots) (hx : p.tables.exec = Jvm.exec) {o : Int} {x : Int32} {pn : Nat} (hd : decode c.code pc = .ok (.ifCond .ne o, 3)) (ho : 0 ≤ (pc : Int) + o) (hp : ((pc : Int) + o).toNat = pc') (hn : pc + 3 = pn) (kY : ¬ x = 0 → Goes p e below F T (mkF m pc' ls st)) (kN : x = 0 → Goes p e below F T (mkF m pn ls st)) : Goes p e below F T (mkF m pc ls (.int x :: st)) :=
  gIf X hx hd ho hp hn (fun q => kY (by simpa [ifCond.holds, Int32.lt_iff_toInt_lt, Int32.le_iff_toInt_le] using q)) (fun q => kN (by simpa [ifCond.holds, Int32.lt_iff_toInt_lt, Int32.le_iff_toInt_le] using q))
theorem gIcmpLt (X : Stand p l e R s m args below meth c T locs cells slots) (hx : p.tables.exec = Jvm.exec) {o : Int} {x y : Int32} {pn : Nat} (hd : decode c.code pc = .ok (.if_icmp .lt o, 3)) (ho : 0 ≤ (pc : Int) + o) (hp : ((pc : Int) + o).toNat = pc') (hn : pc + 3 = pn) (kY : x.toInt < y.toInt → Goes p e below F T (mkF m pc' ls st)) (kN : y.toInt ≤ x.toInt → Goes p e below F T (mkF m pn ls st)) : Goes p e below F T (mkF m pc ls (.int y :: .int x :: st)) :=
  gIcmp X hx hd ho hp hn (fun q => kY (by simpa [if_icmp.holds, Int32.lt_iff_toInt_lt, Int32.le_iff_toInt_le] using q)) (fun q => kN (by simpa [if_icmp.holds, Int32.lt_iff_toInt_lt, Int32.le_iff_toInt_le] using q))
theorem gIfLt (X : Stand p l e R s m args below meth c T locs cells slots) (hx : p.tables.exec = Jvm.exec) {o : Int} {x : Int32} {pn : Nat} (hd : decode c.code pc = .ok (.ifCond .lt o, 3)) (ho : 0 ≤ (pc : Int) + o) (hp : ((pc : Int) + o).toNat = pc') (hn : pc + 3 = pn) (kY : x.toInt < (0 : Int) → Goes p e below F T (mkF m pc' ls st)) (kN : (0 : Int) ≤ x.toInt → Goes p e below F T (mkF m pn ls st)) : Goes p e below F T (mkF m pc ls (.int x :: st)) :=
  gIf X hx hd ho hp hn (fun q => kY (by simpa [ifCond.holds, Int32.lt_iff_toInt_lt, Int32.le_iff_toInt_le] using q)) (fun q => kN (by simpa [ifCond.holds, Int32.lt_iff_toInt_lt, Int32.le_iff_toInt_le] using q))
theorem gIcmpGe (X : Stand p l e R s m args below meth c T locs cells slots) (hx : p.tables.exec = Jvm.exec) {o : Int} {x y : Int32} {pn : Nat} (hd : decode c.code pc = .ok (.if_icmp .ge o, 3)) (ho : 0 ≤ (pc : Int) + o) (hp : ((pc : Int) + o).toNat = pc') (hn : pc + 3 = pn) (kY : y.toInt ≤ x.toInt → Goes p e below F T (mkF m pc' ls st)) (kN : x.toInt < y.toInt → Goes p e below F T (mkF m pn ls st)) : Goes p e below F T (mkF m pc ls (.int y :: .int x :: st)) :=
  gIcmp X hx hd ho hp hn (fun q => kY (by simpa [if_icmp.holds, Int32.lt_iff_toInt_lt, Int32.le_iff_toInt_le] using q)) (fun q => kN (by simpa [if_icmp.holds, Int32.lt_iff_toInt_lt, Int32.le_iff_toInt_le] using q))
theorem gIfGe (X : Stand p l e R s m args below meth c T locs cells slots) (hx : p.tables.exec = Jvm.exec) {o : Int} {x : Int32} {pn : Nat} (hd : decode c.code pc = .ok (.ifCond .ge o, 3)) (ho : 0 ≤ (pc : Int) + o) (hp : ((pc : Int) + o).toNat = pc') (hn : pc + 3 = pn) (kY : (0 : Int) ≤ x.toInt → Goes p e below F T (mkF m pc' ls st)) (kN : x.toInt < (0 : Int) → Goes p e below F T (mkF m pn ls st)) : Goes p e below F T (mkF m pc ls (.int x :: st)) :=
  gIf X hx hd ho hp hn (fun q => kY (by simpa [ifCond.holds, Int32.lt_iff_toInt_lt, Int32.le_iff_toInt_le] using q)) (fun q => kN (by simpa [ifCond.holds, Int32.lt_iff_toInt_lt, Int32.le_iff_toInt_le] using q))
theorem gIcmpGt (X : Stand p l e R s m args below meth c T locs cells slots) (hx : p.tables.exec = Jvm.exec) {o : Int} {x y : Int32} {pn : Nat} (hd : decode c.code pc = .ok (.if_icmp .gt o, 3)) (ho : 0 ≤ (pc : Int) + o) (hp : ((pc : Int) + o).toNat = pc') (hn : pc + 3 = pn) (kY : y.toInt < x.toInt → Goes p e below F T (mkF m pc' ls st)) (kN : x.toInt ≤ y.toInt → Goes p e below F T (mkF m pn ls st)) : Goes p e below F T (mkF m pc ls (.int y :: .int x :: st)) :=
  gIcmp X hx hd ho hp hn (fun q => kY (by simpa [if_icmp.holds, Int32.lt_iff_toInt_lt, Int32.le_iff_toInt_le] using q)) (fun q => kN (by simpa [if_icmp.holds, Int32.lt_iff_toInt_lt, Int32.le_iff_toInt_le] using q))
theorem gIfGt (X : Stand p l e R s m args below meth c T locs cells slots) (hx : p.tables.exec = Jvm.exec) {o : Int} {x : Int32} {pn : Nat} (hd : decode c.code pc = .ok (.ifCond .gt o, 3)) (ho : 0 ≤ (pc : Int) + o) (hp : ((pc : Int) + o).toNat = pc') (hn : pc + 3 = pn) (kY : (0 : Int) < x.toInt → Goes p e below F T (mkF m pc' ls st)) (kN : x.toInt ≤ (0 : Int) → Goes p e below F T (mkF m pn ls st)) : Goes p e below F T (mkF m pc ls (.int x :: st)) :=
  gIf X hx hd ho hp hn (fun q => kY (by simpa [ifCond.holds, Int32.lt_iff_toInt_lt, Int32.le_iff_toInt_le] using q)) (fun q => kN (by simpa [ifCond.holds, Int32.lt_iff_toInt_lt, Int32.le_iff_toInt_le] using q))
theorem gIcmpLe (X : Stand p l e R s m args below meth c T locs cells slots) (hx : p.tables.exec = Jvm.exec) {o : Int} {x y : Int32} {pn : Nat} (hd : decode c.code pc = .ok (.if_icmp .le o, 3)) (ho : 0 ≤ (pc : Int) + o) (hp : ((pc : Int) + o).toNat = pc') (hn : pc + 3 = pn) (kY : x.toInt ≤ y.toInt → Goes p e below F T (mkF m pc' ls st)) (kN : y.toInt < x.toInt → Goes p e below F T (mkF m pn ls st)) : Goes p e below F T (mkF m pc ls (.int y :: .int x :: st)) :=
  gIcmp X hx hd ho hp hn (fun q => kY (by simpa [if_icmp.holds, Int32.lt_iff_toInt_lt, Int32.le_iff_toInt_le] using q)) (fun q => kN (by simpa [if_icmp.holds, Int32.lt_iff_toInt_lt, Int32.le_iff_toInt_le] using q))
theorem gIfLe (X : Stand p l e R s m args below meth c T locs cells slots) (hx : p.tables.exec = Jvm.exec) {o : Int} {x : Int32} {pn : Nat} (hd : decode c.code pc = .ok (.ifCond .le o, 3)) (ho : 0 ≤ (pc : Int) + o) (hp : ((pc : Int) + o).toNat = pc') (hn : pc + 3 = pn) (kY : x.toInt ≤ (0 : Int) → Goes p e below F T (mkF m pc' ls st)) (kN : (0 : Int) < x.toInt → Goes p e below F T (mkF m pn ls st)) : Goes p e below F T (mkF m pc ls (.int x :: st)) :=
  gIf X hx hd ho hp hn (fun q => kY (by simpa [ifCond.holds, Int32.lt_iff_toInt_lt, Int32.le_iff_toInt_le] using q)) (fun q => kN (by simpa [ifCond.holds, Int32.lt_iff_toInt_lt, Int32.le_iff_toInt_le] using q))
theorem gIcmpEqT (X : Stand p l e R s m args below meth c T locs cells slots) (hx : p.tables.exec = Jvm.exec) {o : Int} {x y : Int32} {pn : Nat} (hd : decode c.code pc = .ok (.if_icmp .eq o, 3)) (ho : 0 ≤ (pc : Int) + o) (hp : ((pc : Int) + o).toNat = pc') (hn : pc + 3 = pn) (kY : x.toInt = y.toInt → Goes p e below F T (mkF m pc' ls st)) (kN : ¬ x.toInt = y.toInt → Goes p e below F T (mkF m pn ls st)) : Goes p e below F T (mkF m pc ls (.int y :: .int x :: st)) :=
  gIcmpEq X hx hd ho hp hn (fun q => kY ((Int32.toInt_inj (x := x) (y := y)).mpr q)) (fun q => kN (fun z => q ((Int32.toInt_inj (x := x) (y := y)).mp z)))
theorem gIfEqT (X : Stand p l e R s m args below meth c T locs cells slots) (hx : p.tables.exec = Jvm.exec) {o : Int} {x : Int32} {pn : Nat} (hd : decode c.code pc = .ok (.ifCond .eq o, 3)) (ho : 0 ≤ (pc : Int) + o) (hp : ((pc : Int) + o).toNat = pc') (hn : pc + 3 = pn) (kY : x.toInt = (0 : Int) → Goes p e below F T (mkF m pc' ls st)) (kN : ¬ x.toInt = (0 : Int) → Goes p e below F T (mkF m pn ls st)) : Goes p e below F T (mkF m pc ls (.int x :: st)) :=
  gIfEq X hx hd ho hp hn (fun q => kY ((Int32.toInt_inj (x := x) (y := 0)).mpr q)) (fun q => kN (fun z => q ((Int32.toInt_inj (x := x) (y := 0)).mp z)))
theorem gIcmpNeT (X : Stand p l e R s m args below meth c T locs cells slots) (hx : p.tables.exec = Jvm.exec) {o : Int} {x y : Int32} {pn : Nat} (hd : decode c.code pc = .ok (.if_icmp .ne o, 3)) (ho : 0 ≤ (pc : Int) + o) (hp : ((pc : Int) + o).toNat = pc') (hn : pc + 3 = pn) (kY : ¬ x.toInt = y.toInt → Goes p e below F T (mkF m pc' ls st)) (kN : x.toInt = y.toInt → Goes p e below F T (mkF m pn ls st)) : Goes p e below F T (mkF m pc ls (.int y :: .int x :: st)) :=
  gIcmpNe X hx hd ho hp hn (fun q => kY (fun z => q ((Int32.toInt_inj (x := x) (y := y)).mp z))) (fun q => kN ((Int32.toInt_inj (x := x) (y := y)).mpr q))
theorem gIfNeT (X : Stand p l e R s m args below meth c T locs cells slots) (hx : p.tables.exec = Jvm.exec) {o : Int} {x : Int32} {pn : Nat} (hd : decode c.code pc = .ok (.ifCond .ne o, 3)) (ho : 0 ≤ (pc : Int) + o) (hp : ((pc : Int) + o).toNat = pc') (hn : pc + 3 = pn) (kY : ¬ x.toInt = (0 : Int) → Goes p e below F T (mkF m pc' ls st)) (kN : x.toInt = (0 : Int) → Goes p e below F T (mkF m pn ls st)) : Goes p e below F T (mkF m pc ls (.int x :: st)) :=
  gIfNe X hx hd ho hp hn (fun q => kY (fun z => q ((Int32.toInt_inj (x := x) (y := 0)).mp z))) (fun q => kN ((Int32.toInt_inj (x := x) (y := 0)).mpr q))
theorem gAcmp (X : Stand p l e R s m args below meth c T locs cells slots) (hx : p.tables.exec = Jvm.exec) {cd : ClassFile.ACond} {o : Int} {x y : Value} {pn : Nat} (hd : decode c.code pc = .ok (.if_acmp cd o, 3)) (h1 : x.isRef = true) (h2 : y.isRef = true) (ho : 0 ≤ (pc : Int) + o) (hp : ((pc : Int) + o).toNat = pc') (hn : pc + 3 = pn) (kS : x = y → Goes p e below F T (mkF m (match cd with | .eq => pc' | .ne => pn) ls st)) (kD : ¬ x = y → Goes p e below F T (mkF m (match cd with | .eq => pn | .ne => pc') ls st)) : Goes p e below F T (mkF m pc ls (y :: x :: st)) := by
  subst hn hp
  by_cases q : x = y
  · refine Goes.fore (fun _ k => acmp X hx rfl h1 h2 (same := true) rfl hd rfl (decide_eq_true q) ho rfl k) ?_
    have := kS q; cases cd <;> simpa [acV] using this
  · refine Goes.fore (fun _ k => acmp X hx rfl h1 h2 (same := false) rfl hd rfl (decide_eq_false q) ho rfl k) ?_
    have := kD q; cases cd <;> simpa [acV] using this
theorem gAcmpEq (X : Stand p l e R s m args below meth c T locs cells slots) (hx : p.tables.exec = Jvm.exec) {o : Int} {x y : Value} {pn : Nat} (hd : decode c.code pc = .ok (.if_acmp .eq o, 3)) (h1 : x.isRef = true) (h2 : y.isRef = true) (ho : 0 ≤ (pc : Int) + o) (hp : ((pc : Int) + o).toNat = pc') (hn : pc + 3 = pn) (kY : x = y → Goes p e below F T (mkF m pc' ls st)) (kN : ¬ x = y → Goes p e below F T (mkF m pn ls st)) : Goes p e below F T (mkF m pc ls (y :: x :: st)) := gAcmp X hx hd h1 h2 ho hp hn kY kN
theorem gAcmpNe (X : Stand p l e R s m args below meth c T locs cells slots) (hx : p.tables.exec = Jvm.exec) {o : Int} {x y : Value} {pn : Nat} (hd : decode c.code pc = .ok (.if_acmp .ne o, 3)) (h1 : x.isRef = true) (h2 : y.isRef = true) (ho : 0 ≤ (pc : Int) + o) (hp : ((pc : Int) + o).toNat = pc') (hn : pc + 3 = pn) (kY : ¬ x = y → Goes p e below F T (mkF m pc' ls st)) (kN : x = y → Goes p e below F T (mkF m pn ls st)) : Goes p e below F T (mkF m pc ls (y :: x :: st)) := gAcmp X hx hd h1 h2 ho hp hn kN kY
theorem gIfnullZ (X : Stand p l e R s m args below meth c T locs cells slots) (hx : p.tables.exec = Jvm.exec) {o : Int} (hd : decode c.code pc = .ok (.ifnull o, 3)) (ho : 0 ≤ (pc : Int) + o) (hp : ((pc : Int) + o).toNat = pc') (k : Goes p e below F T (mkF m pc' ls st)) : Goes p e below F T (mkF m pc ls (.null :: st)) := Goes.fore (fun _ q => XS.ifnullYes X.here hx rfl rfl hd rfl ho hp q) k
theorem gIfnullR (X : Stand p l e R s m args below meth c T locs cells slots) (hx : p.tables.exec = Jvm.exec) {o : Int} {b : Addr} (hd : decode c.code pc = .ok (.ifnull o, 3)) (hp : pc + 3 = pc') (k : Goes p e below F T (mkF m pc' ls st)) : Goes p e below F T (mkF m pc ls (.ref b :: st)) := by
  subst hp; exact Goes.fore (fun _ q => XS.ifnullNo X.here hx rfl hd rfl q) k
theorem gIfnonnullZ (X : Stand p l e R s m args below meth c T locs cells slots) (hx : p.tables.exec = Jvm.exec) {o : Int} (hd : decode c.code pc = .ok (.ifnonnull o, 3)) (hp : pc + 3 = pc') (k : Goes p e below F T (mkF m pc' ls st)) : Goes p e below F T (mkF m pc ls (.null :: st)) := by
  subst hp; exact Goes.fore (fun _ q => XS.ifnonnullNo X.here hx rfl hd rfl q) k
theorem gIfnonnullR (X : Stand p l e R s m args below meth c T locs cells slots) (hx : p.tables.exec = Jvm.exec) {o : Int} {b : Addr} (hd : decode c.code pc = .ok (.ifnonnull o, 3)) (ho : 0 ≤ (pc : Int) + o) (hp : ((pc : Int) + o).toNat = pc') (k : Goes p e below F T (mkF m pc' ls st)) : Goes p e below F T (mkF m pc ls (.ref b :: st)) := Goes.fore (fun _ q => XS.ifnonnullYes X.here hx rfl rfl hd rfl ho hp q) k
theorem gRet0 {v : Option Value} (X : Stand p l e R s m args below meth c T locs cells slots) (hx : p.tables.exec = Jvm.exec) (hlk : meth.locks = false) (hv : meth.sig.returnType = none → v = none) (hk : cells ≤ kc) (hs : slots ≤ ks) (hq : Q v T.heap locs) {g : JFrame}
    (k : ∀ fs, (∀ (f : JFrame) (acts : List Action), f.method = m → f.locked = none → f.entered = [] → (doReturn e (T.setTop f) acts v).1 = T.setFrames fs) → Steps p.tables e below (T.setTop g) (T.setFrames fs)) : Goes p e below (FinN s kc ks Q) T g := by
  obtain ⟨fs, hr, hrun, hended, hW, hsame⟩ := X.leave hv hlk
  exact ⟨_, _, k fs hr, hrun, hended, _, _, rfl, hq, ⟨_, rfl⟩, hW, hsame.mono hk hs⟩
theorem gRetV (X : Stand p l e R s m args below meth c T locs cells slots) (hx : p.tables.exec = Jvm.exec) (hlk : meth.locks = false) (hret : meth.sig.returnType = none) (hd : decode c.code pc = .ok (.return_, 1)) (hk : cells ≤ kc) (hs : slots ≤ ks) (hq : Q none T.heap locs) : Goes p e below (FinN s kc ks Q) T (mkF m pc ls []) :=
  gRet0 X hx hlk (fun _ => rfl) hk hs hq fun fs hr => X.returnOut hx hret hd hr
theorem gRetN (X : Stand p l e R s m args below meth c T locs cells slots) (hx : p.tables.exec = Jvm.exec) (hlk : meth.locks = false) {t : FieldType} (hret : meth.sig.returnType = some t) (ht : t = .boolean ∨ t = .byte ∨ t = .char ∨ t = .short) {z w : Int32} (hd : decode c.code pc = .ok (.ireturn, 1)) (hw : nar t z = w) (hk : cells ≤ kc) (hs : slots ≤ ks) (hq : Q (some (.int w)) T.heap locs) : Goes p e below (FinN s kc ks Q) T (mkF m pc ls (.int z :: st)) := by
  subst hw
  exact gRet0 X hx hlk (fun h => by rw [hret] at h; cases h) hk hs hq fun fs hr => retN X hx hret ht hd hr
theorem gRetI (X : Stand p l e R s m args below meth c T locs cells slots) (hx : p.tables.exec = Jvm.exec) (hlk : meth.locks = false) (hret : meth.sig.returnType = some .int) {z : Int32} (hd : decode c.code pc = .ok (.ireturn, 1)) (hk : cells ≤ kc) (hs : slots ≤ ks) (hq : Q (some (.int z)) T.heap locs) : Goes p e below (FinN s kc ks Q) T (mkF m pc ls (.int z :: st)) :=
  gRet0 X hx hlk (fun h => by rw [hret] at h; cases h) hk hs hq fun fs hr => retOut X hx hret rfl (Or.inl ⟨rfl, Or.inl rfl, z, rfl⟩) hd hr
theorem gRetJ (X : Stand p l e R s m args below meth c T locs cells slots) (hx : p.tables.exec = Jvm.exec) (hlk : meth.locks = false) (hret : meth.sig.returnType = some .long) {z : Int64} (hd : decode c.code pc = .ok (.lreturn, 1)) (hk : cells ≤ kc) (hs : slots ≤ ks) (hq : Q (some (.long z)) T.heap locs) : Goes p e below (FinN s kc ks Q) T (mkF m pc ls (.long z :: st)) :=
  gRet0 X hx hlk (fun h => by rw [hret] at h; cases h) hk hs hq fun fs hr => retOut X hx hret rfl (Or.inr (Or.inl ⟨rfl, rfl, z, rfl⟩)) hd hr
theorem gRetA (X : Stand p l e R s m args below meth c T locs cells slots) (hx : p.tables.exec = Jvm.exec) (hlk : meth.locks = false) {t : FieldType} (hret : meth.sig.returnType = some t) (ht : t.isReference = true) {v : Value} (hv : v.isRef = true) (hd : decode c.code pc = .ok (.areturn, 1)) (hk : cells ≤ kc) (hs : slots ≤ ks) (hq : Q (some v) T.heap locs) : Goes p e below (FinN s kc ks Q) T (mkF m pc ls (v :: st)) :=
  gRet0 X hx hlk (fun h => by rw [hret] at h; cases h) hk hs hq fun fs hr => retOut X hx hret (by cases t <;> first | rfl | cases ht) (Or.inr (Or.inr (Or.inr (Or.inr ⟨rfl, ht, hv⟩)))) hd hr
theorem gGetS (X : Stand p l e R s m args below meth c T locs cells slots) (hx : p.tables.exec = Jvm.exec) (hZ : Z.Warmed39 s.vm) {own R0 O n d : String} {i : Nat} (hown : s.vm.findClass own = some m.cls) (w : (Jvm.Cond.fieldLink own i R0 n d).before a0 Z = true) (via : Via Z R0 O n d) (eT : T.heap = h) {v : Value} (Fa : Sta Z h O n d v) (hd : decode c.code pc = .ok (.getstatic i, 3)) (hp : pc + 3 = pc')
    (k : ∀ T', Stand p l e R s m args below meth c T' locs cells slots → T'.heap = h → Goes p e below F T' (mkF m pc' ls (v :: st))) : Goes p e below F T (mkF m pc ls st) := by
  subst hp
  obtain ⟨T', X', e', st'⟩ := getS X hx hZ (host := "") hown w via eT Fa (g := mkF m pc ls st) rfl hd
  exact Goes.fore st' (k T' X' e')
theorem gGetF (X : Stand p l e R s m args below meth c T locs cells slots) (hx : p.tables.exec = Jvm.exec) (hZ : Z.Warmed39 s.vm) {own R0 O n d : String} {i : Nat} (hown : s.vm.findClass own = some m.cls) (w : (Jvm.Cond.fieldLink own i R0 n d).before a0 Z = true) (via : Via Z R0 O n d) (eT : T.heap = h) {a : Addr} {v : Value} (Fa : Fld Z h a O n d v) (hd : decode c.code pc = .ok (.getfield i, 3)) (hp : pc + 3 = pc')
    (k : ∀ T', Stand p l e R s m args below meth c T' locs cells slots → T'.heap = h → Goes p e below F T' (mkF m pc' ls (v :: st))) : Goes p e below F T (mkF m pc ls (.ref a :: st)) := by
  subst hp
  obtain ⟨T', X', e', st'⟩ := getF X hx hZ (host := "") hown (Or.inl w) via eT Fa (g := mkF m pc ls (.ref a :: st)) rfl rfl hd
  exact Goes.fore st' (k T' X' e')
theorem gCallS (X : Stand p l e R s m args below meth c T locs cells slots) (hx : p.tables.exec = Jvm.exec) (hZ : Z.Warmed39 s.vm) {y : MethodName} {bytes : ByteArray} {maxL : Nat} {ret : Option FieldType} {rm : Room} {own : String} {i : Nat} {Qc : Option Value → Heap → List Loc → Prop} (hown : s.vm.findClass own = some m.cls) (eT : T.heap = h) (hml : ls.size = c.maxLocals)
    (w1 : (Jvm.Cond.methodLink own i y).before a0 Z = true) (w2 : (Jvm.Cond.static y).before a0 Z = true) (w3 : (Jvm.Cond.initialized y.cls).before a0 Z = true) (w4 : (Jvm.Cond.code y bytes maxL ret).before a0 Z = true) (hy : y.cls ≠ "java/lang/invoke/MethodHandle" ∧ y.cls ≠ "java/lang/invoke/VarHandle")
    {argsL : List Value} {stk : List Value} (hC : Ctr l Z y bytes maxL ret [] rm argsL.toArray h Qc) (hlen : ∀ sig, parseMethodDescriptor y.desc = some sig → argsL.length = sig.parameters.length) (hd : decode c.code pc = .ok (.invokestatic i, 3)) (hp : pc + 3 = pc') (hst : stk = argsL.reverse ++ st)
    (hf : rm.frames + 1 ≤ R.frames) {W : Nat} (hW : (st.map fun v => v.category).sum ≤ W) (hlo : W + (maxL + 11) + rm.locals ≤ R.locals) (hce : cells + rm.cells ≤ R.cells) (hsl : slots + rm.slots ≤ R.slots)
    (k : ∀ T' v L, Stand p l e R s m args below meth c T' (locs ++ L) (cells + rm.cells) (slots + rm.slots) → Qc v T'.heap L → Goes p e below F T' (mkF m pc' ls (v.toList ++ st))) : Goes p e below F T (mkF m pc ls stk) := by
  subst hp hst
  obtain ⟨v, _, ⟨T', L', k', n'⟩, -, X', ⟨Lc, hQ, l1, y1, z1⟩, st'⟩ := Jvm.LawKit.callS X hx (y := y) hown (mvT hZ w1) (mvT hZ w2) (mvT hZ w3) (mvT hZ w4) hy (backOf (W := W) hC hZ w4 w3 hf hlo) (g := mkF m pc ls (argsL.reverse ++ st)) rfl hml (argsL := argsL) (rest := st) hlen rfl (by show 2 * 0 + _ ≤ _; omega) hd (fun _ _ => ⟨rfl, eT, hce, hsl⟩)
  dsimp only [Pt.U, Pt.locs, Pt.cells, Pt.slots] at X' l1 y1 z1 st' hQ
  subst l1 y1 z1
  exact Goes.fore st' (k T' v Lc X' hQ)
theorem gCallSJ (X : Stand p l e R s m args below meth c T locs cells slots) (hx : p.tables.exec = Jvm.exec) (hZ : Z.Warmed39 s.vm) {y : MethodName} {bytes : ByteArray} {maxL : Nat} {ret : Option FieldType} {rm : Room} {own : String} {i : Nat} {w : Value} (hown : s.vm.findClass own = some m.cls) (eT : T.heap = h) (hml : ls.size = c.maxLocals)
    (w1 : (Jvm.Cond.methodLink own i y).before a0 Z = true) (w2 : (Jvm.Cond.static y).before a0 Z = true) (w3 : (Jvm.Cond.initialized y.cls).before a0 Z = true) (w4 : (Jvm.Cond.code y bytes maxL ret).before a0 Z = true) (hy : y.cls ≠ "java/lang/invoke/MethodHandle" ∧ y.cls ≠ "java/lang/invoke/VarHandle")
    {argsL : List Value} {stk : List Value} (hC : Ctr l Z y bytes maxL ret [] rm argsL.toArray h (Just h w)) (hlen : ∀ sig, parseMethodDescriptor y.desc = some sig → argsL.length = sig.parameters.length) (hd : decode c.code pc = .ok (.invokestatic i, 3)) (hp : pc + 3 = pc') (hst : stk = argsL.reverse ++ st)
    (h0c : rm.cells = 0) (h0s : rm.slots = 0) (hf : rm.frames + 1 ≤ R.frames) {W : Nat} (hW : (st.map fun v => v.category).sum ≤ W) (hlo : W + (maxL + 11) + rm.locals ≤ R.locals) (hce : cells + rm.cells ≤ R.cells) (hsl : slots + rm.slots ≤ R.slots)
    (k : ∀ T', Stand p l e R s m args below meth c T' locs cells slots → T'.heap = h → Goes p e below F T' (mkF m pc' ls (w :: st))) : Goes p e below F T (mkF m pc ls stk) := by
  refine gCallS X hx hZ hown eT hml w1 w2 w3 w4 hy hC hlen hd hp hst hf hW hlo hce hsl ?_
  rintro T' v L X' ⟨rfl, e', rfl⟩
  rw [List.append_nil, h0c, h0s] at X'
  exact k T' X' e'
theorem gCallV (X : Stand p l e R s m args below meth c T locs cells slots) (hx : p.tables.exec = Jvm.exec) (hZ : Z.Warmed39 s.vm) {y : MethodName} {bytes : ByteArray} {maxL : Nat} {ret : Option FieldType} {rm : Room} {own : String} {i : Nat} {Qc : Option Value → Heap → List Loc → Prop} {C : String} {a : Addr} (hown : s.vm.findClass own = some m.cls) (eT : T.heap = h) (hml : ls.size = c.maxLocals) (E : Exa Z h a C)
    (w1 : (Jvm.Cond.methodLink own i y).before a0 Z = true) (w2 : (Jvm.Cond.declares y).before a0 Z = true) (w5 : (Jvm.Cond.selects C y y).before a0 Z = true) (w6 : (Jvm.Cond.instanceMethod y).before a0 Z = true) (w3 : (Jvm.Cond.initialized y.cls).before a0 Z = true) (w4 : (Jvm.Cond.code y bytes maxL ret).before a0 Z = true) (hy : y.cls ≠ "java/lang/invoke/MethodHandle" ∧ y.cls ≠ "java/lang/invoke/VarHandle")
    {argsL : List Value} {stk : List Value} (hC : Ctr l Z y bytes maxL ret [] rm (.ref a :: argsL).toArray h Qc) (hlen : ∀ sig, parseMethodDescriptor y.desc = some sig → argsL.length = sig.parameters.length) (hd : decode c.code pc = .ok (.invokevirtual i, 3)) (hp : pc + 3 = pc') (hst : stk = argsL.reverse ++ .ref a :: st)
    (hf : rm.frames + 1 ≤ R.frames) {W : Nat} (hW : (st.map fun v => v.category).sum ≤ W) (hlo : W + (maxL + 11) + rm.locals ≤ R.locals) (hce : cells + rm.cells ≤ R.cells) (hsl : slots + rm.slots ≤ R.slots)
    (k : ∀ T' v L, Stand p l e R s m args below meth c T' (locs ++ L) (cells + rm.cells) (slots + rm.slots) → Qc v T'.heap L → Goes p e below F T' (mkF m pc' ls (v.toList ++ st))) : Goes p e below F T (mkF m pc ls stk) := by
  subst hp hst
  obtain ⟨cq, kq, qa, qb, qc⟩ := isOf hZ eT E
  obtain ⟨v, _, ⟨T', L', k', n'⟩, -, X', ⟨Lc, hQ, l1, y1, z1⟩, st'⟩ := X.virtualBack hx (y := y) (z := y) hown (mvT hZ w1) (mvT hZ w2) (notFace_of_selects (args := #[]) (mvT hZ w5)) (mvT hZ w5) (mvT hZ w6) hy (backOf (W := W) hC hZ w4 w3 hf hlo) qa qc (g := mkF m pc ls (argsL.reverse ++ .ref a :: st)) rfl hml (Steps.refl _) (argsL := argsL) (rest := st) hlen rfl (by show 2 * 0 + _ ≤ _; omega) hd (fun _ _ => ⟨rfl, eT, hce, hsl⟩)
  dsimp only [Pt.U, Pt.locs, Pt.cells, Pt.slots] at X' l1 y1 z1 st' hQ
  subst l1 y1 z1
  exact Goes.tr st' (k T' v Lc X' hQ)
theorem gCallVJ (X : Stand p l e R s m args below meth c T locs cells slots) (hx : p.tables.exec = Jvm.exec) (hZ : Z.Warmed39 s.vm) {y : MethodName} {bytes : ByteArray} {maxL : Nat} {ret : Option FieldType} {rm : Room} {own : String} {i : Nat} {w : Value} {C : String} {a : Addr} (hown : s.vm.findClass own = some m.cls) (eT : T.heap = h) (hml : ls.size = c.maxLocals) (E : Exa Z h a C)
    (w1 : (Jvm.Cond.methodLink own i y).before a0 Z = true) (w2 : (Jvm.Cond.declares y).before a0 Z = true) (w5 : (Jvm.Cond.selects C y y).before a0 Z = true) (w6 : (Jvm.Cond.instanceMethod y).before a0 Z = true) (w3 : (Jvm.Cond.initialized y.cls).before a0 Z = true) (w4 : (Jvm.Cond.code y bytes maxL ret).before a0 Z = true) (hy : y.cls ≠ "java/lang/invoke/MethodHandle" ∧ y.cls ≠ "java/lang/invoke/VarHandle")
    {argsL : List Value} {stk : List Value} (hC : Ctr l Z y bytes maxL ret [] rm (.ref a :: argsL).toArray h (Just h w)) (hlen : ∀ sig, parseMethodDescriptor y.desc = some sig → argsL.length = sig.parameters.length) (hd : decode c.code pc = .ok (.invokevirtual i, 3)) (hp : pc + 3 = pc') (hst : stk = argsL.reverse ++ .ref a :: st)
    (h0c : rm.cells = 0) (h0s : rm.slots = 0) (hf : rm.frames + 1 ≤ R.frames) {W : Nat} (hW : (st.map fun v => v.category).sum ≤ W) (hlo : W + (maxL + 11) + rm.locals ≤ R.locals) (hce : cells + rm.cells ≤ R.cells) (hsl : slots + rm.slots ≤ R.slots)
    (k : ∀ T', Stand p l e R s m args below meth c T' locs cells slots → T'.heap = h → Goes p e below F T' (mkF m pc' ls (w :: st))) : Goes p e below F T (mkF m pc ls stk) := by
  refine gCallV X hx hZ hown eT hml E w1 w2 w5 w6 w3 w4 hy hC hlen hd hp hst hf hW hlo hce hsl ?_
  rintro T' v L X' ⟨rfl, e', rfl⟩
  rw [List.append_nil, h0c, h0s] at X'
  exact k T' X' e'
theorem gLIfEq (X : Stand p l e R s m args below meth c T locs cells slots) (hx : p.tables.exec = Jvm.exec) {o : Int} {x y : Int64} {pn : Nat} (hd : decode c.code pc = .ok (.ifCond .eq o, 3)) (ho : 0 ≤ (pc : Int) + o) (hp : ((pc : Int) + o).toNat = pc') (hn : pc + 3 = pn) (kY : x = y → Goes p e below F T (mkF m pc' ls st)) (kN : ¬ x = y → Goes p e below F T (mkF m pn ls st)) : Goes p e below F T (mkF m pc ls (.int (lcmpW x y) :: st)) := by
  have z := lw_eq x y
  refine gIf X hx hd ho hp hn (fun q => kY ?_) (fun q => kN ?_) <;> simp only [ifCond.holds, decide_eq_true_eq, decide_eq_false_iff_not, beq_iff_eq, bne_iff_ne, Int32.not_lt, Int32.not_le, Int32.lt_iff_toInt_lt, Int32.le_iff_toInt_le, Int64.lt_iff_toInt_lt, ← Int32.toInt_inj, beq_eq_false_iff_ne, bne_eq_false_iff_eq, ne_eq] at q z ⊢ <;> first | exact z.mp q | exact fun k => q (z.mpr k) | omega
theorem gLIfNe (X : Stand p l e R s m args below meth c T locs cells slots) (hx : p.tables.exec = Jvm.exec) {o : Int} {x y : Int64} {pn : Nat} (hd : decode c.code pc = .ok (.ifCond .ne o, 3)) (ho : 0 ≤ (pc : Int) + o) (hp : ((pc : Int) + o).toNat = pc') (hn : pc + 3 = pn) (kY : ¬ x = y → Goes p e below F T (mkF m pc' ls st)) (kN : x = y → Goes p e below F T (mkF m pn ls st)) : Goes p e below F T (mkF m pc ls (.int (lcmpW x y) :: st)) := by
  have z := lw_eq x y
  refine gIf X hx hd ho hp hn (fun q => kY ?_) (fun q => kN ?_) <;> simp only [ifCond.holds, decide_eq_true_eq, decide_eq_false_iff_not, beq_iff_eq, bne_iff_ne, Int32.not_lt, Int32.not_le, Int32.lt_iff_toInt_lt, Int32.le_iff_toInt_le, Int64.lt_iff_toInt_lt, ← Int32.toInt_inj, beq_eq_false_iff_ne, bne_eq_false_iff_eq, ne_eq] at q z ⊢ <;> first | exact z.mp q | exact fun k => q (z.mpr k) | omega
theorem gLIfLt (X : Stand p l e R s m args below meth c T locs cells slots) (hx : p.tables.exec = Jvm.exec) {o : Int} {x y : Int64} {pn : Nat} (hd : decode c.code pc = .ok (.ifCond .lt o, 3)) (ho : 0 ≤ (pc : Int) + o) (hp : ((pc : Int) + o).toNat = pc') (hn : pc + 3 = pn) (kY : x.toInt < y.toInt → Goes p e below F T (mkF m pc' ls st)) (kN : y.toInt ≤ x.toInt → Goes p e below F T (mkF m pn ls st)) : Goes p e below F T (mkF m pc ls (.int (lcmpW x y) :: st)) := by
  have z := lw_lt x y
  refine gIf X hx hd ho hp hn (fun q => kY ?_) (fun q => kN ?_) <;> simp only [ifCond.holds, decide_eq_true_eq, decide_eq_false_iff_not, beq_iff_eq, bne_iff_ne, Int32.not_lt, Int32.not_le, Int32.lt_iff_toInt_lt, Int32.le_iff_toInt_le, Int64.lt_iff_toInt_lt, ← Int32.toInt_inj, beq_eq_false_iff_ne, bne_eq_false_iff_eq, ne_eq] at q z ⊢ <;> first | exact z.mp q | exact fun k => q (z.mpr k) | omega
theorem gLIfGe (X : Stand p l e R s m args below meth c T locs cells slots) (hx : p.tables.exec = Jvm.exec) {o : Int} {x y : Int64} {pn : Nat} (hd : decode c.code pc = .ok (.ifCond .ge o, 3)) (ho : 0 ≤ (pc : Int) + o) (hp : ((pc : Int) + o).toNat = pc') (hn : pc + 3 = pn) (kY : y.toInt ≤ x.toInt → Goes p e below F T (mkF m pc' ls st)) (kN : x.toInt < y.toInt → Goes p e below F T (mkF m pn ls st)) : Goes p e below F T (mkF m pc ls (.int (lcmpW x y) :: st)) := by
  have z := lw_lt x y
  refine gIf X hx hd ho hp hn (fun q => kY ?_) (fun q => kN ?_) <;> simp only [ifCond.holds, decide_eq_true_eq, decide_eq_false_iff_not, beq_iff_eq, bne_iff_ne, Int32.not_lt, Int32.not_le, Int32.lt_iff_toInt_lt, Int32.le_iff_toInt_le, Int64.lt_iff_toInt_lt, ← Int32.toInt_inj, beq_eq_false_iff_ne, bne_eq_false_iff_eq, ne_eq] at q z ⊢ <;> first | exact z.mp q | exact fun k => q (z.mpr k) | omega
theorem gLIfGt (X : Stand p l e R s m args below meth c T locs cells slots) (hx : p.tables.exec = Jvm.exec) {o : Int} {x y : Int64} {pn : Nat} (hd : decode c.code pc = .ok (.ifCond .gt o, 3)) (ho : 0 ≤ (pc : Int) + o) (hp : ((pc : Int) + o).toNat = pc') (hn : pc + 3 = pn) (kY : y.toInt < x.toInt → Goes p e below F T (mkF m pc' ls st)) (kN : x.toInt ≤ y.toInt → Goes p e below F T (mkF m pn ls st)) : Goes p e below F T (mkF m pc ls (.int (lcmpW x y) :: st)) := by
  have z := lw_gt x y
  refine gIf X hx hd ho hp hn (fun q => kY ?_) (fun q => kN ?_) <;> simp only [ifCond.holds, decide_eq_true_eq, decide_eq_false_iff_not, beq_iff_eq, bne_iff_ne, Int32.not_lt, Int32.not_le, Int32.lt_iff_toInt_lt, Int32.le_iff_toInt_le, Int64.lt_iff_toInt_lt, ← Int32.toInt_inj, beq_eq_false_iff_ne, bne_eq_false_iff_eq, ne_eq] at q z ⊢ <;> first | exact z.mp q | exact fun k => q (z.mpr k) | omega
theorem gLIfLe (X : Stand p l e R s m args below meth c T locs cells slots) (hx : p.tables.exec = Jvm.exec) {o : Int} {x y : Int64} {pn : Nat} (hd : decode c.code pc = .ok (.ifCond .le o, 3)) (ho : 0 ≤ (pc : Int) + o) (hp : ((pc : Int) + o).toNat = pc') (hn : pc + 3 = pn) (kY : x.toInt ≤ y.toInt → Goes p e below F T (mkF m pc' ls st)) (kN : y.toInt < x.toInt → Goes p e below F T (mkF m pn ls st)) : Goes p e below F T (mkF m pc ls (.int (lcmpW x y) :: st)) := by
  have z := lw_gt x y
  refine gIf X hx hd ho hp hn (fun q => kY ?_) (fun q => kN ?_) <;> simp only [ifCond.holds, decide_eq_true_eq, decide_eq_false_iff_not, beq_iff_eq, bne_iff_ne, Int32.not_lt, Int32.not_le, Int32.lt_iff_toInt_lt, Int32.le_iff_toInt_le, Int64.lt_iff_toInt_lt, ← Int32.toInt_inj, beq_eq_false_iff_ne, bne_eq_false_iff_eq, ne_eq] at q z ⊢ <;> first | exact z.mp q | exact fun k => q (z.mpr k) | omega
theorem gNew (X : Stand p l e R s m args below meth c T locs cells slots) (hx : p.tables.exec = Jvm.exec) (hZ : Z.Warmed39 s.vm) {own C : String} {i n : Nat} (hown : s.vm.findClass own = some m.cls) (w : (Jvm.Cond.classLink own i C).before a0 Z = true) (wi : (Jvm.Cond.instantiable C n).before a0 Z = true) (wz : (Jvm.Cond.initialized C).before a0 Z = true) (eT : T.heap = h) (hd : decode c.code pc = .ok (.new i, 3)) (hp : pc + 3 = pc') (hc : cells + 1 ≤ R.cells) (hl : slots + n ≤ R.slots)
    (k : ∀ T' h' b, Stand p l e R s m args below meth c T' locs (cells + 1) (slots + n) → T'.heap = h' → b = h.size → Ext h h' → Exa Z h' b C → (∀ {O nm d : String} {ty : FieldType}, Laid Z a0 C O nm d → parseFieldDescriptor d = some ty → Fld Z h' b O nm d (defaultValue ty)) → Goes p e below F T' (mkF m pc' ls (.ref b :: st))) : Goes p e below F T (mkF m pc ls st) := by
  subst hp
  obtain ⟨T', h', X', e', E, A, D, -, st'⟩ := newO X hx hZ hown w wi wz eT (g := mkF m pc ls st) rfl hd hc hl
  exact Goes.fore st' (k T' h' _ X' e' rfl E A D)
theorem gPutF (X : Stand p l e R s m args below meth c T locs cells slots) (hx : p.tables.exec = Jvm.exec) (hZ : Z.Warmed39 s.vm) {own R0 O n d C : String} {i kk : Nat} {ty : FieldType} (hown : s.vm.findClass own = some m.cls) (w : (Jvm.Cond.fieldLink own i R0 n d).before a0 Z = true) (via : Via Z R0 O n d) (eT : T.heap = h) {a : Addr} {v old : Value} (Fa : Fld Z h a O n d old) (E : Exa Z h a C) (L : (Jvm.Cond.lays C O n d).before a0 Z = true ∨ ((Jvm.Cond.laysFinal C O n d).before a0 Z = true ∧ own = O ∧ meth.name = "<init>")) (wi : (Jvm.Cond.instantiable C kk).before a0 Z = true)
    (hty : parseFieldDescriptor d = some ty) (hn : narrow ty v = v) (hf : fits ty v = true) (hd : decode c.code pc = .ok (.putfield i, 3)) (hp : pc + 3 = pc')
    (k : ∀ T' h', Stand p l e R s m args below meth c T' (locs ++ [⟨a, RoadKit.slotOf Z O n d⟩]) cells slots → T'.heap = h' → Wr h h' a (RoadKit.slotOf Z O n d) v → Goes p e below F T' (mkF m pc' ls st)) : Goes p e below F T (mkF m pc ls (v :: .ref a :: st)) := by
  subst hp
  obtain ⟨T', h', X', e', W, st'⟩ := putF X hx hZ (host := "") hown (Or.inl w) via eT Fa E L wi hty hn hf (g := mkF m pc ls (v :: .ref a :: st)) rfl rfl hd
  exact Goes.fore st' (k T' h' X' e' W)
theorem gInitO (X : Stand p l e R s m args below meth c T locs cells slots) (hx : p.tables.exec = Jvm.exec) (hZ : Z.Warmed39 s.vm) {own : String} {i : Nat} (hown : s.vm.findClass own = some m.cls) (w1 : (Jvm.Cond.methodLink own i Lib.objectInit).before a0 Z = true) (w2 : (Jvm.Cond.instanceMethod Lib.objectInit).before a0 Z = true) (w3 : (Jvm.Cond.code Lib.objectInit ⟨#[0xb1]⟩ 1 none).before a0 Z = true) (eT : T.heap = h) (hml : ls.size = c.maxLocals) {a : Addr} (hd : decode c.code pc = .ok (.invokespecial i, 3)) (hp : pc + 3 = pc') (hf : 1 ≤ R.frames) {W : Nat} (hW : (st.map fun v => v.category).sum ≤ W) (hl : W + 12 ≤ R.locals)
    (k : ∀ T', Stand p l e R s m args below meth c T' locs cells slots → T'.heap = h → Goes p e below F T' (mkF m pc' ls st)) : Goes p e below F T (mkF m pc ls (.ref a :: st)) := by
  subst hp
  obtain ⟨T', X', e', st'⟩ := initO X hx hZ hown w1 w2 w3 eT (g := mkF m pc ls (.ref a :: st)) rfl hml rfl hd hf (W := W) (by show 2 * 0 + _ ≤ _; omega) hl
  exact Goes.fore st' (k T' X' e')
theorem gCallI (X : Stand p l e R s m args below meth c T locs cells slots) (hx : p.tables.exec = Jvm.exec) (hZ : Z.Warmed39 s.vm) {y : MethodName} {bytes : ByteArray} {maxL : Nat} {rm : Room} {own : String} {i : Nat} {Qc : Option Value → Heap → List Loc → Prop} {a : Addr} (hy1 : y.name = "<init>") (hown : s.vm.findClass own = some m.cls) (eT : T.heap = h) (hml : ls.size = c.maxLocals)
    (w1 : (Jvm.Cond.methodLink own i y).before a0 Z = true) (w2 : (Jvm.Cond.instanceMethod y).before a0 Z = true) (w3 : (Jvm.Cond.initialized y.cls).before a0 Z = true) (w4 : (Jvm.Cond.code y bytes maxL none).before a0 Z = true) (hy : y.cls ≠ "java/lang/invoke/MethodHandle" ∧ y.cls ≠ "java/lang/invoke/VarHandle")
    {argsL : List Value} {stk : List Value} (hC : Ctr l Z y bytes maxL none [] rm (.ref a :: argsL).toArray h Qc) (hlen : ∀ sig, parseMethodDescriptor y.desc = some sig → argsL.length = sig.parameters.length) (hd : decode c.code pc = .ok (.invokespecial i, 3)) (hp : pc + 3 = pc') (hst : stk = argsL.reverse ++ .ref a :: st)
    (hf : rm.frames + 1 ≤ R.frames) {W : Nat} (hW : (st.map fun v => v.category).sum ≤ W) (hlo : W + (maxL + 11) + rm.locals ≤ R.locals) (hce : cells + rm.cells ≤ R.cells) (hsl : slots + rm.slots ≤ R.slots)
    (k : ∀ T' v L, Stand p l e R s m args below meth c T' (locs ++ L) (cells + rm.cells) (slots + rm.slots) → Qc v T'.heap L → Goes p e below F T' (mkF m pc' ls (v.toList ++ st))) : Goes p e below F T (mkF m pc ls stk) := by
  subst hp hst
  obtain ⟨v, _, ⟨T', L', k', n'⟩, -, X', ⟨Lc, hQ, l1, y1, z1⟩, st'⟩ := X.specialBack hx (y := y) hy1 hown (mvT hZ w1) (mvT hZ w2) (mvT hZ w4) hy (backOf (W := W) hC hZ w4 w3 hf hlo) (g := mkF m pc ls (argsL.reverse ++ .ref a :: st)) rfl hml (Steps.refl _) (a := a) (argsL := argsL) (rest := st) hlen rfl (by show 2 * 0 + _ ≤ _; omega) hd (fun _ _ => ⟨rfl, eT, hce, hsl⟩)
  dsimp only [Pt.U, Pt.locs, Pt.cells, Pt.slots] at X' l1 y1 z1 st' hQ
  subst l1 y1 z1
  exact Goes.tr st' (k T' v Lc X' hQ)
end OwnLayer
theorem ow {Z : State} {a0 : Array Value} (hw : ∀ d ∈ tables_1, d.before a0 Z = true) (i : Nat) {d : Jvm.Cond} (h : tables_1[i]? = some d) : d.before a0 Z = true := hw _ (List.mem_of_getElem? h)
set_option maxRecDepth 65536
set_option maxHeartbeats 40000000
/-- a boolean as the machine holds it -/
def b2i (b : Bool) : Int32 := if b then 1 else 0
theorem b2_t {P : Prop} [Decidable P] (h : P) : b2i (decide P) = 1 := by simp [b2i, h]
theorem b2_f {P : Prop} [Decidable P] (h : ¬ P) : b2i (decide P) = 0 := by simp [b2i, h]
theorem b2_0 {b : Bool} : b2i b = 0 ↔ b = false := by cases b <;> simp [b2i]
theorem b2_n0 {b : Bool} : ¬ b2i b = 0 ↔ b = true := by cases b <;> simp [b2i]
theorem b2_inj {a b : Bool} : b2i a = b2i b ↔ a = b := by cases a <;> cases b <;> simp [b2i]
theorem b2_nar {b : Bool} : nar .boolean (b2i b) = b2i b := by cases b <;> rfl
theorem just_t {h0 h : Heap} {P : Prop} [Decidable P] (q : P) (e : h = h0) : Just h0 (.int (b2i (decide P))) (some (.int 1)) h [] := ⟨by rw [b2_t q], e, rfl⟩
theorem just_f {h0 h : Heap} {P : Prop} [Decidable P] (q : ¬ P) (e : h = h0) : Just h0 (.int (b2i (decide P))) (some (.int 0)) h [] := ⟨by rw [b2_f q], e, rfl⟩
/-- the law returns 1; what it wrote is new -/
def Law1 (h0 : Heap) (v : Option Value) (h : Heap) (L : List Loc) : Prop := v = some (.int 1) ∧ Fr h0.size L
section OwnArrays
variable {p : Program} {l : Launch} {e : Env} {R : Room} {s : State} {m : MethodId} {args : Array Value} {below : List Frame} {meth : Method} {c : Code} {T : State} {locs : List Loc} {cells slots : Nat}
variable {F : State → Outcome → Prop} {pc pc' : Nat} {ls : Array Slot} {st : List Value} {Z : State} {a0 : Array Value} {h : Heap} {a : Addr} {ck : ClassId} {n j : Int32} {vs : List Value} {dv : Value}
theorem gIaload (X : Stand p l e R s m args below meth c T locs cells slots) (hx : p.tables.exec = Jvm.exec) (hZ : Z.Warmed39 s.vm) (eT : T.heap = h) {v : Value} (A : Arv Z h a ck .int n vs dv) (h0 : ¬ j < 0) (h1 : j < n) (hv : vs.getD j.toNatClampNeg dv = v) (hd : decode c.code pc = .ok (.iaload, 1)) (hp : pc + 1 = pc') (k : Goes p e below F T (mkF m pc' ls (v :: st))) : Goes p e below F T (mkF m pc ls (.int j :: .ref a :: st)) := by
  subst hp
  obtain ⟨cl, Ar, q, S, N, H, _⟩ := A
  have hin := inb_of S ⟨h0, h1⟩
  exact Goes.fore (fun t q => X.iaload hx (j := j) (v := v) (by rw [eT]; exact Ar.1) (State.isArrayOf_alike hZ.alike Ar.2.1) Ar.2.2 hin (Has.at H hin hv) (g := mkF m pc ls (.int j :: .ref a :: st)) rfl rfl hd t q) k
theorem gCaload (X : Stand p l e R s m args below meth c T locs cells slots) (hx : p.tables.exec = Jvm.exec) (hZ : Z.Warmed39 s.vm) (eT : T.heap = h) {v : Value} (A : Arv Z h a ck .char n vs dv) (h0 : ¬ j < 0) (h1 : j < n) (hv : vs.getD j.toNatClampNeg dv = v) (hd : decode c.code pc = .ok (.caload, 1)) (hp : pc + 1 = pc') (k : Goes p e below F T (mkF m pc' ls (v :: st))) : Goes p e below F T (mkF m pc ls (.int j :: .ref a :: st)) := by
  subst hp
  obtain ⟨cl, Ar, q, S, N, H, _⟩ := A
  have hin := inb_of S ⟨h0, h1⟩
  exact Goes.fore (fun t q => X.caload hx (j := j) (v := v) (by rw [eT]; exact Ar.1) (State.isArrayOf_alike hZ.alike Ar.2.1) Ar.2.2 hin (Has.at H hin hv) (g := mkF m pc ls (.int j :: .ref a :: st)) rfl rfl hd t q) k
theorem gLaload (X : Stand p l e R s m args below meth c T locs cells slots) (hx : p.tables.exec = Jvm.exec) (hZ : Z.Warmed39 s.vm) (eT : T.heap = h) {v : Value} (A : Arv Z h a ck .long n vs dv) (h0 : ¬ j < 0) (h1 : j < n) (hv : vs.getD j.toNatClampNeg dv = v) (hd : decode c.code pc = .ok (.laload, 1)) (hp : pc + 1 = pc') (k : Goes p e below F T (mkF m pc' ls (v :: st))) : Goes p e below F T (mkF m pc ls (.int j :: .ref a :: st)) := by
  subst hp
  obtain ⟨cl, Ar, q, S, N, H, _⟩ := A
  have hin := inb_of S ⟨h0, h1⟩
  exact Goes.fore (fun t q => X.laload hx (j := j) (v := v) (by rw [eT]; exact Ar.1) (State.isArrayOf_alike hZ.alike Ar.2.1) Ar.2.2 hin (Has.at H hin hv) (g := mkF m pc ls (.int j :: .ref a :: st)) rfl rfl hd t q) k
theorem gBaload (X : Stand p l e R s m args below meth c T locs cells slots) (hx : p.tables.exec = Jvm.exec) (hZ : Z.Warmed39 s.vm) (eT : T.heap = h) {v : Value} (A : Arv Z h a ck .byte n vs dv) (h0 : ¬ j < 0) (h1 : j < n) (hv : vs.getD j.toNatClampNeg dv = v) (hd : decode c.code pc = .ok (.baload, 1)) (hp : pc + 1 = pc') (k : Goes p e below F T (mkF m pc' ls (v :: st))) : Goes p e below F T (mkF m pc ls (.int j :: .ref a :: st)) := by
  subst hp
  obtain ⟨cl, Ar, q, S, N, H, _⟩ := A
  have hin := inb_of S ⟨h0, h1⟩
  exact Goes.fore (fun t q => X.baloadBytes hx (j := j) (v := v) (by rw [eT]; exact Ar.1) (State.isArrayOf_alike hZ.alike Ar.2.1) Ar.2.2 hin (Has.at H hin hv) (g := mkF m pc ls (.int j :: .ref a :: st)) rfl rfl hd t q) k
theorem gAaload (X : Stand p l e R s m args below meth c T locs cells slots) (hx : p.tables.exec = Jvm.exec) (hZ : Z.Warmed39 s.vm) (eT : T.heap = h) {v : Value} {ty : FieldType} (hty : ty.isReference = true) (A : Arv Z h a ck ty n vs dv) (h0 : ¬ j < 0) (h1 : j < n) (hv : vs.getD j.toNatClampNeg dv = v) (hd : decode c.code pc = .ok (.aaload, 1)) (hp : pc + 1 = pc') (k : Goes p e below F T (mkF m pc' ls (v :: st))) : Goes p e below F T (mkF m pc ls (.int j :: .ref a :: st)) := by
  subst hp
  obtain ⟨cl, Ar, q, S, N, H, _⟩ := A
  have hin := inb_of S ⟨h0, h1⟩
  exact Goes.fore (fun t q => X.aaload hx (j := j) (v := v) (by rw [eT]; exact Ar.1) (State.isArrayOf_alike hZ.alike Ar.2.1) hty Ar.2.2 hin (Has.at H hin hv) (g := mkF m pc ls (.int j :: .ref a :: st)) rfl rfl hd t q) k
theorem gArrLen (X : Stand p l e R s m args below meth c T locs cells slots) (hx : p.tables.exec = Jvm.exec) (hZ : Z.Warmed39 s.vm) (eT : T.heap = h) {ty : FieldType} (A : Arv Z h a ck ty n vs dv) (hd : decode c.code pc = .ok (.arraylength, 1)) (hp : pc + 1 = pc') (k : Goes p e below F T (mkF m pc' ls (.int n :: st))) : Goes p e below F T (mkF m pc ls (.ref a :: st)) := by
  subst hp
  obtain ⟨cl, Ar, q, S, N, H, _⟩ := A
  refine Goes.fore (fun t q => X.arraylength hx (by rw [eT]; exact Ar.1) (State.isArrayOf_alike hZ.alike Ar.2.1) (g := mkF m pc ls (.ref a :: st)) rfl rfl hd t q) ?_
  rw [len_of S N]; exact k
theorem gIastore (X : Stand p l e R s m args below meth c T locs cells slots) (hx : p.tables.exec = Jvm.exec) (hZ : Z.Warmed39 s.vm) (eT : T.heap = h) {x : Int32} (A : Arv Z h a ck .int n vs dv) (h0 : ¬ j < 0) (h1 : j < n) (i : Nat) (hj : j.toNatClampNeg = i) (hi : i < vs.length) (hd : decode c.code pc = .ok (.iastore, 1)) (hp : pc + 1 = pc')
    (k : ∀ T' h', Stand p l e R s m args below meth c T' (locs ++ [⟨a, j.toNatClampNeg⟩]) cells slots → T'.heap = h' → Wr h h' a j.toNatClampNeg (.int x) → Arv Z h' a ck .int n (vs.set i (.int x)) dv → Goes p e below F T' (mkF m pc' ls st)) : Goes p e below F T (mkF m pc ls (.int x :: .int j :: .ref a :: st)) := by
  subst hp
  obtain ⟨cl, Ar, q, S, N, H, Gt⟩ := A
  obtain ⟨T', h', X', e', W, st'⟩ := stI X hx hZ eT Ar (j := j) (inb_of S ⟨h0, h1⟩) (g := mkF m pc ls (.int x :: .int j :: .ref a :: st)) rfl rfl hd
  exact Goes.fore st' (k T' h' X' e' W (Arv.set Ar q S N H Gt rfl W i hj hi))
theorem gCastore (X : Stand p l e R s m args below meth c T locs cells slots) (hx : p.tables.exec = Jvm.exec) (hZ : Z.Warmed39 s.vm) (eT : T.heap = h) {x : Int32} (A : Arv Z h a ck .char n vs dv) (h0 : ¬ j < 0) (h1 : j < n) (i : Nat) (hj : j.toNatClampNeg = i) (hi : i < vs.length) (hd : decode c.code pc = .ok (.castore, 1)) (hp : pc + 1 = pc')
    (k : ∀ T' h', Stand p l e R s m args below meth c T' (locs ++ [⟨a, j.toNatClampNeg⟩]) cells slots → T'.heap = h' → Wr h h' a j.toNatClampNeg (.int (nar .char x)) → Arv Z h' a ck .char n (vs.set i (.int (nar .char x))) dv → Goes p e below F T' (mkF m pc' ls st)) : Goes p e below F T (mkF m pc ls (.int x :: .int j :: .ref a :: st)) := by
  subst hp
  obtain ⟨cl, Ar, q, S, N, H, Gt⟩ := A
  obtain ⟨T', h', X', e', W, st'⟩ := stC X hx hZ eT Ar (j := j) (inb_of S ⟨h0, h1⟩) (g := mkF m pc ls (.int x :: .int j :: .ref a :: st)) rfl rfl hd
  exact Goes.fore st' (k T' h' X' e' W (Arv.set Ar q S N H Gt (fits_nar_char _) W i hj hi))
theorem gBastore (X : Stand p l e R s m args below meth c T locs cells slots) (hx : p.tables.exec = Jvm.exec) (hZ : Z.Warmed39 s.vm) (eT : T.heap = h) {x : Int32} (A : Arv Z h a ck .byte n vs dv) (h0 : ¬ j < 0) (h1 : j < n) (i : Nat) (hj : j.toNatClampNeg = i) (hi : i < vs.length) (hd : decode c.code pc = .ok (.bastore, 1)) (hp : pc + 1 = pc')
    (k : ∀ T' h', Stand p l e R s m args below meth c T' (locs ++ [⟨a, j.toNatClampNeg⟩]) cells slots → T'.heap = h' → Wr h h' a j.toNatClampNeg (.int (nar .byte x)) → Arv Z h' a ck .byte n (vs.set i (.int (nar .byte x))) dv → Goes p e below F T' (mkF m pc' ls st)) : Goes p e below F T (mkF m pc ls (.int x :: .int j :: .ref a :: st)) := by
  subst hp
  obtain ⟨cl, Ar, q, S, N, H, Gt⟩ := A
  obtain ⟨T', h', X', e', W, st'⟩ := stB X hx hZ eT Ar (j := j) (inb_of S ⟨h0, h1⟩) (g := mkF m pc ls (.int x :: .int j :: .ref a :: st)) rfl rfl hd
  exact Goes.fore st' (k T' h' X' e' W (Arv.set Ar q S N H Gt (fits_nar_byte _) W i hj hi))
theorem gLastore (X : Stand p l e R s m args below meth c T locs cells slots) (hx : p.tables.exec = Jvm.exec) (hZ : Z.Warmed39 s.vm) (eT : T.heap = h) {x : Int64} (A : Arv Z h a ck .long n vs dv) (h0 : ¬ j < 0) (h1 : j < n) (i : Nat) (hj : j.toNatClampNeg = i) (hi : i < vs.length) (hd : decode c.code pc = .ok (.lastore, 1)) (hp : pc + 1 = pc')
    (k : ∀ T' h', Stand p l e R s m args below meth c T' (locs ++ [⟨a, j.toNatClampNeg⟩]) cells slots → T'.heap = h' → Wr h h' a j.toNatClampNeg (.long x) → Arv Z h' a ck .long n (vs.set i (.long x)) dv → Goes p e below F T' (mkF m pc' ls st)) : Goes p e below F T (mkF m pc ls (.long x :: .int j :: .ref a :: st)) := by
  subst hp
  obtain ⟨cl, Ar, q, S, N, H, Gt⟩ := A
  obtain ⟨T', h', X', e', W, st'⟩ := stJ X hx hZ eT Ar (j := j) (inb_of S ⟨h0, h1⟩) (g := mkF m pc ls (.long x :: .int j :: .ref a :: st)) rfl rfl hd
  exact Goes.fore st' (k T' h' X' e' W (Arv.set Ar q S N H Gt rfl W i hj hi))
theorem gNewP (X : Stand p l e R s m args below meth c T locs cells slots) (hx : p.tables.exec = Jvm.exec) (hZ : Z.Warmed39 s.vm) {aty : ArrayType} (w : (Jvm.Cond.arrayClass (newarray.typeOf aty)).before a0 Z = true) (eT : T.heap = h) (hd : decode c.code pc = .ok (.newarray aty, 2)) (hn : ¬ n < 0) {cap : Nat} (hcap : n.toNatClampNeg ≤ cap) (hb : cap * 8 ≤ 536870912) (hc : cells + 1 ≤ R.cells) (hl : slots + cap ≤ R.slots) (N : Nat) (hp : pc + 2 = pc')
    (k : ∀ T' h' b cA, Stand p l e R s m args below meth c T' locs (cells + 1) (slots + cap) → T'.heap = h' → b = h.size → Ext h h' → Arv Z h' b cA (newarray.typeOf aty) n (List.replicate N (defaultValue (newarray.typeOf aty))) (defaultValue (newarray.typeOf aty)) → Goes p e below F T' (mkF m pc' ls (.ref b :: st))) : Goes p e below F T (mkF m pc ls (.int n :: st)) := by
  subst hp
  obtain ⟨T', h', cA, X', e', E, A, st'⟩ := newP X hx hZ w eT (g := mkF m pc ls (.int n :: st)) rfl hd rfl hn hcap hb hc hl
  exact Goes.fore st' (k T' h' _ cA X' e' rfl E ((Arv.new A hn).pad (pad_rep [] _ N)))
theorem gCast (X : Stand p l e R s m args below meth c T locs cells slots) (hx : p.tables.exec = Jvm.exec) (hZ : Z.Warmed39 s.vm) {own K : String} {i : Nat} (hown : s.vm.findClass own = some m.cls) (w : (Jvm.Cond.classLink own i K).before a0 Z = true) (eT : T.heap = h) (I : Ins Z h a K true) (hd : decode c.code pc = .ok (.checkcast i, 3)) (hp : pc + 3 = pc')
    (k : ∀ T', Stand p l e R s m args below meth c T' locs cells slots → T'.heap = h → Goes p e below F T' (mkF m pc' ls (.ref a :: st))) : Goes p e below F T (mkF m pc ls (.ref a :: st)) := by
  subst hp
  obtain ⟨T', X', e', st'⟩ := castY X hx hZ hown w eT I (g := mkF m pc ls (.ref a :: st)) rfl rfl hd
  exact Goes.fore st' (k T' X' e')
theorem gClone (X : Stand p l e R s m args below meth c T locs cells slots) (hx : p.tables.exec = Jvm.exec) (hZ : Z.Warmed39 s.vm) {own ad : String} {i : Nat} (hown : s.vm.findClass own = some m.cls) (w1 : (Jvm.Cond.methodLink own i ⟨ad, "clone", "()Ljava/lang/Object;"⟩).before a0 Z = true) (w2 : (Jvm.Cond.sameMethod ad "java/lang/Object" "clone" "()Ljava/lang/Object;").before a0 Z = true) (w3 : (Jvm.Cond.native ⟨"java/lang/Object", "clone", "()Ljava/lang/Object;"⟩).before a0 Z = true)
    (w4 : (Jvm.Cond.instanceMethod ⟨"java/lang/Object", "clone", "()Ljava/lang/Object;"⟩).before a0 Z = true) (w5 : (Jvm.Cond.selects ad ⟨ad, "clone", "()Ljava/lang/Object;"⟩ ⟨"java/lang/Object", "clone", "()Ljava/lang/Object;"⟩).before a0 Z = true) (w6 : (Jvm.Cond.castable ad "java/lang/Cloneable").before a0 Z = true) {ty : FieldType}
    (eT : T.heap = h) (A : Arv Z h a ck ty n vs dv) (E : Exa Z h a ad) (hml : ls.size = c.maxLocals) (hd : decode c.code pc = .ok (.invokevirtual i, 3)) (hf : 1 ≤ R.frames) {W cap : Nat} (hW : (st.map fun v => v.category).sum ≤ W) (hlo : W + 14 ≤ R.locals) (hcap : n.toNatClampNeg ≤ cap) (hc : cells + 1 ≤ R.cells) (hsl : slots + cap ≤ R.slots) (hp : pc + 3 = pc')
    (k : ∀ T' h' b, Stand p l e R s m args below meth c T' locs (cells + 1) (slots + cap) → T'.heap = h' → b = h.size → Ext h h' → Arv Z h' b ck ty n vs dv → Exa Z h' b ad → Goes p e below F T' (mkF m pc' ls (.ref b :: st))) : Goes p e below F T (mkF m pc ls (.ref a :: st)) := by
  subst hp
  obtain ⟨T', h', X', e', E', A', Ex, st'⟩ := cloneH X hx hZ hown w1 w2 w3 w4 w5 w6 eT A.arh E (g := mkF m pc ls (.ref a :: st)) rfl hml rfl hd hf (W := W) (cap := cap) (by show 2 * 0 + _ ≤ _; omega) hlo hcap hc hsl
  exact Goes.fore st' (k T' h' _ X' e' rfl E' A' Ex)
theorem gArrCopy (X : Stand p l e R s m args below meth c T locs cells slots) (hx : p.tables.exec = Jvm.exec) (hZ : Z.Warmed39 s.vm) {own : String} {i : Nat} (hown : s.vm.findClass own = some m.cls) (w1 : (Jvm.Cond.methodLink own i Jvm.Stand.acN).before a0 Z = true) (w2 : (Jvm.Cond.native Jvm.Stand.acN).before a0 Z = true) (w3 : (Jvm.Cond.static Jvm.Stand.acN).before a0 Z = true) (w4 : (Jvm.Cond.initialized "java/lang/System").before a0 Z = true) (eT : T.heap = h)
    {b : Addr} {cb : ClassId} {ty : FieldType} {n' sp dp nn : Int32} {vd : List Value} {dd : Value} (A : Arv Z h a ck ty n vs dv) (B : Arv Z h b cb ty n' vd dd) (hty : refKind ty = false) (h1 : ¬ sp < 0) (h2 : ¬ dp < 0) (h3 : ¬ nn < 0) (h4 : sp.toNatClampNeg + nn.toNatClampNeg ≤ n.toNatClampNeg) (h5 : dp.toNatClampNeg + nn.toNatClampNeg ≤ n'.toNatClampNeg) (hl : dp.toNatClampNeg + nn.toNatClampNeg ≤ vd.length) {n0 : Nat} (N : Fr n0 locs) (ge : n0 ≤ b)
    (hml : ls.size = c.maxLocals) (hd : decode c.code pc = .ok (.invokestatic i, 3)) (hp : pc + 3 = pc') (hf : 1 ≤ R.frames) {W : Nat} (hW : (st.map fun v => v.category).sum ≤ W) (hlo : W + (nativeFrameWords "java/lang/System" "arraycopy" 5 + 11) ≤ R.locals)
    (k : ∀ T' h' L, Stand p l e R s m args below meth c T' L cells slots → T'.heap = h' → Fr n0 L → Keep h h' [b] → Arv Z h' b cb ty n' (vd.take dp.toNatClampNeg ++ ((List.range nn.toNatClampNeg).map fun i => vs.getD (sp.toNatClampNeg + i) dv) ++ vd.drop (dp.toNatClampNeg + nn.toNatClampNeg)) dd → Goes p e below F T' (mkF m pc' ls st)) : Goes p e below F T (mkF m pc ls (.int nn :: .int dp :: .ref b :: .int sp :: .ref a :: st)) := by
  subst hp
  obtain ⟨T', h', L, X', e', N', K, A', st'⟩ := cpA X hx hZ hown w1 w2 w3 w4 eT A B (Or.inl ⟨rfl, hty⟩) h1 h2 h3 h4 h5 rfl hl N ge (g := mkF m pc ls (.int nn :: .int dp :: .ref b :: .int sp :: .ref a :: st)) rfl hml rfl hd hf (W := W) (by show 2 * 0 + _ ≤ _; omega) hlo
  exact Goes.fore st' (k T' h' L X' e' N' K A')
theorem gCallP (X : Stand p l e R s m args below meth c T locs cells slots) (hx : p.tables.exec = Jvm.exec) (hZ : Z.Warmed39 s.vm) {y : MethodName} {bytes : ByteArray} {maxL : Nat} {ret : Option FieldType} {rm : Room} {own : String} {i kk : Nat} {Qc : Option Value → Heap → List Loc → Prop} (hown : s.vm.findClass own = some m.cls) (eT : T.heap = h) (hml : ls.size = c.maxLocals) (E : Exa Z h a y.cls)
    (w1 : (Jvm.Cond.methodLink own i y).before a0 Z = true) (w6 : (Jvm.Cond.instanceMethod y).before a0 Z = true) (w5 : (Jvm.Cond.privateMethod y).before a0 Z = true) (wi : (Jvm.Cond.instantiable y.cls kk).before a0 Z = true) (w3 : (Jvm.Cond.initialized y.cls).before a0 Z = true) (w4 : (Jvm.Cond.code y bytes maxL ret).before a0 Z = true) (hy : y.cls ≠ "java/lang/invoke/MethodHandle" ∧ y.cls ≠ "java/lang/invoke/VarHandle")
    {argsL : List Value} {stk : List Value} (hC : Ctr l Z y bytes maxL ret [] rm (.ref a :: argsL).toArray h Qc) (hlen : ∀ sig, parseMethodDescriptor y.desc = some sig → argsL.length = sig.parameters.length) (hd : decode c.code pc = .ok (.invokevirtual i, 3)) (hp : pc + 3 = pc') (hst : stk = argsL.reverse ++ .ref a :: st)
    (hf : rm.frames + 1 ≤ R.frames) {W : Nat} (hW : (st.map fun v => v.category).sum ≤ W) (hlo : W + (maxL + 11) + rm.locals ≤ R.locals) (hce : cells + rm.cells ≤ R.cells) (hsl : slots + rm.slots ≤ R.slots)
    (k : ∀ T' v L, Stand p l e R s m args below meth c T' (locs ++ L) (cells + rm.cells) (slots + rm.slots) → Qc v T'.heap L → Goes p e below F T' (mkF m pc' ls (v.toList ++ st))) : Goes p e below F T (mkF m pc ls stk) := by
  subst hp hst
  obtain ⟨cq, q1, q2⟩ := E.cell
  have hpr : s.PrivateAt y := Cond.privateMethod_at (mvP hZ w5 (args := #[]))
  obtain ⟨cc, kc, hc1, hk1, -, hni, -, -⟩ := Cond.instantiable_spec (mvT (args := args) hZ wi)
  have hsel : (Jvm.Cond.selects y.cls y y).before args s = true := Jvm.Stand.selects_self_of_private hc1 hk1 (Bool.or_eq_false_iff.mp hni).1 hpr (mvT hZ w6) hy
  obtain ⟨v, _, ⟨T', L', k', n'⟩, -, X', ⟨Lc, hQ, l1, y1, z1⟩, st'⟩ := X.privateBack hx (y := y) hown (mvT hZ w1) (mvT hZ w6) hsel hpr (mvT hZ w4) hy (backOf (W := W) hC hZ w4 w3 hf hlo) (g := mkF m pc ls (argsL.reverse ++ .ref a :: st)) rfl hml (Steps.refl _) (a := a) (by rw [eT]; exact q1) q2 (argsL := argsL) (rest := st) hlen rfl (by show 2 * 0 + _ ≤ _; omega) hd (fun _ _ => ⟨rfl, eT, hce, hsl⟩)
  dsimp only [Pt.U, Pt.locs, Pt.cells, Pt.slots] at X' l1 y1 z1 st' hQ
  subst l1 y1 z1
  exact Goes.tr st' (k T' v Lc X' hQ)
theorem gInstY (X : Stand p l e R s m args below meth c T locs cells slots) (hx : p.tables.exec = Jvm.exec) (hZ : Z.Warmed39 s.vm) {own K : String} {i : Nat} (hown : s.vm.findClass own = some m.cls) (w : (Jvm.Cond.classLink own i K).before a0 Z = true) (eT : T.heap = h) (I : Ins Z h a K true) (hd : decode c.code pc = .ok (.instanceof i, 3)) (hp : pc + 3 = pc')
    (k : ∀ T', Stand p l e R s m args below meth c T' locs cells slots → T'.heap = h → Goes p e below F T' (mkF m pc' ls (.int 1 :: st))) : Goes p e below F T (mkF m pc ls (.ref a :: st)) := by
  subst hp
  obtain ⟨T', X', e', st'⟩ := instY X hx hZ hown w eT I (g := mkF m pc ls (.ref a :: st)) rfl rfl hd
  exact Goes.fore st' (k T' X' e')
end OwnArrays
def bt (w : Int64) (b : Nat) : Bool := w.toBitVec.getLsbD b
theorem bt_zero {w : Int64} (h : ∀ b, b < 64 → bt w b = false) : w = 0 := by
  apply Int64.toBitVec_inj.mp
  apply BitVec.eq_of_getLsbD_eq
  intro i hi
  rw [show w.toBitVec.getLsbD i = false from h i hi]; simp
theorem bt_0 (b : Nat) : bt 0 b = false := by simp [bt]
theorem bt_ex {w : Int64} (h : ¬ w = 0) : ∃ b, b < 64 ∧ bt w b = true := by
  apply Classical.byContradiction
  intro q
  exact h (bt_zero fun b hb => by cases e : bt w b with
    | false => rfl
    | true => exact absurd ⟨b, hb, e⟩ q)
theorem bt_or (x y : Int64) (b : Nat) : bt (x ||| y) b = (bt x b || bt y b) := by simp [bt]
theorem bt_and (x y : Int64) (b : Nat) : bt (x &&& y) b = (bt x b && bt y b) := by simp [bt]
theorem bt_m1 : ∀ b, b < 64 → bt (-1) b = true := by
  have : ∀ b : Fin 64, bt (-1) b.1 = true := by decide +kernel
  exact fun b hb => this ⟨b, hb⟩
theorem bt_not (x : Int64) (b : Nat) (h : b < 64) : bt (x ^^^ (-1)) b = !bt x b := by
  have := bt_m1 b h
  unfold bt at *
  simp only [Int64.toBitVec_xor, BitVec.getLsbD_xor, this, Bool.xor_true]
theorem own_q63 (q : Nat) : (Int32.ofNat q &&& 0x3f).toInt64 = (Int32.ofNat (q % 64)).toInt64 := by
  have : Int32.ofNat q &&& 0x3f = Int32.ofNat (q % 64) := by
    apply Int32.toBitVec_inj.mp
    apply BitVec.eq_of_toNat_eq
    simp only [Int32.toBitVec_and, BitVec.toNat_and]
    show (q % 2 ^ 32) &&& 63 = (q % 64) % 2 ^ 32
    rw [show (63 : Nat) = 2 ^ 6 - 1 from rfl, Nat.and_two_pow_sub_one_eq_mod]; omega
  rw [this]
theorem bt_one (q b : Nat) (h : b < 64) : bt ((1 : Int64) <<< (Int32.ofNat q &&& 0x3f).toInt64) b = decide (b = q % 64) := by
  rw [own_q63]
  have : ∀ r b : Fin 64, bt ((1 : Int64) <<< (Int32.ofNat r.1).toInt64) b.1 = decide (b.1 = r.1) := by decide +kernel
  exact this ⟨q % 64, Nat.mod_lt _ (by decide)⟩ ⟨b, h⟩
theorem bt_ones (q b : Nat) (h : b < 64) : bt ((-1 : Int64) <<< (Int32.ofNat q &&& 0x3f).toInt64) b = decide (q % 64 ≤ b) := by
  rw [own_q63]
  have : ∀ r b : Fin 64, bt ((-1 : Int64) <<< (Int32.ofNat r.1).toInt64) b.1 = decide (r.1 ≤ b.1) := by decide +kernel
  exact this ⟨q % 64, Nat.mod_lt _ (by decide)⟩ ⟨b, h⟩
theorem own_ush6 (q : Nat) (h : q < 2 ^ 31) : ((Int32.ofNat q).toUInt32 >>> ((6 : Int32) &&& 31).toUInt32).toInt32 = Int32.ofNat (q / 64) := by
  apply Int32.toBitVec_inj.mp
  apply BitVec.eq_of_toNat_eq
  have e : ((6 : Int32) &&& 31).toUInt32 = 6 := by decide
  rw [e]
  show ((UInt32.ofBitVec (BitVec.ofNat 32 q)) >>> 6).toBitVec.toNat = (q / 64) % 2 ^ 32
  rw [UInt32.toBitVec_shiftRight]
  simp [Nat.shiftRight_eq_div_pow]
  omega
theorem own_shl6 (q : Nat) : Int32.ofNat q <<< ((6 : Int32) &&& 31) = Int32.ofNat (64 * q) := by
  have e : ((6 : Int32) &&& 31) = 6 := by decide
  rw [e]
  apply Int32.toBitVec_inj.mp
  apply BitVec.eq_of_toNat_eq
  show ((Int32.ofNat q) <<< (6 : Int32)).toBitVec.toNat = (64 * q) % 2 ^ 32
  rw [Int32.toBitVec_shiftLeft]
  simp [Nat.shiftLeft_eq, BitVec.toNat_shiftLeft]
  omega
theorem own_addn (a b : Nat) : Int32.ofNat a + Int32.ofNat b = Int32.ofNat (a + b) := (Int32.ofNat_add a b).symm
theorem own_nint {q : Nat} (h : q < 2 ^ 31) : (Int32.ofNat q).toInt = q := by
  have e : Int32.size = 4294967296 := rfl
  rw [Int32.toInt_ofNat', e]
  exact Int.bmod_eq_of_le (by omega) (by omega)
theorem own_ninj {a b : Nat} (ha : a < 2 ^ 31) (hb : b < 2 ^ 31) : Int32.ofNat a = Int32.ofNat b ↔ a = b := by
  constructor
  · intro q; have := congrArg Int32.toInt q; rw [own_nint ha, own_nint hb] at this; omega
  · intro q; rw [q]
theorem own_of {x : Int32} (h : 0 ≤ x.toInt) : ∃ n : Nat, x = Int32.ofNat n ∧ (n : Int) = x.toInt ∧ n < 2 ^ 31 := by
  have hl : x.toInt < 2 ^ 31 := Int32.toInt_lt x
  refine ⟨x.toInt.toNat, ?_, by omega, by omega⟩
  apply Int32.toInt_inj.mp
  rw [own_nint (by omega)]; omega
theorem own_nclamp {q : Nat} (h : q < 2 ^ 31) : (Int32.ofNat q).toNatClampNeg = q := by
  show (Int32.ofNat q).toInt.toNat = q
  rw [own_nint h]; omega
/-- the bit z of level i stands for some member -/
def Qb (S : Nat → Prop) (i z : Nat) : Prop := ∃ s, S s ∧ s / 64 ^ i = z
/-- how many bits (level 0: members) level i speaks of; level i has cw n (i + 1) words -/
def cw (n : Nat) : Nat → Nat
  | 0 => n
  | i + 1 => (cw n i + 63) / 64
theorem own_d64 (s i : Nat) : s / 64 ^ (i + 1) = s / 64 ^ i / 64 := by rw [Nat.pow_succ, Nat.div_div_eq_div_mul]
theorem cw_lt {n s : Nat} (h : s < n) : ∀ i, s / 64 ^ i < cw n i
  | 0 => by simpa [cw] using h
  | i + 1 => by have := cw_lt h i; rw [own_d64]; show _ < (cw n i + 63) / 64; omega
theorem cw_le {n : Nat} (h : 1 ≤ n) : ∀ i, 1 ≤ cw n i ∧ cw n i ≤ n
  | 0 => ⟨h, Nat.le_refl _⟩
  | i + 1 => by have := cw_le h i; show 1 ≤ (cw n i + 63) / 64 ∧ (cw n i + 63) / 64 ≤ n; omega
theorem own_up {s x i : Nat} (h : s / 64 ^ i = x / 64 ^ i) : ∀ j, i ≤ j → s / 64 ^ j = x / 64 ^ j := by
  intro j hj
  obtain ⟨d, rfl⟩ := Nat.exists_eq_add_of_le hj
  rw [Nat.pow_add, ← Nat.div_div_eq_div_mul, ← Nat.div_div_eq_div_mul, h]
theorem own_w64 {y b : Nat} (hb : b < 64) : (64 * y + b) / 64 = y := by omega
/-- adding x: the new bits of one level -/
theorem Qb_add {S : Nat → Prop} {x i z : Nat} : Qb (fun s => S s ∨ s = x) i z ↔ Qb S i z ∨ z = x / 64 ^ i := by
  constructor
  · rintro ⟨s, h | rfl, rfl⟩
    · exact Or.inl ⟨s, h, rfl⟩
    · exact Or.inr rfl
  · rintro (⟨s, h, rfl⟩ | rfl)
    · exact ⟨s, Or.inl h, rfl⟩
    · exact ⟨x, Or.inr rfl, rfl⟩
/-- a level whose word wasn't empty: above it nothing changes -/
theorem Qb_add_up {S : Nat → Prop} {x i b : Nat} (hb : b < 64) (h : Qb S i (64 * (x / 64 ^ (i + 1)) + b)) {j : Nat} (hj : i + 1 ≤ j) (z : Nat) : Qb S j z ↔ Qb (fun s => S s ∨ s = x) j z := by
  obtain ⟨s, hs, e⟩ := h
  have e1 : s / 64 ^ (i + 1) = x / 64 ^ (i + 1) := by rw [own_d64 s, e, own_w64 hb]
  constructor
  · rintro ⟨t, h, rfl⟩; exact ⟨t, Or.inl h, rfl⟩
  · rintro ⟨t, h | rfl, rfl⟩
    · exact ⟨t, h, rfl⟩
    · exact ⟨s, hs, own_up e1 j hj⟩
/-- removing x: the new bits of one level -/
theorem Qb_rem {S : Nat → Prop} {x i z : Nat} (inv : ∀ s, (S s ∧ s ≠ x) → s / 64 ^ i ≠ x / 64 ^ i) : Qb (fun s => S s ∧ s ≠ x) i z ↔ Qb S i z ∧ z ≠ x / 64 ^ i := by
  constructor
  · rintro ⟨s, h, rfl⟩; exact ⟨⟨s, h.1, rfl⟩, inv s h⟩
  · rintro ⟨⟨s, h, rfl⟩, q⟩; exact ⟨s, ⟨h, fun e => q (by rw [e])⟩, rfl⟩
theorem Qb_rem_inv {S : Nat → Prop} {x i : Nat} (h : ∀ b, b < 64 → ¬ Qb (fun s => S s ∧ s ≠ x) i (64 * (x / 64 ^ (i + 1)) + b)) : ∀ s, (S s ∧ s ≠ x) → s / 64 ^ (i + 1) ≠ x / 64 ^ (i + 1) := by
  intro s hs e
  refine h (s / 64 ^ i % 64) (Nat.mod_lt _ (by decide)) ⟨s, hs, ?_⟩
  rw [← e, own_d64 s]; omega
theorem Qb_rem_up {S : Nat → Prop} {x i b : Nat} (hb : b < 64) (h : Qb (fun s => S s ∧ s ≠ x) i (64 * (x / 64 ^ (i + 1)) + b)) {j : Nat} (hj : i + 1 ≤ j) (z : Nat) : Qb S j z ↔ Qb (fun s => S s ∧ s ≠ x) j z := by
  obtain ⟨s, hs, e⟩ := h
  have e1 : s / 64 ^ (i + 1) = x / 64 ^ (i + 1) := by rw [own_d64 s, e, own_w64 hb]
  constructor
  · rintro ⟨t, h, rfl⟩
    by_cases q : t = x
    · subst q; exact ⟨s, hs, own_up e1 j hj⟩
    · exact ⟨t, ⟨h, q⟩, rfl⟩
  · rintro ⟨t, h, rfl⟩; exact ⟨t, h.1, rfl⟩
/-- next's climb: from level i at q on -/
def Climb (S : Nat → Prop) (f i q : Nat) : Prop := ∀ s, S s → (f ≤ s ↔ q ≤ s / 64 ^ i)
theorem Climb.zero {S : Nat → Prop} {f : Nat} : Climb S f 0 f := fun s _ => by simp
theorem Climb.up {S : Nat → Prop} {f i q : Nat} (C : Climb S f i q) (h : ∀ b, b < 64 → q % 64 ≤ b → ¬ Qb S i (64 * (q / 64) + b)) : Climb S f (i + 1) (q / 64 + 1) := by
  intro s hs
  rw [C s hs, own_d64]
  constructor
  · intro hq
    apply Classical.byContradiction
    intro n
    exact h (s / 64 ^ i % 64) (Nat.mod_lt _ (by decide)) (by omega) ⟨s, hs, by omega⟩
  · intro; omega
/-- next's descent: at level i the least bit is z -/
def Desc (S : Nat → Prop) (f i z : Nat) : Prop := Qb S i z ∧ (∀ s, S s → f ≤ s → z ≤ s / 64 ^ i) ∧ ∀ s, S s → s / 64 ^ i = z → f ≤ s
theorem Climb.desc {S : Nat → Prop} {f i q t : Nat} (C : Climb S f i q) (ht : t < 64) (h1 : Qb S i (64 * (q / 64) + t)) (h2 : q % 64 ≤ t) (h3 : ∀ b, b < t → q % 64 ≤ b → ¬ Qb S i (64 * (q / 64) + b)) : Desc S f i (64 * (q / 64) + t) := by
  refine ⟨h1, fun s hs hf => ?_, fun s hs e => (C s hs).mpr (by omega)⟩
  have := (C s hs).mp hf
  apply Classical.byContradiction
  intro n
  exact h3 (s / 64 ^ i % 64) (by omega) (by omega) ⟨s, hs, by omega⟩
theorem Desc.down {S : Nat → Prop} {f i z t : Nat} (D : Desc S f (i + 1) z) (ht : t < 64) (h1 : Qb S i (64 * z + t)) (h3 : ∀ b, b < t → ¬ Qb S i (64 * z + b)) : Desc S f i (64 * z + t) := by
  obtain ⟨-, d2, d3⟩ := D
  refine ⟨h1, fun s hs hf => ?_, fun s hs e => d3 s hs (by rw [own_d64]; omega)⟩
  have := d2 s hs hf
  rw [own_d64] at this
  apply Classical.byContradiction
  intro n
  exact h3 (s / 64 ^ i % 64) (by omega) ⟨s, hs, by omega⟩
/-- what next answers -/
def Nx (S : Nat → Prop) (f : Nat) (r : Int32) : Prop := (r = -1 ∧ ∀ s, S s → s < f) ∨ ∃ z, z < 2 ^ 31 ∧ r = Int32.ofNat z ∧ S z ∧ f ≤ z ∧ ∀ s, S s → f ≤ s → z ≤ s
theorem Nx.same {S : Nat → Prop} {f : Nat} {r t : Int32} (a : Nx S f r) (b : Nx S f t) : r = t := by
  rcases a with ⟨rfl, a⟩ | ⟨z, -, rfl, a1, a2, a3⟩ <;> rcases b with ⟨rfl, b⟩ | ⟨y, -, rfl, b1, b2, b3⟩
  · rfl
  · have := a y b1; omega
  · have := b z a1; omega
  · have h1 := a3 y b1 b2; have h2 := b3 z a1 a2; rw [show z = y by omega]
theorem Climb.none {S : Nat → Prop} {n f k q : Nat} (C : Climb S f k q) (hq : 1 ≤ q) (hS : ∀ s, S s → s < n) (hk : cw n k ≤ 1) : Nx S f (-1) := by
  refine Or.inl ⟨rfl, fun s hs => ?_⟩
  have h1 := cw_lt (hS s hs) k
  have h2 := C s hs
  apply Classical.byContradiction
  intro h
  have := h2.mp (by omega)
  omega
theorem Desc.got {S : Nat → Prop} {f z : Nat} (D : Desc S f 0 z) (hz : z < 2 ^ 31) : Nx S f (Int32.ofNat z) := by
  obtain ⟨⟨s, hs, e⟩, d2, d3⟩ := D
  simp at e; subst e
  exact Or.inr ⟨s, hz, rfl, hs, d3 s hs (by simp), fun t ht hf => by simpa using d2 t ht hf⟩
theorem Desc.lt {S : Nat → Prop} {n f i z : Nat} (D : Desc S f i z) (hS : ∀ s, S s → s < n) : z < cw n i := by
  obtain ⟨⟨s, hs, e⟩, -⟩ := D
  rw [← e]; exact cw_lt (hS s hs) i
theorem own_nn {q : Nat} (h : q < 2 ^ 31) : ¬ Int32.ofNat q < 0 := by
  rw [Int32.lt_iff_toInt_lt, own_nint h, show (0 : Int32).toInt = 0 from rfl]; omega
theorem own_nlt {a b : Nat} (ha : a < 2 ^ 31) (hb : b < 2 ^ 31) (h : a < b) : Int32.ofNat a < Int32.ofNat b := by
  rw [Int32.lt_iff_toInt_lt, own_nint ha, own_nint hb]; omega
theorem own_get {ls : List Addr} {i : Nat} {la : Addr} (hl : ls[i]? = some la) (h : i < 2 ^ 31) : (ls.map Value.ref).getD (Int32.ofNat i).toNatClampNeg .null = .ref la := by
  rw [own_nclamp h]; simp [List.getD, hl]
theorem own_ushx {x : Nat} (h : x < 2 ^ 31) (i : Nat) : ((Int32.ofNat (x / 64 ^ i)).toUInt32 >>> ((6 : Int32) &&& 31).toUInt32).toInt32 = Int32.ofNat (x / 64 ^ (i + 1)) := by
  rw [own_ush6 _ (Nat.lt_of_le_of_lt (Nat.div_le_self _ _) h), own_d64]
theorem own_inc (i : Nat) : Int32.ofNat i + (1 : Int32) = Int32.ofNat (i + 1) := own_addn i 1
theorem own_dec (k : Nat) : Int32.ofNat (k + 1) - (1 : Int32) = Int32.ofNat k := by
  rw [← own_inc, Int32.add_sub_cancel]
theorem own_decm (k : Nat) : Int32.ofNat k + (-1 : Int32) = Int32.ofNat k - (1 : Int32) := by rw [Int32.sub_eq_add_neg]
theorem own_divle (x i : Nat) : x / 64 ^ i ≤ x := Nat.div_le_self _ _
/-- a level: a long[] whose n words spell the bits P -/
def Lvl (Z : State) (h : Heap) (la : Addr) (n : Nat) (P : Nat → Prop) : Prop := ∃ (ck : ClassId) (vs : List Value), Arv Z h la ck .long (Int32.ofNat n) vs (.long 0) ∧ vs.length = n ∧ ∀ y, y < n → ∃ w : Int64, vs.getD y (.long 0) = .long w ∧ ∀ b, b < 64 → (bt w b = true ↔ P (64 * y + b))
section OwnRows
variable {Z : State} {h h' : Heap} {la a a' : Addr} {n n0 y sl i x : Nat} {P P' : Nat → Prop} {v : Value} {ck : ClassId} {vs : List Value} {w w' : Int64}
theorem Lvl.other (A : Lvl Z h la n P) (W : Wr h h' a sl v) (q : la ≠ a) : Lvl Z h' la n P := by
  obtain ⟨ck, vs, A, r⟩ := A; exact ⟨ck, vs, A.other W q, r⟩
theorem Lvl.congr (A : Lvl Z h la n P) (q : ∀ z, P z ↔ P' z) : Lvl Z h la n P' := by
  obtain ⟨ck, vs, A, e, H⟩ := A
  exact ⟨ck, vs, A, e, fun y hy => by obtain ⟨w, h1, h2⟩ := H y hy; exact ⟨w, h1, fun b hb => (h2 b hb).trans (q _)⟩⟩
theorem Lvl.set (A' : Arv Z h' la ck .long (Int32.ofNat n) (vs.set y (.long w')) (.long 0)) (e : vs.length = n) (H : ∀ y, y < n → ∃ w : Int64, vs.getD y (.long 0) = .long w ∧ ∀ b, b < 64 → (bt w b = true ↔ P (64 * y + b))) (hy : y < n) (hb : ∀ b, b < 64 → (bt w' b = true ↔ P' (64 * y + b))) (ho : ∀ z, z / 64 ≠ y → (P z ↔ P' z)) : Lvl Z h' la n P' := by
  refine ⟨ck, _, A', by simp [e], fun y' hy' => ?_⟩
  by_cases q : y' = y
  · subst q; exact ⟨w', by simp [List.getD, e, hy], hb⟩
  · obtain ⟨w, h1, h2⟩ := H y' hy'
    refine ⟨w, ?_, fun b hb => (h2 b hb).trans (ho _ (by omega))⟩
    rw [← h1]; simp [List.getD, List.getElem?_set, Ne.symm q]
theorem Lvl.zero (A : Arv Z h la ck .long (Int32.ofNat n) (List.replicate n (.long 0)) (.long 0)) : Lvl Z h la n (fun _ => False) :=
  ⟨ck, _, A, by simp, fun y hy => ⟨0, by simp [List.getD, hy], fun b _ => by simp [bt_0]⟩⟩
/-- a RowSet of size n whose level i spells the bits P i -/
def RS (Z : State) (h : Heap) (n0 : Nat) (a : Addr) (n : Nat) (P : Nat → Nat → Prop) (L : Addr) (cL : ClassId) (ls : List Addr) : Prop := (Exa Z h a "com/example/align/align/rectilinear/RowSet") ∧ (Fld Z h a "com/example/align/align/rectilinear/RowSet" "levels" "[[J" (.ref L)) ∧ (Arv Z h L cL (.array .long) (Int32.ofNat ls.length) (ls.map Value.ref) .null) ∧ (∀ (i : Nat) (la : Addr), ls[i]? = some la → Lvl Z h la (cw n (i + 1)) (P i)) ∧ (∀ (i : Nat) (la : Addr), ls[i]? = some la → n0 ≤ la ∧ la ≠ L ∧ la ≠ a) ∧ (∀ (i j : Nat) (la : Addr), ls[i]? = some la → ls[j]? = some la → i = j)
theorem RS.mk {Z : State} {h : Heap} {n0 : Nat} {a : Addr} {n : Nat} {P : Nat → Nat → Prop} {L : Addr} {cL : ClassId} {ls : List Addr} (q_exa : Exa Z h a "com/example/align/align/rectilinear/RowSet") (q_fld : Fld Z h a "com/example/align/align/rectilinear/RowSet" "levels" "[[J" (.ref L)) (q_arr : Arv Z h L cL (.array .long) (Int32.ofNat ls.length) (ls.map Value.ref) .null) (q_lev : ∀ (i : Nat) (la : Addr), ls[i]? = some la → Lvl Z h la (cw n (i + 1)) (P i)) (q_ge : ∀ (i : Nat) (la : Addr), ls[i]? = some la → n0 ≤ la ∧ la ≠ L ∧ la ≠ a) (q_dist : ∀ (i j : Nat) (la : Addr), ls[i]? = some la → ls[j]? = some la → i = j) : RS Z h n0 a n P L cL ls := ⟨q_exa, q_fld, q_arr, q_lev, q_ge, q_dist⟩
theorem RS.exa {Z : State} {h : Heap} {n0 : Nat} {a : Addr} {n : Nat} {P : Nat → Nat → Prop} {L : Addr} {cL : ClassId} {ls : List Addr} (A : RS Z h n0 a n P L cL ls) : Exa Z h a "com/example/align/align/rectilinear/RowSet" := A.1
theorem RS.fld {Z : State} {h : Heap} {n0 : Nat} {a : Addr} {n : Nat} {P : Nat → Nat → Prop} {L : Addr} {cL : ClassId} {ls : List Addr} (A : RS Z h n0 a n P L cL ls) : Fld Z h a "com/example/align/align/rectilinear/RowSet" "levels" "[[J" (.ref L) := A.2.1
theorem RS.arr {Z : State} {h : Heap} {n0 : Nat} {a : Addr} {n : Nat} {P : Nat → Nat → Prop} {L : Addr} {cL : ClassId} {ls : List Addr} (A : RS Z h n0 a n P L cL ls) : Arv Z h L cL (.array .long) (Int32.ofNat ls.length) (ls.map Value.ref) .null := A.2.2.1
theorem RS.lev {Z : State} {h : Heap} {n0 : Nat} {a : Addr} {n : Nat} {P : Nat → Nat → Prop} {L : Addr} {cL : ClassId} {ls : List Addr} (A : RS Z h n0 a n P L cL ls) : ∀ (i : Nat) (la : Addr), ls[i]? = some la → Lvl Z h la (cw n (i + 1)) (P i) := A.2.2.2.1
theorem RS.ge {Z : State} {h : Heap} {n0 : Nat} {a : Addr} {n : Nat} {P : Nat → Nat → Prop} {L : Addr} {cL : ClassId} {ls : List Addr} (A : RS Z h n0 a n P L cL ls) : ∀ (i : Nat) (la : Addr), ls[i]? = some la → n0 ≤ la ∧ la ≠ L ∧ la ≠ a := A.2.2.2.2.1
theorem RS.dist {Z : State} {h : Heap} {n0 : Nat} {a : Addr} {n : Nat} {P : Nat → Nat → Prop} {L : Addr} {cL : ClassId} {ls : List Addr} (A : RS Z h n0 a n P L cL ls) : ∀ (i j : Nat) (la : Addr), ls[i]? = some la → ls[j]? = some la → i = j := A.2.2.2.2.2
variable {L : Addr} {cL : ClassId} {ls : List Addr} {PP PP' : Nat → Nat → Prop} {S : Nat → Prop}
theorem own_ltlen (hl : ls[i]? = some la) : i < ls.length := (List.getElem?_eq_some_iff.mp hl).1
theorem RS.congr (A : RS Z h n0 a n PP L cL ls) (q : ∀ j, j < ls.length → ∀ z, PP j z ↔ PP' j z) : RS Z h n0 a n PP' L cL ls :=
  RS.mk A.exa A.fld A.arr (fun j l' hj => (A.lev j l' hj).congr (q j (own_ltlen hj))) A.ge A.dist
theorem RS.upd (A : RS Z h n0 a n PP L cL ls) (hl : ls[i]? = some la) (W : Wr h h' la sl v) (B : Lvl Z h' la (cw n (i + 1)) P') (q : ∀ j, j < ls.length → ∀ z, (if j = i then P' z else PP j z) ↔ PP' j z) : RS Z h' n0 a n PP' L cL ls := by
  refine RS.mk (A.exa.wr W) (A.fld.other W (Or.inl (A.ge i la hl).2.2.symm)) (A.arr.other W (A.ge i la hl).2.1.symm) (fun j l' hj => ?_) A.ge A.dist
  by_cases e : j = i
  · subst e
    cases hl.symm.trans hj
    exact B.congr fun z => by have := q j (own_ltlen hj) z; rwa [if_pos rfl] at this
  · exact ((A.lev j l' hj).other W (fun z => e (A.dist _ _ _ (z ▸ hj) hl))).congr fun z => by have := q j (own_ltlen hj) z; rwa [if_neg e] at this
theorem RS.at (A : RS Z h n0 a n PP L cL ls) (hi : i < ls.length) : ∃ la, ls[i]? = some la := ⟨_, List.getElem?_eq_getElem hi⟩
abbrev Mix (S S' : Nat → Prop) (i j : Nat) : Nat → Prop := if j < i then Qb S' j else Qb S j
theorem Mix.self {S S' : Nat → Prop} (i : Nat) : Mix S S' i i = Qb S i := if_neg (Nat.lt_irrefl i)
theorem own_mixup {S S' : Nat → Prop} {P' : Nat → Prop} (hP : ∀ z, P' z ↔ Qb S' i z) (j z : Nat) : (if j = i then P' z else Mix S S' i j z) ↔ Mix S S' (i + 1) j z := by
  by_cases e : j = i
  · subst e; rw [if_pos rfl, hP, Mix, if_pos (by omega)]
  · rw [if_neg e, Mix, Mix]
    by_cases q : j < i
    · rw [if_pos q, if_pos (by omega)]
    · rw [if_neg q, if_neg (by omega)]
theorem own_mixall {S S' : Nat → Prop} {P' : Nat → Prop} (hP : ∀ z, P' z ↔ Qb S' i z) (hu : ∀ j, i + 1 ≤ j → ∀ z, Qb S j z ↔ Qb S' j z) (j z : Nat) : (if j = i then P' z else Mix S S' i j z) ↔ Qb S' j z := by
  by_cases e : j = i
  · subst e; rw [if_pos rfl, hP]
  · rw [if_neg e, Mix]
    by_cases q : j < i
    · rw [if_pos q]
    · rw [if_neg q]; exact hu j (by omega) z
abbrev one (x i : Nat) : Int64 := (1 : Int64) <<< ((Int32.ofNat (x / 64 ^ i)) &&& 0x3f).toInt64
theorem own_same {b : Nat} (hb : b < 64) : 64 * (x / 64 ^ (i + 1)) + b = x / 64 ^ i ↔ b = x / 64 ^ i % 64 := by rw [own_d64]; omega
/-- one turn of add -/
theorem RS.turnA (A : RS Z h n0 a n (Mix S (fun s => S s ∨ s = x) i) L cL ls) (hl : ls[i]? = some la) (W : Wr h h' la sl v) (A' : Arv Z h' la ck .long (Int32.ofNat (cw n (i + 1))) (vs.set (x / 64 ^ (i + 1)) (.long (w ||| one x i))) (.long 0)) (e : vs.length = cw n (i + 1))
    (H : ∀ y, y < cw n (i + 1) → ∃ w : Int64, vs.getD y (.long 0) = .long w ∧ ∀ b, b < 64 → (bt w b = true ↔ Mix S (fun s => S s ∨ s = x) i i (64 * y + b))) (hy : x / 64 ^ (i + 1) < cw n (i + 1)) (hw : ∀ b, b < 64 → (bt w b = true ↔ Mix S (fun s => S s ∨ s = x) i i (64 * (x / 64 ^ (i + 1)) + b))) :
    RS Z h' n0 a n (Mix S (fun s => S s ∨ s = x) (i + 1)) L cL ls ∧ (¬ w = 0 → RS Z h' n0 a n (fun j => Qb (fun s => S s ∨ s = x) j) L cL ls) := by
  rw [Mix.self] at H hw
  have B : Lvl Z h' la (cw n (i + 1)) (Qb (fun s => S s ∨ s = x) i) := by
    refine Lvl.set A' e H hy (fun b hb => ?_) (fun z hz => ?_)
    · rw [bt_or, bt_one _ _ hb, Qb_add, own_same hb, Bool.or_eq_true, hw b hb, decide_eq_true_iff]
    · rw [Qb_add]
      exact ⟨Or.inl, fun q => q.elim id fun q => absurd (by rw [q, own_d64]) hz⟩
  refine ⟨A.upd hl W B fun j _ z => own_mixup (fun _ => Iff.rfl) j z, fun q => A.upd hl W B fun j _ z => own_mixall (fun _ => Iff.rfl) (fun j hj z => ?_) j z⟩
  obtain ⟨b, hb, g⟩ := bt_ex q
  exact Qb_add_up hb ((hw b hb).mp g) hj z
/-- one turn of remove -/
theorem RS.turnR (A : RS Z h n0 a n (Mix S (fun s => S s ∧ s ≠ x) i) L cL ls) (inv : ∀ s, (S s ∧ s ≠ x) → s / 64 ^ i ≠ x / 64 ^ i) (hl : ls[i]? = some la) (W : Wr h h' la sl v) (A' : Arv Z h' la ck .long (Int32.ofNat (cw n (i + 1))) (vs.set (x / 64 ^ (i + 1)) (.long (w &&& (one x i ^^^ (-1))))) (.long 0)) (e : vs.length = cw n (i + 1))
    (H : ∀ y, y < cw n (i + 1) → ∃ w : Int64, vs.getD y (.long 0) = .long w ∧ ∀ b, b < 64 → (bt w b = true ↔ Mix S (fun s => S s ∧ s ≠ x) i i (64 * y + b))) (hy : x / 64 ^ (i + 1) < cw n (i + 1)) (hw : ∀ b, b < 64 → (bt w b = true ↔ Mix S (fun s => S s ∧ s ≠ x) i i (64 * (x / 64 ^ (i + 1)) + b))) :
    RS Z h' n0 a n (Mix S (fun s => S s ∧ s ≠ x) (i + 1)) L cL ls ∧ (w &&& (one x i ^^^ (-1)) = 0 → ∀ s, (S s ∧ s ≠ x) → s / 64 ^ (i + 1) ≠ x / 64 ^ (i + 1)) ∧ (¬ w &&& (one x i ^^^ (-1)) = 0 → RS Z h' n0 a n (fun j => Qb (fun s => S s ∧ s ≠ x) j) L cL ls) := by
  rw [Mix.self] at H hw
  have hb' : ∀ b, b < 64 → (bt (w &&& (one x i ^^^ (-1))) b = true ↔ Qb (fun s => S s ∧ s ≠ x) i (64 * (x / 64 ^ (i + 1)) + b)) := fun b hb => by
    rw [bt_and, bt_not _ _ hb, bt_one _ _ hb, Qb_rem inv, Bool.and_eq_true, hw b hb, Bool.not_eq_true', decide_eq_false_iff_not, ← own_same hb]
  have B : Lvl Z h' la (cw n (i + 1)) (Qb (fun s => S s ∧ s ≠ x) i) := by
    refine Lvl.set A' e H hy hb' (fun z hz => ?_)
    rw [Qb_rem inv]
    exact ⟨fun q => ⟨q, fun r => hz (by rw [r, own_d64])⟩, fun q => q.1⟩
  refine ⟨A.upd hl W B fun j _ z => own_mixup (fun _ => Iff.rfl) j z, fun q => Qb_rem_inv fun b hb g => ?_, fun q => A.upd hl W B fun j _ z => own_mixall (fun _ => Iff.rfl) (fun j hj z => ?_) j z⟩
  · have := (hb' b hb).mpr g
    rw [q, bt_0] at this; cases this
  · obtain ⟨b, hb, g⟩ := bt_ex q
    exact Qb_rem_up hb ((hb' b hb).mp g) hj z
theorem own_mixstart {S' : Nat → Prop} (A : RS Z h n0 a n (fun j => Qb S j) L cL ls) : RS Z h n0 a n (Mix S S' 0) L cL ls := A.congr fun j _ z => by rw [Mix, if_neg (by omega)]
theorem own_mixend {S' : Nat → Prop} (A : RS Z h n0 a n (Mix S S' i) L cL ls) (hi : ls.length ≤ i) : RS Z h n0 a n (fun j => Qb S' j) L cL ls := A.congr fun j hj z => by rw [Mix, if_pos (by omega)]
abbrev ones (q : Nat) : Int64 := (-1 : Int64) <<< ((Int32.ofNat q) &&& 0x3f).toInt64
theorem own_climb0 {f q : Nat} (C : Climb S f i q) (hw : ∀ b, b < 64 → (bt w b = true ↔ Qb S i (64 * (q / 64) + b))) (z : w &&& ones q = 0) : Climb S f (i + 1) (q / 64 + 1) := C.up fun b hb hq g => by
  have : bt (w &&& ones q) b = true := by rw [bt_and, bt_ones _ _ hb, (hw b hb).mpr g]; simpa using hq
  rw [z, bt_0] at this; cases this
theorem own_climbX {f q : Nat} (C : Climb S f i q) (hS : ∀ s, S s → s < n) (z : cw n (i + 1) ≤ q / 64) : Climb S f (i + 1) (q / 64 + 1) := C.up fun b hb hq g => by
  obtain ⟨s, hs, e⟩ := g
  have := cw_lt (hS s hs) (i + 1)
  rw [own_d64, e] at this; omega
theorem own_found {f q t : Nat} (C : Climb S f i q) (hw : ∀ b, b < 64 → (bt w b = true ↔ Qb S i (64 * (q / 64) + b))) (hl : Jvm.Free.JM.Low (w &&& ones q).toBitVec.toNat t) : Desc S f i (64 * (q / 64) + t) := by
  have ht : t < 64 := hl.lt (w &&& ones q).toBitVec.isLt
  have g : bt (w &&& ones q) t = true := hl.at
  rw [bt_and, bt_ones _ _ ht, Bool.and_eq_true, decide_eq_true_iff] at g
  refine C.desc ht ((hw t ht).mp g.1) g.2 fun b hb hq r => ?_
  have : bt (w &&& ones q) b = false := hl.below hb
  rw [bt_and, bt_ones _ _ (by omega), (hw b (by omega)).mpr r, decide_eq_true hq] at this; cases this
theorem own_down {f z t : Nat} (D : Desc S f (i + 1) z) (hw : ∀ b, b < 64 → (bt w b = true ↔ Qb S i (64 * z + b))) (hl : Jvm.Free.JM.Low w.toBitVec.toNat t) : Desc S f i (64 * z + t) := by
  have ht : t < 64 := hl.lt w.toBitVec.isLt
  refine D.down ht ((hw t ht).mp hl.at) fun b hb r => ?_
  have : bt w b = false := hl.below hb
  rw [(hw b (by omega)).mpr r] at this; cases this
theorem own_low (h : ¬ w = 0) : ∃ t, Jvm.Free.JM.Low w.toBitVec.toNat t := Jvm.Free.JM.low_ex _ fun e => h (by
  apply Int64.toBitVec_inj.mp; apply BitVec.eq_of_toNat_eq; rw [e]; rfl)
theorem own_lown {f z : Nat} (D : Desc S f (i + 1) z) (hw : ∀ b, b < 64 → (bt w b = true ↔ Qb S i (64 * z + b))) : ∃ t, Jvm.Free.JM.Low w.toBitVec.toNat t := own_low fun e => by
  obtain ⟨⟨s, hs, g⟩, -⟩ := D
  rw [own_d64] at g
  have := (hw (s / 64 ^ i % 64) (Nat.mod_lt _ (by decide))).mpr ⟨s, hs, by omega⟩
  rw [e, bt_0] at this; cases this
theorem lev_nil {R : Nat → Addr → Prop} : ∀ (i : Nat) (la : Addr), ([] : List Addr)[i]? = some la → R i la := fun i la q => by simp at q
theorem lev_cons {R : Nat → Addr → Prop} {l0 : Addr} {ls : List Addr} (h0 : R 0 l0) (h : ∀ (i : Nat) (la : Addr), ls[i]? = some la → R (i + 1) la) : ∀ (i : Nat) (la : Addr), (l0 :: ls)[i]? = some la → R i la
  | 0, la, q => by simp at q; subst q; exact h0
  | i + 1, la, q => h i la (by simpa using q)
theorem own_nodup {ls : List Addr} (q : ls.Nodup) : ∀ (i j : Nat) (la : Addr), ls[i]? = some la → ls[j]? = some la → i = j := fun i j la h1 h2 => by
  obtain ⟨a1, b1⟩ := List.getElem?_eq_some_iff.mp h1
  obtain ⟨a2, b2⟩ := List.getElem?_eq_some_iff.mp h2
  have p := List.pairwise_iff_getElem.mp q
  rcases Nat.lt_trichotomy i j with r | r | r
  · exact absurd (b1.trans b2.symm) (p i j a1 a2 r)
  · exact r
  · exact absurd (b2.trans b1.symm) (p j i a2 a1 r)
end OwnRows
section OwnRowOps
variable {p : Program} {l : Launch} {e : Env} {R : Room} {s : State} {m : MethodId} {args : Array Value} {below : List Frame} {meth : Method} {c : Code} {T : State} {locs : List Loc} {cells slots : Nat}
variable {F : State → Outcome → Prop} {pc pc' : Nat} {ls : Array Slot} {st : List Value} {Z : State} {a0 : Array Value} {h : Heap} {a : Addr} {ck : ClassId} {n j : Int32} {vs : List Value} {dv : Value}
theorem gLdiv (pc' : Nat) (X : Stand p l e R s m args below meth c T locs cells slots) (hx : p.tables.exec = Jvm.exec) {x y : Int64} (hd : decode c.code pc = .ok (.ldiv, 1)) (hy : y ≠ 0) (hp : pc + 1 = pc') (k : Goes p e below F T (mkF m pc' ls (.long (x / y) :: st))) : Goes p e below F T (mkF m pc ls (.long y :: .long x :: st)) := by
  subst hp; exact Goes.fore (fun _ q => Jvm.Free.XT.ldiv X.here hx rfl hd rfl hy q) k
theorem gNewRA (X : Stand p l e R s m args below meth c T locs cells slots) (hx : p.tables.exec = Jvm.exec) (hZ : Z.Warmed39 s.vm) {own : String} {i : Nat} (hown : s.vm.findClass own = some m.cls) (w1 : (Jvm.Cond.classLink own i "[J").before a0 Z = true) (w2 : (Jvm.Cond.arrayOver (.array .long)).before a0 Z = true) (eT : T.heap = h) (hd : decode c.code pc = .ok (.anewarray i, 3)) (hn : ¬ n < 0) {cap : Nat} (hcap : n.toNatClampNeg ≤ cap) (hb : cap * 8 ≤ 536870912) (hc : cells + 1 ≤ R.cells) (hl : slots + cap ≤ R.slots) (N : Nat) (hp : pc + 3 = pc')
    (k : ∀ T' h' b cA, Stand p l e R s m args below meth c T' locs (cells + 1) (slots + cap) → T'.heap = h' → b = h.size → Ext h h' → Arv Z h' b cA (.array .long) n (List.replicate N .null) .null → OvrA Z cA .long "[J" → Goes p e below F T' (mkF m pc' ls (.ref b :: st))) : Goes p e below F T (mkF m pc ls (.int n :: st)) := by
  subst hp
  obtain ⟨T', h', cA, X', e', E, A, Ex, O, st'⟩ := newRA X hx hZ hown (C := "[J") (ty := .long) (by decide) w1 w2 eT (g := mkF m pc ls (.int n :: st)) rfl hd rfl hn hcap hb hc hl (ad := "[[J") (by decide)
  exact Goes.fore st' (k T' h' _ cA X' e' rfl E ((Arv.new A hn).pad (pad_rep [] _ N)) O)
theorem gNewPE (X : Stand p l e R s m args below meth c T locs cells slots) (hx : p.tables.exec = Jvm.exec) (hZ : Z.Warmed39 s.vm) (w : (Jvm.Cond.arrayClass .long).before a0 Z = true) (eT : T.heap = h) (hd : decode c.code pc = .ok (.newarray .long, 2)) (hn : ¬ n < 0) {cap : Nat} (hcap : n.toNatClampNeg ≤ cap) (hb : cap * 8 ≤ 536870912) (hc : cells + 1 ≤ R.cells) (hl : slots + cap ≤ R.slots) (N : Nat) (hp : pc + 2 = pc')
    (k : ∀ T' h' b cA, Stand p l e R s m args below meth c T' locs (cells + 1) (slots + cap) → T'.heap = h' → b = h.size → Ext h h' → Arv Z h' b cA .long n (List.replicate N (.long 0)) (.long 0) → Exa Z h' b "[J" → Goes p e below F T' (mkF m pc' ls (.ref b :: st))) : Goes p e below F T (mkF m pc ls (.int n :: st)) := by
  subst hp
  obtain ⟨T', h', cA, X', e', E, A, Ex, st'⟩ := newPE X hx hZ (aty := .long) w eT (g := mkF m pc ls (.int n :: st)) rfl hd rfl hn hcap hb hc hl (ad := "[J") (by decide)
  exact Goes.fore st' (k T' h' _ cA X' e' rfl E ((Arv.new A hn).pad (pad_rep [] _ N)) Ex)
theorem gAast (X : Stand p l e R s m args below meth c T locs cells slots) (hx : p.tables.exec = Jvm.exec) (hZ : Z.Warmed39 s.vm) (eT : T.heap = h) {b : Addr} (A : Arv Z h a ck (.array .long) n vs .null) (O : OvrA Z ck .long "[J") (I : Exa Z h b "[J") (h0 : ¬ j < 0) (h1 : j < n) (i : Nat) (hj : j.toNatClampNeg = i) (hi : i < vs.length) (hd : decode c.code pc = .ok (.aastore, 1)) (hp : pc + 1 = pc')
    (k : ∀ T' h', Stand p l e R s m args below meth c T' (locs ++ [⟨a, j.toNatClampNeg⟩]) cells slots → T'.heap = h' → Wr h h' a j.toNatClampNeg (.ref b) → Arv Z h' a ck (.array .long) n (vs.set i (.ref b)) .null → Goes p e below F T' (mkF m pc' ls st)) : Goes p e below F T (mkF m pc ls (.ref b :: .int j :: .ref a :: st)) := by
  subst hp
  obtain ⟨cl, Ar, q, S, N, H, Gt⟩ := A
  obtain ⟨T', h', X', e', W, st'⟩ := stR X hx hZ eT Ar (j := j) (v := .ref b) (inb_of S ⟨h0, h1⟩) rfl (Sto.ofVA Ar q O (Ins.self I)) (g := mkF m pc ls (.ref b :: .int j :: .ref a :: st)) rfl rfl hd
  exact Goes.fore st' (k T' h' X' e' W (Arv.set Ar q S N H Gt rfl W i hj hi))
end OwnRowOps
theorem own_div64 {z : Int64} {k : Nat} (h : z.toInt = k) (hk : k < 2 ^ 40) : ((z + (63 : Int64)) / (64 : Int64)).toInt = ((k + 63) / 64 : Nat) := by
  have e1 : (z + 63).toInt = (k + 63 : Nat) := by
    rw [Int64.toInt_add, h, show (63 : Int64).toInt = 63 from rfl]
    rw [Int.bmod_eq_of_le (by omega) (by omega)]; omega
  have e2 : ((k + 63 : Nat) : Int).tdiv 64 = ((k + 63) / 64 : Nat) := (Int.ofNat_tdiv (k + 63) 64).symm
  rw [Int64.toInt_div, e1, show (64 : Int64).toInt = 64 from rfl, e2, Int.bmod_eq_of_le (by omega) (by omega)]
theorem own_l2n {z : Int64} {k : Nat} (h : z.toInt = k) (hk : k < 2 ^ 31) : z.toInt32 = Int32.ofNat k := by
  apply Int32.toInt_inj.mp
  rw [own_nint hk, Jvm.Kit.i32_of_i64 (by omega) (by omega), h]
theorem own_i2n {k : Nat} (hk : k < 2 ^ 31) : ((Int32.ofNat k).toInt64).toInt = k := by rw [Int32.toInt_toInt64, own_nint hk]
theorem own_q0 (i z : Nat) : False ↔ Qb (fun _ => False) i z := ⟨False.elim, fun ⟨_, h, _⟩ => h⟩
theorem own_gset {vs : List Value} {y k : Nat} {v d : Value} (e : vs.length = k) (hy : y < k) : (vs.set y v).getD y d = v := by simp [List.getD, e, hy]
theorem own_ltI {x y : Int32} (h : x.toInt < y.toInt) : x < y := Int32.lt_iff_toInt_lt.mpr h
theorem own_nltI {x y : Int32} (h : y.toInt ≤ x.toInt) : ¬ x < y := fun q => by have := Int32.lt_iff_toInt_lt.mp q; omega
theorem own_ne0 {n : Nat} (h1 : 1 ≤ n) (h2 : n < 2 ^ 31) : Int32.ofNat n ≠ 0 := fun q => by
  have := congrArg Int32.toInt q
  rw [own_nint h2, show (0 : Int32).toInt = 0 from rfl] at this; omega
theorem own_remI {y : Int32} {n : Nat} (hy : 0 ≤ y.toInt) (h1 : 1 ≤ n) (h2 : n < 2 ^ 31) : ∃ x : Nat, y % Int32.ofNat n = Int32.ofNat x ∧ x < n := by
  have e : (y % Int32.ofNat n).toInt = y.toInt % n := by rw [Jvm.Kit.i32_rem_nonneg hy, own_nint h2]
  have e1 := Int.emod_nonneg y.toInt (show (n : Int) ≠ 0 by omega)
  have e2 := Int.emod_lt_of_pos y.toInt (show (0 : Int) < n by omega)
  obtain ⟨x, hx, hx2, -⟩ := own_of (x := y % Int32.ofNat n) (by omega)
  exact ⟨x, hx, by omega⟩
theorem own_m31 (y : Int32) : 0 ≤ (y &&& 2147483647).toInt := by
  have e1 : (y &&& 2147483647).toInt = y.toInt % 2 ^ 31 := Jvm.Kit.i32_mask y 2147483647 (by decide) (by decide)
  omega
theorem Nx.congr {S S' : Nat → Prop} {f : Nat} {r : Int32} (q : ∀ s, S s ↔ S' s) (a : Nx S f r) : Nx S' f r := by
  rcases a with ⟨a, b⟩ | ⟨z, a, b, c, d, e⟩
  · exact Or.inl ⟨a, fun s hs => b s ((q s).mpr hs)⟩
  · exact Or.inr ⟨z, a, b, (q z).mp c, d, fun s hs => e s ((q s).mpr hs)⟩
theorem d2_0 : decode jdk_29_method_66_code 0 = .ok (.lload_n 0, 1) := by decide +kernel
theorem d2_1 : decode jdk_29_method_66_code 1 = .ok (.lload_n 2, 1) := by decide +kernel
theorem d2_2 : decode jdk_29_method_66_code 2 = .ok (.lcmp, 1) := by decide +kernel
theorem d2_3 : decode jdk_29_method_66_code 3 = .ok (.ifCond .lt 7, 3) := by decide +kernel
theorem d2_10 : decode jdk_29_method_66_code 10 = .ok (.lload_n 2, 1) := by decide +kernel
theorem d2_11 : decode jdk_29_method_66_code 11 = .ok (.lreturn, 1) := by decide +kernel
theorem d2_6 : decode jdk_29_method_66_code 6 = .ok (.lload_n 0, 1) := by decide +kernel
theorem d2_7 : decode jdk_29_method_66_code 7 = .ok (.goto 4, 3) := by decide +kernel
abbrev mn7 : MethodName := ⟨"java/lang/Math", "max", "(JJ)J"⟩
theorem c_maxJ (l : Launch) (Z : State) (a0 : Array Value) (hw : ∀ d ∈ tables_1, d.before a0 Z = true) (x y : Int64) (hxy : x.toInt ≤ y.toInt) (h0 : Heap)  :
    Ctr l Z mn7 jdk_29_method_66_code 4 (some .long) [] ⟨0, 0, 0, 0⟩ #[(.long x), (.long y)] h0 (Just h0 (.long y)) := by
  refine Ctr.of (Jvm.Free.JP.mathPlain rfl (by decide +kernel)) ?_
  intro p e s m below meth c s₁ hx H hml hret hown hnm hZ hlk X0 e0
  refine Goes.cast (show entryFrame m _ _ = mkF m 0 #[.val (.long x), .second, .val (.long y), .second] [] from rfl) ?_
  refine gLoadJN 1 X0 hx (H d2_0) rfl rfl ?_
  refine gLoadJN 2 X0 hx (H d2_1) rfl rfl ?_
  refine gLcmp 3 X0 hx (H d2_2) rfl ?_
  refine gLIfLt X0 hx (H d2_3) (pc' := 10) (by decide) (by decide) (pn := 6) rfl (fun (c3 : x.toInt < y.toInt) => ?_) (fun (c3 : y.toInt ≤ x.toInt) => ?_)
  · refine gLoadJN 11 X0 hx (H d2_10) rfl rfl ?_
    exact gRetJ X0 hx hlk hret (H d2_11) (by decide) (by decide) (⟨rfl, e0, rfl⟩)
  · refine gLoadJN 7 X0 hx (H d2_6) rfl rfl ?_
    refine gGoto X0 hx (H d2_7) (pc' := 11) (by decide) (by decide) ?_
    exact gRetJ X0 hx hlk hret (H d2_11) (by decide) (by decide) (⟨by rw [show x = y from Int64.toInt_inj.mp (by omega)], e0, rfl⟩)
theorem d4_0 : decode jdk_33_method_48_code 0 = .ok (.iload_n 0, 1) := by decide +kernel
theorem d4_1 : decode jdk_33_method_48_code 1 = .ok (.iconst (-1), 1) := by decide +kernel
theorem d4_2 : decode jdk_33_method_48_code 2 = .ok (.ixor, 1) := by decide +kernel
theorem d4_3 : decode jdk_33_method_48_code 3 = .ok (.iload_n 0, 1) := by decide +kernel
theorem d4_4 : decode jdk_33_method_48_code 4 = .ok (.iconst 1, 1) := by decide +kernel
theorem d4_5 : decode jdk_33_method_48_code 5 = .ok (.isub, 1) := by decide +kernel
theorem d4_6 : decode jdk_33_method_48_code 6 = .ok (.iand, 1) := by decide +kernel
theorem d4_7 : decode jdk_33_method_48_code 7 = .ok (.istore_n 0, 1) := by decide +kernel
theorem d4_8 : decode jdk_33_method_48_code 8 = .ok (.iload_n 0, 1) := by decide +kernel
theorem d4_9 : decode jdk_33_method_48_code 9 = .ok (.ifCond .gt 8, 3) := by decide +kernel
theorem d4_17 : decode jdk_33_method_48_code 17 = .ok (.iconst 1, 1) := by decide +kernel
theorem d4_18 : decode jdk_33_method_48_code 18 = .ok (.istore_n 1, 1) := by decide +kernel
theorem d4_19 : decode jdk_33_method_48_code 19 = .ok (.iload_n 0, 1) := by decide +kernel
theorem d4_20 : decode jdk_33_method_48_code 20 = .ok (.ldc_w 264, 3) := by decide +kernel
theorem d4_23 : decode jdk_33_method_48_code 23 = .ok (.if_icmp .le 11, 3) := by decide +kernel
theorem d4_34 : decode jdk_33_method_48_code 34 = .ok (.iload_n 0, 1) := by decide +kernel
theorem d4_35 : decode jdk_33_method_48_code 35 = .ok (.sipush 256, 3) := by decide +kernel
theorem d4_38 : decode jdk_33_method_48_code 38 = .ok (.if_icmp .le 11, 3) := by decide +kernel
theorem d4_49 : decode jdk_33_method_48_code 49 = .ok (.iload_n 0, 1) := by decide +kernel
theorem d4_50 : decode jdk_33_method_48_code 50 = .ok (.bipush 16, 2) := by decide +kernel
theorem d4_52 : decode jdk_33_method_48_code 52 = .ok (.if_icmp .le 10, 3) := by decide +kernel
theorem d4_62 : decode jdk_33_method_48_code 62 = .ok (.iload_n 0, 1) := by decide +kernel
theorem d4_63 : decode jdk_33_method_48_code 63 = .ok (.iconst 4, 1) := by decide +kernel
theorem d4_64 : decode jdk_33_method_48_code 64 = .ok (.if_icmp .le 10, 3) := by decide +kernel
theorem d4_74 : decode jdk_33_method_48_code 74 = .ok (.iload_n 1, 1) := by decide +kernel
theorem d4_75 : decode jdk_33_method_48_code 75 = .ok (.iload_n 0, 1) := by decide +kernel
theorem d4_76 : decode jdk_33_method_48_code 76 = .ok (.iconst 1, 1) := by decide +kernel
theorem d4_77 : decode jdk_33_method_48_code 77 = .ok (.iushr, 1) := by decide +kernel
theorem d4_78 : decode jdk_33_method_48_code 78 = .ok (.iadd, 1) := by decide +kernel
theorem d4_79 : decode jdk_33_method_48_code 79 = .ok (.ireturn, 1) := by decide +kernel
theorem d4_67 : decode jdk_33_method_48_code 67 = .ok (.iinc 1 2, 3) := by decide +kernel
theorem d4_70 : decode jdk_33_method_48_code 70 = .ok (.iload_n 0, 1) := by decide +kernel
theorem d4_71 : decode jdk_33_method_48_code 71 = .ok (.iconst 2, 1) := by decide +kernel
theorem d4_72 : decode jdk_33_method_48_code 72 = .ok (.iushr, 1) := by decide +kernel
theorem d4_73 : decode jdk_33_method_48_code 73 = .ok (.istore_n 0, 1) := by decide +kernel
theorem d4_55 : decode jdk_33_method_48_code 55 = .ok (.iinc 1 4, 3) := by decide +kernel
theorem d4_58 : decode jdk_33_method_48_code 58 = .ok (.iload_n 0, 1) := by decide +kernel
theorem d4_59 : decode jdk_33_method_48_code 59 = .ok (.iconst 4, 1) := by decide +kernel
theorem d4_60 : decode jdk_33_method_48_code 60 = .ok (.iushr, 1) := by decide +kernel
theorem d4_61 : decode jdk_33_method_48_code 61 = .ok (.istore_n 0, 1) := by decide +kernel
theorem d4_41 : decode jdk_33_method_48_code 41 = .ok (.iinc 1 8, 3) := by decide +kernel
theorem d4_44 : decode jdk_33_method_48_code 44 = .ok (.iload_n 0, 1) := by decide +kernel
theorem d4_45 : decode jdk_33_method_48_code 45 = .ok (.bipush 8, 2) := by decide +kernel
theorem d4_47 : decode jdk_33_method_48_code 47 = .ok (.iushr, 1) := by decide +kernel
theorem d4_48 : decode jdk_33_method_48_code 48 = .ok (.istore_n 0, 1) := by decide +kernel
theorem d4_26 : decode jdk_33_method_48_code 26 = .ok (.iinc 1 16, 3) := by decide +kernel
theorem d4_29 : decode jdk_33_method_48_code 29 = .ok (.iload_n 0, 1) := by decide +kernel
theorem d4_30 : decode jdk_33_method_48_code 30 = .ok (.bipush 16, 2) := by decide +kernel
theorem d4_32 : decode jdk_33_method_48_code 32 = .ok (.iushr, 1) := by decide +kernel
theorem d4_33 : decode jdk_33_method_48_code 33 = .ok (.istore_n 0, 1) := by decide +kernel
theorem d4_12 : decode jdk_33_method_48_code 12 = .ok (.iload_n 0, 1) := by decide +kernel
theorem d4_13 : decode jdk_33_method_48_code 13 = .ok (.bipush 32, 2) := by decide +kernel
theorem d4_15 : decode jdk_33_method_48_code 15 = .ok (.iand, 1) := by decide +kernel
theorem d4_16 : decode jdk_33_method_48_code 16 = .ok (.ireturn, 1) := by decide +kernel
abbrev mn4 : MethodName := ⟨"java/lang/Integer", "numberOfTrailingZeros", "(I)I"⟩
theorem pn_2 : plainName "java/lang/Integer" = true := by first | (simp [plainName, overriddenIn]; done) | decide +kernel
theorem c_ntzI (l : Launch) (Z : State) (a0 : Array Value) (hw : ∀ d ∈ tables_1, d.before a0 Z = true) (x : Int32) (h0 : Heap)  :
    Ctr l Z mn4 jdk_33_method_48_code 2 (some .int) [] ⟨0, 0, 0, 0⟩ #[(.int x)] h0 (Just h0 (.int (Jvm.Free.JP.Integer_numberOfTrailingZeros_I.val x))) := by
  refine Ctr.of (plainFor_of_name pn_2) ?_
  intro p e s m below meth c s₁ hx H hml hret hown hnm hZ hlk X0 e0
  refine Goes.cast (show entryFrame m _ _ = mkF m 0 #[.val (.int x), .unset] [] from rfl) ?_
  refine gLoadIN 1 X0 hx (H d4_0) rfl rfl ?_
  refine gIconst 2 X0 hx (v := (-1 : Int32)) (H d4_1) rfl rfl ?_
  refine gIxor 3 X0 hx (H d4_2) rfl ?_
  refine gLoadIN 4 X0 hx (H d4_3) rfl rfl ?_
  refine gIconst 5 X0 hx (v := (1 : Int32)) (H d4_4) rfl rfl ?_
  refine gIsub 6 X0 hx (H d4_5) rfl ?_
  refine gIand 7 X0 hx (H d4_6) rfl ?_
  refine gStoreIN 8 X0 hx (H d4_7) (l' := #[.val (.int ((x ^^^ (-1 : Int32)) &&& (x - (1 : Int32)))), .unset]) rfl rfl ?_
  refine gLoadIN 9 X0 hx (H d4_8) rfl rfl ?_
  refine gIfGt X0 hx (H d4_9) (pc' := 17) (by decide) (by decide) (pn := 12) rfl (fun (c9 : (0 : Int) < ((x ^^^ (-1 : Int32)) &&& (x - (1 : Int32))).toInt) => ?_) (fun (c9 : ((x ^^^ (-1 : Int32)) &&& (x - (1 : Int32))).toInt ≤ (0 : Int)) => ?_)
  · refine gIconst 18 X0 hx (v := (1 : Int32)) (H d4_17) rfl rfl ?_
    refine gStoreIN 19 X0 hx (H d4_18) (l' := #[.val (.int ((x ^^^ (-1 : Int32)) &&& (x - (1 : Int32)))), .val (.int (1 : Int32))]) rfl rfl ?_
    refine gLoadIN 20 X0 hx (H d4_19) rfl rfl ?_
    refine gLdcW 23 X0 hx hZ hown (ow hw 48 rfl) (H d4_20) rfl ?_
    refine gIcmpLe X0 hx (H d4_23) (pc' := 34) (by decide) (by decide) (pn := 26) rfl (fun (c23 : ((x ^^^ (-1 : Int32)) &&& (x - (1 : Int32))).toInt ≤ (65536 : Int)) => ?_) (fun (c23 : (65536 : Int) < ((x ^^^ (-1 : Int32)) &&& (x - (1 : Int32))).toInt) => ?_)
    · refine gLoadIN 35 X0 hx (H d4_34) rfl rfl ?_
      refine gSipush 38 X0 hx (v := (256 : Int32)) (H d4_35) rfl rfl ?_
      refine gIcmpLe X0 hx (H d4_38) (pc' := 49) (by decide) (by decide) (pn := 41) rfl (fun (c38 : ((x ^^^ (-1 : Int32)) &&& (x - (1 : Int32))).toInt ≤ (256 : Int)) => ?_) (fun (c38 : (256 : Int) < ((x ^^^ (-1 : Int32)) &&& (x - (1 : Int32))).toInt) => ?_)
      · refine gLoadIN 50 X0 hx (H d4_49) rfl rfl ?_
        refine gBipush 52 X0 hx (v := (16 : Int32)) (H d4_50) rfl rfl ?_
        refine gIcmpLe X0 hx (H d4_52) (pc' := 62) (by decide) (by decide) (pn := 55) rfl (fun (c52 : ((x ^^^ (-1 : Int32)) &&& (x - (1 : Int32))).toInt ≤ (16 : Int)) => ?_) (fun (c52 : (16 : Int) < ((x ^^^ (-1 : Int32)) &&& (x - (1 : Int32))).toInt) => ?_)
        · refine gLoadIN 63 X0 hx (H d4_62) rfl rfl ?_
          refine gIconst 64 X0 hx (v := (4 : Int32)) (H d4_63) rfl rfl ?_
          refine gIcmpLe X0 hx (H d4_64) (pc' := 74) (by decide) (by decide) (pn := 67) rfl (fun (c64 : ((x ^^^ (-1 : Int32)) &&& (x - (1 : Int32))).toInt ≤ (4 : Int)) => ?_) (fun (c64 : (4 : Int) < ((x ^^^ (-1 : Int32)) &&& (x - (1 : Int32))).toInt) => ?_)
          · refine gLoadIN 75 X0 hx (H d4_74) rfl rfl ?_
            refine gLoadIN 76 X0 hx (H d4_75) rfl rfl ?_
            refine gIconst 77 X0 hx (v := (1 : Int32)) (H d4_76) rfl rfl ?_
            refine gIushr 78 X0 hx (H d4_77) rfl ?_
            refine gIadd 79 X0 hx (H d4_78) rfl ?_
            exact gRetI X0 hx hlk hret (H d4_79) (by decide) (by decide) (⟨by unfold Jvm.Free.JP.Integer_numberOfTrailingZeros_I.val Jvm.Free.XT.ushr; rw [if_pos (own_ltI (x := 0) c9), if_neg (own_nltI (x := 65536) c23), if_neg (own_nltI (x := 256) c38), if_neg (own_nltI (x := 16) c52), if_neg (own_nltI (x := 4) c64)] <;> rfl, e0, rfl⟩)
          · refine gIinc X0 hx (v := (2 : Int32)) (H d4_67) (l' := #[.val (.int ((x ^^^ (-1 : Int32)) &&& (x - (1 : Int32)))), .val (.int (3 : Int32))]) (pc' := 70) rfl rfl rfl rfl ?_
            refine gLoadIN 71 X0 hx (H d4_70) rfl rfl ?_
            refine gIconst 72 X0 hx (v := (2 : Int32)) (H d4_71) rfl rfl ?_
            refine gIushr 73 X0 hx (H d4_72) rfl ?_
            refine gStoreIN 74 X0 hx (H d4_73) (l' := #[.val (.int ((((x ^^^ (-1 : Int32)) &&& (x - (1 : Int32))).toUInt32 >>> ((2 : Int32) &&& 31).toUInt32).toInt32)), .val (.int (3 : Int32))]) rfl rfl ?_
            refine gLoadIN 75 X0 hx (H d4_74) rfl rfl ?_
            refine gLoadIN 76 X0 hx (H d4_75) rfl rfl ?_
            refine gIconst 77 X0 hx (v := (1 : Int32)) (H d4_76) rfl rfl ?_
            refine gIushr 78 X0 hx (H d4_77) rfl ?_
            refine gIadd 79 X0 hx (H d4_78) rfl ?_
            exact gRetI X0 hx hlk hret (H d4_79) (by decide) (by decide) (⟨by unfold Jvm.Free.JP.Integer_numberOfTrailingZeros_I.val Jvm.Free.XT.ushr; rw [if_pos (own_ltI (x := 0) c9), if_neg (own_nltI (x := 65536) c23), if_neg (own_nltI (x := 256) c38), if_neg (own_nltI (x := 16) c52), if_pos (own_ltI (x := 4) c64)] <;> rfl, e0, rfl⟩)
        · refine gIinc X0 hx (v := (4 : Int32)) (H d4_55) (l' := #[.val (.int ((x ^^^ (-1 : Int32)) &&& (x - (1 : Int32)))), .val (.int (5 : Int32))]) (pc' := 58) rfl rfl rfl rfl ?_
          refine gLoadIN 59 X0 hx (H d4_58) rfl rfl ?_
          refine gIconst 60 X0 hx (v := (4 : Int32)) (H d4_59) rfl rfl ?_
          refine gIushr 61 X0 hx (H d4_60) rfl ?_
          refine gStoreIN 62 X0 hx (H d4_61) (l' := #[.val (.int ((((x ^^^ (-1 : Int32)) &&& (x - (1 : Int32))).toUInt32 >>> ((4 : Int32) &&& 31).toUInt32).toInt32)), .val (.int (5 : Int32))]) rfl rfl ?_
          refine gLoadIN 63 X0 hx (H d4_62) rfl rfl ?_
          refine gIconst 64 X0 hx (v := (4 : Int32)) (H d4_63) rfl rfl ?_
          refine gIcmpLe X0 hx (H d4_64) (pc' := 74) (by decide) (by decide) (pn := 67) rfl (fun (c64 : ((((x ^^^ (-1 : Int32)) &&& (x - (1 : Int32))).toUInt32 >>> ((4 : Int32) &&& 31).toUInt32).toInt32).toInt ≤ (4 : Int)) => ?_) (fun (c64 : (4 : Int) < ((((x ^^^ (-1 : Int32)) &&& (x - (1 : Int32))).toUInt32 >>> ((4 : Int32) &&& 31).toUInt32).toInt32).toInt) => ?_)
          · refine gLoadIN 75 X0 hx (H d4_74) rfl rfl ?_
            refine gLoadIN 76 X0 hx (H d4_75) rfl rfl ?_
            refine gIconst 77 X0 hx (v := (1 : Int32)) (H d4_76) rfl rfl ?_
            refine gIushr 78 X0 hx (H d4_77) rfl ?_
            refine gIadd 79 X0 hx (H d4_78) rfl ?_
            exact gRetI X0 hx hlk hret (H d4_79) (by decide) (by decide) (⟨by unfold Jvm.Free.JP.Integer_numberOfTrailingZeros_I.val Jvm.Free.XT.ushr; rw [if_pos (own_ltI (x := 0) c9), if_neg (own_nltI (x := 65536) c23), if_neg (own_nltI (x := 256) c38), if_pos (own_ltI (x := 16) c52), if_neg (own_nltI (x := 4) c64)] <;> rfl, e0, rfl⟩)
          · refine gIinc X0 hx (v := (2 : Int32)) (H d4_67) (l' := #[.val (.int ((((x ^^^ (-1 : Int32)) &&& (x - (1 : Int32))).toUInt32 >>> ((4 : Int32) &&& 31).toUInt32).toInt32)), .val (.int (7 : Int32))]) (pc' := 70) rfl rfl rfl rfl ?_
            refine gLoadIN 71 X0 hx (H d4_70) rfl rfl ?_
            refine gIconst 72 X0 hx (v := (2 : Int32)) (H d4_71) rfl rfl ?_
            refine gIushr 73 X0 hx (H d4_72) rfl ?_
            refine gStoreIN 74 X0 hx (H d4_73) (l' := #[.val (.int ((((((x ^^^ (-1 : Int32)) &&& (x - (1 : Int32))).toUInt32 >>> ((4 : Int32) &&& 31).toUInt32).toInt32).toUInt32 >>> ((2 : Int32) &&& 31).toUInt32).toInt32)), .val (.int (7 : Int32))]) rfl rfl ?_
            refine gLoadIN 75 X0 hx (H d4_74) rfl rfl ?_
            refine gLoadIN 76 X0 hx (H d4_75) rfl rfl ?_
            refine gIconst 77 X0 hx (v := (1 : Int32)) (H d4_76) rfl rfl ?_
            refine gIushr 78 X0 hx (H d4_77) rfl ?_
            refine gIadd 79 X0 hx (H d4_78) rfl ?_
            exact gRetI X0 hx hlk hret (H d4_79) (by decide) (by decide) (⟨by unfold Jvm.Free.JP.Integer_numberOfTrailingZeros_I.val Jvm.Free.XT.ushr; rw [if_pos (own_ltI (x := 0) c9), if_neg (own_nltI (x := 65536) c23), if_neg (own_nltI (x := 256) c38), if_pos (own_ltI (x := 16) c52), if_pos (own_ltI (x := 4) c64)] <;> rfl, e0, rfl⟩)
      · refine gIinc X0 hx (v := (8 : Int32)) (H d4_41) (l' := #[.val (.int ((x ^^^ (-1 : Int32)) &&& (x - (1 : Int32)))), .val (.int (9 : Int32))]) (pc' := 44) rfl rfl rfl rfl ?_
        refine gLoadIN 45 X0 hx (H d4_44) rfl rfl ?_
        refine gBipush 47 X0 hx (v := (8 : Int32)) (H d4_45) rfl rfl ?_
        refine gIushr 48 X0 hx (H d4_47) rfl ?_
        refine gStoreIN 49 X0 hx (H d4_48) (l' := #[.val (.int ((((x ^^^ (-1 : Int32)) &&& (x - (1 : Int32))).toUInt32 >>> ((8 : Int32) &&& 31).toUInt32).toInt32)), .val (.int (9 : Int32))]) rfl rfl ?_
        refine gLoadIN 50 X0 hx (H d4_49) rfl rfl ?_
        refine gBipush 52 X0 hx (v := (16 : Int32)) (H d4_50) rfl rfl ?_
        refine gIcmpLe X0 hx (H d4_52) (pc' := 62) (by decide) (by decide) (pn := 55) rfl (fun (c52 : ((((x ^^^ (-1 : Int32)) &&& (x - (1 : Int32))).toUInt32 >>> ((8 : Int32) &&& 31).toUInt32).toInt32).toInt ≤ (16 : Int)) => ?_) (fun (c52 : (16 : Int) < ((((x ^^^ (-1 : Int32)) &&& (x - (1 : Int32))).toUInt32 >>> ((8 : Int32) &&& 31).toUInt32).toInt32).toInt) => ?_)
        · refine gLoadIN 63 X0 hx (H d4_62) rfl rfl ?_
          refine gIconst 64 X0 hx (v := (4 : Int32)) (H d4_63) rfl rfl ?_
          refine gIcmpLe X0 hx (H d4_64) (pc' := 74) (by decide) (by decide) (pn := 67) rfl (fun (c64 : ((((x ^^^ (-1 : Int32)) &&& (x - (1 : Int32))).toUInt32 >>> ((8 : Int32) &&& 31).toUInt32).toInt32).toInt ≤ (4 : Int)) => ?_) (fun (c64 : (4 : Int) < ((((x ^^^ (-1 : Int32)) &&& (x - (1 : Int32))).toUInt32 >>> ((8 : Int32) &&& 31).toUInt32).toInt32).toInt) => ?_)
          · refine gLoadIN 75 X0 hx (H d4_74) rfl rfl ?_
            refine gLoadIN 76 X0 hx (H d4_75) rfl rfl ?_
            refine gIconst 77 X0 hx (v := (1 : Int32)) (H d4_76) rfl rfl ?_
            refine gIushr 78 X0 hx (H d4_77) rfl ?_
            refine gIadd 79 X0 hx (H d4_78) rfl ?_
            exact gRetI X0 hx hlk hret (H d4_79) (by decide) (by decide) (⟨by unfold Jvm.Free.JP.Integer_numberOfTrailingZeros_I.val Jvm.Free.XT.ushr; rw [if_pos (own_ltI (x := 0) c9), if_neg (own_nltI (x := 65536) c23), if_pos (own_ltI (x := 256) c38), if_neg (own_nltI (x := 16) c52), if_neg (own_nltI (x := 4) c64)] <;> rfl, e0, rfl⟩)
          · refine gIinc X0 hx (v := (2 : Int32)) (H d4_67) (l' := #[.val (.int ((((x ^^^ (-1 : Int32)) &&& (x - (1 : Int32))).toUInt32 >>> ((8 : Int32) &&& 31).toUInt32).toInt32)), .val (.int (11 : Int32))]) (pc' := 70) rfl rfl rfl rfl ?_
            refine gLoadIN 71 X0 hx (H d4_70) rfl rfl ?_
            refine gIconst 72 X0 hx (v := (2 : Int32)) (H d4_71) rfl rfl ?_
            refine gIushr 73 X0 hx (H d4_72) rfl ?_
            refine gStoreIN 74 X0 hx (H d4_73) (l' := #[.val (.int ((((((x ^^^ (-1 : Int32)) &&& (x - (1 : Int32))).toUInt32 >>> ((8 : Int32) &&& 31).toUInt32).toInt32).toUInt32 >>> ((2 : Int32) &&& 31).toUInt32).toInt32)), .val (.int (11 : Int32))]) rfl rfl ?_
            refine gLoadIN 75 X0 hx (H d4_74) rfl rfl ?_
            refine gLoadIN 76 X0 hx (H d4_75) rfl rfl ?_
            refine gIconst 77 X0 hx (v := (1 : Int32)) (H d4_76) rfl rfl ?_
            refine gIushr 78 X0 hx (H d4_77) rfl ?_
            refine gIadd 79 X0 hx (H d4_78) rfl ?_
            exact gRetI X0 hx hlk hret (H d4_79) (by decide) (by decide) (⟨by unfold Jvm.Free.JP.Integer_numberOfTrailingZeros_I.val Jvm.Free.XT.ushr; rw [if_pos (own_ltI (x := 0) c9), if_neg (own_nltI (x := 65536) c23), if_pos (own_ltI (x := 256) c38), if_neg (own_nltI (x := 16) c52), if_pos (own_ltI (x := 4) c64)] <;> rfl, e0, rfl⟩)
        · refine gIinc X0 hx (v := (4 : Int32)) (H d4_55) (l' := #[.val (.int ((((x ^^^ (-1 : Int32)) &&& (x - (1 : Int32))).toUInt32 >>> ((8 : Int32) &&& 31).toUInt32).toInt32)), .val (.int (13 : Int32))]) (pc' := 58) rfl rfl rfl rfl ?_
          refine gLoadIN 59 X0 hx (H d4_58) rfl rfl ?_
          refine gIconst 60 X0 hx (v := (4 : Int32)) (H d4_59) rfl rfl ?_
          refine gIushr 61 X0 hx (H d4_60) rfl ?_
          refine gStoreIN 62 X0 hx (H d4_61) (l' := #[.val (.int ((((((x ^^^ (-1 : Int32)) &&& (x - (1 : Int32))).toUInt32 >>> ((8 : Int32) &&& 31).toUInt32).toInt32).toUInt32 >>> ((4 : Int32) &&& 31).toUInt32).toInt32)), .val (.int (13 : Int32))]) rfl rfl ?_
          refine gLoadIN 63 X0 hx (H d4_62) rfl rfl ?_
          refine gIconst 64 X0 hx (v := (4 : Int32)) (H d4_63) rfl rfl ?_
          refine gIcmpLe X0 hx (H d4_64) (pc' := 74) (by decide) (by decide) (pn := 67) rfl (fun (c64 : ((((((x ^^^ (-1 : Int32)) &&& (x - (1 : Int32))).toUInt32 >>> ((8 : Int32) &&& 31).toUInt32).toInt32).toUInt32 >>> ((4 : Int32) &&& 31).toUInt32).toInt32).toInt ≤ (4 : Int)) => ?_) (fun (c64 : (4 : Int) < ((((((x ^^^ (-1 : Int32)) &&& (x - (1 : Int32))).toUInt32 >>> ((8 : Int32) &&& 31).toUInt32).toInt32).toUInt32 >>> ((4 : Int32) &&& 31).toUInt32).toInt32).toInt) => ?_)
          · refine gLoadIN 75 X0 hx (H d4_74) rfl rfl ?_
            refine gLoadIN 76 X0 hx (H d4_75) rfl rfl ?_
            refine gIconst 77 X0 hx (v := (1 : Int32)) (H d4_76) rfl rfl ?_
            refine gIushr 78 X0 hx (H d4_77) rfl ?_
            refine gIadd 79 X0 hx (H d4_78) rfl ?_
            exact gRetI X0 hx hlk hret (H d4_79) (by decide) (by decide) (⟨by unfold Jvm.Free.JP.Integer_numberOfTrailingZeros_I.val Jvm.Free.XT.ushr; rw [if_pos (own_ltI (x := 0) c9), if_neg (own_nltI (x := 65536) c23), if_pos (own_ltI (x := 256) c38), if_pos (own_ltI (x := 16) c52), if_neg (own_nltI (x := 4) c64)] <;> rfl, e0, rfl⟩)
          · refine gIinc X0 hx (v := (2 : Int32)) (H d4_67) (l' := #[.val (.int ((((((x ^^^ (-1 : Int32)) &&& (x - (1 : Int32))).toUInt32 >>> ((8 : Int32) &&& 31).toUInt32).toInt32).toUInt32 >>> ((4 : Int32) &&& 31).toUInt32).toInt32)), .val (.int (15 : Int32))]) (pc' := 70) rfl rfl rfl rfl ?_
            refine gLoadIN 71 X0 hx (H d4_70) rfl rfl ?_
            refine gIconst 72 X0 hx (v := (2 : Int32)) (H d4_71) rfl rfl ?_
            refine gIushr 73 X0 hx (H d4_72) rfl ?_
            refine gStoreIN 74 X0 hx (H d4_73) (l' := #[.val (.int ((((((((x ^^^ (-1 : Int32)) &&& (x - (1 : Int32))).toUInt32 >>> ((8 : Int32) &&& 31).toUInt32).toInt32).toUInt32 >>> ((4 : Int32) &&& 31).toUInt32).toInt32).toUInt32 >>> ((2 : Int32) &&& 31).toUInt32).toInt32)), .val (.int (15 : Int32))]) rfl rfl ?_
            refine gLoadIN 75 X0 hx (H d4_74) rfl rfl ?_
            refine gLoadIN 76 X0 hx (H d4_75) rfl rfl ?_
            refine gIconst 77 X0 hx (v := (1 : Int32)) (H d4_76) rfl rfl ?_
            refine gIushr 78 X0 hx (H d4_77) rfl ?_
            refine gIadd 79 X0 hx (H d4_78) rfl ?_
            exact gRetI X0 hx hlk hret (H d4_79) (by decide) (by decide) (⟨by unfold Jvm.Free.JP.Integer_numberOfTrailingZeros_I.val Jvm.Free.XT.ushr; rw [if_pos (own_ltI (x := 0) c9), if_neg (own_nltI (x := 65536) c23), if_pos (own_ltI (x := 256) c38), if_pos (own_ltI (x := 16) c52), if_pos (own_ltI (x := 4) c64)] <;> rfl, e0, rfl⟩)
    · refine gIinc X0 hx (v := (16 : Int32)) (H d4_26) (l' := #[.val (.int ((x ^^^ (-1 : Int32)) &&& (x - (1 : Int32)))), .val (.int (17 : Int32))]) (pc' := 29) rfl rfl rfl rfl ?_
      refine gLoadIN 30 X0 hx (H d4_29) rfl rfl ?_
      refine gBipush 32 X0 hx (v := (16 : Int32)) (H d4_30) rfl rfl ?_
      refine gIushr 33 X0 hx (H d4_32) rfl ?_
      refine gStoreIN 34 X0 hx (H d4_33) (l' := #[.val (.int ((((x ^^^ (-1 : Int32)) &&& (x - (1 : Int32))).toUInt32 >>> ((16 : Int32) &&& 31).toUInt32).toInt32)), .val (.int (17 : Int32))]) rfl rfl ?_
      refine gLoadIN 35 X0 hx (H d4_34) rfl rfl ?_
      refine gSipush 38 X0 hx (v := (256 : Int32)) (H d4_35) rfl rfl ?_
      refine gIcmpLe X0 hx (H d4_38) (pc' := 49) (by decide) (by decide) (pn := 41) rfl (fun (c38 : ((((x ^^^ (-1 : Int32)) &&& (x - (1 : Int32))).toUInt32 >>> ((16 : Int32) &&& 31).toUInt32).toInt32).toInt ≤ (256 : Int)) => ?_) (fun (c38 : (256 : Int) < ((((x ^^^ (-1 : Int32)) &&& (x - (1 : Int32))).toUInt32 >>> ((16 : Int32) &&& 31).toUInt32).toInt32).toInt) => ?_)
      · refine gLoadIN 50 X0 hx (H d4_49) rfl rfl ?_
        refine gBipush 52 X0 hx (v := (16 : Int32)) (H d4_50) rfl rfl ?_
        refine gIcmpLe X0 hx (H d4_52) (pc' := 62) (by decide) (by decide) (pn := 55) rfl (fun (c52 : ((((x ^^^ (-1 : Int32)) &&& (x - (1 : Int32))).toUInt32 >>> ((16 : Int32) &&& 31).toUInt32).toInt32).toInt ≤ (16 : Int)) => ?_) (fun (c52 : (16 : Int) < ((((x ^^^ (-1 : Int32)) &&& (x - (1 : Int32))).toUInt32 >>> ((16 : Int32) &&& 31).toUInt32).toInt32).toInt) => ?_)
        · refine gLoadIN 63 X0 hx (H d4_62) rfl rfl ?_
          refine gIconst 64 X0 hx (v := (4 : Int32)) (H d4_63) rfl rfl ?_
          refine gIcmpLe X0 hx (H d4_64) (pc' := 74) (by decide) (by decide) (pn := 67) rfl (fun (c64 : ((((x ^^^ (-1 : Int32)) &&& (x - (1 : Int32))).toUInt32 >>> ((16 : Int32) &&& 31).toUInt32).toInt32).toInt ≤ (4 : Int)) => ?_) (fun (c64 : (4 : Int) < ((((x ^^^ (-1 : Int32)) &&& (x - (1 : Int32))).toUInt32 >>> ((16 : Int32) &&& 31).toUInt32).toInt32).toInt) => ?_)
          · refine gLoadIN 75 X0 hx (H d4_74) rfl rfl ?_
            refine gLoadIN 76 X0 hx (H d4_75) rfl rfl ?_
            refine gIconst 77 X0 hx (v := (1 : Int32)) (H d4_76) rfl rfl ?_
            refine gIushr 78 X0 hx (H d4_77) rfl ?_
            refine gIadd 79 X0 hx (H d4_78) rfl ?_
            exact gRetI X0 hx hlk hret (H d4_79) (by decide) (by decide) (⟨by unfold Jvm.Free.JP.Integer_numberOfTrailingZeros_I.val Jvm.Free.XT.ushr; rw [if_pos (own_ltI (x := 0) c9), if_pos (own_ltI (x := 65536) c23), if_neg (own_nltI (x := 256) c38), if_neg (own_nltI (x := 16) c52), if_neg (own_nltI (x := 4) c64)] <;> rfl, e0, rfl⟩)
          · refine gIinc X0 hx (v := (2 : Int32)) (H d4_67) (l' := #[.val (.int ((((x ^^^ (-1 : Int32)) &&& (x - (1 : Int32))).toUInt32 >>> ((16 : Int32) &&& 31).toUInt32).toInt32)), .val (.int (19 : Int32))]) (pc' := 70) rfl rfl rfl rfl ?_
            refine gLoadIN 71 X0 hx (H d4_70) rfl rfl ?_
            refine gIconst 72 X0 hx (v := (2 : Int32)) (H d4_71) rfl rfl ?_
            refine gIushr 73 X0 hx (H d4_72) rfl ?_
            refine gStoreIN 74 X0 hx (H d4_73) (l' := #[.val (.int ((((((x ^^^ (-1 : Int32)) &&& (x - (1 : Int32))).toUInt32 >>> ((16 : Int32) &&& 31).toUInt32).toInt32).toUInt32 >>> ((2 : Int32) &&& 31).toUInt32).toInt32)), .val (.int (19 : Int32))]) rfl rfl ?_
            refine gLoadIN 75 X0 hx (H d4_74) rfl rfl ?_
            refine gLoadIN 76 X0 hx (H d4_75) rfl rfl ?_
            refine gIconst 77 X0 hx (v := (1 : Int32)) (H d4_76) rfl rfl ?_
            refine gIushr 78 X0 hx (H d4_77) rfl ?_
            refine gIadd 79 X0 hx (H d4_78) rfl ?_
            exact gRetI X0 hx hlk hret (H d4_79) (by decide) (by decide) (⟨by unfold Jvm.Free.JP.Integer_numberOfTrailingZeros_I.val Jvm.Free.XT.ushr; rw [if_pos (own_ltI (x := 0) c9), if_pos (own_ltI (x := 65536) c23), if_neg (own_nltI (x := 256) c38), if_neg (own_nltI (x := 16) c52), if_pos (own_ltI (x := 4) c64)] <;> rfl, e0, rfl⟩)
        · refine gIinc X0 hx (v := (4 : Int32)) (H d4_55) (l' := #[.val (.int ((((x ^^^ (-1 : Int32)) &&& (x - (1 : Int32))).toUInt32 >>> ((16 : Int32) &&& 31).toUInt32).toInt32)), .val (.int (21 : Int32))]) (pc' := 58) rfl rfl rfl rfl ?_
          refine gLoadIN 59 X0 hx (H d4_58) rfl rfl ?_
          refine gIconst 60 X0 hx (v := (4 : Int32)) (H d4_59) rfl rfl ?_
          refine gIushr 61 X0 hx (H d4_60) rfl ?_
          refine gStoreIN 62 X0 hx (H d4_61) (l' := #[.val (.int ((((((x ^^^ (-1 : Int32)) &&& (x - (1 : Int32))).toUInt32 >>> ((16 : Int32) &&& 31).toUInt32).toInt32).toUInt32 >>> ((4 : Int32) &&& 31).toUInt32).toInt32)), .val (.int (21 : Int32))]) rfl rfl ?_
          refine gLoadIN 63 X0 hx (H d4_62) rfl rfl ?_
          refine gIconst 64 X0 hx (v := (4 : Int32)) (H d4_63) rfl rfl ?_
          refine gIcmpLe X0 hx (H d4_64) (pc' := 74) (by decide) (by decide) (pn := 67) rfl (fun (c64 : ((((((x ^^^ (-1 : Int32)) &&& (x - (1 : Int32))).toUInt32 >>> ((16 : Int32) &&& 31).toUInt32).toInt32).toUInt32 >>> ((4 : Int32) &&& 31).toUInt32).toInt32).toInt ≤ (4 : Int)) => ?_) (fun (c64 : (4 : Int) < ((((((x ^^^ (-1 : Int32)) &&& (x - (1 : Int32))).toUInt32 >>> ((16 : Int32) &&& 31).toUInt32).toInt32).toUInt32 >>> ((4 : Int32) &&& 31).toUInt32).toInt32).toInt) => ?_)
          · refine gLoadIN 75 X0 hx (H d4_74) rfl rfl ?_
            refine gLoadIN 76 X0 hx (H d4_75) rfl rfl ?_
            refine gIconst 77 X0 hx (v := (1 : Int32)) (H d4_76) rfl rfl ?_
            refine gIushr 78 X0 hx (H d4_77) rfl ?_
            refine gIadd 79 X0 hx (H d4_78) rfl ?_
            exact gRetI X0 hx hlk hret (H d4_79) (by decide) (by decide) (⟨by unfold Jvm.Free.JP.Integer_numberOfTrailingZeros_I.val Jvm.Free.XT.ushr; rw [if_pos (own_ltI (x := 0) c9), if_pos (own_ltI (x := 65536) c23), if_neg (own_nltI (x := 256) c38), if_pos (own_ltI (x := 16) c52), if_neg (own_nltI (x := 4) c64)] <;> rfl, e0, rfl⟩)
          · refine gIinc X0 hx (v := (2 : Int32)) (H d4_67) (l' := #[.val (.int ((((((x ^^^ (-1 : Int32)) &&& (x - (1 : Int32))).toUInt32 >>> ((16 : Int32) &&& 31).toUInt32).toInt32).toUInt32 >>> ((4 : Int32) &&& 31).toUInt32).toInt32)), .val (.int (23 : Int32))]) (pc' := 70) rfl rfl rfl rfl ?_
            refine gLoadIN 71 X0 hx (H d4_70) rfl rfl ?_
            refine gIconst 72 X0 hx (v := (2 : Int32)) (H d4_71) rfl rfl ?_
            refine gIushr 73 X0 hx (H d4_72) rfl ?_
            refine gStoreIN 74 X0 hx (H d4_73) (l' := #[.val (.int ((((((((x ^^^ (-1 : Int32)) &&& (x - (1 : Int32))).toUInt32 >>> ((16 : Int32) &&& 31).toUInt32).toInt32).toUInt32 >>> ((4 : Int32) &&& 31).toUInt32).toInt32).toUInt32 >>> ((2 : Int32) &&& 31).toUInt32).toInt32)), .val (.int (23 : Int32))]) rfl rfl ?_
            refine gLoadIN 75 X0 hx (H d4_74) rfl rfl ?_
            refine gLoadIN 76 X0 hx (H d4_75) rfl rfl ?_
            refine gIconst 77 X0 hx (v := (1 : Int32)) (H d4_76) rfl rfl ?_
            refine gIushr 78 X0 hx (H d4_77) rfl ?_
            refine gIadd 79 X0 hx (H d4_78) rfl ?_
            exact gRetI X0 hx hlk hret (H d4_79) (by decide) (by decide) (⟨by unfold Jvm.Free.JP.Integer_numberOfTrailingZeros_I.val Jvm.Free.XT.ushr; rw [if_pos (own_ltI (x := 0) c9), if_pos (own_ltI (x := 65536) c23), if_neg (own_nltI (x := 256) c38), if_pos (own_ltI (x := 16) c52), if_pos (own_ltI (x := 4) c64)] <;> rfl, e0, rfl⟩)
      · refine gIinc X0 hx (v := (8 : Int32)) (H d4_41) (l' := #[.val (.int ((((x ^^^ (-1 : Int32)) &&& (x - (1 : Int32))).toUInt32 >>> ((16 : Int32) &&& 31).toUInt32).toInt32)), .val (.int (25 : Int32))]) (pc' := 44) rfl rfl rfl rfl ?_
        refine gLoadIN 45 X0 hx (H d4_44) rfl rfl ?_
        refine gBipush 47 X0 hx (v := (8 : Int32)) (H d4_45) rfl rfl ?_
        refine gIushr 48 X0 hx (H d4_47) rfl ?_
        refine gStoreIN 49 X0 hx (H d4_48) (l' := #[.val (.int ((((((x ^^^ (-1 : Int32)) &&& (x - (1 : Int32))).toUInt32 >>> ((16 : Int32) &&& 31).toUInt32).toInt32).toUInt32 >>> ((8 : Int32) &&& 31).toUInt32).toInt32)), .val (.int (25 : Int32))]) rfl rfl ?_
        refine gLoadIN 50 X0 hx (H d4_49) rfl rfl ?_
        refine gBipush 52 X0 hx (v := (16 : Int32)) (H d4_50) rfl rfl ?_
        refine gIcmpLe X0 hx (H d4_52) (pc' := 62) (by decide) (by decide) (pn := 55) rfl (fun (c52 : ((((((x ^^^ (-1 : Int32)) &&& (x - (1 : Int32))).toUInt32 >>> ((16 : Int32) &&& 31).toUInt32).toInt32).toUInt32 >>> ((8 : Int32) &&& 31).toUInt32).toInt32).toInt ≤ (16 : Int)) => ?_) (fun (c52 : (16 : Int) < ((((((x ^^^ (-1 : Int32)) &&& (x - (1 : Int32))).toUInt32 >>> ((16 : Int32) &&& 31).toUInt32).toInt32).toUInt32 >>> ((8 : Int32) &&& 31).toUInt32).toInt32).toInt) => ?_)
        · refine gLoadIN 63 X0 hx (H d4_62) rfl rfl ?_
          refine gIconst 64 X0 hx (v := (4 : Int32)) (H d4_63) rfl rfl ?_
          refine gIcmpLe X0 hx (H d4_64) (pc' := 74) (by decide) (by decide) (pn := 67) rfl (fun (c64 : ((((((x ^^^ (-1 : Int32)) &&& (x - (1 : Int32))).toUInt32 >>> ((16 : Int32) &&& 31).toUInt32).toInt32).toUInt32 >>> ((8 : Int32) &&& 31).toUInt32).toInt32).toInt ≤ (4 : Int)) => ?_) (fun (c64 : (4 : Int) < ((((((x ^^^ (-1 : Int32)) &&& (x - (1 : Int32))).toUInt32 >>> ((16 : Int32) &&& 31).toUInt32).toInt32).toUInt32 >>> ((8 : Int32) &&& 31).toUInt32).toInt32).toInt) => ?_)
          · refine gLoadIN 75 X0 hx (H d4_74) rfl rfl ?_
            refine gLoadIN 76 X0 hx (H d4_75) rfl rfl ?_
            refine gIconst 77 X0 hx (v := (1 : Int32)) (H d4_76) rfl rfl ?_
            refine gIushr 78 X0 hx (H d4_77) rfl ?_
            refine gIadd 79 X0 hx (H d4_78) rfl ?_
            exact gRetI X0 hx hlk hret (H d4_79) (by decide) (by decide) (⟨by unfold Jvm.Free.JP.Integer_numberOfTrailingZeros_I.val Jvm.Free.XT.ushr; rw [if_pos (own_ltI (x := 0) c9), if_pos (own_ltI (x := 65536) c23), if_pos (own_ltI (x := 256) c38), if_neg (own_nltI (x := 16) c52), if_neg (own_nltI (x := 4) c64)] <;> rfl, e0, rfl⟩)
          · refine gIinc X0 hx (v := (2 : Int32)) (H d4_67) (l' := #[.val (.int ((((((x ^^^ (-1 : Int32)) &&& (x - (1 : Int32))).toUInt32 >>> ((16 : Int32) &&& 31).toUInt32).toInt32).toUInt32 >>> ((8 : Int32) &&& 31).toUInt32).toInt32)), .val (.int (27 : Int32))]) (pc' := 70) rfl rfl rfl rfl ?_
            refine gLoadIN 71 X0 hx (H d4_70) rfl rfl ?_
            refine gIconst 72 X0 hx (v := (2 : Int32)) (H d4_71) rfl rfl ?_
            refine gIushr 73 X0 hx (H d4_72) rfl ?_
            refine gStoreIN 74 X0 hx (H d4_73) (l' := #[.val (.int ((((((((x ^^^ (-1 : Int32)) &&& (x - (1 : Int32))).toUInt32 >>> ((16 : Int32) &&& 31).toUInt32).toInt32).toUInt32 >>> ((8 : Int32) &&& 31).toUInt32).toInt32).toUInt32 >>> ((2 : Int32) &&& 31).toUInt32).toInt32)), .val (.int (27 : Int32))]) rfl rfl ?_
            refine gLoadIN 75 X0 hx (H d4_74) rfl rfl ?_
            refine gLoadIN 76 X0 hx (H d4_75) rfl rfl ?_
            refine gIconst 77 X0 hx (v := (1 : Int32)) (H d4_76) rfl rfl ?_
            refine gIushr 78 X0 hx (H d4_77) rfl ?_
            refine gIadd 79 X0 hx (H d4_78) rfl ?_
            exact gRetI X0 hx hlk hret (H d4_79) (by decide) (by decide) (⟨by unfold Jvm.Free.JP.Integer_numberOfTrailingZeros_I.val Jvm.Free.XT.ushr; rw [if_pos (own_ltI (x := 0) c9), if_pos (own_ltI (x := 65536) c23), if_pos (own_ltI (x := 256) c38), if_neg (own_nltI (x := 16) c52), if_pos (own_ltI (x := 4) c64)] <;> rfl, e0, rfl⟩)
        · refine gIinc X0 hx (v := (4 : Int32)) (H d4_55) (l' := #[.val (.int ((((((x ^^^ (-1 : Int32)) &&& (x - (1 : Int32))).toUInt32 >>> ((16 : Int32) &&& 31).toUInt32).toInt32).toUInt32 >>> ((8 : Int32) &&& 31).toUInt32).toInt32)), .val (.int (29 : Int32))]) (pc' := 58) rfl rfl rfl rfl ?_
          refine gLoadIN 59 X0 hx (H d4_58) rfl rfl ?_
          refine gIconst 60 X0 hx (v := (4 : Int32)) (H d4_59) rfl rfl ?_
          refine gIushr 61 X0 hx (H d4_60) rfl ?_
          refine gStoreIN 62 X0 hx (H d4_61) (l' := #[.val (.int ((((((((x ^^^ (-1 : Int32)) &&& (x - (1 : Int32))).toUInt32 >>> ((16 : Int32) &&& 31).toUInt32).toInt32).toUInt32 >>> ((8 : Int32) &&& 31).toUInt32).toInt32).toUInt32 >>> ((4 : Int32) &&& 31).toUInt32).toInt32)), .val (.int (29 : Int32))]) rfl rfl ?_
          refine gLoadIN 63 X0 hx (H d4_62) rfl rfl ?_
          refine gIconst 64 X0 hx (v := (4 : Int32)) (H d4_63) rfl rfl ?_
          refine gIcmpLe X0 hx (H d4_64) (pc' := 74) (by decide) (by decide) (pn := 67) rfl (fun (c64 : ((((((((x ^^^ (-1 : Int32)) &&& (x - (1 : Int32))).toUInt32 >>> ((16 : Int32) &&& 31).toUInt32).toInt32).toUInt32 >>> ((8 : Int32) &&& 31).toUInt32).toInt32).toUInt32 >>> ((4 : Int32) &&& 31).toUInt32).toInt32).toInt ≤ (4 : Int)) => ?_) (fun (c64 : (4 : Int) < ((((((((x ^^^ (-1 : Int32)) &&& (x - (1 : Int32))).toUInt32 >>> ((16 : Int32) &&& 31).toUInt32).toInt32).toUInt32 >>> ((8 : Int32) &&& 31).toUInt32).toInt32).toUInt32 >>> ((4 : Int32) &&& 31).toUInt32).toInt32).toInt) => ?_)
          · refine gLoadIN 75 X0 hx (H d4_74) rfl rfl ?_
            refine gLoadIN 76 X0 hx (H d4_75) rfl rfl ?_
            refine gIconst 77 X0 hx (v := (1 : Int32)) (H d4_76) rfl rfl ?_
            refine gIushr 78 X0 hx (H d4_77) rfl ?_
            refine gIadd 79 X0 hx (H d4_78) rfl ?_
            exact gRetI X0 hx hlk hret (H d4_79) (by decide) (by decide) (⟨by unfold Jvm.Free.JP.Integer_numberOfTrailingZeros_I.val Jvm.Free.XT.ushr; rw [if_pos (own_ltI (x := 0) c9), if_pos (own_ltI (x := 65536) c23), if_pos (own_ltI (x := 256) c38), if_pos (own_ltI (x := 16) c52), if_neg (own_nltI (x := 4) c64)] <;> rfl, e0, rfl⟩)
          · refine gIinc X0 hx (v := (2 : Int32)) (H d4_67) (l' := #[.val (.int ((((((((x ^^^ (-1 : Int32)) &&& (x - (1 : Int32))).toUInt32 >>> ((16 : Int32) &&& 31).toUInt32).toInt32).toUInt32 >>> ((8 : Int32) &&& 31).toUInt32).toInt32).toUInt32 >>> ((4 : Int32) &&& 31).toUInt32).toInt32)), .val (.int (31 : Int32))]) (pc' := 70) rfl rfl rfl rfl ?_
            refine gLoadIN 71 X0 hx (H d4_70) rfl rfl ?_
            refine gIconst 72 X0 hx (v := (2 : Int32)) (H d4_71) rfl rfl ?_
            refine gIushr 73 X0 hx (H d4_72) rfl ?_
            refine gStoreIN 74 X0 hx (H d4_73) (l' := #[.val (.int ((((((((((x ^^^ (-1 : Int32)) &&& (x - (1 : Int32))).toUInt32 >>> ((16 : Int32) &&& 31).toUInt32).toInt32).toUInt32 >>> ((8 : Int32) &&& 31).toUInt32).toInt32).toUInt32 >>> ((4 : Int32) &&& 31).toUInt32).toInt32).toUInt32 >>> ((2 : Int32) &&& 31).toUInt32).toInt32)), .val (.int (31 : Int32))]) rfl rfl ?_
            refine gLoadIN 75 X0 hx (H d4_74) rfl rfl ?_
            refine gLoadIN 76 X0 hx (H d4_75) rfl rfl ?_
            refine gIconst 77 X0 hx (v := (1 : Int32)) (H d4_76) rfl rfl ?_
            refine gIushr 78 X0 hx (H d4_77) rfl ?_
            refine gIadd 79 X0 hx (H d4_78) rfl ?_
            exact gRetI X0 hx hlk hret (H d4_79) (by decide) (by decide) (⟨by unfold Jvm.Free.JP.Integer_numberOfTrailingZeros_I.val Jvm.Free.XT.ushr; rw [if_pos (own_ltI (x := 0) c9), if_pos (own_ltI (x := 65536) c23), if_pos (own_ltI (x := 256) c38), if_pos (own_ltI (x := 16) c52), if_pos (own_ltI (x := 4) c64)] <;> rfl, e0, rfl⟩)
  · refine gLoadIN 13 X0 hx (H d4_12) rfl rfl ?_
    refine gBipush 15 X0 hx (v := (32 : Int32)) (H d4_13) rfl rfl ?_
    refine gIand 16 X0 hx (H d4_15) rfl ?_
    exact gRetI X0 hx hlk hret (H d4_16) (by decide) (by decide) (⟨by unfold Jvm.Free.JP.Integer_numberOfTrailingZeros_I.val Jvm.Free.XT.ushr; rw [if_neg (own_nltI (x := 0) c9)] <;> rfl, e0, rfl⟩)
theorem d5_0 : decode jdk_35_method_49_code 0 = .ok (.lload_n 0, 1) := by decide +kernel
theorem d5_1 : decode jdk_35_method_49_code 1 = .ok (.l2i, 1) := by decide +kernel
theorem d5_2 : decode jdk_35_method_49_code 2 = .ok (.istore_n 2, 1) := by decide +kernel
theorem d5_3 : decode jdk_35_method_49_code 3 = .ok (.iload_n 2, 1) := by decide +kernel
theorem d5_4 : decode jdk_35_method_49_code 4 = .ok (.ifCond .ne 17, 3) := by decide +kernel
theorem d5_21 : decode jdk_35_method_49_code 21 = .ok (.iload_n 2, 1) := by decide +kernel
theorem d5_22 : decode jdk_35_method_49_code 22 = .ok (.invokestatic 311, 3) := by decide +kernel
theorem pd_1 : parseMethodDescriptor "(I)I" = some ⟨[.int], some .int⟩ := by decide +kernel
theorem d5_25 : decode jdk_35_method_49_code 25 = .ok (.ireturn, 1) := by decide +kernel
theorem d5_7 : decode jdk_35_method_49_code 7 = .ok (.bipush 32, 2) := by decide +kernel
theorem d5_9 : decode jdk_35_method_49_code 9 = .ok (.lload_n 0, 1) := by decide +kernel
theorem d5_10 : decode jdk_35_method_49_code 10 = .ok (.bipush 32, 2) := by decide +kernel
theorem d5_12 : decode jdk_35_method_49_code 12 = .ok (.lushr, 1) := by decide +kernel
theorem d5_13 : decode jdk_35_method_49_code 13 = .ok (.l2i, 1) := by decide +kernel
theorem d5_14 : decode jdk_35_method_49_code 14 = .ok (.invokestatic 311, 3) := by decide +kernel
theorem d5_17 : decode jdk_35_method_49_code 17 = .ok (.iadd, 1) := by decide +kernel
theorem d5_18 : decode jdk_35_method_49_code 18 = .ok (.goto 7, 3) := by decide +kernel
abbrev mn5 : MethodName := ⟨"java/lang/Long", "numberOfTrailingZeros", "(J)I"⟩
theorem pn_3 : plainName "java/lang/Long" = true := by first | (simp [plainName, overriddenIn]; done) | decide +kernel
theorem c_ntzL (l : Launch) (Z : State) (a0 : Array Value) (hw : ∀ d ∈ tables_1, d.before a0 Z = true) (x : Int64) (t : Nat) (ht : Jvm.Free.JM.Low x.toBitVec.toNat t) (h0 : Heap)  :
    Ctr l Z mn5 jdk_35_method_49_code 3 (some .int) [] ⟨1, 0, 0, 16⟩ #[(.long x)] h0 (Just h0 (.int (Int32.ofNat t))) := by
  refine Ctr.of (plainFor_of_name pn_3) ?_
  intro p e s m below meth c s₁ hx H hml hret hown hnm hZ hlk X0 e0
  refine Goes.cast (show entryFrame m _ _ = mkF m 0 #[.val (.long x), .second, .unset] [] from rfl) ?_
  refine gLoadJN 1 X0 hx (H d5_0) rfl rfl ?_
  refine gL2i 2 X0 hx (H d5_1) rfl ?_
  refine gStoreIN 3 X0 hx (H d5_2) (l' := #[.val (.long x), .second, .val (.int (x.toInt32))]) rfl rfl ?_
  refine gLoadIN 4 X0 hx (H d5_3) rfl rfl ?_
  refine gIfNe X0 hx (H d5_4) (pc' := 21) (by decide) (by decide) (pn := 7) rfl (fun (c4 : ¬ (x.toInt32) = (0 : Int32)) => ?_) (fun (c4 : (x.toInt32) = (0 : Int32)) => ?_)
  · refine gLoadIN 22 X0 hx (H d5_21) rfl rfl ?_
    refine gCallSJ X0 hx hZ (y := mn4) hown e0 (by rw [hml]; rfl) (ow hw 44 rfl) (ow hw 45 rfl) (ow hw 46 rfl) (ow hw 47 rfl) (by decide) (argsL := [(.int (x.toInt32))]) (st := []) (c_ntzI l Z a0 hw (x.toInt32) h0) (lenOf pd_1 rfl) (H d5_22) (pc' := 25) rfl rfl rfl rfl (by decide) (W := 0) (Nat.le_of_eq rfl) (by decide) (by decide) (by decide) ?_
    intro T1 X1 e1
    exact gRetI X1 hx hlk hret (H d5_25) (by decide) (by decide) (⟨by rw [← Jvm.Free.JM.ntz64 ht]; unfold Jvm.Free.JP.Long_numberOfTrailingZeros_J.val; rw [if_neg c4] <;> rfl, e1, rfl⟩)
  · refine gBipush 9 X0 hx (v := (32 : Int32)) (H d5_7) rfl rfl ?_
    refine gLoadJN 10 X0 hx (H d5_9) rfl rfl ?_
    refine gBipush 12 X0 hx (v := (32 : Int32)) (H d5_10) rfl rfl ?_
    refine gLushr 13 X0 hx (H d5_12) rfl ?_
    refine gL2i 14 X0 hx (H d5_13) rfl ?_
    refine gCallSJ X0 hx hZ (y := mn4) hown e0 (by rw [hml]; rfl) (ow hw 44 rfl) (ow hw 45 rfl) (ow hw 46 rfl) (ow hw 47 rfl) (by decide) (argsL := [(.int (((x.toUInt64 >>> ((32 : Int32) &&& 0x3f).toInt64.toUInt64).toInt64).toInt32))]) (st := [(.int (32 : Int32))]) (c_ntzI l Z a0 hw (((x.toUInt64 >>> ((32 : Int32) &&& 0x3f).toInt64.toUInt64).toInt64).toInt32) h0) (lenOf pd_1 rfl) (H d5_14) (pc' := 17) rfl rfl rfl rfl (by decide) (W := 1) (Nat.le_of_eq rfl) (by decide) (by decide) (by decide) ?_
    intro T2 X2 e2
    refine gIadd 18 X2 hx (H d5_17) rfl ?_
    refine gGoto X2 hx (H d5_18) (pc' := 25) (by decide) (by decide) ?_
    exact gRetI X2 hx hlk hret (H d5_25) (by decide) (by decide) (⟨by rw [← Jvm.Free.JM.ntz64 ht]; unfold Jvm.Free.JP.Long_numberOfTrailingZeros_J.val; rw [if_pos c4] <;> rfl, e2, rfl⟩)
theorem d7_0 : decode prog_26_method_1_code 0 = .ok (.aload_n 0, 1) := by decide +kernel
theorem d7_1 : decode prog_26_method_1_code 1 = .ok (.invokespecial 1, 3) := by decide +kernel
theorem d7_4 : decode prog_26_method_1_code 4 = .ok (.iconst 1, 1) := by decide +kernel
theorem d7_5 : decode prog_26_method_1_code 5 = .ok (.istore_n 2, 1) := by decide +kernel
theorem d7_6 : decode prog_26_method_1_code 6 = .ok (.iload_n 1, 1) := by decide +kernel
theorem d7_7 : decode prog_26_method_1_code 7 = .ok (.i2l, 1) := by decide +kernel
theorem d7_8 : decode prog_26_method_1_code 8 = .ok (.lstore_n 3, 1) := by decide +kernel
theorem d7_9 : decode prog_26_method_1_code 9 = .ok (.lload_n 3, 1) := by decide +kernel
theorem d7_10 : decode prog_26_method_1_code 10 = .ok (.ldc2_w 7, 3) := by decide +kernel
theorem d7_13 : decode prog_26_method_1_code 13 = .ok (.lcmp, 1) := by decide +kernel
theorem d7_14 : decode prog_26_method_1_code 14 = .ok (.ifCond .le 19, 3) := by decide +kernel
theorem d7_33 : decode prog_26_method_1_code 33 = .ok (.aload_n 0, 1) := by decide +kernel
theorem d7_34 : decode prog_26_method_1_code 34 = .ok (.iload_n 2, 1) := by decide +kernel
theorem d7_35 : decode prog_26_method_1_code 35 = .ok (.anewarray 11, 3) := by decide +kernel
theorem d7_38 : decode prog_26_method_1_code 38 = .ok (.putfield 13, 3) := by decide +kernel
theorem d7_41 : decode prog_26_method_1_code 41 = .ok (.lconst 1, 1) := by decide +kernel
theorem d7_42 : decode prog_26_method_1_code 42 = .ok (.iload_n 1, 1) := by decide +kernel
theorem d7_43 : decode prog_26_method_1_code 43 = .ok (.i2l, 1) := by decide +kernel
theorem d7_44 : decode prog_26_method_1_code 44 = .ok (.ldc2_w 9, 3) := by decide +kernel
theorem d7_47 : decode prog_26_method_1_code 47 = .ok (.ladd, 1) := by decide +kernel
theorem d7_48 : decode prog_26_method_1_code 48 = .ok (.ldc2_w 7, 3) := by decide +kernel
theorem d7_51 : decode prog_26_method_1_code 51 = .ok (.ldiv, 1) := by decide +kernel
theorem d7_52 : decode prog_26_method_1_code 52 = .ok (.invokestatic 19, 3) := by decide +kernel
theorem pd_5 : parseMethodDescriptor "(JJ)J" = some ⟨[.long, .long], some .long⟩ := by decide +kernel
theorem d7_55 : decode prog_26_method_1_code 55 = .ok (.lstore_n 3, 1) := by decide +kernel
theorem d7_56 : decode prog_26_method_1_code 56 = .ok (.iconst 0, 1) := by decide +kernel
theorem d7_57 : decode prog_26_method_1_code 57 = .ok (.istore 5, 2) := by decide +kernel
theorem d7_59 : decode prog_26_method_1_code 59 = .ok (.iload 5, 2) := by decide +kernel
theorem d7_61 : decode prog_26_method_1_code 61 = .ok (.iload_n 2, 1) := by decide +kernel
theorem d7_62 : decode prog_26_method_1_code 62 = .ok (.if_icmp .ge 30, 3) := by decide +kernel
theorem d7_65 : decode prog_26_method_1_code 65 = .ok (.aload_n 0, 1) := by decide +kernel
theorem d7_66 : decode prog_26_method_1_code 66 = .ok (.getfield 13, 3) := by decide +kernel
theorem d7_69 : decode prog_26_method_1_code 69 = .ok (.iload 5, 2) := by decide +kernel
theorem d7_71 : decode prog_26_method_1_code 71 = .ok (.lload_n 3, 1) := by decide +kernel
theorem d7_72 : decode prog_26_method_1_code 72 = .ok (.l2i, 1) := by decide +kernel
theorem d7_73 : decode prog_26_method_1_code 73 = .ok (.newarray .long, 2) := by decide +kernel
theorem d7_75 : decode prog_26_method_1_code 75 = .ok (.aastore, 1) := by decide +kernel
theorem d7_76 : decode prog_26_method_1_code 76 = .ok (.lload_n 3, 1) := by decide +kernel
theorem d7_77 : decode prog_26_method_1_code 77 = .ok (.ldc2_w 9, 3) := by decide +kernel
theorem d7_80 : decode prog_26_method_1_code 80 = .ok (.ladd, 1) := by decide +kernel
theorem d7_81 : decode prog_26_method_1_code 81 = .ok (.ldc2_w 7, 3) := by decide +kernel
theorem d7_84 : decode prog_26_method_1_code 84 = .ok (.ldiv, 1) := by decide +kernel
theorem d7_85 : decode prog_26_method_1_code 85 = .ok (.lstore_n 3, 1) := by decide +kernel
theorem d7_86 : decode prog_26_method_1_code 86 = .ok (.iinc 5 1, 3) := by decide +kernel
theorem d7_89 : decode prog_26_method_1_code 89 = .ok (.goto (-30), 3) := by decide +kernel
theorem d7_92 : decode prog_26_method_1_code 92 = .ok (.return_, 1) := by decide +kernel
theorem d7_17 : decode prog_26_method_1_code 17 = .ok (.iinc 2 1, 3) := by decide +kernel
theorem d7_20 : decode prog_26_method_1_code 20 = .ok (.lload_n 3, 1) := by decide +kernel
theorem d7_21 : decode prog_26_method_1_code 21 = .ok (.ldc2_w 9, 3) := by decide +kernel
theorem d7_24 : decode prog_26_method_1_code 24 = .ok (.ladd, 1) := by decide +kernel
theorem d7_25 : decode prog_26_method_1_code 25 = .ok (.ldc2_w 7, 3) := by decide +kernel
theorem d7_28 : decode prog_26_method_1_code 28 = .ok (.ldiv, 1) := by decide +kernel
theorem d7_29 : decode prog_26_method_1_code 29 = .ok (.lstore_n 3, 1) := by decide +kernel
theorem d7_30 : decode prog_26_method_1_code 30 = .ok (.goto (-21), 3) := by decide +kernel
abbrev mn0 : MethodName := ⟨"com/example/align/align/rectilinear/RowSet", "<init>", "(I)V"⟩
theorem pn_0 : plainName "com/example/align/align/rectilinear/RowSet" = true := by first | (simp [plainName, overriddenIn]; done) | decide +kernel
theorem c_init (l : Launch) (Z : State) (a0 : Array Value) (hw : ∀ d ∈ tables_1, d.before a0 Z = true) (a : Addr) (n n0 : Nat) (h0 : Heap) (hn : 1 ≤ n) (hn2 : n ≤ 1048576) (ga : n0 ≤ a) (gz : n0 ≤ h0.size) (E : Exa Z h0 a "com/example/align/align/rectilinear/RowSet") (F0 : Fld Z h0 a "com/example/align/align/rectilinear/RowSet" "levels" "[[J" .null) :
    Ctr l Z mn0 prog_26_method_1_code 6 none [] ⟨1, 5, 16649, 30⟩ #[(.ref a), (.int (Int32.ofNat n))] h0 (fun v h L' => v = none ∧ Fr n0 L' ∧ ∃ (L : Addr) (cL : ClassId) (ls : List Addr), RS Z h n0 a n (fun j => Qb (fun _ => False) j) L cL ls ∧ ls.length ≤ 4 ∧ 1 ≤ ls.length ∧ cw n ls.length ≤ 1) := by
  refine Ctr.of (plainFor_of_name pn_0) ?_
  intro p e s m below meth c s₁ hx H hml hret hown hnm hZ hlk X0 e0
  refine Goes.cast (show entryFrame m _ _ = mkF m 0 #[.val (.ref a), .val (.int (Int32.ofNat n)), .unset, .unset, .unset, .unset] [] from rfl) ?_
  have hc1 : cw n 1 = (cw n 0 + 63) / 64 := rfl
  have hc2 : cw n 2 = (cw n 1 + 63) / 64 := rfl
  have hc3 : cw n 3 = (cw n 2 + 63) / 64 := rfl
  have hc4 : cw n 4 = (cw n 3 + 63) / 64 := rfl
  have hc5 : cw n 5 = (cw n 4 + 63) / 64 := rfl
  have hc0 : cw n 0 = n := rfl
  have one1 : (1 : Int64).toInt = 1 := rfl
  refine gLoadAN 1 X0 hx (H d7_0) rfl rfl rfl ?_
  refine gInitO X0 hx hZ hown (ow hw 15 rfl) (ow hw 16 rfl) (ow hw 17 rfl) e0 (by rw [hml]; rfl) (H d7_1) (pc' := 4) rfl (by decide) (W := 0) (Nat.le_of_eq rfl) (by decide) (fun T1 X1 e1 => ?_)
  refine gIconst 5 X1 hx (v := (1 : Int32)) (H d7_4) rfl rfl ?_
  refine gStoreIN 6 X1 hx (H d7_5) (l' := #[.val (.ref a), .val (.int (Int32.ofNat n)), .val (.int (1 : Int32)), .unset, .unset, .unset]) rfl rfl ?_
  refine gLoadIN 7 X1 hx (H d7_6) rfl rfl ?_
  refine gI2l 8 X1 hx (H d7_7) rfl ?_
  generalize hg_z0 : ((Int32.ofNat n).toInt64) = z0
  have hz0 : z0.toInt = (cw n 0 : Nat) := by rw [← hg_z0]; exact own_i2n (by omega)
  refine gStoreJN 9 X1 hx (H d7_8) (l' := #[.val (.ref a), .val (.int (Int32.ofNat n)), .val (.int (1 : Int32)), .val (.long z0), .second, .unset]) rfl rfl ?_
  refine gLoadJN 10 X1 hx (H d7_9) rfl rfl ?_
  refine gLdc2 13 X1 hx hZ hown (ow hw 18 rfl) (H d7_10) rfl ?_
  refine gLcmp 14 X1 hx (H d7_13) rfl ?_
  refine gLIfLe X1 hx (H d7_14) (pc' := 33) (by decide) (by decide) (pn := 17) rfl (fun (c14 : z0.toInt ≤ (64 : Int)) => ?_) (fun (c14 : (64 : Int) < z0.toInt) => ?_)
  · refine gLoadAN 34 X1 hx (H d7_33) rfl rfl rfl ?_
    refine gLoadIN 35 X1 hx (H d7_34) rfl rfl ?_
    refine gNewRA X1 hx hZ hown (ow hw 19 rfl) (ow hw 20 rfl) e1 (H d7_35) (n := (1 : Int32)) (by decide) (cap := 1) (by decide) (by decide) (by decide) (by decide) 1 (pc' := 38) rfl (fun T2 h2 b2 ck2 X2 e2 g2 E2 A2 O2 => ?_)
    have ne_a_b2 : a ≠ b2 := Nat.ne_of_lt (Nat.lt_of_lt_of_eq E.lt g2.symm)
    have f2_0 := E.ext E2
    have f2_1 := F0.ext E2
    have sz_b2 : h0.size ≤ b2 := Nat.le_trans (Nat.le_refl _) (Nat.le_of_eq g2.symm)
    have zs2 : h0.size ≤ h2.size := Nat.le_trans (Nat.le_refl _) E2.1
    have V2 : Arv Z h2 b2 ck2 (.array .long) (1 : Int32) [.null] .null := A2
    refine gPutF X2 hx hZ hown (ow hw 21 rfl) Via.refl e2 f2_1 f2_0 (Or.inr ⟨(ow hw 22 rfl), rfl, hnm⟩) (ow hw 10 rfl) (ty := (.array (.array .long))) (by decide) rfl rfl (H d7_38) (pc' := 41) rfl (fun T3 h3 X3 e3 W3 => ?_)
    have f3_0 := f2_0.wr W3
    have f3_1 := f2_1.same W3
    have f3_2 := V2.other W3 (Ne.symm ne_a_b2)
    have zs3 : h0.size ≤ h3.size := by rw [W3.size]; exact zs2
    have N3 := Fr.snoc X3 (Fr.nil n0) ga
    refine gLconst 42 X3 hx (v := (1 : Int64)) (H d7_41) rfl rfl ?_
    refine gLoadIN 43 X3 hx (H d7_42) rfl rfl ?_
    refine gI2l 44 X3 hx (H d7_43) rfl ?_
    rw [hg_z0]
    refine gLdc2 47 X3 hx hZ hown (ow hw 23 rfl) (H d7_44) rfl ?_
    refine gLadd 48 X3 hx (H d7_47) rfl ?_
    refine gLdc2 51 X3 hx hZ hown (ow hw 18 rfl) (H d7_48) rfl ?_
    refine gLdiv 52 X3 hx (H d7_51) (by decide) rfl ?_
    generalize hg_m1 : ((z0 + (63 : Int64)) / (64 : Int64)) = m1
    have hm1 : m1.toInt = (cw n 1 : Nat) := by rw [← hg_m1]; exact own_div64 (k := cw n 0) hz0 (by omega)
    refine gCallSJ X3 hx hZ (y := mn7) hown e3 (by rw [hml]; rfl) (ow hw 24 rfl) (ow hw 25 rfl) (ow hw 4 rfl) (ow hw 26 rfl) (by decide) (argsL := [(.long (1 : Int64)), (.long m1)]) (st := []) (c_maxJ l Z a0 hw (1 : Int64) m1 (by omega) h3) (lenOf pd_5 rfl) (H d7_52) (pc' := 55) rfl rfl rfl rfl (by decide) (W := 0) (Nat.le_of_eq rfl) (by decide) (by decide) (by decide) ?_
    intro T4 X4 e4
    refine gStoreJN 56 X4 hx (H d7_55) (l' := #[.val (.ref a), .val (.int (Int32.ofNat n)), .val (.int (1 : Int32)), .val (.long m1), .second, .unset]) rfl rfl ?_
    refine gIconst 57 X4 hx (v := (0 : Int32)) (H d7_56) rfl rfl ?_
    refine gStoreI 59 X4 hx (H d7_57) (l' := #[.val (.ref a), .val (.int (Int32.ofNat n)), .val (.int (1 : Int32)), .val (.long m1), .second, .val (.int (0 : Int32))]) rfl rfl ?_
    refine gLoadI 61 X4 hx (H d7_59) rfl rfl ?_
    refine gLoadIN 62 X4 hx (H d7_61) rfl rfl ?_
    refine gIcmpGe X4 hx (H d7_62) (pc' := 92) (by decide) (by decide) (pn := 65) rfl (fun (c62 : (1 : Int) ≤ (0 : Int)) => ?_) (fun (c62 : (0 : Int) < (1 : Int)) => ?_)
    · exact absurd c62 (by decide)
    · refine gLoadAN 66 X4 hx (H d7_65) rfl rfl rfl ?_
      refine gGetF X4 hx hZ hown (ow hw 21 rfl) Via.refl e4 f3_1 (H d7_66) (pc' := 69) rfl (fun T5 X5 e5 => ?_)
      refine gLoadI 71 X5 hx (H d7_69) rfl rfl ?_
      refine gLoadJN 72 X5 hx (H d7_71) rfl rfl ?_
      refine gL2i 73 X5 hx (H d7_72) rfl ?_
      rw [show m1.toInt32 = Int32.ofNat (cw n 1) from own_l2n hm1 (by omega)]
      refine gNewPE X5 hx hZ (ow hw 27 rfl) e5 (H d7_73) (n := (Int32.ofNat (cw n 1))) (own_nn (by omega)) (cap := 1) (by rw [own_nclamp (by omega)]; omega) (by decide) (by decide) (by decide) (cw n 1) (pc' := 75) rfl (fun T6 h6 b6 ck6 X6 e6 g6 E6 A6 x6 => ?_)
      have ne_a_b6 : a ≠ b6 := Nat.ne_of_lt (Nat.lt_of_lt_of_eq f3_0.lt g6.symm)
      have ne_b2_b6 : b2 ≠ b6 := Nat.ne_of_lt (Nat.lt_of_lt_of_eq f3_2.lt g6.symm)
      have f6_0 := f3_0.ext E6
      have f6_1 := f3_1.ext E6
      have f6_2 := f3_2.ext E6
      have sz_b6 : h0.size ≤ b6 := Nat.le_trans zs3 (Nat.le_of_eq g6.symm)
      have zs6 : h0.size ≤ h6.size := Nat.le_trans zs3 E6.1
      refine gAast X6 hx hZ e6 f6_2 O2 x6 (j := (0 : Int32)) (by decide) (by decide) 0 (by decide) (by simp) (H d7_75) (pc' := 76) rfl (fun T7 h7 X7 e7 W7 A7 => ?_)
      have f7_0 := f6_0.wr W7
      have f7_1 := f6_1.other W7 (Or.inl ne_a_b2)
      have f7_2 := A6.other W7 (Ne.symm ne_b2_b6)
      have f7_3 := x6.wr W7
      have zs7 : h0.size ≤ h7.size := by rw [W7.size]; exact zs6
      have N7 := Fr.snoc X7 N3 (Nat.le_trans gz sz_b2)
      have V7 : Arv Z h7 b2 ck2 (.array .long) (1 : Int32) [(.ref b6)] .null := A7
      refine gLoadJN 77 X7 hx (H d7_76) rfl rfl ?_
      refine gLdc2 80 X7 hx hZ hown (ow hw 23 rfl) (H d7_77) rfl ?_
      refine gLadd 81 X7 hx (H d7_80) rfl ?_
      refine gLdc2 84 X7 hx hZ hown (ow hw 18 rfl) (H d7_81) rfl ?_
      refine gLdiv 85 X7 hx (H d7_84) (by decide) rfl ?_
      generalize hg_m2 : ((m1 + (63 : Int64)) / (64 : Int64)) = m2
      have hm2 : m2.toInt = (cw n 2 : Nat) := by rw [← hg_m2]; exact own_div64 (k := cw n 1) hm1 (by omega)
      refine gStoreJN 86 X7 hx (H d7_85) (l' := #[.val (.ref a), .val (.int (Int32.ofNat n)), .val (.int (1 : Int32)), .val (.long m2), .second, .val (.int (0 : Int32))]) rfl rfl ?_
      refine gIinc X7 hx (v := (1 : Int32)) (H d7_86) (l' := #[.val (.ref a), .val (.int (Int32.ofNat n)), .val (.int (1 : Int32)), .val (.long m2), .second, .val (.int (1 : Int32))]) (pc' := 89) rfl rfl rfl rfl ?_
      refine gGoto X7 hx (H d7_89) (pc' := 59) (by decide) (by decide) ?_
      refine gLoadI 61 X7 hx (H d7_59) rfl rfl ?_
      refine gLoadIN 62 X7 hx (H d7_61) rfl rfl ?_
      refine gIcmpGe X7 hx (H d7_62) (pc' := 92) (by decide) (by decide) (pn := 65) rfl (fun (c62' : (1 : Int) ≤ (1 : Int)) => ?_) (fun (c62' : (1 : Int) < (1 : Int)) => ?_)
      · exact gRetV X7 hx hlk hret (H d7_92) (by decide) (by decide) (⟨rfl, N7, b2, ck2, [b6], by rw [e7]; exact RS.mk f7_0 f7_1 V7 (lev_cons ((Lvl.zero f7_2).congr (own_q0 0)) lev_nil) (lev_cons ⟨Nat.le_trans gz sz_b6, Ne.symm ne_b2_b6, Ne.symm ne_a_b6⟩ lev_nil) (own_nodup (by simp)), by simp, by simp, (show cw n 1 ≤ 1 by omega)⟩)
      · exact absurd c62' (by decide)
  · refine gIinc X1 hx (v := (1 : Int32)) (H d7_17) (l' := #[.val (.ref a), .val (.int (Int32.ofNat n)), .val (.int (2 : Int32)), .val (.long z0), .second, .unset]) (pc' := 20) rfl rfl rfl rfl ?_
    refine gLoadJN 21 X1 hx (H d7_20) rfl rfl ?_
    refine gLdc2 24 X1 hx hZ hown (ow hw 23 rfl) (H d7_21) rfl ?_
    refine gLadd 25 X1 hx (H d7_24) rfl ?_
    refine gLdc2 28 X1 hx hZ hown (ow hw 18 rfl) (H d7_25) rfl ?_
    refine gLdiv 29 X1 hx (H d7_28) (by decide) rfl ?_
    generalize hg_z1 : ((z0 + (63 : Int64)) / (64 : Int64)) = z1
    have hz1 : z1.toInt = (cw n 1 : Nat) := by rw [← hg_z1]; exact own_div64 (k := cw n 0) hz0 (by omega)
    refine gStoreJN 30 X1 hx (H d7_29) (l' := #[.val (.ref a), .val (.int (Int32.ofNat n)), .val (.int (2 : Int32)), .val (.long z1), .second, .unset]) rfl rfl ?_
    refine gGoto X1 hx (H d7_30) (pc' := 9) (by decide) (by decide) ?_
    refine gLoadJN 10 X1 hx (H d7_9) rfl rfl ?_
    refine gLdc2 13 X1 hx hZ hown (ow hw 18 rfl) (H d7_10) rfl ?_
    refine gLcmp 14 X1 hx (H d7_13) rfl ?_
    refine gLIfLe X1 hx (H d7_14) (pc' := 33) (by decide) (by decide) (pn := 17) rfl (fun (c14' : z1.toInt ≤ (64 : Int)) => ?_) (fun (c14' : (64 : Int) < z1.toInt) => ?_)
    · refine gLoadAN 34 X1 hx (H d7_33) rfl rfl rfl ?_
      refine gLoadIN 35 X1 hx (H d7_34) rfl rfl ?_
      refine gNewRA X1 hx hZ hown (ow hw 19 rfl) (ow hw 20 rfl) e1 (H d7_35) (n := (2 : Int32)) (by decide) (cap := 2) (by decide) (by decide) (by decide) (by decide) 2 (pc' := 38) rfl (fun T8 h8 b8 ck8 X8 e8 g8 E8 A8 O8 => ?_)
      have ne_a_b8 : a ≠ b8 := Nat.ne_of_lt (Nat.lt_of_lt_of_eq E.lt g8.symm)
      have f8_0 := E.ext E8
      have f8_1 := F0.ext E8
      have sz_b8 : h0.size ≤ b8 := Nat.le_trans (Nat.le_refl _) (Nat.le_of_eq g8.symm)
      have zs8 : h0.size ≤ h8.size := Nat.le_trans (Nat.le_refl _) E8.1
      have V8 : Arv Z h8 b8 ck8 (.array .long) (2 : Int32) [.null, .null] .null := A8
      refine gPutF X8 hx hZ hown (ow hw 21 rfl) Via.refl e8 f8_1 f8_0 (Or.inr ⟨(ow hw 22 rfl), rfl, hnm⟩) (ow hw 10 rfl) (ty := (.array (.array .long))) (by decide) rfl rfl (H d7_38) (pc' := 41) rfl (fun T9 h9 X9 e9 W9 => ?_)
      have f9_0 := f8_0.wr W9
      have f9_1 := f8_1.same W9
      have f9_2 := V8.other W9 (Ne.symm ne_a_b8)
      have zs9 : h0.size ≤ h9.size := by rw [W9.size]; exact zs8
      have N9 := Fr.snoc X9 (Fr.nil n0) ga
      refine gLconst 42 X9 hx (v := (1 : Int64)) (H d7_41) rfl rfl ?_
      refine gLoadIN 43 X9 hx (H d7_42) rfl rfl ?_
      refine gI2l 44 X9 hx (H d7_43) rfl ?_
      rw [hg_z0]
      refine gLdc2 47 X9 hx hZ hown (ow hw 23 rfl) (H d7_44) rfl ?_
      refine gLadd 48 X9 hx (H d7_47) rfl ?_
      refine gLdc2 51 X9 hx hZ hown (ow hw 18 rfl) (H d7_48) rfl ?_
      refine gLdiv 52 X9 hx (H d7_51) (by decide) rfl ?_
      generalize hg_m1 : ((z0 + (63 : Int64)) / (64 : Int64)) = m1
      have hm1 : m1.toInt = (cw n 1 : Nat) := by rw [← hg_m1]; exact own_div64 (k := cw n 0) hz0 (by omega)
      refine gCallSJ X9 hx hZ (y := mn7) hown e9 (by rw [hml]; rfl) (ow hw 24 rfl) (ow hw 25 rfl) (ow hw 4 rfl) (ow hw 26 rfl) (by decide) (argsL := [(.long (1 : Int64)), (.long m1)]) (st := []) (c_maxJ l Z a0 hw (1 : Int64) m1 (by omega) h9) (lenOf pd_5 rfl) (H d7_52) (pc' := 55) rfl rfl rfl rfl (by decide) (W := 0) (Nat.le_of_eq rfl) (by decide) (by decide) (by decide) ?_
      intro T10 X10 e10
      refine gStoreJN 56 X10 hx (H d7_55) (l' := #[.val (.ref a), .val (.int (Int32.ofNat n)), .val (.int (2 : Int32)), .val (.long m1), .second, .unset]) rfl rfl ?_
      refine gIconst 57 X10 hx (v := (0 : Int32)) (H d7_56) rfl rfl ?_
      refine gStoreI 59 X10 hx (H d7_57) (l' := #[.val (.ref a), .val (.int (Int32.ofNat n)), .val (.int (2 : Int32)), .val (.long m1), .second, .val (.int (0 : Int32))]) rfl rfl ?_
      refine gLoadI 61 X10 hx (H d7_59) rfl rfl ?_
      refine gLoadIN 62 X10 hx (H d7_61) rfl rfl ?_
      refine gIcmpGe X10 hx (H d7_62) (pc' := 92) (by decide) (by decide) (pn := 65) rfl (fun (c62 : (2 : Int) ≤ (0 : Int)) => ?_) (fun (c62 : (0 : Int) < (2 : Int)) => ?_)
      · exact absurd c62 (by decide)
      · refine gLoadAN 66 X10 hx (H d7_65) rfl rfl rfl ?_
        refine gGetF X10 hx hZ hown (ow hw 21 rfl) Via.refl e10 f9_1 (H d7_66) (pc' := 69) rfl (fun T11 X11 e11 => ?_)
        refine gLoadI 71 X11 hx (H d7_69) rfl rfl ?_
        refine gLoadJN 72 X11 hx (H d7_71) rfl rfl ?_
        refine gL2i 73 X11 hx (H d7_72) rfl ?_
        rw [show m1.toInt32 = Int32.ofNat (cw n 1) from own_l2n hm1 (by omega)]
        refine gNewPE X11 hx hZ (ow hw 27 rfl) e11 (H d7_73) (n := (Int32.ofNat (cw n 1))) (own_nn (by omega)) (cap := 64) (by rw [own_nclamp (by omega)]; omega) (by decide) (by decide) (by decide) (cw n 1) (pc' := 75) rfl (fun T12 h12 b12 ck12 X12 e12 g12 E12 A12 x12 => ?_)
        have ne_a_b12 : a ≠ b12 := Nat.ne_of_lt (Nat.lt_of_lt_of_eq f9_0.lt g12.symm)
        have ne_b8_b12 : b8 ≠ b12 := Nat.ne_of_lt (Nat.lt_of_lt_of_eq f9_2.lt g12.symm)
        have f12_0 := f9_0.ext E12
        have f12_1 := f9_1.ext E12
        have f12_2 := f9_2.ext E12
        have sz_b12 : h0.size ≤ b12 := Nat.le_trans zs9 (Nat.le_of_eq g12.symm)
        have zs12 : h0.size ≤ h12.size := Nat.le_trans zs9 E12.1
        refine gAast X12 hx hZ e12 f12_2 O8 x12 (j := (0 : Int32)) (by decide) (by decide) 0 (by decide) (by simp) (H d7_75) (pc' := 76) rfl (fun T13 h13 X13 e13 W13 A13 => ?_)
        have f13_0 := f12_0.wr W13
        have f13_1 := f12_1.other W13 (Or.inl ne_a_b8)
        have f13_2 := A12.other W13 (Ne.symm ne_b8_b12)
        have f13_3 := x12.wr W13
        have zs13 : h0.size ≤ h13.size := by rw [W13.size]; exact zs12
        have N13 := Fr.snoc X13 N9 (Nat.le_trans gz sz_b8)
        have V13 : Arv Z h13 b8 ck8 (.array .long) (2 : Int32) [(.ref b12), .null] .null := A13
        refine gLoadJN 77 X13 hx (H d7_76) rfl rfl ?_
        refine gLdc2 80 X13 hx hZ hown (ow hw 23 rfl) (H d7_77) rfl ?_
        refine gLadd 81 X13 hx (H d7_80) rfl ?_
        refine gLdc2 84 X13 hx hZ hown (ow hw 18 rfl) (H d7_81) rfl ?_
        refine gLdiv 85 X13 hx (H d7_84) (by decide) rfl ?_
        generalize hg_m2 : ((m1 + (63 : Int64)) / (64 : Int64)) = m2
        have hm2 : m2.toInt = (cw n 2 : Nat) := by rw [← hg_m2]; exact own_div64 (k := cw n 1) hm1 (by omega)
        refine gStoreJN 86 X13 hx (H d7_85) (l' := #[.val (.ref a), .val (.int (Int32.ofNat n)), .val (.int (2 : Int32)), .val (.long m2), .second, .val (.int (0 : Int32))]) rfl rfl ?_
        refine gIinc X13 hx (v := (1 : Int32)) (H d7_86) (l' := #[.val (.ref a), .val (.int (Int32.ofNat n)), .val (.int (2 : Int32)), .val (.long m2), .second, .val (.int (1 : Int32))]) (pc' := 89) rfl rfl rfl rfl ?_
        refine gGoto X13 hx (H d7_89) (pc' := 59) (by decide) (by decide) ?_
        refine gLoadI 61 X13 hx (H d7_59) rfl rfl ?_
        refine gLoadIN 62 X13 hx (H d7_61) rfl rfl ?_
        refine gIcmpGe X13 hx (H d7_62) (pc' := 92) (by decide) (by decide) (pn := 65) rfl (fun (c62' : (2 : Int) ≤ (1 : Int)) => ?_) (fun (c62' : (1 : Int) < (2 : Int)) => ?_)
        · exact absurd c62' (by decide)
        · refine gLoadAN 66 X13 hx (H d7_65) rfl rfl rfl ?_
          refine gGetF X13 hx hZ hown (ow hw 21 rfl) Via.refl e13 f13_1 (H d7_66) (pc' := 69) rfl (fun T14 X14 e14 => ?_)
          refine gLoadI 71 X14 hx (H d7_69) rfl rfl ?_
          refine gLoadJN 72 X14 hx (H d7_71) rfl rfl ?_
          refine gL2i 73 X14 hx (H d7_72) rfl ?_
          rw [show m2.toInt32 = Int32.ofNat (cw n 2) from own_l2n hm2 (by omega)]
          refine gNewPE X14 hx hZ (ow hw 27 rfl) e14 (H d7_73) (n := (Int32.ofNat (cw n 2))) (own_nn (by omega)) (cap := 1) (by rw [own_nclamp (by omega)]; omega) (by decide) (by decide) (by decide) (cw n 2) (pc' := 75) rfl (fun T15 h15 b15 ck15 X15 e15 g15 E15 A15 x15 => ?_)
          have ne_a_b15 : a ≠ b15 := Nat.ne_of_lt (Nat.lt_of_lt_of_eq f13_0.lt g15.symm)
          have ne_b12_b15 : b12 ≠ b15 := Nat.ne_of_lt (Nat.lt_of_lt_of_eq f13_2.lt g15.symm)
          have ne_b8_b15 : b8 ≠ b15 := Nat.ne_of_lt (Nat.lt_of_lt_of_eq V13.lt g15.symm)
          have f15_0 := f13_0.ext E15
          have f15_1 := f13_1.ext E15
          have f15_2 := f13_2.ext E15
          have f15_3 := f13_3.ext E15
          have f15_4 := V13.ext E15
          have sz_b15 : h0.size ≤ b15 := Nat.le_trans zs13 (Nat.le_of_eq g15.symm)
          have zs15 : h0.size ≤ h15.size := Nat.le_trans zs13 E15.1
          refine gAast X15 hx hZ e15 f15_4 O8 x15 (j := (1 : Int32)) (by decide) (by decide) 1 (by decide) (by simp) (H d7_75) (pc' := 76) rfl (fun T16 h16 X16 e16 W16 A16 => ?_)
          have f16_0 := f15_0.wr W16
          have f16_1 := f15_1.other W16 (Or.inl ne_a_b8)
          have f16_2 := f15_2.other W16 (Ne.symm ne_b8_b12)
          have f16_3 := f15_3.wr W16
          have f16_4 := A15.other W16 (Ne.symm ne_b8_b15)
          have f16_5 := x15.wr W16
          have zs16 : h0.size ≤ h16.size := by rw [W16.size]; exact zs15
          have N16 := Fr.snoc X16 N13 (Nat.le_trans gz sz_b8)
          have V16 : Arv Z h16 b8 ck8 (.array .long) (2 : Int32) [(.ref b12), (.ref b15)] .null := A16
          refine gLoadJN 77 X16 hx (H d7_76) rfl rfl ?_
          refine gLdc2 80 X16 hx hZ hown (ow hw 23 rfl) (H d7_77) rfl ?_
          refine gLadd 81 X16 hx (H d7_80) rfl ?_
          refine gLdc2 84 X16 hx hZ hown (ow hw 18 rfl) (H d7_81) rfl ?_
          refine gLdiv 85 X16 hx (H d7_84) (by decide) rfl ?_
          generalize hg_m3 : ((m2 + (63 : Int64)) / (64 : Int64)) = m3
          have hm3 : m3.toInt = (cw n 3 : Nat) := by rw [← hg_m3]; exact own_div64 (k := cw n 2) hm2 (by omega)
          refine gStoreJN 86 X16 hx (H d7_85) (l' := #[.val (.ref a), .val (.int (Int32.ofNat n)), .val (.int (2 : Int32)), .val (.long m3), .second, .val (.int (1 : Int32))]) rfl rfl ?_
          refine gIinc X16 hx (v := (1 : Int32)) (H d7_86) (l' := #[.val (.ref a), .val (.int (Int32.ofNat n)), .val (.int (2 : Int32)), .val (.long m3), .second, .val (.int (2 : Int32))]) (pc' := 89) rfl rfl rfl rfl ?_
          refine gGoto X16 hx (H d7_89) (pc' := 59) (by decide) (by decide) ?_
          refine gLoadI 61 X16 hx (H d7_59) rfl rfl ?_
          refine gLoadIN 62 X16 hx (H d7_61) rfl rfl ?_
          refine gIcmpGe X16 hx (H d7_62) (pc' := 92) (by decide) (by decide) (pn := 65) rfl (fun (c62'' : (2 : Int) ≤ (2 : Int)) => ?_) (fun (c62'' : (2 : Int) < (2 : Int)) => ?_)
          · exact gRetV X16 hx hlk hret (H d7_92) (by decide) (by decide) (⟨rfl, N16, b8, ck8, [b12, b15], by rw [e16]; exact RS.mk f16_0 f16_1 V16 (lev_cons ((Lvl.zero f16_2).congr (own_q0 0)) (lev_cons ((Lvl.zero f16_4).congr (own_q0 1)) lev_nil)) (lev_cons ⟨Nat.le_trans gz sz_b12, Ne.symm ne_b8_b12, Ne.symm ne_a_b12⟩ (lev_cons ⟨Nat.le_trans gz sz_b15, Ne.symm ne_b8_b15, Ne.symm ne_a_b15⟩ lev_nil)) (own_nodup (by simp [ne_b12_b15])), by simp, by simp, (show cw n 2 ≤ 1 by omega)⟩)
          · exact absurd c62'' (by decide)
    · refine gIinc X1 hx (v := (1 : Int32)) (H d7_17) (l' := #[.val (.ref a), .val (.int (Int32.ofNat n)), .val (.int (3 : Int32)), .val (.long z1), .second, .unset]) (pc' := 20) rfl rfl rfl rfl ?_
      refine gLoadJN 21 X1 hx (H d7_20) rfl rfl ?_
      refine gLdc2 24 X1 hx hZ hown (ow hw 23 rfl) (H d7_21) rfl ?_
      refine gLadd 25 X1 hx (H d7_24) rfl ?_
      refine gLdc2 28 X1 hx hZ hown (ow hw 18 rfl) (H d7_25) rfl ?_
      refine gLdiv 29 X1 hx (H d7_28) (by decide) rfl ?_
      generalize hg_z2 : ((z1 + (63 : Int64)) / (64 : Int64)) = z2
      have hz2 : z2.toInt = (cw n 2 : Nat) := by rw [← hg_z2]; exact own_div64 (k := cw n 1) hz1 (by omega)
      refine gStoreJN 30 X1 hx (H d7_29) (l' := #[.val (.ref a), .val (.int (Int32.ofNat n)), .val (.int (3 : Int32)), .val (.long z2), .second, .unset]) rfl rfl ?_
      refine gGoto X1 hx (H d7_30) (pc' := 9) (by decide) (by decide) ?_
      refine gLoadJN 10 X1 hx (H d7_9) rfl rfl ?_
      refine gLdc2 13 X1 hx hZ hown (ow hw 18 rfl) (H d7_10) rfl ?_
      refine gLcmp 14 X1 hx (H d7_13) rfl ?_
      refine gLIfLe X1 hx (H d7_14) (pc' := 33) (by decide) (by decide) (pn := 17) rfl (fun (c14'' : z2.toInt ≤ (64 : Int)) => ?_) (fun (c14'' : (64 : Int) < z2.toInt) => ?_)
      · refine gLoadAN 34 X1 hx (H d7_33) rfl rfl rfl ?_
        refine gLoadIN 35 X1 hx (H d7_34) rfl rfl ?_
        refine gNewRA X1 hx hZ hown (ow hw 19 rfl) (ow hw 20 rfl) e1 (H d7_35) (n := (3 : Int32)) (by decide) (cap := 3) (by decide) (by decide) (by decide) (by decide) 3 (pc' := 38) rfl (fun T17 h17 b17 ck17 X17 e17 g17 E17 A17 O17 => ?_)
        have ne_a_b17 : a ≠ b17 := Nat.ne_of_lt (Nat.lt_of_lt_of_eq E.lt g17.symm)
        have f17_0 := E.ext E17
        have f17_1 := F0.ext E17
        have sz_b17 : h0.size ≤ b17 := Nat.le_trans (Nat.le_refl _) (Nat.le_of_eq g17.symm)
        have zs17 : h0.size ≤ h17.size := Nat.le_trans (Nat.le_refl _) E17.1
        have V17 : Arv Z h17 b17 ck17 (.array .long) (3 : Int32) [.null, .null, .null] .null := A17
        refine gPutF X17 hx hZ hown (ow hw 21 rfl) Via.refl e17 f17_1 f17_0 (Or.inr ⟨(ow hw 22 rfl), rfl, hnm⟩) (ow hw 10 rfl) (ty := (.array (.array .long))) (by decide) rfl rfl (H d7_38) (pc' := 41) rfl (fun T18 h18 X18 e18 W18 => ?_)
        have f18_0 := f17_0.wr W18
        have f18_1 := f17_1.same W18
        have f18_2 := V17.other W18 (Ne.symm ne_a_b17)
        have zs18 : h0.size ≤ h18.size := by rw [W18.size]; exact zs17
        have N18 := Fr.snoc X18 (Fr.nil n0) ga
        refine gLconst 42 X18 hx (v := (1 : Int64)) (H d7_41) rfl rfl ?_
        refine gLoadIN 43 X18 hx (H d7_42) rfl rfl ?_
        refine gI2l 44 X18 hx (H d7_43) rfl ?_
        rw [hg_z0]
        refine gLdc2 47 X18 hx hZ hown (ow hw 23 rfl) (H d7_44) rfl ?_
        refine gLadd 48 X18 hx (H d7_47) rfl ?_
        refine gLdc2 51 X18 hx hZ hown (ow hw 18 rfl) (H d7_48) rfl ?_
        refine gLdiv 52 X18 hx (H d7_51) (by decide) rfl ?_
        generalize hg_m1 : ((z0 + (63 : Int64)) / (64 : Int64)) = m1
        have hm1 : m1.toInt = (cw n 1 : Nat) := by rw [← hg_m1]; exact own_div64 (k := cw n 0) hz0 (by omega)
        refine gCallSJ X18 hx hZ (y := mn7) hown e18 (by rw [hml]; rfl) (ow hw 24 rfl) (ow hw 25 rfl) (ow hw 4 rfl) (ow hw 26 rfl) (by decide) (argsL := [(.long (1 : Int64)), (.long m1)]) (st := []) (c_maxJ l Z a0 hw (1 : Int64) m1 (by omega) h18) (lenOf pd_5 rfl) (H d7_52) (pc' := 55) rfl rfl rfl rfl (by decide) (W := 0) (Nat.le_of_eq rfl) (by decide) (by decide) (by decide) ?_
        intro T19 X19 e19
        refine gStoreJN 56 X19 hx (H d7_55) (l' := #[.val (.ref a), .val (.int (Int32.ofNat n)), .val (.int (3 : Int32)), .val (.long m1), .second, .unset]) rfl rfl ?_
        refine gIconst 57 X19 hx (v := (0 : Int32)) (H d7_56) rfl rfl ?_
        refine gStoreI 59 X19 hx (H d7_57) (l' := #[.val (.ref a), .val (.int (Int32.ofNat n)), .val (.int (3 : Int32)), .val (.long m1), .second, .val (.int (0 : Int32))]) rfl rfl ?_
        refine gLoadI 61 X19 hx (H d7_59) rfl rfl ?_
        refine gLoadIN 62 X19 hx (H d7_61) rfl rfl ?_
        refine gIcmpGe X19 hx (H d7_62) (pc' := 92) (by decide) (by decide) (pn := 65) rfl (fun (c62 : (3 : Int) ≤ (0 : Int)) => ?_) (fun (c62 : (0 : Int) < (3 : Int)) => ?_)
        · exact absurd c62 (by decide)
        · refine gLoadAN 66 X19 hx (H d7_65) rfl rfl rfl ?_
          refine gGetF X19 hx hZ hown (ow hw 21 rfl) Via.refl e19 f18_1 (H d7_66) (pc' := 69) rfl (fun T20 X20 e20 => ?_)
          refine gLoadI 71 X20 hx (H d7_69) rfl rfl ?_
          refine gLoadJN 72 X20 hx (H d7_71) rfl rfl ?_
          refine gL2i 73 X20 hx (H d7_72) rfl ?_
          rw [show m1.toInt32 = Int32.ofNat (cw n 1) from own_l2n hm1 (by omega)]
          refine gNewPE X20 hx hZ (ow hw 27 rfl) e20 (H d7_73) (n := (Int32.ofNat (cw n 1))) (own_nn (by omega)) (cap := 4096) (by rw [own_nclamp (by omega)]; omega) (by decide) (by decide) (by decide) (cw n 1) (pc' := 75) rfl (fun T21 h21 b21 ck21 X21 e21 g21 E21 A21 x21 => ?_)
          have ne_a_b21 : a ≠ b21 := Nat.ne_of_lt (Nat.lt_of_lt_of_eq f18_0.lt g21.symm)
          have ne_b17_b21 : b17 ≠ b21 := Nat.ne_of_lt (Nat.lt_of_lt_of_eq f18_2.lt g21.symm)
          have f21_0 := f18_0.ext E21
          have f21_1 := f18_1.ext E21
          have f21_2 := f18_2.ext E21
          have sz_b21 : h0.size ≤ b21 := Nat.le_trans zs18 (Nat.le_of_eq g21.symm)
          have zs21 : h0.size ≤ h21.size := Nat.le_trans zs18 E21.1
          refine gAast X21 hx hZ e21 f21_2 O17 x21 (j := (0 : Int32)) (by decide) (by decide) 0 (by decide) (by simp) (H d7_75) (pc' := 76) rfl (fun T22 h22 X22 e22 W22 A22 => ?_)
          have f22_0 := f21_0.wr W22
          have f22_1 := f21_1.other W22 (Or.inl ne_a_b17)
          have f22_2 := A21.other W22 (Ne.symm ne_b17_b21)
          have f22_3 := x21.wr W22
          have zs22 : h0.size ≤ h22.size := by rw [W22.size]; exact zs21
          have N22 := Fr.snoc X22 N18 (Nat.le_trans gz sz_b17)
          have V22 : Arv Z h22 b17 ck17 (.array .long) (3 : Int32) [(.ref b21), .null, .null] .null := A22
          refine gLoadJN 77 X22 hx (H d7_76) rfl rfl ?_
          refine gLdc2 80 X22 hx hZ hown (ow hw 23 rfl) (H d7_77) rfl ?_
          refine gLadd 81 X22 hx (H d7_80) rfl ?_
          refine gLdc2 84 X22 hx hZ hown (ow hw 18 rfl) (H d7_81) rfl ?_
          refine gLdiv 85 X22 hx (H d7_84) (by decide) rfl ?_
          generalize hg_m2 : ((m1 + (63 : Int64)) / (64 : Int64)) = m2
          have hm2 : m2.toInt = (cw n 2 : Nat) := by rw [← hg_m2]; exact own_div64 (k := cw n 1) hm1 (by omega)
          refine gStoreJN 86 X22 hx (H d7_85) (l' := #[.val (.ref a), .val (.int (Int32.ofNat n)), .val (.int (3 : Int32)), .val (.long m2), .second, .val (.int (0 : Int32))]) rfl rfl ?_
          refine gIinc X22 hx (v := (1 : Int32)) (H d7_86) (l' := #[.val (.ref a), .val (.int (Int32.ofNat n)), .val (.int (3 : Int32)), .val (.long m2), .second, .val (.int (1 : Int32))]) (pc' := 89) rfl rfl rfl rfl ?_
          refine gGoto X22 hx (H d7_89) (pc' := 59) (by decide) (by decide) ?_
          refine gLoadI 61 X22 hx (H d7_59) rfl rfl ?_
          refine gLoadIN 62 X22 hx (H d7_61) rfl rfl ?_
          refine gIcmpGe X22 hx (H d7_62) (pc' := 92) (by decide) (by decide) (pn := 65) rfl (fun (c62' : (3 : Int) ≤ (1 : Int)) => ?_) (fun (c62' : (1 : Int) < (3 : Int)) => ?_)
          · exact absurd c62' (by decide)
          · refine gLoadAN 66 X22 hx (H d7_65) rfl rfl rfl ?_
            refine gGetF X22 hx hZ hown (ow hw 21 rfl) Via.refl e22 f22_1 (H d7_66) (pc' := 69) rfl (fun T23 X23 e23 => ?_)
            refine gLoadI 71 X23 hx (H d7_69) rfl rfl ?_
            refine gLoadJN 72 X23 hx (H d7_71) rfl rfl ?_
            refine gL2i 73 X23 hx (H d7_72) rfl ?_
            rw [show m2.toInt32 = Int32.ofNat (cw n 2) from own_l2n hm2 (by omega)]
            refine gNewPE X23 hx hZ (ow hw 27 rfl) e23 (H d7_73) (n := (Int32.ofNat (cw n 2))) (own_nn (by omega)) (cap := 64) (by rw [own_nclamp (by omega)]; omega) (by decide) (by decide) (by decide) (cw n 2) (pc' := 75) rfl (fun T24 h24 b24 ck24 X24 e24 g24 E24 A24 x24 => ?_)
            have ne_a_b24 : a ≠ b24 := Nat.ne_of_lt (Nat.lt_of_lt_of_eq f22_0.lt g24.symm)
            have ne_b21_b24 : b21 ≠ b24 := Nat.ne_of_lt (Nat.lt_of_lt_of_eq f22_2.lt g24.symm)
            have ne_b17_b24 : b17 ≠ b24 := Nat.ne_of_lt (Nat.lt_of_lt_of_eq V22.lt g24.symm)
            have f24_0 := f22_0.ext E24
            have f24_1 := f22_1.ext E24
            have f24_2 := f22_2.ext E24
            have f24_3 := f22_3.ext E24
            have f24_4 := V22.ext E24
            have sz_b24 : h0.size ≤ b24 := Nat.le_trans zs22 (Nat.le_of_eq g24.symm)
            have zs24 : h0.size ≤ h24.size := Nat.le_trans zs22 E24.1
            refine gAast X24 hx hZ e24 f24_4 O17 x24 (j := (1 : Int32)) (by decide) (by decide) 1 (by decide) (by simp) (H d7_75) (pc' := 76) rfl (fun T25 h25 X25 e25 W25 A25 => ?_)
            have f25_0 := f24_0.wr W25
            have f25_1 := f24_1.other W25 (Or.inl ne_a_b17)
            have f25_2 := f24_2.other W25 (Ne.symm ne_b17_b21)
            have f25_3 := f24_3.wr W25
            have f25_4 := A24.other W25 (Ne.symm ne_b17_b24)
            have f25_5 := x24.wr W25
            have zs25 : h0.size ≤ h25.size := by rw [W25.size]; exact zs24
            have N25 := Fr.snoc X25 N22 (Nat.le_trans gz sz_b17)
            have V25 : Arv Z h25 b17 ck17 (.array .long) (3 : Int32) [(.ref b21), (.ref b24), .null] .null := A25
            refine gLoadJN 77 X25 hx (H d7_76) rfl rfl ?_
            refine gLdc2 80 X25 hx hZ hown (ow hw 23 rfl) (H d7_77) rfl ?_
            refine gLadd 81 X25 hx (H d7_80) rfl ?_
            refine gLdc2 84 X25 hx hZ hown (ow hw 18 rfl) (H d7_81) rfl ?_
            refine gLdiv 85 X25 hx (H d7_84) (by decide) rfl ?_
            generalize hg_m3 : ((m2 + (63 : Int64)) / (64 : Int64)) = m3
            have hm3 : m3.toInt = (cw n 3 : Nat) := by rw [← hg_m3]; exact own_div64 (k := cw n 2) hm2 (by omega)
            refine gStoreJN 86 X25 hx (H d7_85) (l' := #[.val (.ref a), .val (.int (Int32.ofNat n)), .val (.int (3 : Int32)), .val (.long m3), .second, .val (.int (1 : Int32))]) rfl rfl ?_
            refine gIinc X25 hx (v := (1 : Int32)) (H d7_86) (l' := #[.val (.ref a), .val (.int (Int32.ofNat n)), .val (.int (3 : Int32)), .val (.long m3), .second, .val (.int (2 : Int32))]) (pc' := 89) rfl rfl rfl rfl ?_
            refine gGoto X25 hx (H d7_89) (pc' := 59) (by decide) (by decide) ?_
            refine gLoadI 61 X25 hx (H d7_59) rfl rfl ?_
            refine gLoadIN 62 X25 hx (H d7_61) rfl rfl ?_
            refine gIcmpGe X25 hx (H d7_62) (pc' := 92) (by decide) (by decide) (pn := 65) rfl (fun (c62'' : (3 : Int) ≤ (2 : Int)) => ?_) (fun (c62'' : (2 : Int) < (3 : Int)) => ?_)
            · exact absurd c62'' (by decide)
            · refine gLoadAN 66 X25 hx (H d7_65) rfl rfl rfl ?_
              refine gGetF X25 hx hZ hown (ow hw 21 rfl) Via.refl e25 f25_1 (H d7_66) (pc' := 69) rfl (fun T26 X26 e26 => ?_)
              refine gLoadI 71 X26 hx (H d7_69) rfl rfl ?_
              refine gLoadJN 72 X26 hx (H d7_71) rfl rfl ?_
              refine gL2i 73 X26 hx (H d7_72) rfl ?_
              rw [show m3.toInt32 = Int32.ofNat (cw n 3) from own_l2n hm3 (by omega)]
              refine gNewPE X26 hx hZ (ow hw 27 rfl) e26 (H d7_73) (n := (Int32.ofNat (cw n 3))) (own_nn (by omega)) (cap := 1) (by rw [own_nclamp (by omega)]; omega) (by decide) (by decide) (by decide) (cw n 3) (pc' := 75) rfl (fun T27 h27 b27 ck27 X27 e27 g27 E27 A27 x27 => ?_)
              have ne_a_b27 : a ≠ b27 := Nat.ne_of_lt (Nat.lt_of_lt_of_eq f25_0.lt g27.symm)
              have ne_b21_b27 : b21 ≠ b27 := Nat.ne_of_lt (Nat.lt_of_lt_of_eq f25_2.lt g27.symm)
              have ne_b24_b27 : b24 ≠ b27 := Nat.ne_of_lt (Nat.lt_of_lt_of_eq f25_4.lt g27.symm)
              have ne_b17_b27 : b17 ≠ b27 := Nat.ne_of_lt (Nat.lt_of_lt_of_eq V25.lt g27.symm)
              have f27_0 := f25_0.ext E27
              have f27_1 := f25_1.ext E27
              have f27_2 := f25_2.ext E27
              have f27_3 := f25_3.ext E27
              have f27_4 := f25_4.ext E27
              have f27_5 := f25_5.ext E27
              have f27_6 := V25.ext E27
              have sz_b27 : h0.size ≤ b27 := Nat.le_trans zs25 (Nat.le_of_eq g27.symm)
              have zs27 : h0.size ≤ h27.size := Nat.le_trans zs25 E27.1
              refine gAast X27 hx hZ e27 f27_6 O17 x27 (j := (2 : Int32)) (by decide) (by decide) 2 (by decide) (by simp) (H d7_75) (pc' := 76) rfl (fun T28 h28 X28 e28 W28 A28 => ?_)
              have f28_0 := f27_0.wr W28
              have f28_1 := f27_1.other W28 (Or.inl ne_a_b17)
              have f28_2 := f27_2.other W28 (Ne.symm ne_b17_b21)
              have f28_3 := f27_3.wr W28
              have f28_4 := f27_4.other W28 (Ne.symm ne_b17_b24)
              have f28_5 := f27_5.wr W28
              have f28_6 := A27.other W28 (Ne.symm ne_b17_b27)
              have f28_7 := x27.wr W28
              have zs28 : h0.size ≤ h28.size := by rw [W28.size]; exact zs27
              have N28 := Fr.snoc X28 N25 (Nat.le_trans gz sz_b17)
              have V28 : Arv Z h28 b17 ck17 (.array .long) (3 : Int32) [(.ref b21), (.ref b24), (.ref b27)] .null := A28
              refine gLoadJN 77 X28 hx (H d7_76) rfl rfl ?_
              refine gLdc2 80 X28 hx hZ hown (ow hw 23 rfl) (H d7_77) rfl ?_
              refine gLadd 81 X28 hx (H d7_80) rfl ?_
              refine gLdc2 84 X28 hx hZ hown (ow hw 18 rfl) (H d7_81) rfl ?_
              refine gLdiv 85 X28 hx (H d7_84) (by decide) rfl ?_
              generalize hg_m4 : ((m3 + (63 : Int64)) / (64 : Int64)) = m4
              have hm4 : m4.toInt = (cw n 4 : Nat) := by rw [← hg_m4]; exact own_div64 (k := cw n 3) hm3 (by omega)
              refine gStoreJN 86 X28 hx (H d7_85) (l' := #[.val (.ref a), .val (.int (Int32.ofNat n)), .val (.int (3 : Int32)), .val (.long m4), .second, .val (.int (2 : Int32))]) rfl rfl ?_
              refine gIinc X28 hx (v := (1 : Int32)) (H d7_86) (l' := #[.val (.ref a), .val (.int (Int32.ofNat n)), .val (.int (3 : Int32)), .val (.long m4), .second, .val (.int (3 : Int32))]) (pc' := 89) rfl rfl rfl rfl ?_
              refine gGoto X28 hx (H d7_89) (pc' := 59) (by decide) (by decide) ?_
              refine gLoadI 61 X28 hx (H d7_59) rfl rfl ?_
              refine gLoadIN 62 X28 hx (H d7_61) rfl rfl ?_
              refine gIcmpGe X28 hx (H d7_62) (pc' := 92) (by decide) (by decide) (pn := 65) rfl (fun (c62''' : (3 : Int) ≤ (3 : Int)) => ?_) (fun (c62''' : (3 : Int) < (3 : Int)) => ?_)
              · exact gRetV X28 hx hlk hret (H d7_92) (by decide) (by decide) (⟨rfl, N28, b17, ck17, [b21, b24, b27], by rw [e28]; exact RS.mk f28_0 f28_1 V28 (lev_cons ((Lvl.zero f28_2).congr (own_q0 0)) (lev_cons ((Lvl.zero f28_4).congr (own_q0 1)) (lev_cons ((Lvl.zero f28_6).congr (own_q0 2)) lev_nil))) (lev_cons ⟨Nat.le_trans gz sz_b21, Ne.symm ne_b17_b21, Ne.symm ne_a_b21⟩ (lev_cons ⟨Nat.le_trans gz sz_b24, Ne.symm ne_b17_b24, Ne.symm ne_a_b24⟩ (lev_cons ⟨Nat.le_trans gz sz_b27, Ne.symm ne_b17_b27, Ne.symm ne_a_b27⟩ lev_nil))) (own_nodup (by simp [ne_b21_b24, ne_b21_b27, ne_b24_b27])), by simp, by simp, (show cw n 3 ≤ 1 by omega)⟩)
              · exact absurd c62''' (by decide)
      · refine gIinc X1 hx (v := (1 : Int32)) (H d7_17) (l' := #[.val (.ref a), .val (.int (Int32.ofNat n)), .val (.int (4 : Int32)), .val (.long z2), .second, .unset]) (pc' := 20) rfl rfl rfl rfl ?_
        refine gLoadJN 21 X1 hx (H d7_20) rfl rfl ?_
        refine gLdc2 24 X1 hx hZ hown (ow hw 23 rfl) (H d7_21) rfl ?_
        refine gLadd 25 X1 hx (H d7_24) rfl ?_
        refine gLdc2 28 X1 hx hZ hown (ow hw 18 rfl) (H d7_25) rfl ?_
        refine gLdiv 29 X1 hx (H d7_28) (by decide) rfl ?_
        generalize hg_z3 : ((z2 + (63 : Int64)) / (64 : Int64)) = z3
        have hz3 : z3.toInt = (cw n 3 : Nat) := by rw [← hg_z3]; exact own_div64 (k := cw n 2) hz2 (by omega)
        refine gStoreJN 30 X1 hx (H d7_29) (l' := #[.val (.ref a), .val (.int (Int32.ofNat n)), .val (.int (4 : Int32)), .val (.long z3), .second, .unset]) rfl rfl ?_
        refine gGoto X1 hx (H d7_30) (pc' := 9) (by decide) (by decide) ?_
        refine gLoadJN 10 X1 hx (H d7_9) rfl rfl ?_
        refine gLdc2 13 X1 hx hZ hown (ow hw 18 rfl) (H d7_10) rfl ?_
        refine gLcmp 14 X1 hx (H d7_13) rfl ?_
        refine gLIfLe X1 hx (H d7_14) (pc' := 33) (by decide) (by decide) (pn := 17) rfl (fun (c14''' : z3.toInt ≤ (64 : Int)) => ?_) (fun (c14''' : (64 : Int) < z3.toInt) => ?_)
        · refine gLoadAN 34 X1 hx (H d7_33) rfl rfl rfl ?_
          refine gLoadIN 35 X1 hx (H d7_34) rfl rfl ?_
          refine gNewRA X1 hx hZ hown (ow hw 19 rfl) (ow hw 20 rfl) e1 (H d7_35) (n := (4 : Int32)) (by decide) (cap := 4) (by decide) (by decide) (by decide) (by decide) 4 (pc' := 38) rfl (fun T29 h29 b29 ck29 X29 e29 g29 E29 A29 O29 => ?_)
          have ne_a_b29 : a ≠ b29 := Nat.ne_of_lt (Nat.lt_of_lt_of_eq E.lt g29.symm)
          have f29_0 := E.ext E29
          have f29_1 := F0.ext E29
          have sz_b29 : h0.size ≤ b29 := Nat.le_trans (Nat.le_refl _) (Nat.le_of_eq g29.symm)
          have zs29 : h0.size ≤ h29.size := Nat.le_trans (Nat.le_refl _) E29.1
          have V29 : Arv Z h29 b29 ck29 (.array .long) (4 : Int32) [.null, .null, .null, .null] .null := A29
          refine gPutF X29 hx hZ hown (ow hw 21 rfl) Via.refl e29 f29_1 f29_0 (Or.inr ⟨(ow hw 22 rfl), rfl, hnm⟩) (ow hw 10 rfl) (ty := (.array (.array .long))) (by decide) rfl rfl (H d7_38) (pc' := 41) rfl (fun T30 h30 X30 e30 W30 => ?_)
          have f30_0 := f29_0.wr W30
          have f30_1 := f29_1.same W30
          have f30_2 := V29.other W30 (Ne.symm ne_a_b29)
          have zs30 : h0.size ≤ h30.size := by rw [W30.size]; exact zs29
          have N30 := Fr.snoc X30 (Fr.nil n0) ga
          refine gLconst 42 X30 hx (v := (1 : Int64)) (H d7_41) rfl rfl ?_
          refine gLoadIN 43 X30 hx (H d7_42) rfl rfl ?_
          refine gI2l 44 X30 hx (H d7_43) rfl ?_
          rw [hg_z0]
          refine gLdc2 47 X30 hx hZ hown (ow hw 23 rfl) (H d7_44) rfl ?_
          refine gLadd 48 X30 hx (H d7_47) rfl ?_
          refine gLdc2 51 X30 hx hZ hown (ow hw 18 rfl) (H d7_48) rfl ?_
          refine gLdiv 52 X30 hx (H d7_51) (by decide) rfl ?_
          generalize hg_m1 : ((z0 + (63 : Int64)) / (64 : Int64)) = m1
          have hm1 : m1.toInt = (cw n 1 : Nat) := by rw [← hg_m1]; exact own_div64 (k := cw n 0) hz0 (by omega)
          refine gCallSJ X30 hx hZ (y := mn7) hown e30 (by rw [hml]; rfl) (ow hw 24 rfl) (ow hw 25 rfl) (ow hw 4 rfl) (ow hw 26 rfl) (by decide) (argsL := [(.long (1 : Int64)), (.long m1)]) (st := []) (c_maxJ l Z a0 hw (1 : Int64) m1 (by omega) h30) (lenOf pd_5 rfl) (H d7_52) (pc' := 55) rfl rfl rfl rfl (by decide) (W := 0) (Nat.le_of_eq rfl) (by decide) (by decide) (by decide) ?_
          intro T31 X31 e31
          refine gStoreJN 56 X31 hx (H d7_55) (l' := #[.val (.ref a), .val (.int (Int32.ofNat n)), .val (.int (4 : Int32)), .val (.long m1), .second, .unset]) rfl rfl ?_
          refine gIconst 57 X31 hx (v := (0 : Int32)) (H d7_56) rfl rfl ?_
          refine gStoreI 59 X31 hx (H d7_57) (l' := #[.val (.ref a), .val (.int (Int32.ofNat n)), .val (.int (4 : Int32)), .val (.long m1), .second, .val (.int (0 : Int32))]) rfl rfl ?_
          refine gLoadI 61 X31 hx (H d7_59) rfl rfl ?_
          refine gLoadIN 62 X31 hx (H d7_61) rfl rfl ?_
          refine gIcmpGe X31 hx (H d7_62) (pc' := 92) (by decide) (by decide) (pn := 65) rfl (fun (c62 : (4 : Int) ≤ (0 : Int)) => ?_) (fun (c62 : (0 : Int) < (4 : Int)) => ?_)
          · exact absurd c62 (by decide)
          · refine gLoadAN 66 X31 hx (H d7_65) rfl rfl rfl ?_
            refine gGetF X31 hx hZ hown (ow hw 21 rfl) Via.refl e31 f30_1 (H d7_66) (pc' := 69) rfl (fun T32 X32 e32 => ?_)
            refine gLoadI 71 X32 hx (H d7_69) rfl rfl ?_
            refine gLoadJN 72 X32 hx (H d7_71) rfl rfl ?_
            refine gL2i 73 X32 hx (H d7_72) rfl ?_
            rw [show m1.toInt32 = Int32.ofNat (cw n 1) from own_l2n hm1 (by omega)]
            refine gNewPE X32 hx hZ (ow hw 27 rfl) e32 (H d7_73) (n := (Int32.ofNat (cw n 1))) (own_nn (by omega)) (cap := 16384) (by rw [own_nclamp (by omega)]; omega) (by decide) (by decide) (by decide) (cw n 1) (pc' := 75) rfl (fun T33 h33 b33 ck33 X33 e33 g33 E33 A33 x33 => ?_)
            have ne_a_b33 : a ≠ b33 := Nat.ne_of_lt (Nat.lt_of_lt_of_eq f30_0.lt g33.symm)
            have ne_b29_b33 : b29 ≠ b33 := Nat.ne_of_lt (Nat.lt_of_lt_of_eq f30_2.lt g33.symm)
            have f33_0 := f30_0.ext E33
            have f33_1 := f30_1.ext E33
            have f33_2 := f30_2.ext E33
            have sz_b33 : h0.size ≤ b33 := Nat.le_trans zs30 (Nat.le_of_eq g33.symm)
            have zs33 : h0.size ≤ h33.size := Nat.le_trans zs30 E33.1
            refine gAast X33 hx hZ e33 f33_2 O29 x33 (j := (0 : Int32)) (by decide) (by decide) 0 (by decide) (by simp) (H d7_75) (pc' := 76) rfl (fun T34 h34 X34 e34 W34 A34 => ?_)
            have f34_0 := f33_0.wr W34
            have f34_1 := f33_1.other W34 (Or.inl ne_a_b29)
            have f34_2 := A33.other W34 (Ne.symm ne_b29_b33)
            have f34_3 := x33.wr W34
            have zs34 : h0.size ≤ h34.size := by rw [W34.size]; exact zs33
            have N34 := Fr.snoc X34 N30 (Nat.le_trans gz sz_b29)
            have V34 : Arv Z h34 b29 ck29 (.array .long) (4 : Int32) [(.ref b33), .null, .null, .null] .null := A34
            refine gLoadJN 77 X34 hx (H d7_76) rfl rfl ?_
            refine gLdc2 80 X34 hx hZ hown (ow hw 23 rfl) (H d7_77) rfl ?_
            refine gLadd 81 X34 hx (H d7_80) rfl ?_
            refine gLdc2 84 X34 hx hZ hown (ow hw 18 rfl) (H d7_81) rfl ?_
            refine gLdiv 85 X34 hx (H d7_84) (by decide) rfl ?_
            generalize hg_m2 : ((m1 + (63 : Int64)) / (64 : Int64)) = m2
            have hm2 : m2.toInt = (cw n 2 : Nat) := by rw [← hg_m2]; exact own_div64 (k := cw n 1) hm1 (by omega)
            refine gStoreJN 86 X34 hx (H d7_85) (l' := #[.val (.ref a), .val (.int (Int32.ofNat n)), .val (.int (4 : Int32)), .val (.long m2), .second, .val (.int (0 : Int32))]) rfl rfl ?_
            refine gIinc X34 hx (v := (1 : Int32)) (H d7_86) (l' := #[.val (.ref a), .val (.int (Int32.ofNat n)), .val (.int (4 : Int32)), .val (.long m2), .second, .val (.int (1 : Int32))]) (pc' := 89) rfl rfl rfl rfl ?_
            refine gGoto X34 hx (H d7_89) (pc' := 59) (by decide) (by decide) ?_
            refine gLoadI 61 X34 hx (H d7_59) rfl rfl ?_
            refine gLoadIN 62 X34 hx (H d7_61) rfl rfl ?_
            refine gIcmpGe X34 hx (H d7_62) (pc' := 92) (by decide) (by decide) (pn := 65) rfl (fun (c62' : (4 : Int) ≤ (1 : Int)) => ?_) (fun (c62' : (1 : Int) < (4 : Int)) => ?_)
            · exact absurd c62' (by decide)
            · refine gLoadAN 66 X34 hx (H d7_65) rfl rfl rfl ?_
              refine gGetF X34 hx hZ hown (ow hw 21 rfl) Via.refl e34 f34_1 (H d7_66) (pc' := 69) rfl (fun T35 X35 e35 => ?_)
              refine gLoadI 71 X35 hx (H d7_69) rfl rfl ?_
              refine gLoadJN 72 X35 hx (H d7_71) rfl rfl ?_
              refine gL2i 73 X35 hx (H d7_72) rfl ?_
              rw [show m2.toInt32 = Int32.ofNat (cw n 2) from own_l2n hm2 (by omega)]
              refine gNewPE X35 hx hZ (ow hw 27 rfl) e35 (H d7_73) (n := (Int32.ofNat (cw n 2))) (own_nn (by omega)) (cap := 256) (by rw [own_nclamp (by omega)]; omega) (by decide) (by decide) (by decide) (cw n 2) (pc' := 75) rfl (fun T36 h36 b36 ck36 X36 e36 g36 E36 A36 x36 => ?_)
              have ne_a_b36 : a ≠ b36 := Nat.ne_of_lt (Nat.lt_of_lt_of_eq f34_0.lt g36.symm)
              have ne_b33_b36 : b33 ≠ b36 := Nat.ne_of_lt (Nat.lt_of_lt_of_eq f34_2.lt g36.symm)
              have ne_b29_b36 : b29 ≠ b36 := Nat.ne_of_lt (Nat.lt_of_lt_of_eq V34.lt g36.symm)
              have f36_0 := f34_0.ext E36
              have f36_1 := f34_1.ext E36
              have f36_2 := f34_2.ext E36
              have f36_3 := f34_3.ext E36
              have f36_4 := V34.ext E36
              have sz_b36 : h0.size ≤ b36 := Nat.le_trans zs34 (Nat.le_of_eq g36.symm)
              have zs36 : h0.size ≤ h36.size := Nat.le_trans zs34 E36.1
              refine gAast X36 hx hZ e36 f36_4 O29 x36 (j := (1 : Int32)) (by decide) (by decide) 1 (by decide) (by simp) (H d7_75) (pc' := 76) rfl (fun T37 h37 X37 e37 W37 A37 => ?_)
              have f37_0 := f36_0.wr W37
              have f37_1 := f36_1.other W37 (Or.inl ne_a_b29)
              have f37_2 := f36_2.other W37 (Ne.symm ne_b29_b33)
              have f37_3 := f36_3.wr W37
              have f37_4 := A36.other W37 (Ne.symm ne_b29_b36)
              have f37_5 := x36.wr W37
              have zs37 : h0.size ≤ h37.size := by rw [W37.size]; exact zs36
              have N37 := Fr.snoc X37 N34 (Nat.le_trans gz sz_b29)
              have V37 : Arv Z h37 b29 ck29 (.array .long) (4 : Int32) [(.ref b33), (.ref b36), .null, .null] .null := A37
              refine gLoadJN 77 X37 hx (H d7_76) rfl rfl ?_
              refine gLdc2 80 X37 hx hZ hown (ow hw 23 rfl) (H d7_77) rfl ?_
              refine gLadd 81 X37 hx (H d7_80) rfl ?_
              refine gLdc2 84 X37 hx hZ hown (ow hw 18 rfl) (H d7_81) rfl ?_
              refine gLdiv 85 X37 hx (H d7_84) (by decide) rfl ?_
              generalize hg_m3 : ((m2 + (63 : Int64)) / (64 : Int64)) = m3
              have hm3 : m3.toInt = (cw n 3 : Nat) := by rw [← hg_m3]; exact own_div64 (k := cw n 2) hm2 (by omega)
              refine gStoreJN 86 X37 hx (H d7_85) (l' := #[.val (.ref a), .val (.int (Int32.ofNat n)), .val (.int (4 : Int32)), .val (.long m3), .second, .val (.int (1 : Int32))]) rfl rfl ?_
              refine gIinc X37 hx (v := (1 : Int32)) (H d7_86) (l' := #[.val (.ref a), .val (.int (Int32.ofNat n)), .val (.int (4 : Int32)), .val (.long m3), .second, .val (.int (2 : Int32))]) (pc' := 89) rfl rfl rfl rfl ?_
              refine gGoto X37 hx (H d7_89) (pc' := 59) (by decide) (by decide) ?_
              refine gLoadI 61 X37 hx (H d7_59) rfl rfl ?_
              refine gLoadIN 62 X37 hx (H d7_61) rfl rfl ?_
              refine gIcmpGe X37 hx (H d7_62) (pc' := 92) (by decide) (by decide) (pn := 65) rfl (fun (c62'' : (4 : Int) ≤ (2 : Int)) => ?_) (fun (c62'' : (2 : Int) < (4 : Int)) => ?_)
              · exact absurd c62'' (by decide)
              · refine gLoadAN 66 X37 hx (H d7_65) rfl rfl rfl ?_
                refine gGetF X37 hx hZ hown (ow hw 21 rfl) Via.refl e37 f37_1 (H d7_66) (pc' := 69) rfl (fun T38 X38 e38 => ?_)
                refine gLoadI 71 X38 hx (H d7_69) rfl rfl ?_
                refine gLoadJN 72 X38 hx (H d7_71) rfl rfl ?_
                refine gL2i 73 X38 hx (H d7_72) rfl ?_
                rw [show m3.toInt32 = Int32.ofNat (cw n 3) from own_l2n hm3 (by omega)]
                refine gNewPE X38 hx hZ (ow hw 27 rfl) e38 (H d7_73) (n := (Int32.ofNat (cw n 3))) (own_nn (by omega)) (cap := 4) (by rw [own_nclamp (by omega)]; omega) (by decide) (by decide) (by decide) (cw n 3) (pc' := 75) rfl (fun T39 h39 b39 ck39 X39 e39 g39 E39 A39 x39 => ?_)
                have ne_a_b39 : a ≠ b39 := Nat.ne_of_lt (Nat.lt_of_lt_of_eq f37_0.lt g39.symm)
                have ne_b33_b39 : b33 ≠ b39 := Nat.ne_of_lt (Nat.lt_of_lt_of_eq f37_2.lt g39.symm)
                have ne_b36_b39 : b36 ≠ b39 := Nat.ne_of_lt (Nat.lt_of_lt_of_eq f37_4.lt g39.symm)
                have ne_b29_b39 : b29 ≠ b39 := Nat.ne_of_lt (Nat.lt_of_lt_of_eq V37.lt g39.symm)
                have f39_0 := f37_0.ext E39
                have f39_1 := f37_1.ext E39
                have f39_2 := f37_2.ext E39
                have f39_3 := f37_3.ext E39
                have f39_4 := f37_4.ext E39
                have f39_5 := f37_5.ext E39
                have f39_6 := V37.ext E39
                have sz_b39 : h0.size ≤ b39 := Nat.le_trans zs37 (Nat.le_of_eq g39.symm)
                have zs39 : h0.size ≤ h39.size := Nat.le_trans zs37 E39.1
                refine gAast X39 hx hZ e39 f39_6 O29 x39 (j := (2 : Int32)) (by decide) (by decide) 2 (by decide) (by simp) (H d7_75) (pc' := 76) rfl (fun T40 h40 X40 e40 W40 A40 => ?_)
                have f40_0 := f39_0.wr W40
                have f40_1 := f39_1.other W40 (Or.inl ne_a_b29)
                have f40_2 := f39_2.other W40 (Ne.symm ne_b29_b33)
                have f40_3 := f39_3.wr W40
                have f40_4 := f39_4.other W40 (Ne.symm ne_b29_b36)
                have f40_5 := f39_5.wr W40
                have f40_6 := A39.other W40 (Ne.symm ne_b29_b39)
                have f40_7 := x39.wr W40
                have zs40 : h0.size ≤ h40.size := by rw [W40.size]; exact zs39
                have N40 := Fr.snoc X40 N37 (Nat.le_trans gz sz_b29)
                have V40 : Arv Z h40 b29 ck29 (.array .long) (4 : Int32) [(.ref b33), (.ref b36), (.ref b39), .null] .null := A40
                refine gLoadJN 77 X40 hx (H d7_76) rfl rfl ?_
                refine gLdc2 80 X40 hx hZ hown (ow hw 23 rfl) (H d7_77) rfl ?_
                refine gLadd 81 X40 hx (H d7_80) rfl ?_
                refine gLdc2 84 X40 hx hZ hown (ow hw 18 rfl) (H d7_81) rfl ?_
                refine gLdiv 85 X40 hx (H d7_84) (by decide) rfl ?_
                generalize hg_m4 : ((m3 + (63 : Int64)) / (64 : Int64)) = m4
                have hm4 : m4.toInt = (cw n 4 : Nat) := by rw [← hg_m4]; exact own_div64 (k := cw n 3) hm3 (by omega)
                refine gStoreJN 86 X40 hx (H d7_85) (l' := #[.val (.ref a), .val (.int (Int32.ofNat n)), .val (.int (4 : Int32)), .val (.long m4), .second, .val (.int (2 : Int32))]) rfl rfl ?_
                refine gIinc X40 hx (v := (1 : Int32)) (H d7_86) (l' := #[.val (.ref a), .val (.int (Int32.ofNat n)), .val (.int (4 : Int32)), .val (.long m4), .second, .val (.int (3 : Int32))]) (pc' := 89) rfl rfl rfl rfl ?_
                refine gGoto X40 hx (H d7_89) (pc' := 59) (by decide) (by decide) ?_
                refine gLoadI 61 X40 hx (H d7_59) rfl rfl ?_
                refine gLoadIN 62 X40 hx (H d7_61) rfl rfl ?_
                refine gIcmpGe X40 hx (H d7_62) (pc' := 92) (by decide) (by decide) (pn := 65) rfl (fun (c62''' : (4 : Int) ≤ (3 : Int)) => ?_) (fun (c62''' : (3 : Int) < (4 : Int)) => ?_)
                · exact absurd c62''' (by decide)
                · refine gLoadAN 66 X40 hx (H d7_65) rfl rfl rfl ?_
                  refine gGetF X40 hx hZ hown (ow hw 21 rfl) Via.refl e40 f40_1 (H d7_66) (pc' := 69) rfl (fun T41 X41 e41 => ?_)
                  refine gLoadI 71 X41 hx (H d7_69) rfl rfl ?_
                  refine gLoadJN 72 X41 hx (H d7_71) rfl rfl ?_
                  refine gL2i 73 X41 hx (H d7_72) rfl ?_
                  rw [show m4.toInt32 = Int32.ofNat (cw n 4) from own_l2n hm4 (by omega)]
                  refine gNewPE X41 hx hZ (ow hw 27 rfl) e41 (H d7_73) (n := (Int32.ofNat (cw n 4))) (own_nn (by omega)) (cap := 1) (by rw [own_nclamp (by omega)]; omega) (by decide) (by decide) (by decide) (cw n 4) (pc' := 75) rfl (fun T42 h42 b42 ck42 X42 e42 g42 E42 A42 x42 => ?_)
                  have ne_a_b42 : a ≠ b42 := Nat.ne_of_lt (Nat.lt_of_lt_of_eq f40_0.lt g42.symm)
                  have ne_b33_b42 : b33 ≠ b42 := Nat.ne_of_lt (Nat.lt_of_lt_of_eq f40_2.lt g42.symm)
                  have ne_b36_b42 : b36 ≠ b42 := Nat.ne_of_lt (Nat.lt_of_lt_of_eq f40_4.lt g42.symm)
                  have ne_b39_b42 : b39 ≠ b42 := Nat.ne_of_lt (Nat.lt_of_lt_of_eq f40_6.lt g42.symm)
                  have ne_b29_b42 : b29 ≠ b42 := Nat.ne_of_lt (Nat.lt_of_lt_of_eq V40.lt g42.symm)
                  have f42_0 := f40_0.ext E42
                  have f42_1 := f40_1.ext E42
                  have f42_2 := f40_2.ext E42
                  have f42_3 := f40_3.ext E42
                  have f42_4 := f40_4.ext E42
                  have f42_5 := f40_5.ext E42
                  have f42_6 := f40_6.ext E42
                  have f42_7 := f40_7.ext E42
                  have f42_8 := V40.ext E42
                  have sz_b42 : h0.size ≤ b42 := Nat.le_trans zs40 (Nat.le_of_eq g42.symm)
                  have zs42 : h0.size ≤ h42.size := Nat.le_trans zs40 E42.1
                  refine gAast X42 hx hZ e42 f42_8 O29 x42 (j := (3 : Int32)) (by decide) (by decide) 3 (by decide) (by simp) (H d7_75) (pc' := 76) rfl (fun T43 h43 X43 e43 W43 A43 => ?_)
                  have f43_0 := f42_0.wr W43
                  have f43_1 := f42_1.other W43 (Or.inl ne_a_b29)
                  have f43_2 := f42_2.other W43 (Ne.symm ne_b29_b33)
                  have f43_3 := f42_3.wr W43
                  have f43_4 := f42_4.other W43 (Ne.symm ne_b29_b36)
                  have f43_5 := f42_5.wr W43
                  have f43_6 := f42_6.other W43 (Ne.symm ne_b29_b39)
                  have f43_7 := f42_7.wr W43
                  have f43_8 := A42.other W43 (Ne.symm ne_b29_b42)
                  have f43_9 := x42.wr W43
                  have zs43 : h0.size ≤ h43.size := by rw [W43.size]; exact zs42
                  have N43 := Fr.snoc X43 N40 (Nat.le_trans gz sz_b29)
                  have V43 : Arv Z h43 b29 ck29 (.array .long) (4 : Int32) [(.ref b33), (.ref b36), (.ref b39), (.ref b42)] .null := A43
                  refine gLoadJN 77 X43 hx (H d7_76) rfl rfl ?_
                  refine gLdc2 80 X43 hx hZ hown (ow hw 23 rfl) (H d7_77) rfl ?_
                  refine gLadd 81 X43 hx (H d7_80) rfl ?_
                  refine gLdc2 84 X43 hx hZ hown (ow hw 18 rfl) (H d7_81) rfl ?_
                  refine gLdiv 85 X43 hx (H d7_84) (by decide) rfl ?_
                  generalize hg_m5 : ((m4 + (63 : Int64)) / (64 : Int64)) = m5
                  have hm5 : m5.toInt = (cw n 5 : Nat) := by rw [← hg_m5]; exact own_div64 (k := cw n 4) hm4 (by omega)
                  refine gStoreJN 86 X43 hx (H d7_85) (l' := #[.val (.ref a), .val (.int (Int32.ofNat n)), .val (.int (4 : Int32)), .val (.long m5), .second, .val (.int (3 : Int32))]) rfl rfl ?_
                  refine gIinc X43 hx (v := (1 : Int32)) (H d7_86) (l' := #[.val (.ref a), .val (.int (Int32.ofNat n)), .val (.int (4 : Int32)), .val (.long m5), .second, .val (.int (4 : Int32))]) (pc' := 89) rfl rfl rfl rfl ?_
                  refine gGoto X43 hx (H d7_89) (pc' := 59) (by decide) (by decide) ?_
                  refine gLoadI 61 X43 hx (H d7_59) rfl rfl ?_
                  refine gLoadIN 62 X43 hx (H d7_61) rfl rfl ?_
                  refine gIcmpGe X43 hx (H d7_62) (pc' := 92) (by decide) (by decide) (pn := 65) rfl (fun (c62'''' : (4 : Int) ≤ (4 : Int)) => ?_) (fun (c62'''' : (4 : Int) < (4 : Int)) => ?_)
                  · exact gRetV X43 hx hlk hret (H d7_92) (by decide) (by decide) (⟨rfl, N43, b29, ck29, [b33, b36, b39, b42], by rw [e43]; exact RS.mk f43_0 f43_1 V43 (lev_cons ((Lvl.zero f43_2).congr (own_q0 0)) (lev_cons ((Lvl.zero f43_4).congr (own_q0 1)) (lev_cons ((Lvl.zero f43_6).congr (own_q0 2)) (lev_cons ((Lvl.zero f43_8).congr (own_q0 3)) lev_nil)))) (lev_cons ⟨Nat.le_trans gz sz_b33, Ne.symm ne_b29_b33, Ne.symm ne_a_b33⟩ (lev_cons ⟨Nat.le_trans gz sz_b36, Ne.symm ne_b29_b36, Ne.symm ne_a_b36⟩ (lev_cons ⟨Nat.le_trans gz sz_b39, Ne.symm ne_b29_b39, Ne.symm ne_a_b39⟩ (lev_cons ⟨Nat.le_trans gz sz_b42, Ne.symm ne_b29_b42, Ne.symm ne_a_b42⟩ lev_nil)))) (own_nodup (by simp [ne_b33_b36, ne_b33_b39, ne_b33_b42, ne_b36_b39, ne_b36_b42, ne_b39_b42])), by simp, by simp, (show cw n 4 ≤ 1 by omega)⟩)
                  · exact absurd c62'''' (by decide)
        · exact absurd c14''' (by omega)
theorem d8_0 : decode prog_26_method_2_code 0 = .ok (.iload_n 1, 1) := by decide +kernel
theorem d8_1 : decode prog_26_method_2_code 1 = .ok (.istore_n 2, 1) := by decide +kernel
theorem d8_2 : decode prog_26_method_2_code 2 = .ok (.iconst 1, 1) := by decide +kernel
theorem d8_3 : decode prog_26_method_2_code 3 = .ok (.istore_n 3, 1) := by decide +kernel
theorem d8_4 : decode prog_26_method_2_code 4 = .ok (.iconst 0, 1) := by decide +kernel
theorem d8_5 : decode prog_26_method_2_code 5 = .ok (.istore 4, 2) := by decide +kernel
theorem d8_7 : decode prog_26_method_2_code 7 = .ok (.iload 4, 2) := by decide +kernel
theorem d8_9 : decode prog_26_method_2_code 9 = .ok (.aload_n 0, 1) := by decide +kernel
theorem d8_10 : decode prog_26_method_2_code 10 = .ok (.getfield 13, 3) := by decide +kernel
theorem d8_13 : decode prog_26_method_2_code 13 = .ok (.arraylength, 1) := by decide +kernel
theorem d8_14 : decode prog_26_method_2_code 14 = .ok (.if_icmp .ge 58, 3) := by decide +kernel
theorem d8_72 : decode prog_26_method_2_code 72 = .ok (.return_, 1) := by decide +kernel
theorem d8_17 : decode prog_26_method_2_code 17 = .ok (.iload_n 3, 1) := by decide +kernel
theorem d8_18 : decode prog_26_method_2_code 18 = .ok (.ifCond .eq 54, 3) := by decide +kernel
theorem d8_21 : decode prog_26_method_2_code 21 = .ok (.aload_n 0, 1) := by decide +kernel
theorem d8_22 : decode prog_26_method_2_code 22 = .ok (.getfield 13, 3) := by decide +kernel
theorem d8_25 : decode prog_26_method_2_code 25 = .ok (.iload 4, 2) := by decide +kernel
theorem d8_27 : decode prog_26_method_2_code 27 = .ok (.aaload, 1) := by decide +kernel
theorem d8_28 : decode prog_26_method_2_code 28 = .ok (.astore 5, 2) := by decide +kernel
theorem d8_30 : decode prog_26_method_2_code 30 = .ok (.aload 5, 2) := by decide +kernel
theorem d8_32 : decode prog_26_method_2_code 32 = .ok (.iload_n 2, 1) := by decide +kernel
theorem d8_33 : decode prog_26_method_2_code 33 = .ok (.bipush 6, 2) := by decide +kernel
theorem d8_35 : decode prog_26_method_2_code 35 = .ok (.iushr, 1) := by decide +kernel
theorem d8_36 : decode prog_26_method_2_code 36 = .ok (.laload, 1) := by decide +kernel
theorem d8_37 : decode prog_26_method_2_code 37 = .ok (.lconst 0, 1) := by decide +kernel
theorem d8_38 : decode prog_26_method_2_code 38 = .ok (.lcmp, 1) := by decide +kernel
theorem d8_39 : decode prog_26_method_2_code 39 = .ok (.ifCond .ne 7, 3) := by decide +kernel
theorem d8_46 : decode prog_26_method_2_code 46 = .ok (.iconst 0, 1) := by decide +kernel
theorem d8_47 : decode prog_26_method_2_code 47 = .ok (.istore_n 3, 1) := by decide +kernel
theorem d8_48 : decode prog_26_method_2_code 48 = .ok (.aload 5, 2) := by decide +kernel
theorem d8_50 : decode prog_26_method_2_code 50 = .ok (.iload_n 2, 1) := by decide +kernel
theorem d8_51 : decode prog_26_method_2_code 51 = .ok (.bipush 6, 2) := by decide +kernel
theorem d8_53 : decode prog_26_method_2_code 53 = .ok (.iushr, 1) := by decide +kernel
theorem d8_54 : decode prog_26_method_2_code 54 = .ok (.dup2, 1) := by decide +kernel
theorem d8_55 : decode prog_26_method_2_code 55 = .ok (.laload, 1) := by decide +kernel
theorem d8_56 : decode prog_26_method_2_code 56 = .ok (.lconst 1, 1) := by decide +kernel
theorem d8_57 : decode prog_26_method_2_code 57 = .ok (.iload_n 2, 1) := by decide +kernel
theorem d8_58 : decode prog_26_method_2_code 58 = .ok (.lshl, 1) := by decide +kernel
theorem d8_59 : decode prog_26_method_2_code 59 = .ok (.lor, 1) := by decide +kernel
theorem d8_60 : decode prog_26_method_2_code 60 = .ok (.lastore, 1) := by decide +kernel
theorem d8_61 : decode prog_26_method_2_code 61 = .ok (.iload_n 2, 1) := by decide +kernel
theorem d8_62 : decode prog_26_method_2_code 62 = .ok (.bipush 6, 2) := by decide +kernel
theorem d8_64 : decode prog_26_method_2_code 64 = .ok (.iushr, 1) := by decide +kernel
theorem d8_65 : decode prog_26_method_2_code 65 = .ok (.istore_n 2, 1) := by decide +kernel
theorem d8_66 : decode prog_26_method_2_code 66 = .ok (.iinc 4 1, 3) := by decide +kernel
theorem d8_69 : decode prog_26_method_2_code 69 = .ok (.goto (-62), 3) := by decide +kernel
theorem d8_42 : decode prog_26_method_2_code 42 = .ok (.iconst 1, 1) := by decide +kernel
theorem d8_43 : decode prog_26_method_2_code 43 = .ok (.goto 4, 3) := by decide +kernel
abbrev mn1 : MethodName := ⟨"com/example/align/align/rectilinear/RowSet", "add", "(I)V"⟩
theorem c_add (l : Launch) (Z : State) (a0 : Array Value) (hw : ∀ d ∈ tables_1, d.before a0 Z = true) (a : Addr) (x n n0 : Nat) (S : Nat → Prop) (L : Addr) (cL : ClassId) (ls : List Addr) (h0 : Heap) (hn : 1 ≤ n) (hn2 : n ≤ 1048576) (hxn : x < n) (hK4 : ls.length ≤ 4) (A0 : RS Z h0 n0 a n (fun j => Qb S j) L cL ls) :
    Ctr l Z mn1 prog_26_method_2_code 6 none [] ⟨0, 0, 0, 0⟩ #[(.ref a), (.int (Int32.ofNat x))] h0 (fun v h L' => v = none ∧ Fr n0 L' ∧ RS Z h n0 a n (fun j => Qb (fun s => S s ∨ s = x) j) L cL ls) := by
  refine Ctr.of (plainFor_of_name pn_0) ?_
  intro p e s m below meth c s₁ hx H hml hret hown hnm hZ hlk X0 e0
  refine Goes.cast (show entryFrame m _ _ = mkF m 0 #[.val (.ref a), .val (.int (Int32.ofNat x)), .unset, .unset, .unset, .unset] [] from rfl) ?_
  refine gLoadIN 1 X0 hx (H d8_0) rfl rfl ?_
  refine gStoreIN 2 X0 hx (H d8_1) (l' := #[.val (.ref a), .val (.int (Int32.ofNat x)), .val (.int (Int32.ofNat x)), .unset, .unset, .unset]) rfl rfl ?_
  refine gIconst 3 X0 hx (v := (1 : Int32)) (H d8_2) rfl rfl ?_
  refine gStoreIN 4 X0 hx (H d8_3) (l' := #[.val (.ref a), .val (.int (Int32.ofNat x)), .val (.int (Int32.ofNat x)), .val (.int (1 : Int32)), .unset, .unset]) rfl rfl ?_
  refine gIconst 5 X0 hx (v := (0 : Int32)) (H d8_4) rfl rfl ?_
  refine gStoreI 7 X0 hx (H d8_5) (l' := #[.val (.ref a), .val (.int (Int32.ofNat x)), .val (.int (Int32.ofNat x)), .val (.int (1 : Int32)), .val (.int (0 : Int32)), .unset]) rfl rfl ?_
  have J0 : ∀ (q i : Int32) (sl : Slot) (T : State) (h : Heap) (locs : List Loc), (sl = .unset ∨ ∃ r : Addr, sl = .val (.ref r)) → Stand p l e (⟨0, 0, 0, 0⟩ : Room) s m #[(.ref a), (.int (Int32.ofNat x))] below meth c T locs 0 0 → T.heap = h → Fr n0 locs → RS Z h n0 a n (fun j => Qb (fun s => S s ∨ s = x) j) L cL ls → Goes p e below (FinN s 0 0 (fun v h L' => v = none ∧ Fr n0 L' ∧ RS Z h n0 a n (fun j => Qb (fun s => S s ∨ s = x) j) L cL ls)) T (mkF m 7 #[.val (.ref a), .val (.int (Int32.ofNat x)), .val (.int q), .val (.int (0 : Int32)), .val (.int i), sl] []) := by
    intro q i sl T h locs hsl X e' N A
    refine gLoadI 9 X hx (H d8_7) rfl rfl ?_
    refine gLoadAN 10 X hx (H d8_9) rfl rfl rfl ?_
    refine gGetF X hx hZ hown (ow hw 21 rfl) Via.refl e' A.fld (H d8_10) (pc' := 13) rfl (fun T1 X1 e1 => ?_)
    refine gArrLen X1 hx hZ e1 A.arr (H d8_13) (pc' := 14) rfl ?_
    refine gIcmpGe X1 hx (H d8_14) (pc' := 72) (by decide) (by decide) (pn := 17) rfl (fun (c14 : (Int32.ofNat ls.length).toInt ≤ i.toInt) => ?_) (fun (c14 : i.toInt < (Int32.ofNat ls.length).toInt) => ?_)
    · exact gRetV X1 hx hlk hret (H d8_72) (by decide) (by decide) (⟨rfl, N, by rw [e1]; exact A⟩)
    · refine gLoadIN 18 X1 hx (H d8_17) rfl rfl ?_
      refine gIfEqT X1 hx (H d8_18) (pc' := 72) (by decide) (by decide) (pn := 21) rfl (fun (c18 : (0 : Int) = (0 : Int)) => ?_) (fun (c18 : ¬ (0 : Int) = (0 : Int)) => ?_)
      · exact gRetV X1 hx hlk hret (H d8_72) (by decide) (by decide) (⟨rfl, N, by rw [e1]; exact A⟩)
      · exact absurd c18 (by decide)
  have J : ∀ (d i : Nat) (sl : Slot) (T : State) (h : Heap) (locs : List Loc), (sl = .unset ∨ ∃ r : Addr, sl = .val (.ref r)) → i + d = ls.length → Stand p l e (⟨0, 0, 0, 0⟩ : Room) s m #[(.ref a), (.int (Int32.ofNat x))] below meth c T locs 0 0 → T.heap = h → Fr n0 locs → RS Z h n0 a n (Mix S (fun s => S s ∨ s = x) i) L cL ls → Goes p e below (FinN s 0 0 (fun v h L' => v = none ∧ Fr n0 L' ∧ RS Z h n0 a n (fun j => Qb (fun s => S s ∨ s = x) j) L cL ls)) T (mkF m 7 #[.val (.ref a), .val (.int (Int32.ofNat x)), .val (.int (Int32.ofNat (x / 64 ^ i))), .val (.int (1 : Int32)), .val (.int (Int32.ofNat i)), sl] []) := by
    intro d
    induction d with
    | zero =>
      intro i sl T h locs hsl hi X e' N A
      refine gLoadI 9 X hx (H d8_7) rfl rfl ?_
      refine gLoadAN 10 X hx (H d8_9) rfl rfl rfl ?_
      refine gGetF X hx hZ hown (ow hw 21 rfl) Via.refl e' A.fld (H d8_10) (pc' := 13) rfl (fun T2 X2 e2 => ?_)
      refine gArrLen X2 hx hZ e2 A.arr (H d8_13) (pc' := 14) rfl ?_
      refine gIcmpGe X2 hx (H d8_14) (pc' := 72) (by decide) (by decide) (pn := 17) rfl (fun (c14 : (Int32.ofNat ls.length).toInt ≤ (Int32.ofNat i).toInt) => ?_) (fun (c14 : (Int32.ofNat i).toInt < (Int32.ofNat ls.length).toInt) => ?_)
      · exact gRetV X2 hx hlk hret (H d8_72) (by decide) (by decide) (⟨rfl, N, by rw [e2]; exact (own_mixend A (by omega))⟩)
      · exact absurd c14 (by rw [own_nint (by omega), own_nint (by omega)]; omega)
    | succ d IH =>
      intro i sl T h locs hsl hi X e' N A
      obtain ⟨la, hla⟩ := A.at (i := i) (by omega)
      obtain ⟨ck, vs, B, eB, HB⟩ := A.lev _ _ hla
      obtain ⟨wd, gw1, gw2⟩ := HB (x / 64 ^ (i + 1)) (cw_lt hxn (i + 1))
      have hcl := cw_le hn (i + 1)
      have hy := cw_lt hxn (i + 1)
      refine gLoadI 9 X hx (H d8_7) rfl rfl ?_
      refine gLoadAN 10 X hx (H d8_9) rfl rfl rfl ?_
      refine gGetF X hx hZ hown (ow hw 21 rfl) Via.refl e' A.fld (H d8_10) (pc' := 13) rfl (fun T3 X3 e3 => ?_)
      refine gArrLen X3 hx hZ e3 A.arr (H d8_13) (pc' := 14) rfl ?_
      refine gIcmpGe X3 hx (H d8_14) (pc' := 72) (by decide) (by decide) (pn := 17) rfl (fun (c14 : (Int32.ofNat ls.length).toInt ≤ (Int32.ofNat i).toInt) => ?_) (fun (c14 : (Int32.ofNat i).toInt < (Int32.ofNat ls.length).toInt) => ?_)
      · exact absurd c14 (by rw [own_nint (by omega), own_nint (by omega)]; omega)
      · refine gLoadIN 18 X3 hx (H d8_17) rfl rfl ?_
        refine gIfEqT X3 hx (H d8_18) (pc' := 72) (by decide) (by decide) (pn := 21) rfl (fun (c18 : (1 : Int) = (0 : Int)) => ?_) (fun (c18 : ¬ (1 : Int) = (0 : Int)) => ?_)
        · exact absurd c18 (by decide)
        · refine gLoadAN 22 X3 hx (H d8_21) rfl rfl rfl ?_
          refine gGetF X3 hx hZ hown (ow hw 21 rfl) Via.refl e3 A.fld (H d8_22) (pc' := 25) rfl (fun T4 X4 e4 => ?_)
          refine gLoadI 27 X4 hx (H d8_25) rfl rfl ?_
          refine gAaload X4 hx hZ e4 rfl A.arr (j := (Int32.ofNat i)) (v := (.ref la)) (own_nn (by omega)) (own_nlt (by omega) (by omega) (by omega)) (own_get hla (by omega)) (H d8_27) (pc' := 28) rfl ?_
          refine gStoreA 30 X4 hx (H d8_28) (l' := #[.val (.ref a), .val (.int (Int32.ofNat x)), .val (.int (Int32.ofNat (x / 64 ^ i))), .val (.int (1 : Int32)), .val (.int (Int32.ofNat i)), .val (.ref la)]) rfl (by rcases hsl with rfl | ⟨_, rfl⟩ <;> rfl) rfl ?_
          refine gLoadA 32 X4 hx (H d8_30) rfl rfl rfl ?_
          refine gLoadIN 33 X4 hx (H d8_32) rfl rfl ?_
          refine gBipush 35 X4 hx (v := (6 : Int32)) (H d8_33) rfl rfl ?_
          refine gIushr 36 X4 hx (H d8_35) rfl ?_
          rw [own_ushx (by omega)]
          refine gLaload X4 hx hZ e4 B (j := (Int32.ofNat (x / 64 ^ (i + 1)))) (v := (.long wd)) (own_nn (by omega)) (own_nlt (by omega) (by omega) (by omega)) (by rw [own_nclamp (by omega)]; exact gw1) (H d8_36) (pc' := 37) rfl ?_
          refine gLconst 38 X4 hx (v := (0 : Int64)) (H d8_37) rfl rfl ?_
          refine gLcmp 39 X4 hx (H d8_38) rfl ?_
          refine gLIfNe X4 hx (H d8_39) (pc' := 46) (by decide) (by decide) (pn := 42) rfl (fun (c39 : ¬ wd = (0 : Int64)) => ?_) (fun (c39 : wd = (0 : Int64)) => ?_)
          · refine gIconst 47 X4 hx (v := (0 : Int32)) (H d8_46) rfl rfl ?_
            refine gStoreIN 48 X4 hx (H d8_47) (l' := #[.val (.ref a), .val (.int (Int32.ofNat x)), .val (.int (Int32.ofNat (x / 64 ^ i))), .val (.int (0 : Int32)), .val (.int (Int32.ofNat i)), .val (.ref la)]) rfl rfl ?_
            refine gLoadA 50 X4 hx (H d8_48) rfl rfl rfl ?_
            refine gLoadIN 51 X4 hx (H d8_50) rfl rfl ?_
            refine gBipush 53 X4 hx (v := (6 : Int32)) (H d8_51) rfl rfl ?_
            refine gIushr 54 X4 hx (H d8_53) rfl ?_
            rw [own_ushx (by omega)]
            refine gDup2 55 X4 hx (H d8_54) rfl rfl rfl ?_
            refine gLaload X4 hx hZ e4 B (j := (Int32.ofNat (x / 64 ^ (i + 1)))) (v := (.long wd)) (own_nn (by omega)) (own_nlt (by omega) (by omega) (by omega)) (by rw [own_nclamp (by omega)]; exact gw1) (H d8_55) (pc' := 56) rfl ?_
            refine gLconst 57 X4 hx (v := (1 : Int64)) (H d8_56) rfl rfl ?_
            refine gLoadIN 58 X4 hx (H d8_57) rfl rfl ?_
            refine gLshl 59 X4 hx (H d8_58) rfl ?_
            refine gLor 60 X4 hx (H d8_59) rfl ?_
            refine gLastore X4 hx hZ e4 (x := (wd ||| ((1 : Int64) <<< ((Int32.ofNat (x / 64 ^ i)) &&& 0x3f).toInt64))) B (j := (Int32.ofNat (x / 64 ^ (i + 1)))) (own_nn (by omega)) (own_nlt (by omega) (by omega) (by omega)) (x / 64 ^ (i + 1)) (own_nclamp (by omega)) (by rw [eB]; exact hy) (H d8_60) (pc' := 61) rfl (fun T5 h5 X5 e5 W5 A5 => ?_)
            have Rn := A.turnA hla W5 A5 eB HB hy gw2
            have N5 := Fr.snoc X5 N (A.ge _ _ hla).1
            refine gLoadIN 62 X5 hx (H d8_61) rfl rfl ?_
            refine gBipush 64 X5 hx (v := (6 : Int32)) (H d8_62) rfl rfl ?_
            refine gIushr 65 X5 hx (H d8_64) rfl ?_
            rw [own_ushx (by omega)]
            refine gStoreIN 66 X5 hx (H d8_65) (l' := #[.val (.ref a), .val (.int (Int32.ofNat x)), .val (.int (Int32.ofNat (x / 64 ^ (i + 1)))), .val (.int (0 : Int32)), .val (.int (Int32.ofNat i)), .val (.ref la)]) rfl rfl ?_
            refine gIinc X5 hx (v := (1 : Int32)) (H d8_66) (l' := #[.val (.ref a), .val (.int (Int32.ofNat x)), .val (.int (Int32.ofNat (x / 64 ^ (i + 1)))), .val (.int (0 : Int32)), .val (.int ((Int32.ofNat i) + (1 : Int32))), .val (.ref la)]) (pc' := 69) rfl rfl rfl rfl ?_
            rw [own_inc]
            refine gGoto X5 hx (H d8_69) (pc' := 7) (by decide) (by decide) ?_
            exact J0 _ _ _ _ _ _ (Or.inr ⟨_, rfl⟩) X5 e5 N5 (Rn.2 c39)
          · refine gIconst 43 X4 hx (v := (1 : Int32)) (H d8_42) rfl rfl ?_
            refine gGoto X4 hx (H d8_43) (pc' := 47) (by decide) (by decide) ?_
            refine gStoreIN 48 X4 hx (H d8_47) (l' := #[.val (.ref a), .val (.int (Int32.ofNat x)), .val (.int (Int32.ofNat (x / 64 ^ i))), .val (.int (1 : Int32)), .val (.int (Int32.ofNat i)), .val (.ref la)]) rfl rfl ?_
            refine gLoadA 50 X4 hx (H d8_48) rfl rfl rfl ?_
            refine gLoadIN 51 X4 hx (H d8_50) rfl rfl ?_
            refine gBipush 53 X4 hx (v := (6 : Int32)) (H d8_51) rfl rfl ?_
            refine gIushr 54 X4 hx (H d8_53) rfl ?_
            rw [own_ushx (by omega)]
            refine gDup2 55 X4 hx (H d8_54) rfl rfl rfl ?_
            refine gLaload X4 hx hZ e4 B (j := (Int32.ofNat (x / 64 ^ (i + 1)))) (v := (.long wd)) (own_nn (by omega)) (own_nlt (by omega) (by omega) (by omega)) (by rw [own_nclamp (by omega)]; exact gw1) (H d8_55) (pc' := 56) rfl ?_
            refine gLconst 57 X4 hx (v := (1 : Int64)) (H d8_56) rfl rfl ?_
            refine gLoadIN 58 X4 hx (H d8_57) rfl rfl ?_
            refine gLshl 59 X4 hx (H d8_58) rfl ?_
            refine gLor 60 X4 hx (H d8_59) rfl ?_
            refine gLastore X4 hx hZ e4 (x := (wd ||| ((1 : Int64) <<< ((Int32.ofNat (x / 64 ^ i)) &&& 0x3f).toInt64))) B (j := (Int32.ofNat (x / 64 ^ (i + 1)))) (own_nn (by omega)) (own_nlt (by omega) (by omega) (by omega)) (x / 64 ^ (i + 1)) (own_nclamp (by omega)) (by rw [eB]; exact hy) (H d8_60) (pc' := 61) rfl (fun T6 h6 X6 e6 W6 A6 => ?_)
            have Rn := A.turnA hla W6 A6 eB HB hy gw2
            have N6 := Fr.snoc X6 N (A.ge _ _ hla).1
            refine gLoadIN 62 X6 hx (H d8_61) rfl rfl ?_
            refine gBipush 64 X6 hx (v := (6 : Int32)) (H d8_62) rfl rfl ?_
            refine gIushr 65 X6 hx (H d8_64) rfl ?_
            rw [own_ushx (by omega)]
            refine gStoreIN 66 X6 hx (H d8_65) (l' := #[.val (.ref a), .val (.int (Int32.ofNat x)), .val (.int (Int32.ofNat (x / 64 ^ (i + 1)))), .val (.int (1 : Int32)), .val (.int (Int32.ofNat i)), .val (.ref la)]) rfl rfl ?_
            refine gIinc X6 hx (v := (1 : Int32)) (H d8_66) (l' := #[.val (.ref a), .val (.int (Int32.ofNat x)), .val (.int (Int32.ofNat (x / 64 ^ (i + 1)))), .val (.int (1 : Int32)), .val (.int ((Int32.ofNat i) + (1 : Int32))), .val (.ref la)]) (pc' := 69) rfl rfl rfl rfl ?_
            rw [own_inc]
            refine gGoto X6 hx (H d8_69) (pc' := 7) (by decide) (by decide) ?_
            exact IH (i + 1) _ _ _ _ (Or.inr ⟨_, rfl⟩) (by omega) X6 e6 N6 Rn.1
  have JJ := J ls.length 0 .unset s₁ _ [] (Or.inl rfl) (by omega) X0 e0 (Fr.nil n0) (own_mixstart A0)
  rw [Nat.pow_zero, Nat.div_one] at JJ
  exact JJ
theorem d9_0 : decode prog_26_method_4_code 0 = .ok (.iload_n 1, 1) := by decide +kernel
theorem d9_1 : decode prog_26_method_4_code 1 = .ok (.istore_n 2, 1) := by decide +kernel
theorem d9_2 : decode prog_26_method_4_code 2 = .ok (.iconst 0, 1) := by decide +kernel
theorem d9_3 : decode prog_26_method_4_code 3 = .ok (.istore_n 3, 1) := by decide +kernel
theorem d9_4 : decode prog_26_method_4_code 4 = .ok (.lconst 0, 1) := by decide +kernel
theorem d9_5 : decode prog_26_method_4_code 5 = .ok (.lstore 4, 2) := by decide +kernel
theorem d9_110 : decode prog_26_method_4_code 110 = .ok (.iload 7, 2) := by decide +kernel
theorem d9_112 : decode prog_26_method_4_code 112 = .ok (.ifCond .lt 27, 3) := by decide +kernel
theorem d9_139 : decode prog_26_method_4_code 139 = .ok (.iload_n 2, 1) := by decide +kernel
theorem d9_140 : decode prog_26_method_4_code 140 = .ok (.istore 6, 2) := by decide +kernel
theorem d9_142 : decode prog_26_method_4_code 142 = .ok (.iload 6, 2) := by decide +kernel
theorem d9_144 : decode prog_26_method_4_code 144 = .ok (.ireturn, 1) := by decide +kernel
theorem d9_115 : decode prog_26_method_4_code 115 = .ok (.iload_n 2, 1) := by decide +kernel
theorem d9_116 : decode prog_26_method_4_code 116 = .ok (.bipush 6, 2) := by decide +kernel
theorem d9_118 : decode prog_26_method_4_code 118 = .ok (.ishl, 1) := by decide +kernel
theorem d9_119 : decode prog_26_method_4_code 119 = .ok (.aload_n 0, 1) := by decide +kernel
theorem d9_120 : decode prog_26_method_4_code 120 = .ok (.getfield 13, 3) := by decide +kernel
theorem d9_123 : decode prog_26_method_4_code 123 = .ok (.iload 7, 2) := by decide +kernel
theorem d9_125 : decode prog_26_method_4_code 125 = .ok (.aaload, 1) := by decide +kernel
theorem d9_126 : decode prog_26_method_4_code 126 = .ok (.iload_n 2, 1) := by decide +kernel
theorem d9_127 : decode prog_26_method_4_code 127 = .ok (.laload, 1) := by decide +kernel
theorem d9_128 : decode prog_26_method_4_code 128 = .ok (.invokestatic 27, 3) := by decide +kernel
theorem pd_4 : parseMethodDescriptor "(J)I" = some ⟨[.long], some .int⟩ := by decide +kernel
theorem d9_131 : decode prog_26_method_4_code 131 = .ok (.iadd, 1) := by decide +kernel
theorem d9_132 : decode prog_26_method_4_code 132 = .ok (.istore_n 2, 1) := by decide +kernel
theorem d9_133 : decode prog_26_method_4_code 133 = .ok (.iinc 7 (-1), 3) := by decide +kernel
theorem d9_136 : decode prog_26_method_4_code 136 = .ok (.goto (-26), 3) := by decide +kernel
theorem d9_7 : decode prog_26_method_4_code 7 = .ok (.iload_n 3, 1) := by decide +kernel
theorem d9_8 : decode prog_26_method_4_code 8 = .ok (.aload_n 0, 1) := by decide +kernel
theorem d9_9 : decode prog_26_method_4_code 9 = .ok (.getfield 13, 3) := by decide +kernel
theorem d9_12 : decode prog_26_method_4_code 12 = .ok (.arraylength, 1) := by decide +kernel
theorem d9_13 : decode prog_26_method_4_code 13 = .ok (.if_icmp .ge 82, 3) := by decide +kernel
theorem d9_95 : decode prog_26_method_4_code 95 = .ok (.iconst (-1), 1) := by decide +kernel
theorem d9_96 : decode prog_26_method_4_code 96 = .ok (.istore 6, 2) := by decide +kernel
theorem d9_98 : decode prog_26_method_4_code 98 = .ok (.lload 4, 2) := by decide +kernel
theorem d9_100 : decode prog_26_method_4_code 100 = .ok (.lconst 0, 1) := by decide +kernel
theorem d9_101 : decode prog_26_method_4_code 101 = .ok (.lcmp, 1) := by decide +kernel
theorem d9_102 : decode prog_26_method_4_code 102 = .ok (.ifCond .eq 40, 3) := by decide +kernel
theorem d9_105 : decode prog_26_method_4_code 105 = .ok (.iload_n 3, 1) := by decide +kernel
theorem d9_106 : decode prog_26_method_4_code 106 = .ok (.iconst 1, 1) := by decide +kernel
theorem d9_107 : decode prog_26_method_4_code 107 = .ok (.isub, 1) := by decide +kernel
theorem d9_108 : decode prog_26_method_4_code 108 = .ok (.istore 7, 2) := by decide +kernel
theorem d9_16 : decode prog_26_method_4_code 16 = .ok (.lload 4, 2) := by decide +kernel
theorem d9_18 : decode prog_26_method_4_code 18 = .ok (.lconst 0, 1) := by decide +kernel
theorem d9_19 : decode prog_26_method_4_code 19 = .ok (.lcmp, 1) := by decide +kernel
theorem d9_20 : decode prog_26_method_4_code 20 = .ok (.ifCond .ne 75, 3) := by decide +kernel
theorem d9_23 : decode prog_26_method_4_code 23 = .ok (.iload_n 2, 1) := by decide +kernel
theorem d9_24 : decode prog_26_method_4_code 24 = .ok (.bipush 6, 2) := by decide +kernel
theorem d9_26 : decode prog_26_method_4_code 26 = .ok (.iushr, 1) := by decide +kernel
theorem d9_27 : decode prog_26_method_4_code 27 = .ok (.istore 6, 2) := by decide +kernel
theorem d9_29 : decode prog_26_method_4_code 29 = .ok (.iload 6, 2) := by decide +kernel
theorem d9_31 : decode prog_26_method_4_code 31 = .ok (.aload_n 0, 1) := by decide +kernel
theorem d9_32 : decode prog_26_method_4_code 32 = .ok (.getfield 13, 3) := by decide +kernel
theorem d9_35 : decode prog_26_method_4_code 35 = .ok (.iload_n 3, 1) := by decide +kernel
theorem d9_36 : decode prog_26_method_4_code 36 = .ok (.aaload, 1) := by decide +kernel
theorem d9_37 : decode prog_26_method_4_code 37 = .ok (.arraylength, 1) := by decide +kernel
theorem d9_38 : decode prog_26_method_4_code 38 = .ok (.if_icmp .ge 21, 3) := by decide +kernel
theorem d9_59 : decode prog_26_method_4_code 59 = .ok (.lconst 0, 1) := by decide +kernel
theorem d9_60 : decode prog_26_method_4_code 60 = .ok (.lstore 4, 2) := by decide +kernel
theorem d9_62 : decode prog_26_method_4_code 62 = .ok (.lload 4, 2) := by decide +kernel
theorem d9_64 : decode prog_26_method_4_code 64 = .ok (.lconst 0, 1) := by decide +kernel
theorem d9_65 : decode prog_26_method_4_code 65 = .ok (.lcmp, 1) := by decide +kernel
theorem d9_66 : decode prog_26_method_4_code 66 = .ok (.ifCond .ne 14, 3) := by decide +kernel
theorem d9_69 : decode prog_26_method_4_code 69 = .ok (.iinc 3 1, 3) := by decide +kernel
theorem d9_72 : decode prog_26_method_4_code 72 = .ok (.iload 6, 2) := by decide +kernel
theorem d9_74 : decode prog_26_method_4_code 74 = .ok (.iconst 1, 1) := by decide +kernel
theorem d9_75 : decode prog_26_method_4_code 75 = .ok (.iadd, 1) := by decide +kernel
theorem d9_76 : decode prog_26_method_4_code 76 = .ok (.istore_n 2, 1) := by decide +kernel
theorem d9_77 : decode prog_26_method_4_code 77 = .ok (.goto 15, 3) := by decide +kernel
theorem d9_92 : decode prog_26_method_4_code 92 = .ok (.goto (-85), 3) := by decide +kernel
theorem d9_41 : decode prog_26_method_4_code 41 = .ok (.aload_n 0, 1) := by decide +kernel
theorem d9_42 : decode prog_26_method_4_code 42 = .ok (.getfield 13, 3) := by decide +kernel
theorem d9_45 : decode prog_26_method_4_code 45 = .ok (.iload_n 3, 1) := by decide +kernel
theorem d9_46 : decode prog_26_method_4_code 46 = .ok (.aaload, 1) := by decide +kernel
theorem d9_47 : decode prog_26_method_4_code 47 = .ok (.iload 6, 2) := by decide +kernel
theorem d9_49 : decode prog_26_method_4_code 49 = .ok (.laload, 1) := by decide +kernel
theorem d9_50 : decode prog_26_method_4_code 50 = .ok (.ldc2_w 25, 3) := by decide +kernel
theorem d9_53 : decode prog_26_method_4_code 53 = .ok (.iload_n 2, 1) := by decide +kernel
theorem d9_54 : decode prog_26_method_4_code 54 = .ok (.lshl, 1) := by decide +kernel
theorem d9_55 : decode prog_26_method_4_code 55 = .ok (.land, 1) := by decide +kernel
theorem d9_56 : decode prog_26_method_4_code 56 = .ok (.goto 4, 3) := by decide +kernel
theorem d9_80 : decode prog_26_method_4_code 80 = .ok (.iload 6, 2) := by decide +kernel
theorem d9_82 : decode prog_26_method_4_code 82 = .ok (.bipush 6, 2) := by decide +kernel
theorem d9_84 : decode prog_26_method_4_code 84 = .ok (.ishl, 1) := by decide +kernel
theorem d9_85 : decode prog_26_method_4_code 85 = .ok (.lload 4, 2) := by decide +kernel
theorem d9_87 : decode prog_26_method_4_code 87 = .ok (.invokestatic 27, 3) := by decide +kernel
theorem d9_90 : decode prog_26_method_4_code 90 = .ok (.iadd, 1) := by decide +kernel
theorem d9_91 : decode prog_26_method_4_code 91 = .ok (.istore_n 2, 1) := by decide +kernel
abbrev mn2 : MethodName := ⟨"com/example/align/align/rectilinear/RowSet", "next", "(I)I"⟩
theorem c_next (l : Launch) (Z : State) (a0 : Array Value) (hw : ∀ d ∈ tables_1, d.before a0 Z = true) (a : Addr) (f n n0 : Nat) (S : Nat → Prop) (L : Addr) (cL : ClassId) (ls : List Addr) (h0 : Heap) (hn : 1 ≤ n) (hn2 : n ≤ 1048576) (hfn : f ≤ n) (hK4 : ls.length ≤ 4) (hK1 : 1 ≤ ls.length) (hcw : cw n ls.length ≤ 1) (hS : ∀ s, S s → s < n) (A0 : RS Z h0 n0 a n (fun j => Qb S j) L cL ls) :
    Ctr l Z mn2 prog_26_method_4_code 8 (some .int) [] ⟨2, 0, 0, 34⟩ #[(.ref a), (.int (Int32.ofNat f))] h0 (fun v h L' => ∃ r : Int32, v = some (.int r) ∧ h = h0 ∧ L' = [] ∧ Nx S f r) := by
  refine Ctr.of (plainFor_of_name pn_0) ?_
  intro p e s m below meth c s₁ hx H hml hret hown hnm hZ hlk X0 e0
  refine Goes.cast (show entryFrame m _ _ = mkF m 0 #[.val (.ref a), .val (.int (Int32.ofNat f)), .unset, .unset, .unset, .unset, .unset, .unset] [] from rfl) ?_
  refine gLoadIN 1 X0 hx (H d9_0) rfl rfl ?_
  refine gStoreIN 2 X0 hx (H d9_1) (l' := #[.val (.ref a), .val (.int (Int32.ofNat f)), .val (.int (Int32.ofNat f)), .unset, .unset, .unset, .unset, .unset]) rfl rfl ?_
  refine gIconst 3 X0 hx (v := (0 : Int32)) (H d9_2) rfl rfl ?_
  refine gStoreIN 4 X0 hx (H d9_3) (l' := #[.val (.ref a), .val (.int (Int32.ofNat f)), .val (.int (Int32.ofNat f)), .val (.int (0 : Int32)), .unset, .unset, .unset, .unset]) rfl rfl ?_
  refine gLconst 5 X0 hx (v := (0 : Int64)) (H d9_4) rfl rfl ?_
  refine gStoreJ 7 X0 hx (H d9_5) (l' := #[.val (.ref a), .val (.int (Int32.ofNat f)), .val (.int (Int32.ofNat f)), .val (.int (0 : Int32)), .val (.long (0 : Int64)), .second, .unset, .unset]) rfl rfl ?_
  have J2 : ∀ (k z : Nat) (i3 j7 : Int32) (wq : Int64) (T : State), k ≤ ls.length → j7 = Int32.ofNat k - 1 → Desc S f k z → Stand p l e (⟨2, 0, 0, 34⟩ : Room) s m #[(.ref a), (.int (Int32.ofNat f))] below meth c T [] 0 0 → T.heap = h0 → Goes p e below (FinN s 0 0 (fun v h L' => ∃ r : Int32, v = some (.int r) ∧ h = h0 ∧ L' = [] ∧ Nx S f r)) T (mkF m 110 #[.val (.ref a), .val (.int (Int32.ofNat f)), .val (.int (Int32.ofNat z)), .val (.int i3), .val (.long wq), .second, .val (.int (-1 : Int32)), .val (.int j7)] []) := by
    intro k
    induction k with
    | zero =>
      intro z i3 j7 wq T hkl hj D X e'
      have hz := D.lt hS
      have hcz := cw_le hn 0
      have hj7 : j7.toInt < 0 := by rw [hj]; decide
      refine gLoadI 112 X hx (H d9_110) rfl rfl ?_
      refine gIfLt X hx (H d9_112) (pc' := 139) (by decide) (by decide) (pn := 115) rfl (fun (c112 : j7.toInt < (0 : Int)) => ?_) (fun (c112 : (0 : Int) ≤ j7.toInt) => ?_)
      · refine gLoadIN 140 X hx (H d9_139) rfl rfl ?_
        refine gStoreI 142 X hx (H d9_140) (l' := #[.val (.ref a), .val (.int (Int32.ofNat f)), .val (.int (Int32.ofNat z)), .val (.int i3), .val (.long wq), .second, .val (.int (Int32.ofNat z)), .val (.int j7)]) rfl rfl ?_
        refine gLoadI 144 X hx (H d9_142) rfl rfl ?_
        exact gRetI X hx hlk hret (H d9_144) (by decide) (by decide) (⟨_, rfl, e', rfl, D.got (by omega)⟩)
      · exact absurd c112 (by omega)
    | succ k IH =>
      intro z i3 j7 wq T hkl hj D X e'
      have hz := D.lt hS
      have hcz := cw_le hn (k + 1)
      rw [own_dec] at hj
      subst hj
      obtain ⟨la, hla⟩ := A0.at (i := k) (by omega)
      obtain ⟨ck, vs, B, eB, HB⟩ := A0.lev _ _ hla
      obtain ⟨wd, gw1, gw2⟩ := HB (z) hz
      have hcl := cw_le hn (k + 1)
      obtain ⟨t, hlow⟩ := own_lown D gw2
      have hdt := (own_down D gw2 hlow).lt hS
      have hcd := cw_le hn k
      refine gLoadI 112 X hx (H d9_110) rfl rfl ?_
      refine gIfLt X hx (H d9_112) (pc' := 139) (by decide) (by decide) (pn := 115) rfl (fun (c112 : (Int32.ofNat k).toInt < (0 : Int)) => ?_) (fun (c112 : (0 : Int) ≤ (Int32.ofNat k).toInt) => ?_)
      · exact absurd c112 (by rw [own_nint (by omega)]; omega)
      · refine gLoadIN 116 X hx (H d9_115) rfl rfl ?_
        refine gBipush 118 X hx (v := (6 : Int32)) (H d9_116) rfl rfl ?_
        refine gIshl 119 X hx (H d9_118) rfl ?_
        refine gLoadAN 120 X hx (H d9_119) rfl rfl rfl ?_
        refine gGetF X hx hZ hown (ow hw 21 rfl) Via.refl e' A0.fld (H d9_120) (pc' := 123) rfl (fun T1 X1 e1 => ?_)
        refine gLoadI 125 X1 hx (H d9_123) rfl rfl ?_
        refine gAaload X1 hx hZ e1 rfl A0.arr (j := (Int32.ofNat k)) (v := (.ref la)) (own_nn (by omega)) (own_nlt (by omega) (by omega) (by omega)) (own_get hla (by omega)) (H d9_125) (pc' := 126) rfl ?_
        refine gLoadIN 127 X1 hx (H d9_126) rfl rfl ?_
        refine gLaload X1 hx hZ e1 B (j := (Int32.ofNat z)) (v := (.long wd)) (own_nn (by omega)) (own_nlt (by omega) (by omega) (by omega)) (by rw [own_nclamp (by omega)]; exact gw1) (H d9_127) (pc' := 128) rfl ?_
        refine gCallSJ X1 hx hZ (y := mn5) hown e1 (by rw [hml]; rfl) (ow hw 40 rfl) (ow hw 41 rfl) (ow hw 42 rfl) (ow hw 43 rfl) (by decide) (argsL := [(.long wd)]) (st := [(.int ((Int32.ofNat z) <<< ((6 : Int32) &&& 31)))]) (c_ntzL l Z a0 hw wd t hlow h0) (lenOf pd_4 rfl) (H d9_128) (pc' := 131) rfl rfl rfl rfl (by decide) (W := 1) (Nat.le_of_eq rfl) (by decide) (by decide) (by decide) ?_
        intro T2 X2 e2
        refine gIadd 132 X2 hx (H d9_131) rfl ?_
        rw [own_shl6, own_addn]
        refine gStoreIN 133 X2 hx (H d9_132) (l' := #[.val (.ref a), .val (.int (Int32.ofNat f)), .val (.int (Int32.ofNat (64 * z + t))), .val (.int i3), .val (.long wq), .second, .val (.int (-1 : Int32)), .val (.int (Int32.ofNat k))]) rfl rfl ?_
        refine gIinc X2 hx (v := (-1 : Int32)) (H d9_133) (l' := #[.val (.ref a), .val (.int (Int32.ofNat f)), .val (.int (Int32.ofNat (64 * z + t))), .val (.int i3), .val (.long wq), .second, .val (.int (-1 : Int32)), .val (.int ((Int32.ofNat k) + (-1 : Int32)))]) (pc' := 136) rfl rfl rfl rfl ?_
        rw [own_decm]
        refine gGoto X2 hx (H d9_136) (pc' := 110) (by decide) (by decide) ?_
        exact IH (64 * z + t) _ _ _ _ (by omega) rfl (own_down D gw2 hlow) X2 e2
  have JD : ∀ (i z : Nat) (wq : Int64) (s6 s7 : Slot) (T : State), (s6 = .unset ∨ ∃ k : Int32, s6 = .val (.int k)) → (s7 = .unset ∨ ∃ k : Int32, s7 = .val (.int k)) → i ≤ ls.length → Desc S f i z → ¬ wq = 0 → Stand p l e (⟨2, 0, 0, 34⟩ : Room) s m #[(.ref a), (.int (Int32.ofNat f))] below meth c T [] 0 0 → T.heap = h0 → Goes p e below (FinN s 0 0 (fun v h L' => ∃ r : Int32, v = some (.int r) ∧ h = h0 ∧ L' = [] ∧ Nx S f r)) T (mkF m 7 #[.val (.ref a), .val (.int (Int32.ofNat f)), .val (.int (Int32.ofNat z)), .val (.int (Int32.ofNat i)), .val (.long wq), .second, s6, s7] []) := by
    intro i z wq s6 s7 T hs6 hs7 hil D nz X e'
    refine gLoadIN 8 X hx (H d9_7) rfl rfl ?_
    refine gLoadAN 9 X hx (H d9_8) rfl rfl rfl ?_
    refine gGetF X hx hZ hown (ow hw 21 rfl) Via.refl e' A0.fld (H d9_9) (pc' := 12) rfl (fun T3 X3 e3 => ?_)
    refine gArrLen X3 hx hZ e3 A0.arr (H d9_12) (pc' := 13) rfl ?_
    refine gIcmpGe X3 hx (H d9_13) (pc' := 95) (by decide) (by decide) (pn := 16) rfl (fun (c13 : (Int32.ofNat ls.length).toInt ≤ (Int32.ofNat i).toInt) => ?_) (fun (c13 : (Int32.ofNat i).toInt < (Int32.ofNat ls.length).toInt) => ?_)
    · refine gIconst 96 X3 hx (v := (-1 : Int32)) (H d9_95) rfl rfl ?_
      refine gStoreI 98 X3 hx (H d9_96) (l' := #[.val (.ref a), .val (.int (Int32.ofNat f)), .val (.int (Int32.ofNat z)), .val (.int (Int32.ofNat i)), .val (.long wq), .second, .val (.int (-1 : Int32)), s7]) (by rcases hs6 with rfl | ⟨_, rfl⟩ <;> rfl) rfl ?_
      refine gLoadJ 100 X3 hx (H d9_98) rfl rfl ?_
      refine gLconst 101 X3 hx (v := (0 : Int64)) (H d9_100) rfl rfl ?_
      refine gLcmp 102 X3 hx (H d9_101) rfl ?_
      refine gLIfEq X3 hx (H d9_102) (pc' := 142) (by decide) (by decide) (pn := 105) rfl (fun (c102 : wq = (0 : Int64)) => ?_) (fun (c102 : ¬ wq = (0 : Int64)) => ?_)
      · exact absurd c102 nz
      · refine gLoadIN 106 X3 hx (H d9_105) rfl rfl ?_
        refine gIconst 107 X3 hx (v := (1 : Int32)) (H d9_106) rfl rfl ?_
        refine gIsub 108 X3 hx (H d9_107) rfl ?_
        refine gStoreI 110 X3 hx (H d9_108) (l' := #[.val (.ref a), .val (.int (Int32.ofNat f)), .val (.int (Int32.ofNat z)), .val (.int (Int32.ofNat i)), .val (.long wq), .second, .val (.int (-1 : Int32)), .val (.int ((Int32.ofNat i) - (1 : Int32)))]) (by rcases hs7 with rfl | ⟨_, rfl⟩ <;> rfl) rfl ?_
        exact J2 i z _ _ _ _ hil rfl D X3 e3
    · refine gLoadJ 18 X3 hx (H d9_16) rfl rfl ?_
      refine gLconst 19 X3 hx (v := (0 : Int64)) (H d9_18) rfl rfl ?_
      refine gLcmp 20 X3 hx (H d9_19) rfl ?_
      refine gLIfNe X3 hx (H d9_20) (pc' := 95) (by decide) (by decide) (pn := 23) rfl (fun (c20 : ¬ wq = (0 : Int64)) => ?_) (fun (c20 : wq = (0 : Int64)) => ?_)
      · refine gIconst 96 X3 hx (v := (-1 : Int32)) (H d9_95) rfl rfl ?_
        refine gStoreI 98 X3 hx (H d9_96) (l' := #[.val (.ref a), .val (.int (Int32.ofNat f)), .val (.int (Int32.ofNat z)), .val (.int (Int32.ofNat i)), .val (.long wq), .second, .val (.int (-1 : Int32)), s7]) (by rcases hs6 with rfl | ⟨_, rfl⟩ <;> rfl) rfl ?_
        refine gLoadJ 100 X3 hx (H d9_98) rfl rfl ?_
        refine gLconst 101 X3 hx (v := (0 : Int64)) (H d9_100) rfl rfl ?_
        refine gLcmp 102 X3 hx (H d9_101) rfl ?_
        refine gLIfEq X3 hx (H d9_102) (pc' := 142) (by decide) (by decide) (pn := 105) rfl (fun (c102 : wq = (0 : Int64)) => ?_) (fun (c102 : ¬ wq = (0 : Int64)) => ?_)
        · exact absurd c102 nz
        · refine gLoadIN 106 X3 hx (H d9_105) rfl rfl ?_
          refine gIconst 107 X3 hx (v := (1 : Int32)) (H d9_106) rfl rfl ?_
          refine gIsub 108 X3 hx (H d9_107) rfl ?_
          refine gStoreI 110 X3 hx (H d9_108) (l' := #[.val (.ref a), .val (.int (Int32.ofNat f)), .val (.int (Int32.ofNat z)), .val (.int (Int32.ofNat i)), .val (.long wq), .second, .val (.int (-1 : Int32)), .val (.int ((Int32.ofNat i) - (1 : Int32)))]) (by rcases hs7 with rfl | ⟨_, rfl⟩ <;> rfl) rfl ?_
          exact J2 i z _ _ _ _ hil rfl D X3 e3
      · exact absurd c20 nz
  have J : ∀ (d i q : Nat) (s6 s7 : Slot) (T : State), (s6 = .unset ∨ ∃ k : Int32, s6 = .val (.int k)) → (s7 = .unset ∨ ∃ k : Int32, s7 = .val (.int k)) → i + d = ls.length → Climb S f i q → (1 ≤ i → 1 ≤ q) → q ≤ 1048577 → Stand p l e (⟨2, 0, 0, 34⟩ : Room) s m #[(.ref a), (.int (Int32.ofNat f))] below meth c T [] 0 0 → T.heap = h0 → Goes p e below (FinN s 0 0 (fun v h L' => ∃ r : Int32, v = some (.int r) ∧ h = h0 ∧ L' = [] ∧ Nx S f r)) T (mkF m 7 #[.val (.ref a), .val (.int (Int32.ofNat f)), .val (.int (Int32.ofNat q)), .val (.int (Int32.ofNat i)), .val (.long (0 : Int64)), .second, s6, s7] []) := by
    intro d
    induction d with
    | zero =>
      intro i q s6 s7 T hs6 hs7 hi C hq hqb X e'
      have hil : i = ls.length := by omega
      subst hil
      refine gLoadIN 8 X hx (H d9_7) rfl rfl ?_
      refine gLoadAN 9 X hx (H d9_8) rfl rfl rfl ?_
      refine gGetF X hx hZ hown (ow hw 21 rfl) Via.refl e' A0.fld (H d9_9) (pc' := 12) rfl (fun T4 X4 e4 => ?_)
      refine gArrLen X4 hx hZ e4 A0.arr (H d9_12) (pc' := 13) rfl ?_
      refine gIcmpGe X4 hx (H d9_13) (pc' := 95) (by decide) (by decide) (pn := 16) rfl (fun (c13 : (Int32.ofNat ls.length).toInt ≤ (Int32.ofNat ls.length).toInt) => ?_) (fun (c13 : (Int32.ofNat ls.length).toInt < (Int32.ofNat ls.length).toInt) => ?_)
      · refine gIconst 96 X4 hx (v := (-1 : Int32)) (H d9_95) rfl rfl ?_
        refine gStoreI 98 X4 hx (H d9_96) (l' := #[.val (.ref a), .val (.int (Int32.ofNat f)), .val (.int (Int32.ofNat q)), .val (.int (Int32.ofNat ls.length)), .val (.long (0 : Int64)), .second, .val (.int (-1 : Int32)), s7]) (by rcases hs6 with rfl | ⟨_, rfl⟩ <;> rfl) rfl ?_
        refine gLoadJ 100 X4 hx (H d9_98) rfl rfl ?_
        refine gLconst 101 X4 hx (v := (0 : Int64)) (H d9_100) rfl rfl ?_
        refine gLcmp 102 X4 hx (H d9_101) rfl ?_
        refine gLIfEq X4 hx (H d9_102) (pc' := 142) (by decide) (by decide) (pn := 105) rfl (fun (c102 : (0 : Int64) = (0 : Int64)) => ?_) (fun (c102 : ¬ (0 : Int64) = (0 : Int64)) => ?_)
        · refine gLoadI 144 X4 hx (H d9_142) rfl rfl ?_
          exact gRetI X4 hx hlk hret (H d9_144) (by decide) (by decide) (⟨_, rfl, e4, rfl, C.none (hq hK1) hS hcw⟩)
        · exact absurd rfl c102
      · exact absurd c13 (by omega)
    | succ d IH =>
      intro i q s6 s7 T hs6 hs7 hi C hq hqb X e'
      obtain ⟨la, hla⟩ := A0.at (i := i) (by omega)
      obtain ⟨ck, vs, B, eB, HB⟩ := A0.lev _ _ hla
      have hcl := cw_le hn (i + 1)
      refine gLoadIN 8 X hx (H d9_7) rfl rfl ?_
      refine gLoadAN 9 X hx (H d9_8) rfl rfl rfl ?_
      refine gGetF X hx hZ hown (ow hw 21 rfl) Via.refl e' A0.fld (H d9_9) (pc' := 12) rfl (fun T5 X5 e5 => ?_)
      refine gArrLen X5 hx hZ e5 A0.arr (H d9_12) (pc' := 13) rfl ?_
      refine gIcmpGe X5 hx (H d9_13) (pc' := 95) (by decide) (by decide) (pn := 16) rfl (fun (c13 : (Int32.ofNat ls.length).toInt ≤ (Int32.ofNat i).toInt) => ?_) (fun (c13 : (Int32.ofNat i).toInt < (Int32.ofNat ls.length).toInt) => ?_)
      · exact absurd c13 (by rw [own_nint (by omega), own_nint (by omega)]; omega)
      · refine gLoadJ 18 X5 hx (H d9_16) rfl rfl ?_
        refine gLconst 19 X5 hx (v := (0 : Int64)) (H d9_18) rfl rfl ?_
        refine gLcmp 20 X5 hx (H d9_19) rfl ?_
        refine gLIfNe X5 hx (H d9_20) (pc' := 95) (by decide) (by decide) (pn := 23) rfl (fun (c20 : ¬ (0 : Int64) = (0 : Int64)) => ?_) (fun (c20 : (0 : Int64) = (0 : Int64)) => ?_)
        · exact absurd rfl c20
        · refine gLoadIN 24 X5 hx (H d9_23) rfl rfl ?_
          refine gBipush 26 X5 hx (v := (6 : Int32)) (H d9_24) rfl rfl ?_
          refine gIushr 27 X5 hx (H d9_26) rfl ?_
          rw [own_ush6 _ (by omega)]
          refine gStoreI 29 X5 hx (H d9_27) (l' := #[.val (.ref a), .val (.int (Int32.ofNat f)), .val (.int (Int32.ofNat q)), .val (.int (Int32.ofNat i)), .val (.long (0 : Int64)), .second, .val (.int (Int32.ofNat (q / 64))), s7]) (by rcases hs6 with rfl | ⟨_, rfl⟩ <;> rfl) rfl ?_
          refine gLoadI 31 X5 hx (H d9_29) rfl rfl ?_
          refine gLoadAN 32 X5 hx (H d9_31) rfl rfl rfl ?_
          refine gGetF X5 hx hZ hown (ow hw 21 rfl) Via.refl e5 A0.fld (H d9_32) (pc' := 35) rfl (fun T6 X6 e6 => ?_)
          refine gLoadIN 36 X6 hx (H d9_35) rfl rfl ?_
          refine gAaload X6 hx hZ e6 rfl A0.arr (j := (Int32.ofNat i)) (v := (.ref la)) (own_nn (by omega)) (own_nlt (by omega) (by omega) (by omega)) (own_get hla (by omega)) (H d9_36) (pc' := 37) rfl ?_
          refine gArrLen X6 hx hZ e6 B (H d9_37) (pc' := 38) rfl ?_
          refine gIcmpGe X6 hx (H d9_38) (pc' := 59) (by decide) (by decide) (pn := 41) rfl (fun (c38 : (Int32.ofNat (cw n (i + 1))).toInt ≤ (Int32.ofNat (q / 64)).toInt) => ?_) (fun (c38 : (Int32.ofNat (q / 64)).toInt < (Int32.ofNat (cw n (i + 1))).toInt) => ?_)
          · have hfar : cw n (i + 1) ≤ q / 64 := by rw [own_nint (by omega), own_nint (by omega)] at c38; omega
            refine gLconst 60 X6 hx (v := (0 : Int64)) (H d9_59) rfl rfl ?_
            refine gStoreJ 62 X6 hx (H d9_60) (l' := #[.val (.ref a), .val (.int (Int32.ofNat f)), .val (.int (Int32.ofNat q)), .val (.int (Int32.ofNat i)), .val (.long (0 : Int64)), .second, .val (.int (Int32.ofNat (q / 64))), s7]) rfl rfl ?_
            refine gLoadJ 64 X6 hx (H d9_62) rfl rfl ?_
            refine gLconst 65 X6 hx (v := (0 : Int64)) (H d9_64) rfl rfl ?_
            refine gLcmp 66 X6 hx (H d9_65) rfl ?_
            refine gLIfNe X6 hx (H d9_66) (pc' := 80) (by decide) (by decide) (pn := 69) rfl (fun (c66 : ¬ (0 : Int64) = (0 : Int64)) => ?_) (fun (c66 : (0 : Int64) = (0 : Int64)) => ?_)
            · exact absurd rfl c66
            · refine gIinc X6 hx (v := (1 : Int32)) (H d9_69) (l' := #[.val (.ref a), .val (.int (Int32.ofNat f)), .val (.int (Int32.ofNat q)), .val (.int ((Int32.ofNat i) + (1 : Int32))), .val (.long (0 : Int64)), .second, .val (.int (Int32.ofNat (q / 64))), s7]) (pc' := 72) rfl rfl rfl rfl ?_
              rw [own_inc]
              refine gLoadI 74 X6 hx (H d9_72) rfl rfl ?_
              refine gIconst 75 X6 hx (v := (1 : Int32)) (H d9_74) rfl rfl ?_
              refine gIadd 76 X6 hx (H d9_75) rfl ?_
              rw [own_inc]
              refine gStoreIN 77 X6 hx (H d9_76) (l' := #[.val (.ref a), .val (.int (Int32.ofNat f)), .val (.int (Int32.ofNat (q / 64 + 1))), .val (.int (Int32.ofNat (i + 1))), .val (.long (0 : Int64)), .second, .val (.int (Int32.ofNat (q / 64))), s7]) rfl rfl ?_
              refine gGoto X6 hx (H d9_77) (pc' := 92) (by decide) (by decide) ?_
              refine gGoto X6 hx (H d9_92) (pc' := 7) (by decide) (by decide) ?_
              exact IH (i + 1) (q / 64 + 1) _ _ _ (Or.inr ⟨_, rfl⟩) hs7 (by omega) (own_climbX C hS (by omega)) (fun _ => by omega) (by omega) X6 e6
          · have hfar : q / 64 < cw n (i + 1) := by rw [own_nint (by omega), own_nint (by omega)] at c38; omega
            obtain ⟨wd, gw1, gw2⟩ := HB (q / 64) hfar
            refine gLoadAN 42 X6 hx (H d9_41) rfl rfl rfl ?_
            refine gGetF X6 hx hZ hown (ow hw 21 rfl) Via.refl e6 A0.fld (H d9_42) (pc' := 45) rfl (fun T7 X7 e7 => ?_)
            refine gLoadIN 46 X7 hx (H d9_45) rfl rfl ?_
            refine gAaload X7 hx hZ e7 rfl A0.arr (j := (Int32.ofNat i)) (v := (.ref la)) (own_nn (by omega)) (own_nlt (by omega) (by omega) (by omega)) (own_get hla (by omega)) (H d9_46) (pc' := 47) rfl ?_
            refine gLoadI 49 X7 hx (H d9_47) rfl rfl ?_
            refine gLaload X7 hx hZ e7 B (j := (Int32.ofNat (q / 64))) (v := (.long wd)) (own_nn (by omega)) (own_nlt (by omega) (by omega) (by omega)) (by rw [own_nclamp (by omega)]; exact gw1) (H d9_49) (pc' := 50) rfl ?_
            refine gLdc2 53 X7 hx hZ hown (ow hw 39 rfl) (H d9_50) rfl ?_
            refine gLoadIN 54 X7 hx (H d9_53) rfl rfl ?_
            refine gLshl 55 X7 hx (H d9_54) rfl ?_
            refine gLand 56 X7 hx (H d9_55) rfl ?_
            refine gGoto X7 hx (H d9_56) (pc' := 60) (by decide) (by decide) ?_
            refine gStoreJ 62 X7 hx (H d9_60) (l' := #[.val (.ref a), .val (.int (Int32.ofNat f)), .val (.int (Int32.ofNat q)), .val (.int (Int32.ofNat i)), .val (.long (wd &&& ((-1 : Int64) <<< ((Int32.ofNat q) &&& 0x3f).toInt64))), .second, .val (.int (Int32.ofNat (q / 64))), s7]) rfl rfl ?_
            refine gLoadJ 64 X7 hx (H d9_62) rfl rfl ?_
            refine gLconst 65 X7 hx (v := (0 : Int64)) (H d9_64) rfl rfl ?_
            refine gLcmp 66 X7 hx (H d9_65) rfl ?_
            refine gLIfNe X7 hx (H d9_66) (pc' := 80) (by decide) (by decide) (pn := 69) rfl (fun (c66 : ¬ (wd &&& ((-1 : Int64) <<< ((Int32.ofNat q) &&& 0x3f).toInt64)) = (0 : Int64)) => ?_) (fun (c66 : (wd &&& ((-1 : Int64) <<< ((Int32.ofNat q) &&& 0x3f).toInt64)) = (0 : Int64)) => ?_)
            · obtain ⟨t, hlow⟩ := own_low c66
              refine gLoadI 82 X7 hx (H d9_80) rfl rfl ?_
              refine gBipush 84 X7 hx (v := (6 : Int32)) (H d9_82) rfl rfl ?_
              refine gIshl 85 X7 hx (H d9_84) rfl ?_
              refine gLoadJ 87 X7 hx (H d9_85) rfl rfl ?_
              refine gCallSJ X7 hx hZ (y := mn5) hown e7 (by rw [hml]; rfl) (ow hw 40 rfl) (ow hw 41 rfl) (ow hw 42 rfl) (ow hw 43 rfl) (by decide) (argsL := [(.long (wd &&& ((-1 : Int64) <<< ((Int32.ofNat q) &&& 0x3f).toInt64)))]) (st := [(.int ((Int32.ofNat (q / 64)) <<< ((6 : Int32) &&& 31)))]) (c_ntzL l Z a0 hw (wd &&& ((-1 : Int64) <<< ((Int32.ofNat q) &&& 0x3f).toInt64)) t hlow h0) (lenOf pd_4 rfl) (H d9_87) (pc' := 90) rfl rfl rfl rfl (by decide) (W := 1) (Nat.le_of_eq rfl) (by decide) (by decide) (by decide) ?_
              intro T8 X8 e8
              refine gIadd 91 X8 hx (H d9_90) rfl ?_
              rw [own_shl6, own_addn]
              refine gStoreIN 92 X8 hx (H d9_91) (l' := #[.val (.ref a), .val (.int (Int32.ofNat f)), .val (.int (Int32.ofNat (64 * (q / 64) + t))), .val (.int (Int32.ofNat i)), .val (.long (wd &&& ((-1 : Int64) <<< ((Int32.ofNat q) &&& 0x3f).toInt64))), .second, .val (.int (Int32.ofNat (q / 64))), s7]) rfl rfl ?_
              refine gGoto X8 hx (H d9_92) (pc' := 7) (by decide) (by decide) ?_
              exact JD i (64 * (q / 64) + t) _ _ _ _ (Or.inr ⟨_, rfl⟩) hs7 (by omega) (own_found C gw2 hlow) c66 X8 e8
            · refine gIinc X7 hx (v := (1 : Int32)) (H d9_69) (l' := #[.val (.ref a), .val (.int (Int32.ofNat f)), .val (.int (Int32.ofNat q)), .val (.int ((Int32.ofNat i) + (1 : Int32))), .val (.long (wd &&& ((-1 : Int64) <<< ((Int32.ofNat q) &&& 0x3f).toInt64))), .second, .val (.int (Int32.ofNat (q / 64))), s7]) (pc' := 72) rfl rfl rfl rfl ?_
              rw [own_inc]
              refine gLoadI 74 X7 hx (H d9_72) rfl rfl ?_
              refine gIconst 75 X7 hx (v := (1 : Int32)) (H d9_74) rfl rfl ?_
              refine gIadd 76 X7 hx (H d9_75) rfl ?_
              rw [own_inc]
              refine gStoreIN 77 X7 hx (H d9_76) (l' := #[.val (.ref a), .val (.int (Int32.ofNat f)), .val (.int (Int32.ofNat (q / 64 + 1))), .val (.int (Int32.ofNat (i + 1))), .val (.long (wd &&& ((-1 : Int64) <<< ((Int32.ofNat q) &&& 0x3f).toInt64))), .second, .val (.int (Int32.ofNat (q / 64))), s7]) rfl rfl ?_
              rw [c66]
              refine gGoto X7 hx (H d9_77) (pc' := 92) (by decide) (by decide) ?_
              refine gGoto X7 hx (H d9_92) (pc' := 7) (by decide) (by decide) ?_
              exact IH (i + 1) (q / 64 + 1) _ _ _ (Or.inr ⟨_, rfl⟩) hs7 (by omega) (own_climb0 C gw2 c66) (fun _ => by omega) (by omega) X7 e7
  exact J ls.length 0 f _ _ _ (Or.inl rfl) (Or.inl rfl) (by omega) Climb.zero (fun q => absurd q (by decide)) (by omega) X0 e0
theorem own_mk4 (y mk : Int32) (h : mk = 63 ∨ mk = 4095 ∨ mk = 262143 ∨ mk = 1048575) : 0 ≤ (y &&& mk).toInt ∧ (y &&& mk).toInt ≤ 1048575 := by
  rcases h with rfl | rfl | rfl | rfl
  · have e1 : (y &&& 63).toInt = y.toInt % 2 ^ 6 := Jvm.Kit.i32_mask y 63 (by decide) (by decide)
    omega
  · have e1 : (y &&& 4095).toInt = y.toInt % 2 ^ 12 := Jvm.Kit.i32_mask y 4095 (by decide) (by decide)
    omega
  · have e1 : (y &&& 262143).toInt = y.toInt % 2 ^ 18 := Jvm.Kit.i32_mask y 262143 (by decide) (by decide)
    omega
  · have e1 : (y &&& 1048575).toInt = y.toInt % 2 ^ 20 := Jvm.Kit.i32_mask y 1048575 (by decide) (by decide)
    omega
theorem own_size (y mk : Int32) (h : mk = 63 ∨ mk = 4095 ∨ mk = 262143 ∨ mk = 1048575) : ∃ n : Nat, (y &&& mk) + 1 = Int32.ofNat n ∧ 1 ≤ n ∧ n ≤ 1048576 := by
  have e1 := own_mk4 y mk h
  have t1 : (1 : Int32).toInt = 1 := rfl
  have e2 : ((y &&& mk) + 1).toInt = (y &&& mk).toInt + 1 := by rw [Jvm.Kit.i32_add (by omega) (by omega), t1]
  obtain ⟨x, hx, hx2, -⟩ := own_of (x := (y &&& mk) + 1) (by omega)
  exact ⟨x, hx, by omega, by omega⟩
theorem own_xor {k : Nat} (hk : k < 1048576) (y mk : Int32) (h : mk = 63 ∨ mk = 4095 ∨ mk = 262143 ∨ mk = 1048575) : ∃ x : Nat, Int32.ofNat k ^^^ (y &&& mk) = Int32.ofNat x ∧ x < 1048576 := by
  have e1 := own_mk4 y mk h
  obtain ⟨m, hm, hm2, -⟩ := own_of (x := y &&& mk) (by omega)
  refine ⟨k ^^^ m, ?_, Nat.xor_lt_two_pow (n := 20) (by omega) (by omega)⟩
  rw [hm]
  apply Int32.toBitVec_inj.mp
  apply BitVec.eq_of_toNat_eq
  show ((Int32.ofNat k) ^^^ (Int32.ofNat m)).toBitVec.toNat = (k ^^^ m) % 2 ^ 32
  rw [Int32.toBitVec_xor, BitVec.toNat_xor]
  show (k % 2 ^ 32) ^^^ (m % 2 ^ 32) = _
  have h3 : k ^^^ m < 2 ^ 20 := Nat.xor_lt_two_pow (n := 20) (by omega) (by omega)
  rw [Nat.mod_eq_of_lt (by omega), Nat.mod_eq_of_lt (by omega), Nat.mod_eq_of_lt (by omega)]
theorem d3_0 : decode jdk_29_method_69_code 0 = .ok (.iload_n 0, 1) := by decide +kernel
theorem d3_1 : decode jdk_29_method_69_code 1 = .ok (.iload_n 1, 1) := by decide +kernel
theorem d3_2 : decode jdk_29_method_69_code 2 = .ok (.if_icmp .gt 7, 3) := by decide +kernel
theorem d3_9 : decode jdk_29_method_69_code 9 = .ok (.iload_n 1, 1) := by decide +kernel
theorem d3_10 : decode jdk_29_method_69_code 10 = .ok (.ireturn, 1) := by decide +kernel
theorem d3_5 : decode jdk_29_method_69_code 5 = .ok (.iload_n 0, 1) := by decide +kernel
theorem d3_6 : decode jdk_29_method_69_code 6 = .ok (.goto 4, 3) := by decide +kernel
abbrev mn8 : MethodName := ⟨"java/lang/Math", "min", "(II)I"⟩
theorem c_min (l : Launch) (Z : State) (a0 : Array Value) (hw : ∀ d ∈ tables_1, d.before a0 Z = true) (xa xb : Nat) (h0 : Heap) (hxa : xa < 2 ^ 31) (hxb : xb < 2 ^ 31) :
    Ctr l Z mn8 jdk_29_method_69_code 2 (some .int) [] ⟨0, 0, 0, 0⟩ #[(.int (Int32.ofNat xa)), (.int (Int32.ofNat xb))] h0 (Just h0 (.int (Int32.ofNat (min xa xb)))) := by
  refine Ctr.of (Jvm.Free.JP.mathPlain rfl (by decide +kernel)) ?_
  intro p e s m below meth c s₁ hx H hml hret hown hnm hZ hlk X0 e0
  refine Goes.cast (show entryFrame m _ _ = mkF m 0 #[.val (.int (Int32.ofNat xa)), .val (.int (Int32.ofNat xb))] [] from rfl) ?_
  refine gLoadIN 1 X0 hx (H d3_0) rfl rfl ?_
  refine gLoadIN 2 X0 hx (H d3_1) rfl rfl ?_
  refine gIcmpGt X0 hx (H d3_2) (pc' := 9) (by decide) (by decide) (pn := 5) rfl (fun (c2 : (Int32.ofNat xb).toInt < (Int32.ofNat xa).toInt) => ?_) (fun (c2 : (Int32.ofNat xa).toInt ≤ (Int32.ofNat xb).toInt) => ?_)
  · refine gLoadIN 10 X0 hx (H d3_9) rfl rfl ?_
    exact gRetI X0 hx hlk hret (H d3_10) (by decide) (by decide) (⟨by rw [show min xa xb = xb by have n1 := own_nint hxa; have n2 := own_nint hxb; omega], e0, rfl⟩)
  · refine gLoadIN 6 X0 hx (H d3_5) rfl rfl ?_
    refine gGoto X0 hx (H d3_6) (pc' := 10) (by decide) (by decide) ?_
    exact gRetI X0 hx hlk hret (H d3_10) (by decide) (by decide) (⟨by rw [show min xa xb = xa by have n1 := own_nint hxa; have n2 := own_nint hxb; omega], e0, rfl⟩)
theorem d1_0 : decode jdk_29_method_65_code 0 = .ok (.iload_n 0, 1) := by decide +kernel
theorem d1_1 : decode jdk_29_method_65_code 1 = .ok (.iload_n 1, 1) := by decide +kernel
theorem d1_2 : decode jdk_29_method_65_code 2 = .ok (.if_icmp .lt 7, 3) := by decide +kernel
theorem d1_9 : decode jdk_29_method_65_code 9 = .ok (.iload_n 1, 1) := by decide +kernel
theorem d1_10 : decode jdk_29_method_65_code 10 = .ok (.ireturn, 1) := by decide +kernel
theorem d1_5 : decode jdk_29_method_65_code 5 = .ok (.iload_n 0, 1) := by decide +kernel
theorem d1_6 : decode jdk_29_method_65_code 6 = .ok (.goto 4, 3) := by decide +kernel
abbrev mn6 : MethodName := ⟨"java/lang/Math", "max", "(II)I"⟩
theorem c_max (l : Launch) (Z : State) (a0 : Array Value) (hw : ∀ d ∈ tables_1, d.before a0 Z = true) (xa xb : Nat) (h0 : Heap) (hxa : xa < 2 ^ 31) (hxb : xb < 2 ^ 31) :
    Ctr l Z mn6 jdk_29_method_65_code 2 (some .int) [] ⟨0, 0, 0, 0⟩ #[(.int (Int32.ofNat xa)), (.int (Int32.ofNat xb))] h0 (Just h0 (.int (Int32.ofNat (max xa xb)))) := by
  refine Ctr.of (Jvm.Free.JP.mathPlain rfl (by decide +kernel)) ?_
  intro p e s m below meth c s₁ hx H hml hret hown hnm hZ hlk X0 e0
  refine Goes.cast (show entryFrame m _ _ = mkF m 0 #[.val (.int (Int32.ofNat xa)), .val (.int (Int32.ofNat xb))] [] from rfl) ?_
  refine gLoadIN 1 X0 hx (H d1_0) rfl rfl ?_
  refine gLoadIN 2 X0 hx (H d1_1) rfl rfl ?_
  refine gIcmpLt X0 hx (H d1_2) (pc' := 9) (by decide) (by decide) (pn := 5) rfl (fun (c2 : (Int32.ofNat xa).toInt < (Int32.ofNat xb).toInt) => ?_) (fun (c2 : (Int32.ofNat xb).toInt ≤ (Int32.ofNat xa).toInt) => ?_)
  · refine gLoadIN 10 X0 hx (H d1_9) rfl rfl ?_
    exact gRetI X0 hx hlk hret (H d1_10) (by decide) (by decide) (⟨by rw [show max xa xb = xb by have n1 := own_nint hxa; have n2 := own_nint hxb; omega], e0, rfl⟩)
  · refine gLoadIN 6 X0 hx (H d1_5) rfl rfl ?_
    refine gGoto X0 hx (H d1_6) (pc' := 10) (by decide) (by decide) ?_
    exact gRetI X0 hx hlk hret (H d1_10) (by decide) (by decide) (⟨by rw [show max xa xb = xa by have n1 := own_nint hxa; have n2 := own_nint hxb; omega], e0, rfl⟩)
theorem pd_3 : parseMethodDescriptor "(II)I" = some ⟨[.int, .int], some .int⟩ := by decide +kernel
theorem pd_2 : parseMethodDescriptor "(I)V" = some ⟨[.int], none⟩ := by decide +kernel
theorem pn_1 : plainName "com/example/align/align/rectilinear/RowSetAddPinLaw" = true := by first | (simp [plainName, overriddenIn]; done) | decide +kernel
theorem c_law (l : Launch) (Z : State) (a0 : Array Value) (hw : ∀ d ∈ tables_1, d.before a0 Z = true) (p0 p1 p2 p3 : Int32) (h0 : Heap)  :
    Ctr l Z x code maxLocals ret tables_1 room_1 #[(.int p0), (.int p1), (.int p2), (.int p3)] h0 (Law1 h0) := by
  refine Ctr.of (plainFor_of_name pn_1) ?_
  intro p e s m below meth c s₁ hx H hml hret hown hnm hZ hlk X0 e0
  replace hml : c.maxLocals = 16 := hml
  refine Goes.cast (show entryFrame m _ _ = mkF m 0 #[.val (.int p0), .val (.int p1), .val (.int p2), .val (.int p3), .unset, .unset, .unset, .unset, .unset, .unset, .unset, .unset, .unset, .unset, .unset, .unset] [] from rfl) ?_
  refine gLoadIN 1 X0 hx (H at_0) rfl rfl ?_
  refine gIconst 2 X0 hx (v := (3 : Int32)) (H at_1) rfl rfl ?_
  refine gIand 3 X0 hx (H at_2) rfl ?_
  refine gStoreI 5 X0 hx (H at_3) (l' := #[.val (.int p0), .val (.int p1), .val (.int p2), .val (.int p3), .val (.int (p0 &&& (3 : Int32))), .unset, .unset, .unset, .unset, .unset, .unset, .unset, .unset, .unset, .unset, .unset]) rfl rfl ?_
  have J40 : ∀ mk : Int32, (mk = 63 ∨ mk = 4095 ∨ mk = 262143 ∨ mk = 1048575) → Goes p e below (FinN s room_1.cells room_1.slots (Law1 h0)) s₁ (mkF m 40 #[.val (.int p0), .val (.int p1), .val (.int p2), .val (.int p3), .val (.int (p0 &&& (3 : Int32))), .unset, .unset, .unset, .unset, .unset, .unset, .unset, .unset, .unset, .unset, .unset] [(.int mk)]) := by
    intro mk hmk
    refine gStoreI 42 X0 hx (H at_40) (l' := #[.val (.int p0), .val (.int p1), .val (.int p2), .val (.int p3), .val (.int (p0 &&& (3 : Int32))), .val (.int mk), .unset, .unset, .unset, .unset, .unset, .unset, .unset, .unset, .unset, .unset]) rfl rfl ?_
    refine gLoadIN 43 X0 hx (H at_42) rfl rfl ?_
    refine gIconst 44 X0 hx (v := (2 : Int32)) (H at_43) rfl rfl ?_
    refine gIushr 45 X0 hx (H at_44) rfl ?_
    refine gLoadI 47 X0 hx (H at_45) rfl rfl ?_
    refine gIand 48 X0 hx (H at_47) rfl ?_
    refine gIconst 49 X0 hx (v := (1 : Int32)) (H at_48) rfl rfl ?_
    refine gIadd 50 X0 hx (H at_49) rfl ?_
    obtain ⟨n, hg_n, hn, hn2⟩ := own_size _ mk hmk
    rw [hg_n]
    refine gStoreI 52 X0 hx (H at_50) (l' := #[.val (.int p0), .val (.int p1), .val (.int p2), .val (.int p3), .val (.int (p0 &&& (3 : Int32))), .val (.int mk), .val (.int (Int32.ofNat n)), .unset, .unset, .unset, .unset, .unset, .unset, .unset, .unset, .unset]) rfl rfl ?_
    refine gLoadIN 53 X0 hx (H at_52) rfl rfl ?_
    refine gLdc 55 X0 hx hZ hown (ow hw 0 rfl) (H at_53) rfl ?_
    refine gIand 56 X0 hx (H at_55) rfl ?_
    refine gLoadI 58 X0 hx (H at_56) rfl rfl ?_
    refine gIrem 59 X0 hx (H at_58) (own_ne0 (by omega) (by omega)) rfl ?_
    obtain ⟨xa, hg_xa, hxa⟩ := own_remI (own_m31 p1) hn (show n < 2 ^ 31 by omega)
    rw [hg_xa]
    refine gStoreI 61 X0 hx (H at_59) (l' := #[.val (.int p0), .val (.int p1), .val (.int p2), .val (.int p3), .val (.int (p0 &&& (3 : Int32))), .val (.int mk), .val (.int (Int32.ofNat n)), .val (.int (Int32.ofNat xa)), .unset, .unset, .unset, .unset, .unset, .unset, .unset, .unset]) rfl rfl ?_
    refine gLoadIN 62 X0 hx (H at_61) rfl rfl ?_
    refine gIconst 63 X0 hx (v := (3 : Int32)) (H at_62) rfl rfl ?_
    refine gIand 64 X0 hx (H at_63) rfl ?_
    refine gStoreI 66 X0 hx (H at_64) (l' := #[.val (.int p0), .val (.int p1), .val (.int p2), .val (.int p3), .val (.int (p0 &&& (3 : Int32))), .val (.int mk), .val (.int (Int32.ofNat n)), .val (.int (Int32.ofNat xa)), .val (.int (p2 &&& (3 : Int32))), .unset, .unset, .unset, .unset, .unset, .unset, .unset]) rfl rfl ?_
    have J134 : ∀ (xb : Nat) (sl : Slot), xb < n → (sl = .unset ∨ ∃ k : Int32, sl = .val (.int k)) → Goes p e below (FinN s room_1.cells room_1.slots (Law1 h0)) s₁ (mkF m 134 #[.val (.int p0), .val (.int p1), .val (.int p2), .val (.int p3), .val (.int (p0 &&& (3 : Int32))), .val (.int mk), .val (.int (Int32.ofNat n)), .val (.int (Int32.ofNat xa)), .val (.int (p2 &&& (3 : Int32))), .val (.int (Int32.ofNat xb)), sl, .unset, .unset, .unset, .unset, .unset] []) := by
      intro xb sl hxb hsl
      refine gLoadIN 135 X0 hx (H at_134) rfl rfl ?_
      refine gLdc 137 X0 hx hZ hown (ow hw 0 rfl) (H at_135) rfl ?_
      refine gIand 138 X0 hx (H at_137) rfl ?_
      refine gLoadI 140 X0 hx (H at_138) rfl rfl ?_
      refine gIconst 141 X0 hx (v := (1 : Int32)) (H at_140) rfl rfl ?_
      refine gIadd 142 X0 hx (H at_141) rfl ?_
      rw [own_inc]
      refine gIrem 143 X0 hx (H at_142) (own_ne0 (by omega) (by omega)) rfl ?_
      obtain ⟨f, hg_f, hf⟩ := own_remI (own_m31 p3) (show 1 ≤ n + 1 by omega) (show n + 1 < 2 ^ 31 by omega)
      rw [hg_f]
      refine gStoreI 145 X0 hx (H at_143) (l' := #[.val (.int p0), .val (.int p1), .val (.int p2), .val (.int p3), .val (.int (p0 &&& (3 : Int32))), .val (.int mk), .val (.int (Int32.ofNat n)), .val (.int (Int32.ofNat xa)), .val (.int (p2 &&& (3 : Int32))), .val (.int (Int32.ofNat xb)), .val (.int (Int32.ofNat f)), .unset, .unset, .unset, .unset, .unset]) (by rcases hsl with rfl | ⟨_, rfl⟩ <;> rfl) rfl ?_
      refine gLoadI 147 X0 hx (H at_145) rfl rfl ?_
      refine gLoadI 149 X0 hx (H at_147) rfl rfl ?_
      refine gCallSJ X0 hx hZ (y := mn8) hown e0 (by rw [hml]; rfl) (ow hw 2 rfl) (ow hw 3 rfl) (ow hw 4 rfl) (ow hw 5 rfl) (by decide) (argsL := [(.int (Int32.ofNat xa)), (.int (Int32.ofNat xb))]) (st := []) (c_min l Z a0 hw xa xb h0 (by omega) (by omega)) (lenOf pd_3 rfl) (H at_149) (pc' := 152) rfl rfl rfl rfl (by decide) (W := 0) (Nat.le_of_eq rfl) (by decide) (by decide) (by decide) ?_
      intro T1 X1 e1
      refine gStoreI 154 X1 hx (H at_152) (l' := #[.val (.int p0), .val (.int p1), .val (.int p2), .val (.int p3), .val (.int (p0 &&& (3 : Int32))), .val (.int mk), .val (.int (Int32.ofNat n)), .val (.int (Int32.ofNat xa)), .val (.int (p2 &&& (3 : Int32))), .val (.int (Int32.ofNat xb)), .val (.int (Int32.ofNat f)), .val (.int (Int32.ofNat (min xa xb))), .unset, .unset, .unset, .unset]) rfl rfl ?_
      refine gLoadI 156 X1 hx (H at_154) rfl rfl ?_
      refine gLoadI 158 X1 hx (H at_156) rfl rfl ?_
      refine gCallSJ X1 hx hZ (y := mn6) hown e1 (by rw [hml]; rfl) (ow hw 6 rfl) (ow hw 7 rfl) (ow hw 4 rfl) (ow hw 8 rfl) (by decide) (argsL := [(.int (Int32.ofNat xa)), (.int (Int32.ofNat xb))]) (st := []) (c_max l Z a0 hw xa xb h0 (by omega) (by omega)) (lenOf pd_3 rfl) (H at_158) (pc' := 161) rfl rfl rfl rfl (by decide) (W := 0) (Nat.le_of_eq rfl) (by decide) (by decide) (by decide) ?_
      intro T2 X2 e2
      refine gStoreI 163 X2 hx (H at_161) (l' := #[.val (.int p0), .val (.int p1), .val (.int p2), .val (.int p3), .val (.int (p0 &&& (3 : Int32))), .val (.int mk), .val (.int (Int32.ofNat n)), .val (.int (Int32.ofNat xa)), .val (.int (p2 &&& (3 : Int32))), .val (.int (Int32.ofNat xb)), .val (.int (Int32.ofNat f)), .val (.int (Int32.ofNat (min xa xb))), .val (.int (Int32.ofNat (max xa xb))), .unset, .unset, .unset]) rfl rfl ?_
      obtain ⟨lo, hlo⟩ : ∃ z, z = min xa xb := ⟨_, rfl⟩
      obtain ⟨hi, hhi⟩ : ∃ z, z = max xa xb := ⟨_, rfl⟩
      rw [← hlo, ← hhi]
      have nlo := own_nint (q := lo) (by omega)
      have nhi := own_nint (q := hi) (by omega)
      have nf := own_nint (q := f) (by omega)
      have J188 : ∀ ex : Int32, Nx (fun s => s = xa ∨ s = xb) f ex → Goes p e below (FinN s room_1.cells room_1.slots (Law1 h0)) T2 (mkF m 188 #[.val (.int p0), .val (.int p1), .val (.int p2), .val (.int p3), .val (.int (p0 &&& (3 : Int32))), .val (.int mk), .val (.int (Int32.ofNat n)), .val (.int (Int32.ofNat xa)), .val (.int (p2 &&& (3 : Int32))), .val (.int (Int32.ofNat xb)), .val (.int (Int32.ofNat f)), .val (.int (Int32.ofNat lo)), .val (.int (Int32.ofNat hi)), .unset, .unset, .unset] [(.int ex)]) := by
        intro ex hex
        refine gStoreI 190 X2 hx (H at_188) (l' := #[.val (.int p0), .val (.int p1), .val (.int p2), .val (.int p3), .val (.int (p0 &&& (3 : Int32))), .val (.int mk), .val (.int (Int32.ofNat n)), .val (.int (Int32.ofNat xa)), .val (.int (p2 &&& (3 : Int32))), .val (.int (Int32.ofNat xb)), .val (.int (Int32.ofNat f)), .val (.int (Int32.ofNat lo)), .val (.int (Int32.ofNat hi)), .val (.int ex), .unset, .unset]) rfl rfl ?_
        refine gNew X2 hx hZ hown (ow hw 9 rfl) (ow hw 10 rfl) (ow hw 11 rfl) e2 (H at_190) (pc' := 193) rfl (by decide) (by decide) (fun T3 h3 b3 X3 e3 g3 E3 A3 D3 => ?_)
        have sz_b3 : h0.size ≤ b3 := Nat.le_trans (Nat.le_refl _) (Nat.le_of_eq g3.symm)
        have zs3 : h0.size ≤ h3.size := Nat.le_trans (Nat.le_refl _) E3.1
        have F3_levels : Fld Z h3 b3 "com/example/align/align/rectilinear/RowSet" "levels" "[[J" .null := D3 (Or.inr (ow hw 22 rfl)) (ty := (.array (.array .long))) (by decide)
        refine gDup 194 X3 hx (H at_193) rfl rfl ?_
        refine gLoadI 196 X3 hx (H at_194) rfl rfl ?_
        refine gCallI X3 hx hZ (y := mn0) rfl hown e3 (by rw [hml]; rfl) (ow hw 12 rfl) (ow hw 13 rfl) (ow hw 11 rfl) (ow hw 14 rfl) (by decide) (argsL := [(.int (Int32.ofNat n))]) (st := [(.ref b3)]) (c_init l Z a0 hw b3 n h0.size h3 hn (by omega) sz_b3 zs3 A3 F3_levels) (lenOf pd_2 rfl) (H at_196) (pc' := 199) rfl rfl (by decide) (W := 1) (Nat.le_of_eq rfl) (by decide) (by decide) (by decide) ?_
        intro T4 v4 L4 X4 hQ4
        obtain ⟨rfl, Nq4, Lr, cLr, lsr, Rq4, hK4, hK1, hcw⟩ := hQ4
        have N4 := Fr.app (Fr.nil h0.size) Nq4
        refine gStoreA 201 X4 hx (H at_199) (l' := #[.val (.int p0), .val (.int p1), .val (.int p2), .val (.int p3), .val (.int (p0 &&& (3 : Int32))), .val (.int mk), .val (.int (Int32.ofNat n)), .val (.int (Int32.ofNat xa)), .val (.int (p2 &&& (3 : Int32))), .val (.int (Int32.ofNat xb)), .val (.int (Int32.ofNat f)), .val (.int (Int32.ofNat lo)), .val (.int (Int32.ofNat hi)), .val (.int ex), .val (.ref b3), .unset]) rfl rfl rfl ?_
        refine gLoadA 203 X4 hx (H at_201) rfl rfl rfl ?_
        refine gLoadI 205 X4 hx (H at_203) rfl rfl ?_
        refine gCallV X4 hx hZ (y := mn1) hown rfl (by rw [hml]; rfl) Rq4.exa (ow hw 29 rfl) (ow hw 30 rfl) (ow hw 32 rfl) (ow hw 31 rfl) (ow hw 11 rfl) (ow hw 33 rfl) (by decide) (argsL := [(.int (Int32.ofNat xa))]) (st := []) (c_add l Z a0 hw b3 xa n h0.size (fun _ => False) Lr cLr lsr T4.heap hn (by omega) (by omega) hK4 Rq4) (lenOf pd_2 rfl) (H at_205) (pc' := 208) rfl rfl (by decide) (W := 0) (Nat.le_of_eq rfl) (by decide) (by decide) (by decide) ?_
        intro T5 v5 L5 X5 hQ5
        obtain ⟨rfl, Nq5, Rq5⟩ := hQ5
        have N5 := Fr.app N4 Nq5
        refine gLoadA 210 X5 hx (H at_208) rfl rfl rfl ?_
        refine gLoadI 212 X5 hx (H at_210) rfl rfl ?_
        refine gCallV X5 hx hZ (y := mn1) hown rfl (by rw [hml]; rfl) Rq5.exa (ow hw 29 rfl) (ow hw 30 rfl) (ow hw 32 rfl) (ow hw 31 rfl) (ow hw 11 rfl) (ow hw 33 rfl) (by decide) (argsL := [(.int (Int32.ofNat xb))]) (st := []) (c_add l Z a0 hw b3 xb n h0.size (fun s => (fun _ => False) s ∨ s = xa) Lr cLr lsr T5.heap hn (by omega) (by omega) hK4 Rq5) (lenOf pd_2 rfl) (H at_212) (pc' := 215) rfl rfl (by decide) (W := 0) (Nat.le_of_eq rfl) (by decide) (by decide) (by decide) ?_
        intro T6 v6 L6 X6 hQ6
        obtain ⟨rfl, Nq6, Rq6⟩ := hQ6
        have N6 := Fr.app N5 Nq6
        have hSn : ∀ s, ((False ∨ s = xa) ∨ s = xb) → s < n := fun s hs => by simp only [false_or] at hs; omega
        have hSS : ∀ s, ((False ∨ s = xa) ∨ s = xb) ↔ (s = xa ∨ s = xb) := fun s => by simp only [false_or]
        refine gLoadA 217 X6 hx (H at_215) rfl rfl rfl ?_
        refine gIconst 218 X6 hx (v := (0 : Int32)) (H at_217) rfl rfl ?_
        refine gCallV X6 hx hZ (y := mn2) hown rfl (by rw [hml]; rfl) Rq6.exa (ow hw 34 rfl) (ow hw 35 rfl) (ow hw 37 rfl) (ow hw 36 rfl) (ow hw 11 rfl) (ow hw 38 rfl) (by decide) (argsL := [(.int (0 : Int32))]) (st := []) (c_next l Z a0 hw b3 0 n h0.size (fun s => (fun s => (fun _ => False) s ∨ s = xa) s ∨ s = xb) Lr cLr lsr T6.heap hn (by omega) (by omega) hK4 hK1 hcw hSn Rq6) (lenOf pd_1 rfl) (H at_218) (pc' := 221) rfl rfl (by decide) (W := 0) (Nat.le_of_eq rfl) (by decide) (by decide) (by decide) ?_
        intro T7 v7 L7 X7 hQ7
        obtain ⟨r7, rfl, eq7, rfl, Nx7⟩ := hQ7
        rw [List.append_nil] at X7
        refine gLoadI 223 X7 hx (H at_221) rfl rfl ?_
        refine gIcmpNe X7 hx (H at_223) (pc' := 230) (by decide) (by decide) (pn := 226) rfl (fun (c223 : ¬ r7 = (Int32.ofNat lo)) => ?_) (fun (c223 : r7 = (Int32.ofNat lo)) => ?_)
        · exact absurd (Nx.same (Nx.congr hSS Nx7) (show Nx (fun s => s = xa ∨ s = xb) 0 (Int32.ofNat lo) from (Or.inr ⟨lo, by omega, rfl, by omega, by omega, fun s hs hq => by omega⟩))) c223
        · refine gIconst 227 X7 hx (v := (1 : Int32)) (H at_226) rfl rfl ?_
          refine gGoto X7 hx (H at_227) (pc' := 231) (by decide) (by decide) ?_
          refine gStoreI 233 X7 hx (H at_231) (l' := #[.val (.int p0), .val (.int p1), .val (.int p2), .val (.int p3), .val (.int (p0 &&& (3 : Int32))), .val (.int mk), .val (.int (Int32.ofNat n)), .val (.int (Int32.ofNat xa)), .val (.int (p2 &&& (3 : Int32))), .val (.int (Int32.ofNat xb)), .val (.int (Int32.ofNat f)), .val (.int (Int32.ofNat lo)), .val (.int (Int32.ofNat hi)), .val (.int ex), .val (.ref b3), .val (.int (1 : Int32))]) rfl rfl ?_
          refine gLoadI 235 X7 hx (H at_233) rfl rfl ?_
          refine gIfEqT X7 hx (H at_235) (pc' := 267) (by decide) (by decide) (pn := 238) rfl (fun (c235 : (1 : Int) = (0 : Int)) => ?_) (fun (c235 : ¬ (1 : Int) = (0 : Int)) => ?_)
          · exact absurd c235 (by decide)
          · refine gLoadA 240 X7 hx (H at_238) rfl rfl rfl ?_
            refine gLoadI 242 X7 hx (H at_240) rfl rfl ?_
            refine gIconst 243 X7 hx (v := (1 : Int32)) (H at_242) rfl rfl ?_
            refine gIadd 244 X7 hx (H at_243) rfl ?_
            rw [own_inc]
            refine gCallV X7 hx hZ (y := mn2) hown eq7 (by rw [hml]; rfl) Rq6.exa (ow hw 34 rfl) (ow hw 35 rfl) (ow hw 37 rfl) (ow hw 36 rfl) (ow hw 11 rfl) (ow hw 38 rfl) (by decide) (argsL := [(.int (Int32.ofNat (lo + 1)))]) (st := []) (c_next l Z a0 hw b3 ((lo + 1)) n h0.size (fun s => (fun s => (fun _ => False) s ∨ s = xa) s ∨ s = xb) Lr cLr lsr T6.heap hn (by omega) (by omega) hK4 hK1 hcw hSn Rq6) (lenOf pd_1 rfl) (H at_244) (pc' := 247) rfl rfl (by decide) (W := 0) (Nat.le_of_eq rfl) (by decide) (by decide) (by decide) ?_
            intro T8 v8 L8 X8 hQ8
            obtain ⟨r8, rfl, eq8, rfl, Nx8⟩ := hQ8
            rw [List.append_nil] at X8
            refine gLoadI 249 X8 hx (H at_247) rfl rfl ?_
            refine gLoadI 251 X8 hx (H at_249) rfl rfl ?_
            refine gIcmpEq X8 hx (H at_251) (pc' := 259) (by decide) (by decide) (pn := 254) rfl (fun (c251 : (Int32.ofNat hi) = (Int32.ofNat lo)) => ?_) (fun (c251 : ¬ (Int32.ofNat hi) = (Int32.ofNat lo)) => ?_)
            · refine gIconst 260 X8 hx (v := (-1 : Int32)) (H at_259) rfl rfl ?_
              refine gIcmpNeT X8 hx (H at_260) (pc' := 267) (by decide) (by decide) (pn := 263) rfl (fun (c260 : ¬ r8.toInt = (-1 : Int)) => ?_) (fun (c260 : r8.toInt = (-1 : Int)) => ?_)
              · have hlh : hi = lo := (own_ninj (by omega) (by omega)).mp c251
                exact absurd ((congrArg Int32.toInt (Nx.same (Nx.congr hSS Nx8) (show Nx (fun s => s = xa ∨ s = xb) (lo + 1) (-1) from (Or.inl ⟨rfl, fun s hs => by omega⟩)))).trans rfl) c260
              · refine gIconst 264 X8 hx (v := (1 : Int32)) (H at_263) rfl rfl ?_
                refine gGoto X8 hx (H at_264) (pc' := 268) (by decide) (by decide) ?_
                refine gStoreI 270 X8 hx (H at_268) (l' := #[.val (.int p0), .val (.int p1), .val (.int p2), .val (.int p3), .val (.int (p0 &&& (3 : Int32))), .val (.int mk), .val (.int (Int32.ofNat n)), .val (.int (Int32.ofNat xa)), .val (.int (p2 &&& (3 : Int32))), .val (.int (Int32.ofNat xb)), .val (.int (Int32.ofNat f)), .val (.int (Int32.ofNat lo)), .val (.int (Int32.ofNat hi)), .val (.int ex), .val (.ref b3), .val (.int (1 : Int32))]) rfl rfl ?_
                refine gLoadI 272 X8 hx (H at_270) rfl rfl ?_
                refine gIfEqT X8 hx (H at_272) (pc' := 292) (by decide) (by decide) (pn := 275) rfl (fun (c272 : (1 : Int) = (0 : Int)) => ?_) (fun (c272 : ¬ (1 : Int) = (0 : Int)) => ?_)
                · exact absurd c272 (by decide)
                · refine gLoadA 277 X8 hx (H at_275) rfl rfl rfl ?_
                  refine gLoadI 279 X8 hx (H at_277) rfl rfl ?_
                  refine gIconst 280 X8 hx (v := (1 : Int32)) (H at_279) rfl rfl ?_
                  refine gIadd 281 X8 hx (H at_280) rfl ?_
                  rw [own_inc]
                  refine gCallV X8 hx hZ (y := mn2) hown eq8 (by rw [hml]; rfl) Rq6.exa (ow hw 34 rfl) (ow hw 35 rfl) (ow hw 37 rfl) (ow hw 36 rfl) (ow hw 11 rfl) (ow hw 38 rfl) (by decide) (argsL := [(.int (Int32.ofNat (hi + 1)))]) (st := []) (c_next l Z a0 hw b3 ((hi + 1)) n h0.size (fun s => (fun s => (fun _ => False) s ∨ s = xa) s ∨ s = xb) Lr cLr lsr T6.heap hn (by omega) (by omega) hK4 hK1 hcw hSn Rq6) (lenOf pd_1 rfl) (H at_281) (pc' := 284) rfl rfl (by decide) (W := 0) (Nat.le_of_eq rfl) (by decide) (by decide) (by decide) ?_
                  intro T9 v9 L9 X9 hQ9
                  obtain ⟨r9, rfl, eq9, rfl, Nx9⟩ := hQ9
                  rw [List.append_nil] at X9
                  refine gIconst 285 X9 hx (v := (-1 : Int32)) (H at_284) rfl rfl ?_
                  refine gIcmpNeT X9 hx (H at_285) (pc' := 292) (by decide) (by decide) (pn := 288) rfl (fun (c285 : ¬ r9.toInt = (-1 : Int)) => ?_) (fun (c285 : r9.toInt = (-1 : Int)) => ?_)
                  · exact absurd ((congrArg Int32.toInt (Nx.same (Nx.congr hSS Nx9) (show Nx (fun s => s = xa ∨ s = xb) (hi + 1) (-1) from (Or.inl ⟨rfl, fun s hs => by omega⟩)))).trans rfl) c285
                  · refine gIconst 289 X9 hx (v := (1 : Int32)) (H at_288) rfl rfl ?_
                    refine gGoto X9 hx (H at_289) (pc' := 293) (by decide) (by decide) ?_
                    refine gStoreI 295 X9 hx (H at_293) (l' := #[.val (.int p0), .val (.int p1), .val (.int p2), .val (.int p3), .val (.int (p0 &&& (3 : Int32))), .val (.int mk), .val (.int (Int32.ofNat n)), .val (.int (Int32.ofNat xa)), .val (.int (p2 &&& (3 : Int32))), .val (.int (Int32.ofNat xb)), .val (.int (Int32.ofNat f)), .val (.int (Int32.ofNat lo)), .val (.int (Int32.ofNat hi)), .val (.int ex), .val (.ref b3), .val (.int (1 : Int32))]) rfl rfl ?_
                    refine gLoadI 297 X9 hx (H at_295) rfl rfl ?_
                    refine gIfEqT X9 hx (H at_297) (pc' := 316) (by decide) (by decide) (pn := 300) rfl (fun (c297 : (1 : Int) = (0 : Int)) => ?_) (fun (c297 : ¬ (1 : Int) = (0 : Int)) => ?_)
                    · exact absurd c297 (by decide)
                    · refine gLoadA 302 X9 hx (H at_300) rfl rfl rfl ?_
                      refine gLoadI 304 X9 hx (H at_302) rfl rfl ?_
                      refine gCallV X9 hx hZ (y := mn2) hown eq9 (by rw [hml]; rfl) Rq6.exa (ow hw 34 rfl) (ow hw 35 rfl) (ow hw 37 rfl) (ow hw 36 rfl) (ow hw 11 rfl) (ow hw 38 rfl) (by decide) (argsL := [(.int (Int32.ofNat f))]) (st := []) (c_next l Z a0 hw b3 f n h0.size (fun s => (fun s => (fun _ => False) s ∨ s = xa) s ∨ s = xb) Lr cLr lsr T6.heap hn (by omega) (by omega) hK4 hK1 hcw hSn Rq6) (lenOf pd_1 rfl) (H at_304) (pc' := 307) rfl rfl (by decide) (W := 0) (Nat.le_of_eq rfl) (by decide) (by decide) (by decide) ?_
                      intro T10 v10 L10 X10 hQ10
                      obtain ⟨r10, rfl, eq10, rfl, Nx10⟩ := hQ10
                      rw [List.append_nil] at X10
                      refine gLoadI 309 X10 hx (H at_307) rfl rfl ?_
                      refine gIcmpNe X10 hx (H at_309) (pc' := 316) (by decide) (by decide) (pn := 312) rfl (fun (c309 : ¬ r10 = ex) => ?_) (fun (c309 : r10 = ex) => ?_)
                      · exact absurd (Nx.same (Nx.congr hSS Nx10) hex) c309
                      · refine gIconst 313 X10 hx (v := (1 : Int32)) (H at_312) rfl rfl ?_
                        refine gGoto X10 hx (H at_313) (pc' := 317) (by decide) (by decide) ?_
                        refine gStoreI 319 X10 hx (H at_317) (l' := #[.val (.int p0), .val (.int p1), .val (.int p2), .val (.int p3), .val (.int (p0 &&& (3 : Int32))), .val (.int mk), .val (.int (Int32.ofNat n)), .val (.int (Int32.ofNat xa)), .val (.int (p2 &&& (3 : Int32))), .val (.int (Int32.ofNat xb)), .val (.int (Int32.ofNat f)), .val (.int (Int32.ofNat lo)), .val (.int (Int32.ofNat hi)), .val (.int ex), .val (.ref b3), .val (.int (1 : Int32))]) rfl rfl ?_
                        refine gLoadI 321 X10 hx (H at_319) rfl rfl ?_
                        exact gRetN X10 hx hlk hret (by simp) (H at_321) (w := (1 : Int32)) rfl (by decide) (by decide) (⟨rfl, N6⟩)
            · refine gLoadI 256 X8 hx (H at_254) rfl rfl ?_
              refine gGoto X8 hx (H at_256) (pc' := 260) (by decide) (by decide) ?_
              refine gIcmpNe X8 hx (H at_260) (pc' := 267) (by decide) (by decide) (pn := 263) rfl (fun (c260 : ¬ r8 = (Int32.ofNat hi)) => ?_) (fun (c260 : r8 = (Int32.ofNat hi)) => ?_)
              · have hlh : ¬ hi = lo := fun z => c251 (by rw [z])
                have hlt : lo < hi := by omega
                exact absurd (Nx.same (Nx.congr hSS Nx8) (show Nx (fun s => s = xa ∨ s = xb) (lo + 1) (Int32.ofNat hi) from (Or.inr ⟨hi, by omega, rfl, by omega, by omega, fun s hs hq => by omega⟩))) c260
              · refine gIconst 264 X8 hx (v := (1 : Int32)) (H at_263) rfl rfl ?_
                refine gGoto X8 hx (H at_264) (pc' := 268) (by decide) (by decide) ?_
                refine gStoreI 270 X8 hx (H at_268) (l' := #[.val (.int p0), .val (.int p1), .val (.int p2), .val (.int p3), .val (.int (p0 &&& (3 : Int32))), .val (.int mk), .val (.int (Int32.ofNat n)), .val (.int (Int32.ofNat xa)), .val (.int (p2 &&& (3 : Int32))), .val (.int (Int32.ofNat xb)), .val (.int (Int32.ofNat f)), .val (.int (Int32.ofNat lo)), .val (.int (Int32.ofNat hi)), .val (.int ex), .val (.ref b3), .val (.int (1 : Int32))]) rfl rfl ?_
                refine gLoadI 272 X8 hx (H at_270) rfl rfl ?_
                refine gIfEqT X8 hx (H at_272) (pc' := 292) (by decide) (by decide) (pn := 275) rfl (fun (c272 : (1 : Int) = (0 : Int)) => ?_) (fun (c272 : ¬ (1 : Int) = (0 : Int)) => ?_)
                · exact absurd c272 (by decide)
                · refine gLoadA 277 X8 hx (H at_275) rfl rfl rfl ?_
                  refine gLoadI 279 X8 hx (H at_277) rfl rfl ?_
                  refine gIconst 280 X8 hx (v := (1 : Int32)) (H at_279) rfl rfl ?_
                  refine gIadd 281 X8 hx (H at_280) rfl ?_
                  rw [own_inc]
                  refine gCallV X8 hx hZ (y := mn2) hown eq8 (by rw [hml]; rfl) Rq6.exa (ow hw 34 rfl) (ow hw 35 rfl) (ow hw 37 rfl) (ow hw 36 rfl) (ow hw 11 rfl) (ow hw 38 rfl) (by decide) (argsL := [(.int (Int32.ofNat (hi + 1)))]) (st := []) (c_next l Z a0 hw b3 ((hi + 1)) n h0.size (fun s => (fun s => (fun _ => False) s ∨ s = xa) s ∨ s = xb) Lr cLr lsr T6.heap hn (by omega) (by omega) hK4 hK1 hcw hSn Rq6) (lenOf pd_1 rfl) (H at_281) (pc' := 284) rfl rfl (by decide) (W := 0) (Nat.le_of_eq rfl) (by decide) (by decide) (by decide) ?_
                  intro T11 v11 L11 X11 hQ11
                  obtain ⟨r11, rfl, eq11, rfl, Nx11⟩ := hQ11
                  rw [List.append_nil] at X11
                  refine gIconst 285 X11 hx (v := (-1 : Int32)) (H at_284) rfl rfl ?_
                  refine gIcmpNeT X11 hx (H at_285) (pc' := 292) (by decide) (by decide) (pn := 288) rfl (fun (c285 : ¬ r11.toInt = (-1 : Int)) => ?_) (fun (c285 : r11.toInt = (-1 : Int)) => ?_)
                  · exact absurd ((congrArg Int32.toInt (Nx.same (Nx.congr hSS Nx11) (show Nx (fun s => s = xa ∨ s = xb) (hi + 1) (-1) from (Or.inl ⟨rfl, fun s hs => by omega⟩)))).trans rfl) c285
                  · refine gIconst 289 X11 hx (v := (1 : Int32)) (H at_288) rfl rfl ?_
                    refine gGoto X11 hx (H at_289) (pc' := 293) (by decide) (by decide) ?_
                    refine gStoreI 295 X11 hx (H at_293) (l' := #[.val (.int p0), .val (.int p1), .val (.int p2), .val (.int p3), .val (.int (p0 &&& (3 : Int32))), .val (.int mk), .val (.int (Int32.ofNat n)), .val (.int (Int32.ofNat xa)), .val (.int (p2 &&& (3 : Int32))), .val (.int (Int32.ofNat xb)), .val (.int (Int32.ofNat f)), .val (.int (Int32.ofNat lo)), .val (.int (Int32.ofNat hi)), .val (.int ex), .val (.ref b3), .val (.int (1 : Int32))]) rfl rfl ?_
                    refine gLoadI 297 X11 hx (H at_295) rfl rfl ?_
                    refine gIfEqT X11 hx (H at_297) (pc' := 316) (by decide) (by decide) (pn := 300) rfl (fun (c297 : (1 : Int) = (0 : Int)) => ?_) (fun (c297 : ¬ (1 : Int) = (0 : Int)) => ?_)
                    · exact absurd c297 (by decide)
                    · refine gLoadA 302 X11 hx (H at_300) rfl rfl rfl ?_
                      refine gLoadI 304 X11 hx (H at_302) rfl rfl ?_
                      refine gCallV X11 hx hZ (y := mn2) hown eq11 (by rw [hml]; rfl) Rq6.exa (ow hw 34 rfl) (ow hw 35 rfl) (ow hw 37 rfl) (ow hw 36 rfl) (ow hw 11 rfl) (ow hw 38 rfl) (by decide) (argsL := [(.int (Int32.ofNat f))]) (st := []) (c_next l Z a0 hw b3 f n h0.size (fun s => (fun s => (fun _ => False) s ∨ s = xa) s ∨ s = xb) Lr cLr lsr T6.heap hn (by omega) (by omega) hK4 hK1 hcw hSn Rq6) (lenOf pd_1 rfl) (H at_304) (pc' := 307) rfl rfl (by decide) (W := 0) (Nat.le_of_eq rfl) (by decide) (by decide) (by decide) ?_
                      intro T12 v12 L12 X12 hQ12
                      obtain ⟨r12, rfl, eq12, rfl, Nx12⟩ := hQ12
                      rw [List.append_nil] at X12
                      refine gLoadI 309 X12 hx (H at_307) rfl rfl ?_
                      refine gIcmpNe X12 hx (H at_309) (pc' := 316) (by decide) (by decide) (pn := 312) rfl (fun (c309 : ¬ r12 = ex) => ?_) (fun (c309 : r12 = ex) => ?_)
                      · exact absurd (Nx.same (Nx.congr hSS Nx12) hex) c309
                      · refine gIconst 313 X12 hx (v := (1 : Int32)) (H at_312) rfl rfl ?_
                        refine gGoto X12 hx (H at_313) (pc' := 317) (by decide) (by decide) ?_
                        refine gStoreI 319 X12 hx (H at_317) (l' := #[.val (.int p0), .val (.int p1), .val (.int p2), .val (.int p3), .val (.int (p0 &&& (3 : Int32))), .val (.int mk), .val (.int (Int32.ofNat n)), .val (.int (Int32.ofNat xa)), .val (.int (p2 &&& (3 : Int32))), .val (.int (Int32.ofNat xb)), .val (.int (Int32.ofNat f)), .val (.int (Int32.ofNat lo)), .val (.int (Int32.ofNat hi)), .val (.int ex), .val (.ref b3), .val (.int (1 : Int32))]) rfl rfl ?_
                        refine gLoadI 321 X12 hx (H at_319) rfl rfl ?_
                        exact gRetN X12 hx hlk hret (by simp) (H at_321) (w := (1 : Int32)) rfl (by decide) (by decide) (⟨rfl, N6⟩)
      refine gLoadI 165 X2 hx (H at_163) rfl rfl ?_
      refine gLoadI 167 X2 hx (H at_165) rfl rfl ?_
      refine gIcmpLt X2 hx (H at_167) (pc' := 175) (by decide) (by decide) (pn := 170) rfl (fun (c167 : (Int32.ofNat lo).toInt < (Int32.ofNat f).toInt) => ?_) (fun (c167 : (Int32.ofNat f).toInt ≤ (Int32.ofNat lo).toInt) => ?_)
      · refine gLoadI 177 X2 hx (H at_175) rfl rfl ?_
        refine gLoadI 179 X2 hx (H at_177) rfl rfl ?_
        refine gIcmpLt X2 hx (H at_179) (pc' := 187) (by decide) (by decide) (pn := 182) rfl (fun (c179 : (Int32.ofNat hi).toInt < (Int32.ofNat f).toInt) => ?_) (fun (c179 : (Int32.ofNat f).toInt ≤ (Int32.ofNat hi).toInt) => ?_)
        · refine gIconst 188 X2 hx (v := (-1 : Int32)) (H at_187) rfl rfl ?_
          exact J188 _ (Or.inl ⟨rfl, fun s hs => by omega⟩)
        · refine gLoadI 184 X2 hx (H at_182) rfl rfl ?_
          refine gGoto X2 hx (H at_184) (pc' := 188) (by decide) (by decide) ?_
          exact J188 _ (Or.inr ⟨hi, by omega, rfl, by omega, by omega, fun s hs hq => by omega⟩)
      · refine gLoadI 172 X2 hx (H at_170) rfl rfl ?_
        refine gGoto X2 hx (H at_172) (pc' := 188) (by decide) (by decide) ?_
        exact J188 _ (Or.inr ⟨lo, by omega, rfl, by omega, by omega, fun s hs hq => by omega⟩)
    have J110 : ∀ mb : Int32, (mb = 63 ∨ mb = 4095 ∨ mb = 262143 ∨ mb = 1048575) → Goes p e below (FinN s room_1.cells room_1.slots (Law1 h0)) s₁ (mkF m 110 #[.val (.int p0), .val (.int p1), .val (.int p2), .val (.int p3), .val (.int (p0 &&& (3 : Int32))), .val (.int mk), .val (.int (Int32.ofNat n)), .val (.int (Int32.ofNat xa)), .val (.int (p2 &&& (3 : Int32))), .unset, .unset, .unset, .unset, .unset, .unset, .unset] [(.int mb)]) := by
      intro mb hmb
      refine gStoreI 112 X0 hx (H at_110) (l' := #[.val (.int p0), .val (.int p1), .val (.int p2), .val (.int p3), .val (.int (p0 &&& (3 : Int32))), .val (.int mk), .val (.int (Int32.ofNat n)), .val (.int (Int32.ofNat xa)), .val (.int (p2 &&& (3 : Int32))), .unset, .val (.int mb), .unset, .unset, .unset, .unset, .unset]) rfl rfl ?_
      refine gLoadI 114 X0 hx (H at_112) rfl rfl ?_
      refine gLoadIN 115 X0 hx (H at_114) rfl rfl ?_
      refine gIconst 116 X0 hx (v := (2 : Int32)) (H at_115) rfl rfl ?_
      refine gIushr 117 X0 hx (H at_116) rfl ?_
      refine gLoadI 119 X0 hx (H at_117) rfl rfl ?_
      refine gIand 120 X0 hx (H at_119) rfl ?_
      refine gIxor 121 X0 hx (H at_120) rfl ?_
      obtain ⟨xx, hg_xx, hxx⟩ := own_xor (k := xa) (by omega) _ mb hmb
      rw [hg_xx]
      refine gStoreI 123 X0 hx (H at_121) (l' := #[.val (.int p0), .val (.int p1), .val (.int p2), .val (.int p3), .val (.int (p0 &&& (3 : Int32))), .val (.int mk), .val (.int (Int32.ofNat n)), .val (.int (Int32.ofNat xa)), .val (.int (p2 &&& (3 : Int32))), .val (.int (Int32.ofNat xx)), .val (.int mb), .unset, .unset, .unset, .unset, .unset]) rfl rfl ?_
      refine gLoadI 125 X0 hx (H at_123) rfl rfl ?_
      refine gLoadI 127 X0 hx (H at_125) rfl rfl ?_
      refine gIcmpLt X0 hx (H at_127) (pc' := 134) (by decide) (by decide) (pn := 130) rfl (fun (c127 : (Int32.ofNat xx).toInt < (Int32.ofNat n).toInt) => ?_) (fun (c127 : (Int32.ofNat n).toInt ≤ (Int32.ofNat xx).toInt) => ?_)
      · have hxx2 : xx < n := by rw [own_nint (by omega), own_nint (by omega)] at c127; omega
        exact J134 xx _ hxx2 (Or.inr ⟨_, rfl⟩)
      · refine gLoadI 132 X0 hx (H at_130) rfl rfl ?_
        refine gStoreI 134 X0 hx (H at_132) (l' := #[.val (.int p0), .val (.int p1), .val (.int p2), .val (.int p3), .val (.int (p0 &&& (3 : Int32))), .val (.int mk), .val (.int (Int32.ofNat n)), .val (.int (Int32.ofNat xa)), .val (.int (p2 &&& (3 : Int32))), .val (.int (Int32.ofNat xa)), .val (.int mb), .unset, .unset, .unset, .unset, .unset]) rfl rfl ?_
        exact J134 xa _ hxa (Or.inr ⟨_, rfl⟩)
    refine gLoadI 68 X0 hx (H at_66) rfl rfl ?_
    refine gIconst 69 X0 hx (v := (3 : Int32)) (H at_68) rfl rfl ?_
    refine gIcmpNeT X0 hx (H at_69) (pc' := 86) (by decide) (by decide) (pn := 72) rfl (fun (c69 : ¬ (p2 &&& (3 : Int32)).toInt = (3 : Int)) => ?_) (fun (c69 : (p2 &&& (3 : Int32)).toInt = (3 : Int)) => ?_)
    · refine gLoadI 88 X0 hx (H at_86) rfl rfl ?_
      refine gIfNeT X0 hx (H at_88) (pc' := 96) (by decide) (by decide) (pn := 91) rfl (fun (c88 : ¬ (p2 &&& (3 : Int32)).toInt = (0 : Int)) => ?_) (fun (c88 : (p2 &&& (3 : Int32)).toInt = (0 : Int)) => ?_)
      · refine gLoadI 98 X0 hx (H at_96) rfl rfl ?_
        refine gIconst 99 X0 hx (v := (1 : Int32)) (H at_98) rfl rfl ?_
        refine gIcmpNeT X0 hx (H at_99) (pc' := 108) (by decide) (by decide) (pn := 102) rfl (fun (c99 : ¬ (p2 &&& (3 : Int32)).toInt = (1 : Int)) => ?_) (fun (c99 : (p2 &&& (3 : Int32)).toInt = (1 : Int)) => ?_)
        · refine gLdc 110 X0 hx hZ hown (ow hw 1 rfl) (H at_108) rfl ?_
          exact J110 _ (Or.inr (Or.inr (Or.inl rfl)))
        · refine gSipush 105 X0 hx (v := (4095 : Int32)) (H at_102) rfl rfl ?_
          refine gGoto X0 hx (H at_105) (pc' := 110) (by decide) (by decide) ?_
          exact J110 _ (Or.inr (Or.inl rfl))
      · refine gBipush 93 X0 hx (v := (63 : Int32)) (H at_91) rfl rfl ?_
        refine gGoto X0 hx (H at_93) (pc' := 110) (by decide) (by decide) ?_
        exact J110 _ (Or.inl rfl)
    · refine gLoadIN 73 X0 hx (H at_72) rfl rfl ?_
      refine gIconst 74 X0 hx (v := (2 : Int32)) (H at_73) rfl rfl ?_
      refine gIushr 75 X0 hx (H at_74) rfl ?_
      refine gLdc 77 X0 hx hZ hown (ow hw 0 rfl) (H at_75) rfl ?_
      refine gIand 78 X0 hx (H at_77) rfl ?_
      refine gLoadI 80 X0 hx (H at_78) rfl rfl ?_
      refine gIrem 81 X0 hx (H at_80) (own_ne0 (by omega) (by omega)) rfl ?_
      obtain ⟨xb, hg_xb, hxb⟩ := own_remI (own_m31 _) hn (show n < 2 ^ 31 by omega)
      rw [hg_xb]
      refine gStoreI 83 X0 hx (H at_81) (l' := #[.val (.int p0), .val (.int p1), .val (.int p2), .val (.int p3), .val (.int (p0 &&& (3 : Int32))), .val (.int mk), .val (.int (Int32.ofNat n)), .val (.int (Int32.ofNat xa)), .val (.int (p2 &&& (3 : Int32))), .val (.int (Int32.ofNat xb)), .unset, .unset, .unset, .unset, .unset, .unset]) rfl rfl ?_
      refine gGoto X0 hx (H at_83) (pc' := 134) (by decide) (by decide) ?_
      exact J134 xb _ hxb (Or.inl rfl)
  refine gLoadI 7 X0 hx (H at_5) rfl rfl ?_
  refine gIfNeT X0 hx (H at_7) (pc' := 15) (by decide) (by decide) (pn := 10) rfl (fun (c7 : ¬ (p0 &&& (3 : Int32)).toInt = (0 : Int)) => ?_) (fun (c7 : (p0 &&& (3 : Int32)).toInt = (0 : Int)) => ?_)
  · refine gLoadI 17 X0 hx (H at_15) rfl rfl ?_
    refine gIconst 18 X0 hx (v := (1 : Int32)) (H at_17) rfl rfl ?_
    refine gIcmpNeT X0 hx (H at_18) (pc' := 27) (by decide) (by decide) (pn := 21) rfl (fun (c18 : ¬ (p0 &&& (3 : Int32)).toInt = (1 : Int)) => ?_) (fun (c18 : (p0 &&& (3 : Int32)).toInt = (1 : Int)) => ?_)
    · refine gLoadI 29 X0 hx (H at_27) rfl rfl ?_
      refine gIconst 30 X0 hx (v := (2 : Int32)) (H at_29) rfl rfl ?_
      refine gIcmpNeT X0 hx (H at_30) (pc' := 38) (by decide) (by decide) (pn := 33) rfl (fun (c30 : ¬ (p0 &&& (3 : Int32)).toInt = (2 : Int)) => ?_) (fun (c30 : (p0 &&& (3 : Int32)).toInt = (2 : Int)) => ?_)
      · refine gLdc 40 X0 hx hZ hown (ow hw 49 rfl) (H at_38) rfl ?_
        exact J40 _ (Or.inr (Or.inr (Or.inr (rfl))))
      · refine gLdc 35 X0 hx hZ hown (ow hw 1 rfl) (H at_33) rfl ?_
        refine gGoto X0 hx (H at_35) (pc' := 40) (by decide) (by decide) ?_
        exact J40 _ (Or.inr (Or.inr (Or.inl rfl)))
    · refine gSipush 24 X0 hx (v := (4095 : Int32)) (H at_21) rfl rfl ?_
      refine gGoto X0 hx (H at_24) (pc' := 40) (by decide) (by decide) ?_
      exact J40 _ (Or.inr (Or.inl rfl))
  · refine gBipush 12 X0 hx (v := (63 : Int32)) (H at_10) rfl rfl ?_
    refine gGoto X0 hx (H at_12) (pc' := 40) (by decide) (by decide) ?_
    exact J40 _ (Or.inl rfl)

theorem comes_1 {Post : Tables → Env → Array Value → State → Outcome → State → Prop} (hpost : ∀ tb e args s v u, (limb_1_1.after args s (.returned v) u = true ∧ limb_1_2.after args s (.returned v) u = true ∧ True) → FrameEnd s (.returned v) u (Jvm.fieldLocs frame_1_writes args s ++ Jvm.arrayLocs frame_1_arrays args s ++ Jvm.staticLocs frame_1_statics s) 24 33408 → Post tb e args s (.returned v) u) :
    ArmFor flags0 classFile x code maxLocals ret World_1 tables_1 room_1 Calls_1 rest_1 Pre_1 Post := by
  intro l hfl _ _ p e ha hc hk s m args below hf hA hF happ hP
  obtain ⟨hcalls, hrest, hpre⟩ := hP
  obtain ⟨-, -, -, hnamed, -, -, -, hat⟩ := (Spec.applies_iff hf).mp happ
  obtain ⟨hg, hn⟩ := and_e (Cond.before_iff.mp (show (Jvm.Cond.and given_1 narrow_1).before args s = true from hpre))
  obtain ⟨hcount, hv⟩ := and_e hg
  obtain ⟨ha0, hv0⟩ := and_e hv
  obtain ⟨ha1, hv1⟩ := and_e hv0
  obtain ⟨ha2, hv2⟩ := and_e hv1
  obtain ⟨w0, w1, w2, w3, rfl⟩ : ∃ w0 w1 w2 w3 : Value, args = #[w0, w1, w2, w3] := by
    have hs : args.size = 4 := by simpa [Cond.value, given_1] using hcount
    obtain ⟨L⟩ := args
    match L, hs with
    | [w0, w1, w2, w3], _ => exact ⟨w0, w1, w2, w3, rfl⟩
  have hw := fun d (hd : d ∈ tables_1) => atoms_spec (ws := Jvm.Cond.code x code maxLocals ret :: tables_1) hat d (List.mem_cons_of_mem _ hd)
  have hfit : Fit s := fun {y c} hc i hi => by
    obtain ⟨ha, rfl⟩ := Array.getElem?_eq_some_iff.mp hc
    have q := List.all_eq_true.mp ((Array.all_eq_true_iff_forall_mem.mp hF) _ (Array.getElem_mem ha)) i (List.mem_range.mpr hi)
    simpa [Array.getElem?_eq_getElem hi] using q
  obtain ⟨i0, ei0⟩ := is_v ha0
  obtain rfl : w0 = (.int i0) := Option.some.inj ei0
  obtain ⟨i1, ei1⟩ := is_v ha1
  obtain rfl : w1 = (.int i1) := Option.some.inj ei1
  obtain ⟨i2, ei2⟩ := is_v ha2
  obtain rfl : w2 = (.int i2) := Option.some.inj ei2
  obtain ⟨i3, ei3⟩ := is_v hv2
  obtain rfl : w3 = (.int i3) := Option.some.inj ei3
  obtain ⟨n, o, h1, h2, h3, _, L, rfl, ⟨rfl, N⟩, hq⟩ := c_law l s _ hw i0 i1 i2 i3 s.heap  p e ha hc hk s m _ below hf ((Spec.applies_iff_loose hf).mp happ).1 ⟨rfl, State.Warmed39.refl s, rfl⟩ trivial
  refine ⟨n, _, h1, h2, h3, hpost _ _ _ _ _ _ ⟨Cond.after_iff.mpr rfl, Cond.after_iff.mpr (eq_i res_at (Term.int_eval (1)) rfl), trivial⟩ ⟨hq.1, hq.2.1, (hq.2.2.sift fun y hy => Or.inr (N y hy)).mono (by decide) (by decide)⟩⟩
theorem main_1_1 : Claimed_1_1 := comes_1 fun _ _ _ _ _ _ h hF => ⟨h.1, hF⟩
theorem main_1_2 : Claimed_1_2 := comes_1 fun _ _ _ _ _ _ h hF => ⟨h.2.1, hF⟩
end Jvm.Pilot.@@N@@
namespace Jvm.Pilot.@@N@@
open Jvm Jvm.ClassFile Sem Op Lib Jvm.Free Jvm.Stand Jvm.Pilot.@@N@@.Jvm.D
/-! MADE BY PROGRAM (witnessworld.py) out of the Statement's table words and the real class files: 18 classes; the members and pool entries that the words name. The judged class is class 1, her method 1. -/
namespace start1
open Jvm.ClassFile
def u (s : String) : CpInfo := .utf8 (stringToUtf16 s)
/-- a pool by its gaps: so many unusable entries, then the entry; so many at the end -/
def gap : Nat → List CpInfo → List CpInfo
  | 0, r => r
  | n + 1, r => .unusable :: gap n r
def poolList (es : List (Nat × CpInfo)) (last : Nat) : List CpInfo := es.foldr (fun e r => gap e.1 (e.2 :: r)) (gap last [])
def pool (es : List (Nat × CpInfo)) (last : Nat) : Array CpInfo := ⟨poolList es last⟩
def fileOf (pool : Array CpInfo) (this : Nat) (attrs : Array Attribute := #[]) (ms : Array MethodInfo := #[]) (fl : Nat := 33) (sup : Nat := 0) (ifs : Array Nat := #[]) (fds : Array FieldInfo := #[]) : ClassFile where
  minorVersion := 0
  majorVersion := 65
  constantPool := pool
  accessFlags := fl
  thisClass := this
  superClass := sup
  interfaces := ifs
  fields := fds
  methods := ms
  attributes := attrs
def plain (name : String) (sup : Option ClassId) : Class where
  name := name
  kind := .ordinary
  loader := none
  accessFlags := 33
  super := sup
  interfaces := #[]
  cf := none
  fields := #[]
  methods := #[]
  instanceTypes := #[]
  staticTypes := #[]
  resolved := #[]
  callSites := []
  init := .initialized
  statics := none
  mirror := none

def pool0 : Array CpInfo := pool [(5, u "<init>"), (0, u "()V"), (1, .class_ 10), (1, u "java/lang/Object")] 113

def k0c0 : Code := { maxStack := 0, maxLocals := 1, code := object_method_1_code, exceptionTable := #[], attributes := #[] }
def k0m0 : Method := { name := "<init>", desc := "()V", sig := { parameters := [], returnType := none }, accessFlags := 1, code := some k0c0 }
/-- java/lang/Object -/
def k0 : Class := { plain "java/lang/Object" none with
  accessFlags := 33
  interfaces := #[]
  cf := some (fileOf pool0 8 #[] #[{ accessFlags := 1, nameIndex := 5, descriptorIndex := 6, attributes := #[] }] 33 0 #[] #[])
  fields := #[]
  methods := #[k0m0]
  instanceTypes := #[]
  staticTypes := #[]
  resolved := Array.replicate 124 none
  statics := none }

def pool1 : Array CpInfo := pool [(2, .class_ 4), (1, u "java/lang/Object"), (0, u "<init>"), (0, u "()V"), (0, .integer 262143), (0, .integer 1048575), (0, .integer 2147483647), (0, .methodref 11 12), (0, .class_ 13), (0, .nameAndType 14 15), (0, u "java/lang/Math"), (0, u "min"), (0, u "(II)I"), (0, .methodref 11 17), (0, .nameAndType 18 15), (0, u "max"), (0, .class_ 20), (0, u "com/example/align/align/rectilinear/RowSet"), (0, .methodref 19 22), (0, .nameAndType 5 23), (0, u "(I)V"), (0, .methodref 19 25), (0, .nameAndType 26 23), (0, u "add"), (0, .methodref 19 28), (0, .nameAndType 29 30), (0, u "next"), (0, u "(I)I"), (0, .class_ 32), (0, u "com/example/align/align/rectilinear/RowSetAddPinLaw"), (2, u "law"), (0, u "(IIII)Z")] 3

def k1m0 : Method := { name := "<init>", desc := "()V", sig := { parameters := [], returnType := none }, accessFlags := 1, code := none }
def k1c1 : Code := { maxStack := 3, maxLocals := 16, code := code, exceptionTable := #[], attributes := #[] }
def k1m1 : Method := { name := "law", desc := "(IIII)Z", sig := { parameters := [.int, .int, .int, .int], returnType := some .boolean }, accessFlags := 9, code := some k1c1 }
/-- com/example/align/align/rectilinear/RowSetAddPinLaw -/
def k1 : Class := { plain "com/example/align/align/rectilinear/RowSetAddPinLaw" (some 0) with
  accessFlags := 49
  interfaces := #[]
  cf := some (fileOf pool1 31 #[] #[{ accessFlags := 1, nameIndex := 5, descriptorIndex := 6, attributes := #[] }, { accessFlags := 9, nameIndex := 35, descriptorIndex := 36, attributes := #[] }] 49 2 #[] #[])
  fields := #[]
  methods := #[k1m0, k1m1]
  instanceTypes := #[]
  staticTypes := #[]
  resolved := Array.replicate 40 none
  statics := none }

def pool2 : Array CpInfo := pool [(1, .class_ 2), (0, u "java/lang/Math"), (1, .class_ 6), (1, u "java/lang/Object"), (0, u "<init>"), (0, u "()V"), (89, .class_ 100), (1, u "java/lang/Math$RandomNumberGeneratorHolder"), (20, u "(JJ)J"), (50, u "negativeZeroFloatBits"), (0, u "J"), (2, u "negativeZeroDoubleBits"), (21, u "max"), (2, u "min"), (43, u "$assertionsDisabled"), (0, u "Z"), (88, u "(II)I"), (2, u "twoToTheDoubleScaleDown"), (0, u "D"), (4, u "twoToTheDoubleScaleUp"), (9, u "E"), (3, u "PI"), (2, u "TAU"), (2, u "DEGREES_TO_RADIANS"), (0, u "RADIANS_TO_DEGREES")] 94

def k2m0 : Method := { name := "<init>", desc := "()V", sig := { parameters := [], returnType := none }, accessFlags := 2, code := none }
def k2c1 : Code := { maxStack := 2, maxLocals := 2, code := jdk_29_method_65_code, exceptionTable := #[], attributes := #[] }
def k2m1 : Method := { name := "max", desc := "(II)I", sig := { parameters := [.int, .int], returnType := some .int }, accessFlags := 9, code := some k2c1 }
def k2c2 : Code := { maxStack := 4, maxLocals := 4, code := jdk_29_method_66_code, exceptionTable := #[], attributes := #[] }
def k2m2 : Method := { name := "max", desc := "(JJ)J", sig := { parameters := [.long, .long], returnType := some .long }, accessFlags := 9, code := some k2c2 }
def k2c3 : Code := { maxStack := 2, maxLocals := 2, code := jdk_29_method_69_code, exceptionTable := #[], attributes := #[] }
def k2m3 : Method := { name := "min", desc := "(II)I", sig := { parameters := [.int, .int], returnType := some .int }, accessFlags := 9, code := some k2c3 }
/-- java/lang/Math -/
def k2 : Class := { plain "java/lang/Math" (some 0) with
  accessFlags := 49
  interfaces := #[]
  cf := some (fileOf pool2 1 #[.nestMembers #[98]] #[{ accessFlags := 2, nameIndex := 7, descriptorIndex := 8, attributes := #[] }, { accessFlags := 9, nameIndex := 198, descriptorIndex := 335, attributes := #[] }, { accessFlags := 9, nameIndex := 198, descriptorIndex := 121, attributes := #[] }, { accessFlags := 9, nameIndex := 201, descriptorIndex := 335, attributes := #[] }] 49 4 #[] #[{ accessFlags := 25, nameIndex := 354, descriptorIndex := 339, attributes := #[] }, { accessFlags := 25, nameIndex := 358, descriptorIndex := 339, attributes := #[] }, { accessFlags := 25, nameIndex := 361, descriptorIndex := 339, attributes := #[] }, { accessFlags := 26, nameIndex := 364, descriptorIndex := 339, attributes := #[] }, { accessFlags := 26, nameIndex := 365, descriptorIndex := 339, attributes := #[] }, { accessFlags := 26, nameIndex := 172, descriptorIndex := 173, attributes := #[] }, { accessFlags := 26, nameIndex := 176, descriptorIndex := 173, attributes := #[] }, { accessFlags := 8, nameIndex := 344, descriptorIndex := 339, attributes := #[] }, { accessFlags := 8, nameIndex := 338, descriptorIndex := 339, attributes := #[] }, { accessFlags := 4120, nameIndex := 245, descriptorIndex := 246, attributes := #[] }])
  fields := #[{ name := "E", type := .double, accessFlags := 25, slot := 0, constantValue := 0 }, { name := "PI", type := .double, accessFlags := 25, slot := 1, constantValue := 0 }, { name := "TAU", type := .double, accessFlags := 25, slot := 2, constantValue := 0 }, { name := "DEGREES_TO_RADIANS", type := .double, accessFlags := 26, slot := 3, constantValue := 0 }, { name := "RADIANS_TO_DEGREES", type := .double, accessFlags := 26, slot := 4, constantValue := 0 }, { name := "negativeZeroFloatBits", type := .long, accessFlags := 26, slot := 5, constantValue := 0 }, { name := "negativeZeroDoubleBits", type := .long, accessFlags := 26, slot := 6, constantValue := 0 }, { name := "twoToTheDoubleScaleUp", type := .double, accessFlags := 8, slot := 7, constantValue := 0 }, { name := "twoToTheDoubleScaleDown", type := .double, accessFlags := 8, slot := 8, constantValue := 0 }, { name := "$assertionsDisabled", type := .boolean, accessFlags := 4120, slot := 9, constantValue := 0 }]
  methods := #[k2m0, k2m1, k2m2, k2m3]
  instanceTypes := #[]
  staticTypes := #[.double, .double, .double, .double, .double, .long, .long, .double, .double, .boolean]
  resolved := Array.replicate 460 none
  statics := none }

def pool3 : Array CpInfo := pool [(1, .methodref 2 3), (0, .class_ 4), (0, .nameAndType 5 6), (0, u "java/lang/Object"), (0, u "<init>"), (0, u "()V"), (0, .long 64), (1, .long 63), (1, .class_ 12), (0, u "[J"), (0, .fieldref 14 15), (0, .class_ 16), (0, .nameAndType 17 18), (0, u "com/example/align/align/rectilinear/RowSet"), (0, u "levels"), (0, u "[[J"), (0, .methodref 20 21), (0, .class_ 22), (0, .nameAndType 23 24), (0, u "java/lang/Math"), (0, u "max"), (0, u "(JJ)J"), (0, .long 18446744073709551615), (1, .methodref 28 29), (0, .class_ 30), (0, .nameAndType 31 32), (0, u "java/lang/Long"), (0, u "numberOfTrailingZeros"), (0, u "(J)I"), (0, u "(I)V"), (3, u "add"), (1, u "next"), (0, u "(I)I")] 2

def k3c0 : Code := { maxStack := 6, maxLocals := 6, code := prog_26_method_1_code, exceptionTable := #[], attributes := #[] }
def k3m0 : Method := { name := "<init>", desc := "(I)V", sig := { parameters := [.int], returnType := none }, accessFlags := 0, code := some k3c0 }
def k3c1 : Code := { maxStack := 7, maxLocals := 6, code := prog_26_method_2_code, exceptionTable := #[], attributes := #[] }
def k3m1 : Method := { name := "add", desc := "(I)V", sig := { parameters := [.int], returnType := none }, accessFlags := 0, code := some k3c1 }
def k3c2 : Code := { maxStack := 5, maxLocals := 8, code := prog_26_method_4_code, exceptionTable := #[], attributes := #[] }
def k3m2 : Method := { name := "next", desc := "(I)I", sig := { parameters := [.int], returnType := some .int }, accessFlags := 0, code := some k3c2 }
/-- com/example/align/align/rectilinear/RowSet -/
def k3 : Class := { plain "com/example/align/align/rectilinear/RowSet" (some 0) with
  accessFlags := 48
  interfaces := #[]
  cf := some (fileOf pool3 14 #[] #[{ accessFlags := 0, nameIndex := 5, descriptorIndex := 33, attributes := #[] }, { accessFlags := 0, nameIndex := 37, descriptorIndex := 33, attributes := #[] }, { accessFlags := 0, nameIndex := 39, descriptorIndex := 40, attributes := #[] }] 48 2 #[] #[{ accessFlags := 18, nameIndex := 17, descriptorIndex := 18, attributes := #[] }])
  fields := #[{ name := "levels", type := (.array (.array .long)), accessFlags := 18, slot := 0, constantValue := 0 }]
  methods := #[k3m0, k3m1, k3m2]
  instanceTypes := #[(.array (.array .long))]
  staticTypes := #[]
  resolved := Array.replicate 43 none
  statics := none }

def pool4 : Array CpInfo := pool [(1, .class_ 2), (0, u "java/io/Serializable"), (0, .class_ 4), (0, u "java/lang/Object")] 2

/-- java/io/Serializable -/
def k4 : Class := { plain "java/io/Serializable" (some 0) with
  accessFlags := 1537
  interfaces := #[]
  cf := some (fileOf pool4 1 #[] #[] 1537 3 #[] #[])
  fields := #[]
  methods := #[]
  instanceTypes := #[]
  staticTypes := #[]
  resolved := Array.replicate 7 none
  statics := none }

def pool5 : Array CpInfo := pool [(2, .class_ 4), (1, u "java/lang/Object"), (0, u "<init>"), (0, u "()V"), (1, .class_ 10), (1, u "java/lang/Number"), (2, .class_ 14), (0, u "java/io/Serializable"), (0, u "serialVersionUID"), (0, u "J")] 20

def k5m0 : Method := { name := "<init>", desc := "()V", sig := { parameters := [], returnType := none }, accessFlags := 1, code := none }
/-- java/lang/Number -/
def k5 : Class := { plain "java/lang/Number" (some 0) with
  accessFlags := 1057
  interfaces := #[4]
  cf := some (fileOf pool5 8 #[] #[{ accessFlags := 1, nameIndex := 5, descriptorIndex := 6, attributes := #[] }] 1057 2 #[13] #[{ accessFlags := 26, nameIndex := 15, descriptorIndex := 16, attributes := #[] }])
  fields := #[{ name := "serialVersionUID", type := .long, accessFlags := 26, slot := 0, constantValue := 0 }]
  methods := #[k5m0]
  instanceTypes := #[]
  staticTypes := #[.long]
  resolved := Array.replicate 37 none
  statics := none }

def pool6 : Array CpInfo := pool [(1, .class_ 2), (0, u "java/lang/Comparable"), (0, .class_ 4), (0, u "java/lang/Object")] 7

/-- java/lang/Comparable -/
def k6 : Class := { plain "java/lang/Comparable" (some 0) with
  accessFlags := 1537
  interfaces := #[]
  cf := some (fileOf pool6 1 #[] #[] 1537 3 #[] #[])
  fields := #[]
  methods := #[]
  instanceTypes := #[]
  staticTypes := #[]
  resolved := Array.replicate 12 none
  statics := none }

def pool7 : Array CpInfo := pool [(1, .class_ 2), (0, u "java/lang/constant/Constable"), (0, .class_ 4), (0, u "java/lang/Object")] 6

/-- java/lang/constant/Constable -/
def k7 : Class := { plain "java/lang/constant/Constable" (some 0) with
  accessFlags := 1537
  interfaces := #[]
  cf := some (fileOf pool7 1 #[] #[] 1537 3 #[] #[])
  fields := #[]
  methods := #[]
  instanceTypes := #[]
  staticTypes := #[]
  resolved := Array.replicate 11 none
  statics := none }

def pool8 : Array CpInfo := pool [(1, .class_ 2), (0, u "java/lang/constant/ConstantDesc"), (0, .class_ 4), (0, u "java/lang/Object")] 32

/-- java/lang/constant/ConstantDesc -/
def k8 : Class := { plain "java/lang/constant/ConstantDesc" (some 0) with
  accessFlags := 1537
  interfaces := #[]
  cf := some (fileOf pool8 1 #[] #[] 1537 3 #[] #[])
  fields := #[]
  methods := #[]
  instanceTypes := #[]
  staticTypes := #[]
  resolved := Array.replicate 37 none
  statics := none }

def pool9 : Array CpInfo := pool [(1, .class_ 2), (0, u "java/lang/Long"), (15, .class_ 20), (1, u "java/lang/Integer"), (80, u "(J)I"), (133, .class_ 237), (1, u "java/lang/Long$LongCache"), (33, .class_ 272), (0, u "java/lang/Number"), (2, u "value"), (0, u "J"), (33, u "(I)I"), (0, .methodref 18 312), (0, .nameAndType 313 310), (0, u "numberOfTrailingZeros"), (47, u "TYPE"), (0, u "Ljava/lang/Class;"), (0, .class_ 364), (0, u "java/lang/Comparable"), (0, .class_ 366), (0, u "java/lang/constant/Constable"), (0, .class_ 368), (0, u "java/lang/constant/ConstantDesc"), (0, u "MIN_VALUE"), (1, u "MAX_VALUE"), (4, u "SIZE"), (0, u "I"), (1, u "BYTES"), (1, u "serialVersionUID")] 142

def k9c0 : Code := { maxStack := 4, maxLocals := 3, code := jdk_35_method_49_code, exceptionTable := #[], attributes := #[] }
def k9m0 : Method := { name := "numberOfTrailingZeros", desc := "(J)I", sig := { parameters := [.long], returnType := some .int }, accessFlags := 9, code := some k9c0 }
/-- java/lang/Long -/
def k9 : Class := { plain "java/lang/Long" (some 5) with
  accessFlags := 49
  interfaces := #[6, 7, 8]
  cf := some (fileOf pool9 1 #[.nestMembers #[235]] #[{ accessFlags := 9, nameIndex := 313, descriptorIndex := 101, attributes := #[] }] 49 271 #[363, 365, 367] #[{ accessFlags := 25, nameIndex := 369, descriptorIndex := 276, attributes := #[] }, { accessFlags := 25, nameIndex := 371, descriptorIndex := 276, attributes := #[] }, { accessFlags := 25, nameIndex := 361, descriptorIndex := 362, attributes := #[] }, { accessFlags := 18, nameIndex := 275, descriptorIndex := 276, attributes := #[] }, { accessFlags := 25, nameIndex := 376, descriptorIndex := 377, attributes := #[] }, { accessFlags := 25, nameIndex := 379, descriptorIndex := 377, attributes := #[] }, { accessFlags := 26, nameIndex := 381, descriptorIndex := 276, attributes := #[] }])
  fields := #[{ name := "MIN_VALUE", type := .long, accessFlags := 25, slot := 0, constantValue := 0 }, { name := "MAX_VALUE", type := .long, accessFlags := 25, slot := 1, constantValue := 0 }, { name := "TYPE", type := (.object "java/lang/Class"), accessFlags := 25, slot := 2, constantValue := 0 }, { name := "value", type := .long, accessFlags := 18, slot := 0, constantValue := 0 }, { name := "SIZE", type := .int, accessFlags := 25, slot := 3, constantValue := 0 }, { name := "BYTES", type := .int, accessFlags := 25, slot := 4, constantValue := 0 }, { name := "serialVersionUID", type := .long, accessFlags := 26, slot := 5, constantValue := 0 }]
  methods := #[k9m0]
  instanceTypes := #[.long]
  staticTypes := #[.long, .long, (.object "java/lang/Class"), .int, .int, .long]
  resolved := Array.replicate 524 none
  statics := none }

def pool10 : Array CpInfo := pool [(1, .class_ 2), (0, u "java/lang/Integer"), (16, u "digits"), (0, u "[C"), (33, u "(I)I"), (30, u "DigitOnes"), (0, u "[B"), (2, u "DigitTens"), (99, .class_ 190), (0, u "java/lang/Integer$IntegerCache"), (3, u "I"), (8, .class_ 204), (0, u "java/lang/Number"), (2, u "value"), (56, .integer 65536), (37, u "TYPE"), (0, u "Ljava/lang/Class;"), (0, .class_ 305), (0, u "java/lang/Comparable"), (0, .class_ 307), (0, u "java/lang/constant/Constable"), (0, .class_ 309), (0, u "java/lang/constant/ConstantDesc"), (0, u "MIN_VALUE"), (1, u "MAX_VALUE"), (3, u "SIZE"), (1, u "BYTES"), (1, u "serialVersionUID"), (0, u "J"), (84, u "numberOfTrailingZeros")] 46

def k10c0 : Code := { maxStack := 3, maxLocals := 2, code := jdk_33_method_48_code, exceptionTable := #[], attributes := #[] }
def k10m0 : Method := { name := "numberOfTrailingZeros", desc := "(I)I", sig := { parameters := [.int], returnType := some .int }, accessFlags := 9, code := some k10c0 }
/-- java/lang/Integer -/
def k10 : Class := { plain "java/lang/Integer" (some 5) with
  accessFlags := 49
  interfaces := #[6, 7, 8]
  cf := some (fileOf pool10 1 #[.nestMembers #[189]] #[{ accessFlags := 9, nameIndex := 406, descriptorIndex := 54, attributes := #[] }] 49 203 #[304, 306, 308] #[{ accessFlags := 25, nameIndex := 310, descriptorIndex := 194, attributes := #[] }, { accessFlags := 25, nameIndex := 312, descriptorIndex := 194, attributes := #[] }, { accessFlags := 25, nameIndex := 302, descriptorIndex := 303, attributes := #[] }, { accessFlags := 24, nameIndex := 19, descriptorIndex := 20, attributes := #[] }, { accessFlags := 24, nameIndex := 89, descriptorIndex := 86, attributes := #[] }, { accessFlags := 24, nameIndex := 85, descriptorIndex := 86, attributes := #[] }, { accessFlags := 18, nameIndex := 207, descriptorIndex := 194, attributes := #[] }, { accessFlags := 25, nameIndex := 316, descriptorIndex := 194, attributes := #[] }, { accessFlags := 25, nameIndex := 318, descriptorIndex := 194, attributes := #[] }, { accessFlags := 26, nameIndex := 320, descriptorIndex := 321, attributes := #[] }])
  fields := #[{ name := "MIN_VALUE", type := .int, accessFlags := 25, slot := 0, constantValue := 0 }, { name := "MAX_VALUE", type := .int, accessFlags := 25, slot := 1, constantValue := 0 }, { name := "TYPE", type := (.object "java/lang/Class"), accessFlags := 25, slot := 2, constantValue := 0 }, { name := "digits", type := (.array .char), accessFlags := 24, slot := 3, constantValue := 0 }, { name := "DigitTens", type := (.array .byte), accessFlags := 24, slot := 4, constantValue := 0 }, { name := "DigitOnes", type := (.array .byte), accessFlags := 24, slot := 5, constantValue := 0 }, { name := "value", type := .int, accessFlags := 18, slot := 0, constantValue := 0 }, { name := "SIZE", type := .int, accessFlags := 25, slot := 6, constantValue := 0 }, { name := "BYTES", type := .int, accessFlags := 25, slot := 7, constantValue := 0 }, { name := "serialVersionUID", type := .long, accessFlags := 26, slot := 8, constantValue := 0 }]
  methods := #[k10m0]
  instanceTypes := #[.int]
  staticTypes := #[.int, .int, (.object "java/lang/Class"), (.array .char), (.array .byte), (.array .byte), .int, .int, .long]
  resolved := Array.replicate 453 none
  statics := none }

def pool11 : Array CpInfo := pool [(1, u "java/lang/Cloneable"), (0, .class_ 1), (0, u "java/lang/Object"), (0, .class_ 3)] 3

/-- java/lang/Cloneable -/
def k11 : Class := { plain "java/lang/Cloneable" (some 0) with
  accessFlags := 1537
  interfaces := #[]
  cf := some (fileOf pool11 2 #[] #[] 1537 4 #[] #[])
  fields := #[]
  methods := #[]
  instanceTypes := #[]
  staticTypes := #[]
  resolved := Array.replicate 8 none
  statics := none }

/-- the primitive byte -/
def k12 : Class := { plain "byte" none with kind := .primitive 'B', accessFlags := 0x411 }
/-- [B -/
def k13 : Class := { plain "[B" (some 0) with kind := .array 12 .byte, interfaces := #[11, 4], accessFlags := 1041 }

/-- the primitive int -/
def k14 : Class := { plain "int" none with kind := .primitive 'I', accessFlags := 0x411 }
/-- [I -/
def k15 : Class := { plain "[I" (some 0) with kind := .array 14 .int, interfaces := #[11, 4], accessFlags := 1041 }

/-- the primitive long -/
def k16 : Class := { plain "long" none with kind := .primitive 'J', accessFlags := 0x411 }
/-- [J -/
def k17 : Class := { plain "[J" (some 0) with kind := .array 16 .long, interfaces := #[11, 4], accessFlags := 1041 }

def heap : Heap := #[]
/-- [[J -/
def k18 : Class := { plain "[[J" (some 0) with kind := .array 17 (.array .long), interfaces := #[11, 4], accessFlags := 1041 }
def classes : Array Class := #[k0, k1, k2, k3, k4, k5, k6, k7, k8, k9, k10, k11, k12, k13, k14, k15, k16, k17, k18]
def interned : List (Array UInt16 × Addr) := []
def slotsUsed : Nat := 0
def theMethod : MethodId := ⟨1, 1⟩
def args0 : Array Value := #[.int 5, .int 6, .int 7, .int 8]
def aboutOver (below : List Frame) : State where
  vm := { classes := classes, interned := interned.toArray }
  heap := heap
  slotsUsed := slotsUsed
  threads := #[{ frames := .invoking theMethod args0 :: below }]
def below0 : List Frame := [.native { method := ⟨0, 0⟩, args := #[] }]
def about1 : State := aboutOver below0
def p0 : Program := .bare "" "" ""
def e0 : Env := launch0.env 0 0 0
theorem w_frames : about1.frames = Frame.invoking theMethod args0 :: below0 := rfl
set_option maxRecDepth 65536 in
theorem w_args : argsFit about1.vm theMethod args0 = true := by decide +kernel
set_option maxRecDepth 65536 in
theorem w_heap : heapFits about1 = true := by decide +kernel
set_option maxRecDepth 65536 in
theorem w_runnable : about1.curStatus? = some .runnable := by decide +kernel
set_option maxRecDepth 65536 in
theorem w_alone : about1.alone = true := by decide +kernel
set_option maxRecDepth 65536 in
theorem w_named : about1.methodNamed? x = some theMethod := by decide +kernel
set_option maxRecDepth 65536 in
theorem w_hears : about1.hears theMethod below0 = true := by decide +kernel
set_option maxRecDepth 65536 in
theorem w_ripe : about1.ripe theMethod args0 below0 = true := by decide +kernel
theorem w_running : about1.status = .running := rfl
set_option maxRecDepth 65536 in
theorem w_room : about1.hasRoom e0.platform room_1 = true :=
  launch0.hasRoom_least _ room_1 (by decide +kernel) (by decide +kernel) (by decide +kernel) (by decide +kernel) (by decide +kernel) (by decide +kernel)
theorem allAtoms_all (ts : List Jvm.Cond) (a : Array Jvm.Value) (st : Jvm.State) : (allAtoms ts).before a st = ts.all (fun c => c.before a st) := by
  induction ts with
  | nil => rfl
  | cons c t ih =>
    show (Jvm.Cond.and c (allAtoms t)).before a st = _
    rw [Jvm.Cond.before_and, ih, List.all_cons]
def words1 : List Jvm.Cond := Jvm.Cond.code x code maxLocals ret :: tables_1
/-- a 'code' word, met by the world's own term for the bytes: nothing is compared byte by byte -/
theorem code_word {y : MethodName} {bytes : ByteArray} {mx : Nat} {rt : Option FieldType} {a : Array Value} {s : State} {m : MethodId} {meth : Method} {c : Code} (h1 : s.methodNamed? y = some m) (h2 : s.vm.method? m = some meth) (h3 : meth.code = some c) (h4 : c.code = bytes)
    (h5 : (c.maxLocals == mx && c.exceptionTable.isEmpty && decide (c.maxStack ≤ mostOperands) && decide (meth.sig.returnType = rt) && !meth.locks && decide (parseMethodDescriptor y.desc = some meth.sig)) = true) : (Jvm.Cond.code y bytes mx rt).before a s = true := by
  simp only [Bool.and_eq_true, beq_iff_eq, Bool.not_eq_true', decide_eq_true_eq] at h5
  obtain ⟨⟨⟨⟨⟨g1, g2⟩, g3⟩, g4⟩, g5⟩, g6⟩ := h5
  simp [Cond.before, Cond.holds, Cond.value, h1, h2, h3, h4, g1, g2, g3, g4, g5, g6]
def isCode : Jvm.Cond → Bool
  | .code _ _ _ _ => true
  | _ => false
theorem all_split {L : List Jvm.Cond} {P : Jvm.Cond → Bool} (h1 : L.all (fun c => isCode c || P c) = true) (h2 : ∀ c ∈ L.filter isCode, P c = true) : L.all P = true := by
  refine List.all_eq_true.mpr fun c hc => ?_
  have h := List.all_eq_true.mp h1 c hc
  rcases Bool.eq_false_or_eq_true (isCode c) with hi | hi
  · exact h2 c (List.mem_filter.mpr ⟨hc, hi⟩)
  · simpa [hi] using h
set_option maxRecDepth 65536 in
theorem w_c0 : (Jvm.Cond.code x code maxLocals ret).before args0 about1 = true := code_word (m := ⟨1, 1⟩) (meth := k1m1) (c := k1c1) (by decide +kernel) rfl rfl rfl (by decide +kernel)
set_option maxRecDepth 65536 in
theorem w_c1 : (Jvm.Cond.code ({ cls := "java/lang/Math", name := "min", desc := "(II)I" } : Jvm.MethodName) jdk_29_method_69_code (2 : Nat) (Option.some Jvm.ClassFile.FieldType.int)).before args0 about1 = true := code_word (m := ⟨2, 3⟩) (meth := k2m3) (c := k2c3) (by decide +kernel) rfl rfl rfl (by decide +kernel)
set_option maxRecDepth 65536 in
theorem w_c2 : (Jvm.Cond.code ({ cls := "java/lang/Math", name := "max", desc := "(II)I" } : Jvm.MethodName) jdk_29_method_65_code (2 : Nat) (Option.some Jvm.ClassFile.FieldType.int)).before args0 about1 = true := code_word (m := ⟨2, 1⟩) (meth := k2m1) (c := k2c1) (by decide +kernel) rfl rfl rfl (by decide +kernel)
set_option maxRecDepth 65536 in
theorem w_c3 : (Jvm.Cond.code ({ cls := "com/example/align/align/rectilinear/RowSet", name := "<init>", desc := "(I)V" } : Jvm.MethodName) prog_26_method_1_code (6 : Nat) (Option.none : Option Jvm.ClassFile.FieldType)).before args0 about1 = true := code_word (m := ⟨3, 0⟩) (meth := k3m0) (c := k3c0) (by decide +kernel) rfl rfl rfl (by decide +kernel)
set_option maxRecDepth 65536 in
theorem w_c4 : (Jvm.Cond.code ({ cls := "java/lang/Object", name := "<init>", desc := "()V" } : Jvm.MethodName) object_method_1_code (1 : Nat) (Option.none : Option Jvm.ClassFile.FieldType)).before args0 about1 = true := code_word (m := ⟨0, 0⟩) (meth := k0m0) (c := k0c0) (by decide +kernel) rfl rfl rfl (by decide +kernel)
set_option maxRecDepth 65536 in
theorem w_c5 : (Jvm.Cond.code ({ cls := "java/lang/Math", name := "max", desc := "(JJ)J" } : Jvm.MethodName) jdk_29_method_66_code (4 : Nat) (Option.some Jvm.ClassFile.FieldType.long)).before args0 about1 = true := code_word (m := ⟨2, 2⟩) (meth := k2m2) (c := k2c2) (by decide +kernel) rfl rfl rfl (by decide +kernel)
set_option maxRecDepth 65536 in
theorem w_c6 : (Jvm.Cond.code ({ cls := "com/example/align/align/rectilinear/RowSet", name := "add", desc := "(I)V" } : Jvm.MethodName) prog_26_method_2_code (6 : Nat) (Option.none : Option Jvm.ClassFile.FieldType)).before args0 about1 = true := code_word (m := ⟨3, 1⟩) (meth := k3m1) (c := k3c1) (by decide +kernel) rfl rfl rfl (by decide +kernel)
set_option maxRecDepth 65536 in
theorem w_c7 : (Jvm.Cond.code ({ cls := "com/example/align/align/rectilinear/RowSet", name := "next", desc := "(I)I" } : Jvm.MethodName) prog_26_method_4_code (8 : Nat) (Option.some Jvm.ClassFile.FieldType.int)).before args0 about1 = true := code_word (m := ⟨3, 2⟩) (meth := k3m2) (c := k3c2) (by decide +kernel) rfl rfl rfl (by decide +kernel)
set_option maxRecDepth 65536 in
theorem w_c8 : (Jvm.Cond.code ({ cls := "java/lang/Long", name := "numberOfTrailingZeros", desc := "(J)I" } : Jvm.MethodName) jdk_35_method_49_code (3 : Nat) (Option.some Jvm.ClassFile.FieldType.int)).before args0 about1 = true := code_word (m := ⟨9, 0⟩) (meth := k9m0) (c := k9c0) (by decide +kernel) rfl rfl rfl (by decide +kernel)
set_option maxRecDepth 65536 in
theorem w_c9 : (Jvm.Cond.code ({ cls := "java/lang/Integer", name := "numberOfTrailingZeros", desc := "(I)I" } : Jvm.MethodName) jdk_33_method_48_code (2 : Nat) (Option.some Jvm.ClassFile.FieldType.int)).before args0 about1 = true := code_word (m := ⟨10, 0⟩) (meth := k10m0) (c := k10c0) (by decide +kernel) rfl rfl rfl (by decide +kernel)
def codes1 : List Jvm.Cond := [Jvm.Cond.code x code maxLocals ret, Jvm.Cond.code ({ cls := "java/lang/Math", name := "min", desc := "(II)I" } : Jvm.MethodName) jdk_29_method_69_code (2 : Nat) (Option.some Jvm.ClassFile.FieldType.int), Jvm.Cond.code ({ cls := "java/lang/Math", name := "max", desc := "(II)I" } : Jvm.MethodName) jdk_29_method_65_code (2 : Nat) (Option.some Jvm.ClassFile.FieldType.int), Jvm.Cond.code ({ cls := "com/example/align/align/rectilinear/RowSet", name := "<init>", desc := "(I)V" } : Jvm.MethodName) prog_26_method_1_code (6 : Nat) (Option.none : Option Jvm.ClassFile.FieldType), Jvm.Cond.code ({ cls := "java/lang/Object", name := "<init>", desc := "()V" } : Jvm.MethodName) object_method_1_code (1 : Nat) (Option.none : Option Jvm.ClassFile.FieldType), Jvm.Cond.code ({ cls := "java/lang/Math", name := "max", desc := "(JJ)J" } : Jvm.MethodName) jdk_29_method_66_code (4 : Nat) (Option.some Jvm.ClassFile.FieldType.long), Jvm.Cond.code ({ cls := "com/example/align/align/rectilinear/RowSet", name := "add", desc := "(I)V" } : Jvm.MethodName) prog_26_method_2_code (6 : Nat) (Option.none : Option Jvm.ClassFile.FieldType), Jvm.Cond.code ({ cls := "com/example/align/align/rectilinear/RowSet", name := "next", desc := "(I)I" } : Jvm.MethodName) prog_26_method_4_code (8 : Nat) (Option.some Jvm.ClassFile.FieldType.int), Jvm.Cond.code ({ cls := "java/lang/Long", name := "numberOfTrailingZeros", desc := "(J)I" } : Jvm.MethodName) jdk_35_method_49_code (3 : Nat) (Option.some Jvm.ClassFile.FieldType.int), Jvm.Cond.code ({ cls := "java/lang/Integer", name := "numberOfTrailingZeros", desc := "(I)I" } : Jvm.MethodName) jdk_33_method_48_code (2 : Nat) (Option.some Jvm.ClassFile.FieldType.int)]
set_option maxRecDepth 65536 in
theorem codes_eq : words1.filter isCode = codes1 := rfl
theorem w_codes : ∀ c ∈ words1.filter isCode, c.before args0 about1 = true := by
  rw [codes_eq]
  intro c hc
  simp only [codes1, List.mem_cons, List.not_mem_nil, or_false] at hc
  rcases hc with rfl | rfl | rfl | rfl | rfl | rfl | rfl | rfl | rfl | rfl
  · exact w_c0
  · exact w_c1
  · exact w_c2
  · exact w_c3
  · exact w_c4
  · exact w_c5
  · exact w_c6
  · exact w_c7
  · exact w_c8
  · exact w_c9
set_option maxRecDepth 65536 in
theorem w_t1 : (words1.take 24).all (fun c => isCode c || c.before args0 about1) = true := by decide +kernel
set_option maxRecDepth 65536 in
theorem w_t2 : ((words1.drop 24).take 24).all (fun c => isCode c || c.before args0 about1) = true := by decide +kernel
set_option maxRecDepth 65536 in
theorem w_t3 : ((words1.drop 24).drop 24).all (fun c => isCode c || c.before args0 about1) = true := by decide +kernel
theorem w_tables : (allAtoms (Jvm.Cond.code x code maxLocals ret :: tables_1)).before args0 about1 = true := by
  rw [allAtoms_all]
  show words1.all (fun c => c.before args0 about1) = true
  refine all_split ?_ w_codes
  rw [← List.take_append_drop 24 words1, List.all_append, w_t1, ← List.take_append_drop 24 (words1.drop 24), List.all_append, w_t2, w_t3]
  rfl
set_option maxRecDepth 65536 in
theorem w_case : (Jvm.Cond.and given_1 narrow_1).before args0 about1 = true := by decide +kernel
theorem w_applies : (headSpec (Jvm.Cond.code x code maxLocals ret :: tables_1) room_1).applies x e0.platform about1 = true :=
  (Spec.applies_iff w_frames).mpr ⟨w_running, w_runnable, w_alone, w_named, w_hears, w_ripe, w_room, w_tables⟩
theorem atStart : AtStart classFile x code maxLocals ret World_1 tables_1 room_1 Calls_1 rest_1 Pre_1 launch0 p0 e0 about1 theMethod args0 below0 :=
  ⟨lists_1, trivial, launch0.admits_env _ _ _, launch0.least_env, fairChoices_fair.cas, fairChoices_fair.clock, w_frames, w_args, w_heap, w_applies, trivial, trivial, w_case⟩
end start1
theorem witness_1 : WitnessClaimed_1 := ⟨start1.p0, start1.e0, start1.about1, start1.theMethod, start1.args0, start1.below0, start1.atStart⟩
end Jvm.Pilot.@@N@@
