import JvmDerived
import JvmDerived.Pilot.@@N@@Statement
import JvmDerived.Pilot.@@N@@Code
set_option linter.unusedVariables false
set_option linter.unusedSimpArgs false
@@BLOCK:NumsL.lean.txt@@
namespace Jvm.Pilot.@@N@@
open Jvm Jvm.ClassFile Sem Op Lib Jvm.Free Jvm.Stand Jvm.LawKit Jvm.RoadKit Bundle Jvm.Pilot.@@N@@.Jvm.D
section OwnLayer
variable {p : Program} {l : Launch} {e : Env} {R : Room} {s : State} {m : MethodId} {args : Array Value} {below : List Frame} {meth : Method} {c : Code} {T : State} {locs : List Loc} {cells slots : Nat}
variable {F : State → Outcome → Prop} {kc ks : Nat} {Q : Option Value → Heap → List Loc → Prop} {pc pc' : Nat} {ls : Array Slot} {st : List Value} {Z : State} {a0 : Array Value} {h : Heap}
/-- from this state and frame the run comes to an end of which F holds -/
def Goes (p : Program) (e : Env) (below : List Frame) (F : State → Outcome → Prop) (T : State) (g : JFrame) : Prop :=
  ∃ s₂ o, Steps p.tables e below (T.setTop g) s₂ ∧ s₂.status = .running ∧ Ended s₂ below o ∧ F s₂ o
/-- it returns, Q holds of the value, the heap and the places written; the frame is the plain one -/
def FinN (s : State) (kc ks : Nat) (Q : Option Value → Heap → List Loc → Prop) (s₂ : State) (o : Outcome) : Prop := ∃ v L, o = .returned v ∧ Q v s₂.heap L ∧ FrameEnd s o s₂ L kc ks
theorem Goes.fore {T' : State} {g g' : JFrame} (k : ∀ target, Steps p.tables e below (T'.setTop g') target → Steps p.tables e below (T.setTop g) target) (G : Goes p e below F T' g') : Goes p e below F T g := by
  obtain ⟨a, b, h, r⟩ := G; exact ⟨a, b, k _ h, r⟩
theorem Goes.tr {T' : State} {g g' : JFrame} (k : Steps p.tables e below (T.setTop g) (T'.setTop g')) (G : Goes p e below F T' g') : Goes p e below F T g := by
  obtain ⟨a, b, h, r⟩ := G; exact ⟨a, b, k.trans h, r⟩
theorem Goes.cast {g g' : JFrame} (q : g = g') (G : Goes p e below F T g') : Goes p e below F T g := q ▸ G
/-- a body's contract: called with these arguments on this heap it returns, and Q holds of the value, the heap and the places written -/
def Ctr (l : Launch) (Z : State) (y : MethodName) (bytes : ByteArray) (maxL : Nat) (ret : Option FieldType) (ws : List Jvm.Cond) (rm : Room) (as' : Array Value) (h0 : Heap) (Q : Option Value → Heap → List Loc → Prop) : Prop :=
  MetFree l y (head1 (Jvm.Cond.code y bytes maxL ret :: ws) rm) (fun a U => a = as' ∧ Z.Warmed39 U.vm ∧ U.heap = h0) (fun _ _ _ _ _ => True) (fun _ U o U' => ∃ v L, o = .returned v ∧ Q v U'.heap L ∧ FrameEnd U o U' L rm.cells rm.slots)
theorem Ctr.of {y : MethodName} {bytes : ByteArray} {maxL : Nat} {ret : Option FieldType} {ws : List Jvm.Cond} {rm : Room} {as' : Array Value} {h0 : Heap} (hp : plainFor y = true)
    (body : ∀ (p : Program) (e : Env) (s : State) (m : MethodId) (below : List Frame) (meth : Method) (c : Code) (s₁ : State), p.tables.exec = Jvm.exec → (∀ {pc : Nat} {r : Except ClassFile.DecodeError (ClassFile.Instr × Nat)}, ClassFile.decode bytes pc = r → ClassFile.decode c.code pc = r) → c.maxLocals = maxL → meth.sig.returnType = ret → s.vm.findClass y.cls = some m.cls → meth.name = y.name → Z.Warmed39 s.vm → meth.locks = false → Stand p l e rm s m as' below meth c s₁ [] 0 0 → s₁.heap = h0 → Goes p e below (FinN s rm.cells rm.slots Q) s₁ (entryFrame m as' maxL)) :
    Ctr l Z y bytes maxL ret ws rm as' h0 Q := by
  refine MetFree.of_bodySF hp hisR ?_
  intro p e s m args below meth c s₁ Bd hml hP hK
  obtain ⟨rfl, hZ, hh⟩ := hP
  exact body p e s m below meth c s₁ Bd.exec (fun h2 => hb Bd.bytes h2) hml Bd.returns (findClass_of_methodNamed Bd.named) (name_of_methodNamed Bd.named Bd.method).1 hZ Bd.notSynchronized (Stand.of_body Bd) (by rw [← hh, Bd.state]; rfl)
theorem Ctr.mono {y : MethodName} {bytes : ByteArray} {maxL : Nat} {ret : Option FieldType} {ws : List Jvm.Cond} {rm : Room} {as' : Array Value} {h0 : Heap} {Q' : Option Value → Heap → List Loc → Prop} (C : Ctr l Z y bytes maxL ret ws rm as' h0 Q) (hq : ∀ v h L, Q v h L → Q' v h L) : Ctr l Z y bytes maxL ret ws rm as' h0 Q' := by
  intro p e ha hc hk s m args below hf happ hP hK
  obtain ⟨n, o, h1, h2, h3, v, L, h4, h5, h6⟩ := C p e ha hc hk s m args below hf happ hP hK
  exact ⟨n, o, h1, h2, h3, v, L, h4, hq _ _ _ h5, h6⟩
/-- it returns w and leaves the heap as it was -/
def Just (h0 : Heap) (w : Value) (v : Option Value) (h : Heap) (L : List Loc) : Prop := v = some w ∧ h = h0 ∧ L = []
theorem gLoadIN (pc' : Nat) (X : Stand p l e R s m args below meth c T locs cells slots) (hx : p.tables.exec = Jvm.exec) {k : Fin 4} {v : Int32} (hd : decode c.code pc = .ok (.iload_n k, 1)) (hl : ls[k.val]? = some (.val (.int v))) (hp : pc + 1 = pc') (k : Goes p e below F T (mkF m pc' ls (.int v :: st))) : Goes p e below F T (mkF m pc ls st) := by
  subst hp; exact Goes.fore (fun _ q => XS.iloadN X.here hx rfl hd hl q) k
theorem gLoadI (pc' : Nat) (X : Stand p l e R s m args below meth c T locs cells slots) (hx : p.tables.exec = Jvm.exec) {k : Nat} {v : Int32} (hd : decode c.code pc = .ok (.iload k, 2)) (hl : ls[k]? = some (.val (.int v))) (hp : pc + 2 = pc') (k : Goes p e below F T (mkF m pc' ls (.int v :: st))) : Goes p e below F T (mkF m pc ls st) := by
  subst hp; exact Goes.fore (fun _ q => XS.iload X.here hx rfl hd hl q) k
theorem gStoreIN (pc' : Nat) (X : Stand p l e R s m args below meth c T locs cells slots) (hx : p.tables.exec = Jvm.exec) {k : Fin 4} {v : Int32} {l' : Array Slot} (hd : decode c.code pc = .ok (.istore_n k, 1)) (hl : storeLocals ls k.val (.int v) = some l') (hp : pc + 1 = pc') (k : Goes p e below F T (mkF m pc' l' st)) : Goes p e below F T (mkF m pc ls (.int v :: st)) := by
  subst hp; exact Goes.fore (fun _ q => XS.istoreN X.here hx rfl hd rfl hl q) k
theorem gStoreI (pc' : Nat) (X : Stand p l e R s m args below meth c T locs cells slots) (hx : p.tables.exec = Jvm.exec) {k : Nat} {v : Int32} {l' : Array Slot} (hd : decode c.code pc = .ok (.istore k, 2)) (hl : storeLocals ls k (.int v) = some l') (hp : pc + 2 = pc') (k : Goes p e below F T (mkF m pc' l' st)) : Goes p e below F T (mkF m pc ls (.int v :: st)) := by
  subst hp; exact Goes.fore (fun _ q => XS.istore X.here hx rfl hd rfl hl q) k
theorem gLoadJN (pc' : Nat) (X : Stand p l e R s m args below meth c T locs cells slots) (hx : p.tables.exec = Jvm.exec) {k : Fin 4} {v : Int64} (hd : decode c.code pc = .ok (.lload_n k, 1)) (hl : ls[k.val]? = some (.val (.long v))) (hp : pc + 1 = pc') (k : Goes p e below F T (mkF m pc' ls (.long v :: st))) : Goes p e below F T (mkF m pc ls st) := by
  subst hp; exact Goes.fore (fun _ q => XS.lloadN X.here hx rfl hd hl q) k
theorem gLoadJ (pc' : Nat) (X : Stand p l e R s m args below meth c T locs cells slots) (hx : p.tables.exec = Jvm.exec) {k : Nat} {v : Int64} (hd : decode c.code pc = .ok (.lload k, 2)) (hl : ls[k]? = some (.val (.long v))) (hp : pc + 2 = pc') (k : Goes p e below F T (mkF m pc' ls (.long v :: st))) : Goes p e below F T (mkF m pc ls st) := by
  subst hp; exact Goes.fore (fun _ q => XS.lload X.here hx rfl hd hl q) k
theorem gStoreJN (pc' : Nat) (X : Stand p l e R s m args below meth c T locs cells slots) (hx : p.tables.exec = Jvm.exec) {k : Fin 4} {v : Int64} {l' : Array Slot} (hd : decode c.code pc = .ok (.lstore_n k, 1)) (hl : storeLocals ls k.val (.long v) = some l') (hp : pc + 1 = pc') (k : Goes p e below F T (mkF m pc' l' st)) : Goes p e below F T (mkF m pc ls (.long v :: st)) := by
  subst hp; exact Goes.fore (fun _ q => XS.lstoreN X.here hx rfl hd rfl hl q) k
theorem gStoreJ (pc' : Nat) (X : Stand p l e R s m args below meth c T locs cells slots) (hx : p.tables.exec = Jvm.exec) {k : Nat} {v : Int64} {l' : Array Slot} (hd : decode c.code pc = .ok (.lstore k, 2)) (hl : storeLocals ls k (.long v) = some l') (hp : pc + 2 = pc') (k : Goes p e below F T (mkF m pc' l' st)) : Goes p e below F T (mkF m pc ls (.long v :: st)) := by
  subst hp; exact Goes.fore (fun _ q => XS.lstore X.here hx rfl hd rfl hl q) k
theorem gLoadAN (pc' : Nat) (X : Stand p l e R s m args below meth c T locs cells slots) (hx : p.tables.exec = Jvm.exec) {k : Fin 4} {v : Value} (hd : decode c.code pc = .ok (.aload_n k, 1)) (hl : ls[k.val]? = some (.val v)) (hv : v.isRef = true) (hp : pc + 1 = pc') (k : Goes p e below F T (mkF m pc' ls (v :: st))) : Goes p e below F T (mkF m pc ls st) := by
  subst hp; exact Goes.fore (fun _ q => XS.aloadN X.here hx rfl hd hl hv q) k
theorem gLoadA (pc' : Nat) (X : Stand p l e R s m args below meth c T locs cells slots) (hx : p.tables.exec = Jvm.exec) {k : Nat} {v : Value} (hd : decode c.code pc = .ok (.aload k, 2)) (hl : ls[k]? = some (.val v)) (hv : v.isRef = true) (hp : pc + 2 = pc') (k : Goes p e below F T (mkF m pc' ls (v :: st))) : Goes p e below F T (mkF m pc ls st) := by
  subst hp; exact Goes.fore (fun _ q => XS.aload X.here hx rfl hd hl hv q) k
theorem gStoreAN (pc' : Nat) (X : Stand p l e R s m args below meth c T locs cells slots) (hx : p.tables.exec = Jvm.exec) {k : Fin 4} {v : Value} {l' : Array Slot} (hd : decode c.code pc = .ok (.astore_n k, 1)) (hv : v.isRef = true) (hl : storeLocals ls k.val v = some l') (hp : pc + 1 = pc') (k : Goes p e below F T (mkF m pc' l' st)) : Goes p e below F T (mkF m pc ls (v :: st)) := by
  subst hp; exact Goes.fore (fun _ q => XS.astoreN X.here hx rfl hd rfl hv hl q) k
theorem gStoreA (pc' : Nat) (X : Stand p l e R s m args below meth c T locs cells slots) (hx : p.tables.exec = Jvm.exec) {k : Nat} {v : Value} {l' : Array Slot} (hd : decode c.code pc = .ok (.astore k, 2)) (hv : v.isRef = true) (hl : storeLocals ls k v = some l') (hp : pc + 2 = pc') (k : Goes p e below F T (mkF m pc' l' st)) : Goes p e below F T (mkF m pc ls (v :: st)) := by
  subst hp; exact Goes.fore (fun _ q => XS.astore X.here hx rfl hd rfl hv hl q) k
theorem gIconst (pc' : Nat) (X : Stand p l e R s m args below meth c T locs cells slots) (hx : p.tables.exec = Jvm.exec) {i : Int} {v : Int32} (hd : decode c.code pc = .ok (.iconst i, 1)) (hv : Int32.ofInt i = v) (hp : pc + 1 = pc') (k : Goes p e below F T (mkF m pc' ls (.int v :: st))) : Goes p e below F T (mkF m pc ls st) := by
  subst hp; exact Goes.fore (fun _ q => XT.iconstV X.here hx rfl v hd hv q) k
theorem gBipush (pc' : Nat) (X : Stand p l e R s m args below meth c T locs cells slots) (hx : p.tables.exec = Jvm.exec) {i : Int} {v : Int32} (hd : decode c.code pc = .ok (.bipush i, 2)) (hv : (Int8.ofInt i).toInt32 = v) (hp : pc + 2 = pc') (k : Goes p e below F T (mkF m pc' ls (.int v :: st))) : Goes p e below F T (mkF m pc ls st) := by
  subst hp; exact Goes.fore (fun _ q => XT.bipushV X.here hx rfl v hd hv q) k
theorem gSipush (pc' : Nat) (X : Stand p l e R s m args below meth c T locs cells slots) (hx : p.tables.exec = Jvm.exec) {i : Int} {v : Int32} (hd : decode c.code pc = .ok (.sipush i, 3)) (hv : (Int16.ofInt i).toInt32 = v) (hp : pc + 3 = pc') (k : Goes p e below F T (mkF m pc' ls (.int v :: st))) : Goes p e below F T (mkF m pc ls st) := by
  subst hp; exact Goes.fore (fun _ q => XT.sipushV X.here hx rfl v hd hv q) k
theorem gLconst (pc' : Nat) (X : Stand p l e R s m args below meth c T locs cells slots) (hx : p.tables.exec = Jvm.exec) {i : Fin 2} {v : Int64} (hd : decode c.code pc = .ok (.lconst i, 1)) (hv : Int64.ofNat i = v) (hp : pc + 1 = pc') (k : Goes p e below F T (mkF m pc' ls (.long v :: st))) : Goes p e below F T (mkF m pc ls st) := by
  subst hp; exact Goes.fore (fun _ q => XT.lconstV X.here hx rfl v hd hv q) k
theorem gNull (pc' : Nat) (X : Stand p l e R s m args below meth c T locs cells slots) (hx : p.tables.exec = Jvm.exec)  (hd : decode c.code pc = .ok (.aconst_null, 1))  (hp : pc + 1 = pc') (k : Goes p e below F T (mkF m pc' ls (.null :: st))) : Goes p e below F T (mkF m pc ls st) := by
  subst hp; exact Goes.fore (fun _ q => XS.aconstNull X.here hx rfl hd q) k
theorem gLdc (pc' : Nat) (X : Stand p l e R s m args below meth c T locs cells slots) (hx : p.tables.exec = Jvm.exec) {own : String} {i : Nat} {v : Int32} (hZ : Z.Warmed39 s.vm) (hown : s.vm.findClass own = some m.cls) (w : (Jvm.Cond.constant own i v).before a0 Z = true) (hd : decode c.code pc = .ok (.ldc i, 2))  (hp : pc + 2 = pc') (k : Goes p e below F T (mkF m pc' ls (.int v :: st))) : Goes p e below F T (mkF m pc ls st) := by
  subst hp; exact Goes.fore (fun _ q => X.ldcI hx hown (mvT hZ w) rfl hd q) k
theorem gLdcW (pc' : Nat) (X : Stand p l e R s m args below meth c T locs cells slots) (hx : p.tables.exec = Jvm.exec) {own : String} {i : Nat} {v : Int32} (hZ : Z.Warmed39 s.vm) (hown : s.vm.findClass own = some m.cls) (w : (Jvm.Cond.constant own i v).before a0 Z = true) (hd : decode c.code pc = .ok (.ldc_w i, 3))  (hp : pc + 3 = pc') (k : Goes p e below F T (mkF m pc' ls (.int v :: st))) : Goes p e below F T (mkF m pc ls st) := by
  subst hp; exact Goes.fore (fun _ q => X.ldcWI hx hown (mvT hZ w) rfl hd q) k
theorem gLdc2 (pc' : Nat) (X : Stand p l e R s m args below meth c T locs cells slots) (hx : p.tables.exec = Jvm.exec) {own : String} {i : Nat} {v : Int64} (hZ : Z.Warmed39 s.vm) (hown : s.vm.findClass own = some m.cls) (w : (Jvm.Cond.constantLong own i v).before a0 Z = true) (hd : decode c.code pc = .ok (.ldc2_w i, 3))  (hp : pc + 3 = pc') (k : Goes p e below F T (mkF m pc' ls (.long v :: st))) : Goes p e below F T (mkF m pc ls st) := by
  subst hp; exact Goes.fore (fun _ q => X.ldc2J hx hown (mvT hZ w) rfl hd q) k
theorem gIadd (pc' : Nat) (X : Stand p l e R s m args below meth c T locs cells slots) (hx : p.tables.exec = Jvm.exec) {x y : Int32} (hd : decode c.code pc = .ok (.iadd, 1))  (hp : pc + 1 = pc') (k : Goes p e below F T (mkF m pc' ls (.int (x + y) :: st))) : Goes p e below F T (mkF m pc ls (.int y :: .int x :: st)) := by
  subst hp; exact Goes.fore (fun _ q => XS.iadd X.here hx rfl hd rfl q) k
theorem gIsub (pc' : Nat) (X : Stand p l e R s m args below meth c T locs cells slots) (hx : p.tables.exec = Jvm.exec) {x y : Int32} (hd : decode c.code pc = .ok (.isub, 1))  (hp : pc + 1 = pc') (k : Goes p e below F T (mkF m pc' ls (.int (x - y) :: st))) : Goes p e below F T (mkF m pc ls (.int y :: .int x :: st)) := by
  subst hp; exact Goes.fore (fun _ q => XS.isub X.here hx rfl hd rfl q) k
theorem gImul (pc' : Nat) (X : Stand p l e R s m args below meth c T locs cells slots) (hx : p.tables.exec = Jvm.exec) {x y : Int32} (hd : decode c.code pc = .ok (.imul, 1))  (hp : pc + 1 = pc') (k : Goes p e below F T (mkF m pc' ls (.int (x * y) :: st))) : Goes p e below F T (mkF m pc ls (.int y :: .int x :: st)) := by
  subst hp; exact Goes.fore (fun _ q => XS.imul X.here hx rfl hd rfl q) k
theorem gIand (pc' : Nat) (X : Stand p l e R s m args below meth c T locs cells slots) (hx : p.tables.exec = Jvm.exec) {x y : Int32} (hd : decode c.code pc = .ok (.iand, 1))  (hp : pc + 1 = pc') (k : Goes p e below F T (mkF m pc' ls (.int (x &&& y) :: st))) : Goes p e below F T (mkF m pc ls (.int y :: .int x :: st)) := by
  subst hp; exact Goes.fore (fun _ q => XS.iand X.here hx rfl hd rfl q) k
theorem gIor (pc' : Nat) (X : Stand p l e R s m args below meth c T locs cells slots) (hx : p.tables.exec = Jvm.exec) {x y : Int32} (hd : decode c.code pc = .ok (.ior, 1))  (hp : pc + 1 = pc') (k : Goes p e below F T (mkF m pc' ls (.int (x ||| y) :: st))) : Goes p e below F T (mkF m pc ls (.int y :: .int x :: st)) := by
  subst hp; exact Goes.fore (fun _ q => XS.ior X.here hx rfl hd rfl q) k
theorem gIxor (pc' : Nat) (X : Stand p l e R s m args below meth c T locs cells slots) (hx : p.tables.exec = Jvm.exec) {x y : Int32} (hd : decode c.code pc = .ok (.ixor, 1))  (hp : pc + 1 = pc') (k : Goes p e below F T (mkF m pc' ls (.int (x ^^^ y) :: st))) : Goes p e below F T (mkF m pc ls (.int y :: .int x :: st)) := by
  subst hp; exact Goes.fore (fun _ q => XS.ixor X.here hx rfl hd rfl q) k
theorem gIshl (pc' : Nat) (X : Stand p l e R s m args below meth c T locs cells slots) (hx : p.tables.exec = Jvm.exec) {x y : Int32} (hd : decode c.code pc = .ok (.ishl, 1))  (hp : pc + 1 = pc') (k : Goes p e below F T (mkF m pc' ls (.int (x <<< (y &&& 31)) :: st))) : Goes p e below F T (mkF m pc ls (.int y :: .int x :: st)) := by
  subst hp; exact Goes.fore (fun _ q => XS.ishl X.here hx rfl hd rfl q) k
theorem gIshr (pc' : Nat) (X : Stand p l e R s m args below meth c T locs cells slots) (hx : p.tables.exec = Jvm.exec) {x y : Int32} (hd : decode c.code pc = .ok (.ishr, 1))  (hp : pc + 1 = pc') (k : Goes p e below F T (mkF m pc' ls (.int (x >>> (y &&& 31)) :: st))) : Goes p e below F T (mkF m pc ls (.int y :: .int x :: st)) := by
  subst hp; exact Goes.fore (fun _ q => XS.ishr X.here hx rfl hd rfl q) k
theorem gIushr (pc' : Nat) (X : Stand p l e R s m args below meth c T locs cells slots) (hx : p.tables.exec = Jvm.exec) {x y : Int32} (hd : decode c.code pc = .ok (.iushr, 1))  (hp : pc + 1 = pc') (k : Goes p e below F T (mkF m pc' ls (.int ((x.toUInt32 >>> (y &&& 31).toUInt32).toInt32) :: st))) : Goes p e below F T (mkF m pc ls (.int y :: .int x :: st)) := by
  subst hp; exact Goes.fore (fun _ q => XS.iushr X.here hx rfl hd rfl q) k
theorem gLadd (pc' : Nat) (X : Stand p l e R s m args below meth c T locs cells slots) (hx : p.tables.exec = Jvm.exec) {x y : Int64} (hd : decode c.code pc = .ok (.ladd, 1))  (hp : pc + 1 = pc') (k : Goes p e below F T (mkF m pc' ls (.long (x + y) :: st))) : Goes p e below F T (mkF m pc ls (.long y :: .long x :: st)) := by
  subst hp; exact Goes.fore (fun _ q => XS.ladd X.here hx rfl hd rfl q) k
theorem gLsub (pc' : Nat) (X : Stand p l e R s m args below meth c T locs cells slots) (hx : p.tables.exec = Jvm.exec) {x y : Int64} (hd : decode c.code pc = .ok (.lsub, 1))  (hp : pc + 1 = pc') (k : Goes p e below F T (mkF m pc' ls (.long (x - y) :: st))) : Goes p e below F T (mkF m pc ls (.long y :: .long x :: st)) := by
  subst hp; exact Goes.fore (fun _ q => XS.lsub X.here hx rfl hd rfl q) k
theorem gLmul (pc' : Nat) (X : Stand p l e R s m args below meth c T locs cells slots) (hx : p.tables.exec = Jvm.exec) {x y : Int64} (hd : decode c.code pc = .ok (.lmul, 1))  (hp : pc + 1 = pc') (k : Goes p e below F T (mkF m pc' ls (.long (x * y) :: st))) : Goes p e below F T (mkF m pc ls (.long y :: .long x :: st)) := by
  subst hp; exact Goes.fore (fun _ q => XS.lmul X.here hx rfl hd rfl q) k
theorem gLand (pc' : Nat) (X : Stand p l e R s m args below meth c T locs cells slots) (hx : p.tables.exec = Jvm.exec) {x y : Int64} (hd : decode c.code pc = .ok (.land, 1))  (hp : pc + 1 = pc') (k : Goes p e below F T (mkF m pc' ls (.long (x &&& y) :: st))) : Goes p e below F T (mkF m pc ls (.long y :: .long x :: st)) := by
  subst hp; exact Goes.fore (fun _ q => XS.land X.here hx rfl hd rfl q) k
theorem gLor (pc' : Nat) (X : Stand p l e R s m args below meth c T locs cells slots) (hx : p.tables.exec = Jvm.exec) {x y : Int64} (hd : decode c.code pc = .ok (.lor, 1))  (hp : pc + 1 = pc') (k : Goes p e below F T (mkF m pc' ls (.long (x ||| y) :: st))) : Goes p e below F T (mkF m pc ls (.long y :: .long x :: st)) := by
  subst hp; exact Goes.fore (fun _ q => XS.lor X.here hx rfl hd rfl q) k
theorem gLxor (pc' : Nat) (X : Stand p l e R s m args below meth c T locs cells slots) (hx : p.tables.exec = Jvm.exec) {x y : Int64} (hd : decode c.code pc = .ok (.lxor, 1))  (hp : pc + 1 = pc') (k : Goes p e below F T (mkF m pc' ls (.long (x ^^^ y) :: st))) : Goes p e below F T (mkF m pc ls (.long y :: .long x :: st)) := by
  subst hp; exact Goes.fore (fun _ q => XS.lxor X.here hx rfl hd rfl q) k
theorem gLshl (pc' : Nat) (X : Stand p l e R s m args below meth c T locs cells slots) (hx : p.tables.exec = Jvm.exec) {x : Int64} {y : Int32} (hd : decode c.code pc = .ok (.lshl, 1))  (hp : pc + 1 = pc') (k : Goes p e below F T (mkF m pc' ls (.long (x <<< (y &&& 0x3f).toInt64) :: st))) : Goes p e below F T (mkF m pc ls (.int y :: .long x :: st)) := by
  subst hp; exact Goes.fore (fun _ q => XS.lshl X.here hx rfl hd rfl q) k
theorem gLshr (pc' : Nat) (X : Stand p l e R s m args below meth c T locs cells slots) (hx : p.tables.exec = Jvm.exec) {x : Int64} {y : Int32} (hd : decode c.code pc = .ok (.lshr, 1))  (hp : pc + 1 = pc') (k : Goes p e below F T (mkF m pc' ls (.long (x >>> (y &&& 0x3f).toInt64) :: st))) : Goes p e below F T (mkF m pc ls (.int y :: .long x :: st)) := by
  subst hp; exact Goes.fore (fun _ q => XS.lshr X.here hx rfl hd rfl q) k
theorem gLushr (pc' : Nat) (X : Stand p l e R s m args below meth c T locs cells slots) (hx : p.tables.exec = Jvm.exec) {x : Int64} {y : Int32} (hd : decode c.code pc = .ok (.lushr, 1))  (hp : pc + 1 = pc') (k : Goes p e below F T (mkF m pc' ls (.long ((x.toUInt64 >>> (y &&& 0x3f).toInt64.toUInt64).toInt64) :: st))) : Goes p e below F T (mkF m pc ls (.int y :: .long x :: st)) := by
  subst hp; exact Goes.fore (fun _ q => XS.lushr X.here hx rfl hd rfl q) k
theorem gIdiv (pc' : Nat) (X : Stand p l e R s m args below meth c T locs cells slots) (hx : p.tables.exec = Jvm.exec) {x y : Int32} (hd : decode c.code pc = .ok (.idiv, 1)) (hy : y ≠ 0) (hp : pc + 1 = pc') (k : Goes p e below F T (mkF m pc' ls (.int (x / y) :: st))) : Goes p e below F T (mkF m pc ls (.int y :: .int x :: st)) := by
  subst hp; exact Goes.fore (fun _ q => XS.idiv X.here hx rfl hd rfl hy q) k
theorem gIrem (pc' : Nat) (X : Stand p l e R s m args below meth c T locs cells slots) (hx : p.tables.exec = Jvm.exec) {x y : Int32} (hd : decode c.code pc = .ok (.irem, 1)) (hy : y ≠ 0) (hp : pc + 1 = pc') (k : Goes p e below F T (mkF m pc' ls (.int (x % y) :: st))) : Goes p e below F T (mkF m pc ls (.int y :: .int x :: st)) := by
  subst hp; exact Goes.fore (fun _ q => iremM X hx rfl hd rfl hy q) k
theorem gIneg (pc' : Nat) (X : Stand p l e R s m args below meth c T locs cells slots) (hx : p.tables.exec = Jvm.exec) {x : Int32} (hd : decode c.code pc = .ok (.ineg, 1))  (hp : pc + 1 = pc') (k : Goes p e below F T (mkF m pc' ls (.int (-x) :: st))) : Goes p e below F T (mkF m pc ls (.int x :: st)) := by
  subst hp; exact Goes.fore (fun _ q => XS.ineg X.here hx rfl hd rfl q) k
theorem gLneg (pc' : Nat) (X : Stand p l e R s m args below meth c T locs cells slots) (hx : p.tables.exec = Jvm.exec) {x : Int64} (hd : decode c.code pc = .ok (.lneg, 1))  (hp : pc + 1 = pc') (k : Goes p e below F T (mkF m pc' ls (.long (-x) :: st))) : Goes p e below F T (mkF m pc ls (.long x :: st)) := by
  subst hp; exact Goes.fore (fun _ q => XS.lneg X.here hx rfl hd rfl q) k
theorem gI2l (pc' : Nat) (X : Stand p l e R s m args below meth c T locs cells slots) (hx : p.tables.exec = Jvm.exec) {x : Int32} (hd : decode c.code pc = .ok (.i2l, 1))  (hp : pc + 1 = pc') (k : Goes p e below F T (mkF m pc' ls (.long (x.toInt64) :: st))) : Goes p e below F T (mkF m pc ls (.int x :: st)) := by
  subst hp; exact Goes.fore (fun _ q => XS.i2l X.here hx rfl hd rfl q) k
theorem gL2i (pc' : Nat) (X : Stand p l e R s m args below meth c T locs cells slots) (hx : p.tables.exec = Jvm.exec) {x : Int64} (hd : decode c.code pc = .ok (.l2i, 1))  (hp : pc + 1 = pc') (k : Goes p e below F T (mkF m pc' ls (.int (x.toInt32) :: st))) : Goes p e below F T (mkF m pc ls (.long x :: st)) := by
  subst hp; exact Goes.fore (fun _ q => XS.l2i X.here hx rfl hd rfl q) k
theorem gI2b (pc' : Nat) (X : Stand p l e R s m args below meth c T locs cells slots) (hx : p.tables.exec = Jvm.exec) {x : Int32} (hd : decode c.code pc = .ok (.i2b, 1))  (hp : pc + 1 = pc') (k : Goes p e below F T (mkF m pc' ls (.int (x.toInt8.toInt32) :: st))) : Goes p e below F T (mkF m pc ls (.int x :: st)) := by
  subst hp; exact Goes.fore (fun _ q => XS.i2b X.here hx rfl hd rfl q) k
theorem gI2c (pc' : Nat) (X : Stand p l e R s m args below meth c T locs cells slots) (hx : p.tables.exec = Jvm.exec) {x : Int32} (hd : decode c.code pc = .ok (.i2c, 1))  (hp : pc + 1 = pc') (k : Goes p e below F T (mkF m pc' ls (.int (x.toUInt32.toUInt16.toUInt32.toInt32) :: st))) : Goes p e below F T (mkF m pc ls (.int x :: st)) := by
  subst hp; exact Goes.fore (fun _ q => XS.i2c X.here hx rfl hd rfl q) k
theorem gI2s (pc' : Nat) (X : Stand p l e R s m args below meth c T locs cells slots) (hx : p.tables.exec = Jvm.exec) {x : Int32} (hd : decode c.code pc = .ok (.i2s, 1))  (hp : pc + 1 = pc') (k : Goes p e below F T (mkF m pc' ls (.int (x.toInt16.toInt32) :: st))) : Goes p e below F T (mkF m pc ls (.int x :: st)) := by
  subst hp; exact Goes.fore (fun _ q => XS.i2s X.here hx rfl hd rfl q) k
theorem gLcmp (pc' : Nat) (X : Stand p l e R s m args below meth c T locs cells slots) (hx : p.tables.exec = Jvm.exec) {x y : Int64} (hd : decode c.code pc = .ok (.lcmp, 1))  (hp : pc + 1 = pc') (k : Goes p e below F T (mkF m pc' ls (.int (lcmpW x y) :: st))) : Goes p e below F T (mkF m pc ls (.long y :: .long x :: st)) := by
  subst hp; exact Goes.fore (fun _ q => XS.lcmp X.here hx rfl hd rfl q) k
theorem gIinc (X : Stand p l e R s m args below meth c T locs cells slots) (hx : p.tables.exec = Jvm.exec) {k : Nat} {i : Int} {x v : Int32} {l' : Array Slot} (hd : decode c.code pc = .ok (.iinc k i, 3)) (hv : Int32.ofInt i = v) (hl : ls[k]? = some (.val (.int x))) (hl' : storeLocals ls k (.int (x + v)) = some l') (hp : pc + 3 = pc') (k : Goes p e below F T (mkF m pc' l' st)) : Goes p e below F T (mkF m pc ls st) := by
  subst hp; exact Goes.fore (fun _ q => XT.iincV X.here hx rfl v hd hv hl hl' q) k
theorem gDup (pc' : Nat) (X : Stand p l e R s m args below meth c T locs cells slots) (hx : p.tables.exec = Jvm.exec) {v : Value} (hd : decode c.code pc = .ok (.dup, 1)) (hv : v.category = 1) (hp : pc + 1 = pc') (k : Goes p e below F T (mkF m pc' ls (v :: v :: st))) : Goes p e below F T (mkF m pc ls (v :: st)) := by
  subst hp; exact Goes.fore (fun _ q => XS.dup X.here hx rfl hd rfl hv q) k
theorem gPop (pc' : Nat) (X : Stand p l e R s m args below meth c T locs cells slots) (hx : p.tables.exec = Jvm.exec) {v : Value} (hd : decode c.code pc = .ok (.pop, 1)) (hv : v.category = 1) (hp : pc + 1 = pc') (k : Goes p e below F T (mkF m pc' ls st)) : Goes p e below F T (mkF m pc ls (v :: st)) := by
  subst hp; exact Goes.fore (fun _ q => XS.pop X.here hx rfl hd rfl hv q) k
theorem gDupX1 (pc' : Nat) (X : Stand p l e R s m args below meth c T locs cells slots) (hx : p.tables.exec = Jvm.exec) {v w : Value} (hd : decode c.code pc = .ok (.dup_x1, 1)) (hv : v.category = 1) (hw : w.category = 1) (hp : pc + 1 = pc') (k : Goes p e below F T (mkF m pc' ls (v :: w :: v :: st))) : Goes p e below F T (mkF m pc ls (v :: w :: st)) := by
  subst hp; exact Goes.fore (fun _ q => XS.dupX1 X.here hx rfl hd rfl hv hw q) k
theorem gDup2 (pc' : Nat) (X : Stand p l e R s m args below meth c T locs cells slots) (hx : p.tables.exec = Jvm.exec) {v w : Value} (hd : decode c.code pc = .ok (.dup2, 1)) (hv : v.category = 1) (hw : w.category = 1) (hp : pc + 1 = pc') (k : Goes p e below F T (mkF m pc' ls (v :: w :: v :: w :: st))) : Goes p e below F T (mkF m pc ls (v :: w :: st)) := by
  subst hp; exact Goes.fore (fun _ q => XT.dup2 X.here hx rfl hd rfl hv hw q) k
theorem gGoto (X : Stand p l e R s m args below meth c T locs cells slots) (hx : p.tables.exec = Jvm.exec) {o : Int} (hd : decode c.code pc = .ok (.goto o, 3)) (ho : 0 ≤ (pc : Int) + o) (hp : ((pc : Int) + o).toNat = pc') (k : Goes p e below F T (mkF m pc' ls st)) : Goes p e below F T (mkF m pc ls st) := Goes.fore (fun _ q => XS.goto X.here hx rfl rfl hd ho hp q) k
theorem gIcmp (X : Stand p l e R s m args below meth c T locs cells slots) (hx : p.tables.exec = Jvm.exec) {cd : ClassFile.Cond} {o : Int} {x y : Int32} {pn : Nat} (hd : decode c.code pc = .ok (.if_icmp cd o, 3)) (ho : 0 ≤ (pc : Int) + o) (hp : ((pc : Int) + o).toNat = pc') (hn : pc + 3 = pn) (kY : if_icmp.holds cd x y = true → Goes p e below F T (mkF m pc' ls st)) (kN : if_icmp.holds cd x y = false → Goes p e below F T (mkF m pn ls st)) : Goes p e below F T (mkF m pc ls (.int y :: .int x :: st)) := by
  subst hn
  cases hb : if_icmp.holds cd x y
  · exact Goes.fore (fun _ q => XS.icmpNo X.here hx rfl hd rfl hb q) (kN hb)
  · exact Goes.fore (fun _ q => XS.icmpYes X.here hx rfl rfl hd rfl hb ho hp q) (kY hb)
theorem gIf (X : Stand p l e R s m args below meth c T locs cells slots) (hx : p.tables.exec = Jvm.exec) {cd : ClassFile.Cond} {o : Int} {x : Int32} {pn : Nat} (hd : decode c.code pc = .ok (.ifCond cd o, 3)) (ho : 0 ≤ (pc : Int) + o) (hp : ((pc : Int) + o).toNat = pc') (hn : pc + 3 = pn) (kY : ifCond.holds cd x = true → Goes p e below F T (mkF m pc' ls st)) (kN : ifCond.holds cd x = false → Goes p e below F T (mkF m pn ls st)) : Goes p e below F T (mkF m pc ls (.int x :: st)) := by
  subst hn
  cases hb : ifCond.holds cd x
  · exact Goes.fore (fun _ q => XS.ifNo X.here hx rfl hd rfl hb q) (kN hb)
  · exact Goes.fore (fun _ q => XS.ifYes X.here hx rfl rfl hd rfl hb ho hp q) (kY hb)
theorem gIcmpEq (X : Stand p l e R s m args below meth c T locs cells slots) (hx : p.tables.exec = Jvm.exec) {o : Int} {x y : Int32} {pn : Nat} (hd : decode c.code pc = .ok (.if_icmp .eq o, 3)) (ho : 0 ≤ (pc : Int) + o) (hp : ((pc : Int) + o).toNat = pc') (hn : pc + 3 = pn) (kY : x = y → Goes p e below F T (mkF m pc' ls st)) (kN : ¬ x = y → Goes p e below F T (mkF m pn ls st)) : Goes p e below F T (mkF m pc ls (.int y :: .int x :: st)) :=
  gIcmp X hx hd ho hp hn (fun q => kY (by simpa [if_icmp.holds, Int32.lt_iff_toInt_lt, Int32.le_iff_toInt_le] using q)) (fun q => kN (by simpa [if_icmp.holds, Int32.lt_iff_toInt_lt, Int32.le_iff_toInt_le] using q))
theorem gIfEq (X : Stand p l e R s m args below meth c T locs cells slots) (hx : p.tables.exec = Jvm.exec) {o : Int} {x : Int32} {pn : Nat} (hd : decode c.code pc = .ok (.ifCond .eq o, 3)) (ho : 0 ≤ (pc : Int) + o) (hp : ((pc : Int) + o).toNat = pc') (hn : pc + 3 = pn) (kY : x = 0 → Goes p e below F T (mkF m pc' ls st)) (kN : ¬ x = 0 → Goes p e below F T (mkF m pn ls st)) : Goes p e below F T (mkF m pc ls (.int x :: st)) :=
  gIf X hx hd ho hp hn (fun q => kY (by simpa [ifCond.holds, Int32.lt_iff_toInt_lt, Int32.le_iff_toInt_le] using q)) (fun q => kN (by simpa [ifCond.holds, Int32.lt_iff_toInt_lt, Int32.le_iff_toInt_le] using q))
theorem gIcmpNe (X : Stand p l e R s m args below meth c T locs cells slots) (hx : p.tables.exec = Jvm.exec) {o : Int} {x y : Int32} {pn : Nat} (hd : decode c.code pc = .ok (.if_icmp .ne o, 3)) (ho : 0 ≤ (pc : Int) + o) (hp : ((pc : Int) + o).toNat = pc') (hn : pc + 3 = pn) (kY : ¬ x = y → Goes p e below F T (mkF m pc' ls st)) (kN : x = y → Goes p e below F T (mkF m pn ls st)) : Goes p e below F T (mkF m pc ls (.int y :: .int x :: st)) :=
  gIcmp X hx hd ho hp hn (fun q => kY (by simpa [if_icmp.holds, Int32.lt_iff_toInt_lt, Int32.le_iff_toInt_le] using q)) (fun q => kN (by simpa [if_icmp.holds, Int32.lt_iff_toInt_lt, Int32.le_iff_toInt_le] using q))
theorem gIfNe (X : Stand p l e R s m args below meth c T locs cells slots) (hx : p.tables.exec = Jvm.exec) {o : Int} {x : Int32} {pn : Nat} (hd : decode c.code pc = .ok (.ifCond .ne o, 3)) (ho : 0 ≤ (pc : Int) + o) (hp : ((pc : Int) + o).toNat = pc') (hn : pc + 3 = pn) (kY : ¬ x = 0 → Goes p e below F T (mkF m pc' ls st)) (kN : x = 0 → Goes p e below F T (mkF m pn ls st)) : Goes p e below F T (mkF m pc ls (.int x :: st)) :=
  gIf X hx hd ho hp hn (fun q => kY (by simpa [ifCond.holds, Int32.lt_iff_toInt_lt, Int32.le_iff_toInt_le] using q)) (fun q => kN (by simpa [ifCond.holds, Int32.lt_iff_toInt_lt, Int32.le_iff_toInt_le] using q))
theorem gIcmpLt (X : Stand p l e R s m args below meth c T locs cells slots) (hx : p.tables.exec = Jvm.exec) {o : Int} {x y : Int32} {pn : Nat} (hd : decode c.code pc = .ok (.if_icmp .lt o, 3)) (ho : 0 ≤ (pc : Int) + o) (hp : ((pc : Int) + o).toNat = pc') (hn : pc + 3 = pn) (kY : x.toInt < y.toInt → Goes p e below F T (mkF m pc' ls st)) (kN : y.toInt ≤ x.toInt → Goes p e below F T (mkF m pn ls st)) : Goes p e below F T (mkF m pc ls (.int y :: .int x :: st)) :=
  gIcmp X hx hd ho hp hn (fun q => kY (by simpa [if_icmp.holds, Int32.lt_iff_toInt_lt, Int32.le_iff_toInt_le] using q)) (fun q => kN (by simpa [if_icmp.holds, Int32.lt_iff_toInt_lt, Int32.le_iff_toInt_le] using q))
theorem gIfLt (X : Stand p l e R s m args below meth c T locs cells slots) (hx : p.tables.exec = Jvm.exec) {o : Int} {x : Int32} {pn : Nat} (hd : decode c.code pc = .ok (.ifCond .lt o, 3)) (ho : 0 ≤ (pc : Int) + o) (hp : ((pc : Int) + o).toNat = pc') (hn : pc + 3 = pn) (kY : x.toInt < (0 : Int) → Goes p e below F T (mkF m pc' ls st)) (kN : (0 : Int) ≤ x.toInt → Goes p e below F T (mkF m pn ls st)) : Goes p e below F T (mkF m pc ls (.int x :: st)) :=
  gIf X hx hd ho hp hn (fun q => kY (by simpa [ifCond.holds, Int32.lt_iff_toInt_lt, Int32.le_iff_toInt_le] using q)) (fun q => kN (by simpa [ifCond.holds, Int32.lt_iff_toInt_lt, Int32.le_iff_toInt_le] using q))
theorem gIcmpGe (X : Stand p l e R s m args below meth c T locs cells slots) (hx : p.tables.exec = Jvm.exec) {o : Int} {x y : Int32} {pn : Nat} (hd : decode c.code pc = .ok (.if_icmp .ge o, 3)) (ho : 0 ≤ (pc : Int) + o) (hp : ((pc : Int) + o).toNat = pc') (hn : pc + 3 = pn) (kY : y.toInt ≤ x.toInt → Goes p e below F T (mkF m pc' ls st)) (kN : x.toInt < y.toInt → Goes p e below F T (mkF m pn ls st)) : Goes p e below F T (mkF m pc ls (.int y :: .int x :: st)) :=
  gIcmp X hx hd ho hp hn (fun q => kY (by simpa [if_icmp.holds, Int32.lt_iff_toInt_lt, Int32.le_iff_toInt_le] using q)) (fun q => kN (by simpa [if_icmp.holds, Int32.lt_iff_toInt_lt, Int32.le_iff_toInt_le] using q))
theorem gIfGe (X : Stand p l e R s m args below meth c T locs cells slots) (hx : p.tables.exec = Jvm.exec) {o : Int} {x : Int32} {pn : Nat} (hd : decode c.code pc = .ok (.ifCond .ge o, 3)) (ho : 0 ≤ (pc : Int) + o) (hp : ((pc : Int) + o).toNat = pc') (hn : pc + 3 = pn) (kY : (0 : Int) ≤ x.toInt → Goes p e below F T (mkF m pc' ls st)) (kN : x.toInt < (0 : Int) → Goes p e below F T (mkF m pn ls st)) : Goes p e below F T (mkF m pc ls (.int x :: st)) :=
  gIf X hx hd ho hp hn (fun q => kY (by simpa [ifCond.holds, Int32.lt_iff_toInt_lt, Int32.le_iff_toInt_le] using q)) (fun q => kN (by simpa [ifCond.holds, Int32.lt_iff_toInt_lt, Int32.le_iff_toInt_le] using q))
theorem gIcmpGt (X : Stand p l e R s m args below meth c T locs cells slots) (hx : p.tables.exec = Jvm.exec) {o : Int} {x y : Int32} {pn : Nat} (hd : decode c.code pc = .ok (.if_icmp .gt o, 3)) (ho : 0 ≤ (pc : Int) + o) (hp : ((pc : Int) + o).toNat = pc') (hn : pc + 3 = pn) (kY : y.toInt < x.toInt → Goes p e below F T (mkF m pc' ls st)) (kN : x.toInt ≤ y.toInt → Goes p e below F T (mkF m pn ls st)) : Goes p e below F T (mkF m pc ls (.int y :: .int x :: st)) :=
  gIcmp X hx hd ho hp hn (fun q => kY (by simpa [if_icmp.holds, Int32.lt_iff_toInt_lt, Int32.le_iff_toInt_le] using q)) (fun q => kN (by simpa [if_icmp.holds, Int32.lt_iff_toInt_lt, Int32.le_iff_toInt_le] using q))
theorem gIfGt (X : Stand p l e R s m args below meth c T locs cells slots) (hx : p.tables.exec = Jvm.exec) {o : Int} {x : Int32} {pn : Nat} (hd : decode c.code pc = .ok (.ifCond .gt o, 3)) (ho : 0 ≤ (pc : Int) + o) (hp : ((pc : Int) + o).toNat = pc') (hn : pc + 3 = pn) (kY : (0 : Int) < x.toInt → Goes p e below F T (mkF m pc' ls st)) (kN : x.toInt ≤ (0 : Int) → Goes p e below F T (mkF m pn ls st)) : Goes p e below F T (mkF m pc ls (.int x :: st)) :=
  gIf X hx hd ho hp hn (fun q => kY (by simpa [ifCond.holds, Int32.lt_iff_toInt_lt, Int32.le_iff_toInt_le] using q)) (fun q => kN (by simpa [ifCond.holds, Int32.lt_iff_toInt_lt, Int32.le_iff_toInt_le] using q))
theorem gIcmpLe (X : Stand p l e R s m args below meth c T locs cells slots) (hx : p.tables.exec = Jvm.exec) {o : Int} {x y : Int32} {pn : Nat} (hd : decode c.code pc = .ok (.if_icmp .le o, 3)) (ho : 0 ≤ (pc : Int) + o) (hp : ((pc : Int) + o).toNat = pc') (hn : pc + 3 = pn) (kY : x.toInt ≤ y.toInt → Goes p e below F T (mkF m pc' ls st)) (kN : y.toInt < x.toInt → Goes p e below F T (mkF m pn ls st)) : Goes p e below F T (mkF m pc ls (.int y :: .int x :: st)) :=
  gIcmp X hx hd ho hp hn (fun q => kY (by simpa [if_icmp.holds, Int32.lt_iff_toInt_lt, Int32.le_iff_toInt_le] using q)) (fun q => kN (by simpa [if_icmp.holds, Int32.lt_iff_toInt_lt, Int32.le_iff_toInt_le] using q))
theorem gIfLe (X : Stand p l e R s m args below meth c T locs cells slots) (hx : p.tables.exec = Jvm.exec) {o : Int} {x : Int32} {pn : Nat} (hd : decode c.code pc = .ok (.ifCond .le o, 3)) (ho : 0 ≤ (pc : Int) + o) (hp : ((pc : Int) + o).toNat = pc') (hn : pc + 3 = pn) (kY : x.toInt ≤ (0 : Int) → Goes p e below F T (mkF m pc' ls st)) (kN : (0 : Int) < x.toInt → Goes p e below F T (mkF m pn ls st)) : Goes p e below F T (mkF m pc ls (.int x :: st)) :=
  gIf X hx hd ho hp hn (fun q => kY (by simpa [ifCond.holds, Int32.lt_iff_toInt_lt, Int32.le_iff_toInt_le] using q)) (fun q => kN (by simpa [ifCond.holds, Int32.lt_iff_toInt_lt, Int32.le_iff_toInt_le] using q))
theorem gIcmpEqT (X : Stand p l e R s m args below meth c T locs cells slots) (hx : p.tables.exec = Jvm.exec) {o : Int} {x y : Int32} {pn : Nat} (hd : decode c.code pc = .ok (.if_icmp .eq o, 3)) (ho : 0 ≤ (pc : Int) + o) (hp : ((pc : Int) + o).toNat = pc') (hn : pc + 3 = pn) (kY : x.toInt = y.toInt → Goes p e below F T (mkF m pc' ls st)) (kN : ¬ x.toInt = y.toInt → Goes p e below F T (mkF m pn ls st)) : Goes p e below F T (mkF m pc ls (.int y :: .int x :: st)) :=
  gIcmpEq X hx hd ho hp hn (fun q => kY ((Int32.toInt_inj (x := x) (y := y)).mpr q)) (fun q => kN (fun z => q ((Int32.toInt_inj (x := x) (y := y)).mp z)))
theorem gIfEqT (X : Stand p l e R s m args below meth c T locs cells slots) (hx : p.tables.exec = Jvm.exec) {o : Int} {x : Int32} {pn : Nat} (hd : decode c.code pc = .ok (.ifCond .eq o, 3)) (ho : 0 ≤ (pc : Int) + o) (hp : ((pc : Int) + o).toNat = pc') (hn : pc + 3 = pn) (kY : x.toInt = (0 : Int) → Goes p e below F T (mkF m pc' ls st)) (kN : ¬ x.toInt = (0 : Int) → Goes p e below F T (mkF m pn ls st)) : Goes p e below F T (mkF m pc ls (.int x :: st)) :=
  gIfEq X hx hd ho hp hn (fun q => kY ((Int32.toInt_inj (x := x) (y := 0)).mpr q)) (fun q => kN (fun z => q ((Int32.toInt_inj (x := x) (y := 0)).mp z)))
theorem gIcmpNeT (X : Stand p l e R s m args below meth c T locs cells slots) (hx : p.tables.exec = Jvm.exec) {o : Int} {x y : Int32} {pn : Nat} (hd : decode c.code pc = .ok (.if_icmp .ne o, 3)) (ho : 0 ≤ (pc : Int) + o) (hp : ((pc : Int) + o).toNat = pc') (hn : pc + 3 = pn) (kY : ¬ x.toInt = y.toInt → Goes p e below F T (mkF m pc' ls st)) (kN : x.toInt = y.toInt → Goes p e below F T (mkF m pn ls st)) : Goes p e below F T (mkF m pc ls (.int y :: .int x :: st)) :=
  gIcmpNe X hx hd ho hp hn (fun q => kY (fun z => q ((Int32.toInt_inj (x := x) (y := y)).mp z))) (fun q => kN ((Int32.toInt_inj (x := x) (y := y)).mpr q))
theorem gIfNeT (X : Stand p l e R s m args below meth c T locs cells slots) (hx : p.tables.exec = Jvm.exec) {o : Int} {x : Int32} {pn : Nat} (hd : decode c.code pc = .ok (.ifCond .ne o, 3)) (ho : 0 ≤ (pc : Int) + o) (hp : ((pc : Int) + o).toNat = pc') (hn : pc + 3 = pn) (kY : ¬ x.toInt = (0 : Int) → Goes p e below F T (mkF m pc' ls st)) (kN : x.toInt = (0 : Int) → Goes p e below F T (mkF m pn ls st)) : Goes p e below F T (mkF m pc ls (.int x :: st)) :=
  gIfNe X hx hd ho hp hn (fun q => kY (fun z => q ((Int32.toInt_inj (x := x) (y := 0)).mp z))) (fun q => kN ((Int32.toInt_inj (x := x) (y := 0)).mpr q))
theorem gAcmp (X : Stand p l e R s m args below meth c T locs cells slots) (hx : p.tables.exec = Jvm.exec) {cd : ClassFile.ACond} {o : Int} {x y : Value} {pn : Nat} (hd : decode c.code pc = .ok (.if_acmp cd o, 3)) (h1 : x.isRef = true) (h2 : y.isRef = true) (ho : 0 ≤ (pc : Int) + o) (hp : ((pc : Int) + o).toNat = pc') (hn : pc + 3 = pn) (kS : x = y → Goes p e below F T (mkF m (match cd with | .eq => pc' | .ne => pn) ls st)) (kD : ¬ x = y → Goes p e below F T (mkF m (match cd with | .eq => pn | .ne => pc') ls st)) : Goes p e below F T (mkF m pc ls (y :: x :: st)) := by
  subst hn hp
  by_cases q : x = y
  · refine Goes.fore (fun _ k => acmp X hx rfl h1 h2 (same := true) rfl hd rfl (decide_eq_true q) ho rfl k) ?_
    have := kS q; cases cd <;> simpa [acV] using this
  · refine Goes.fore (fun _ k => acmp X hx rfl h1 h2 (same := false) rfl hd rfl (decide_eq_false q) ho rfl k) ?_
    have := kD q; cases cd <;> simpa [acV] using this
theorem gAcmpEq (X : Stand p l e R s m args below meth c T locs cells slots) (hx : p.tables.exec = Jvm.exec) {o : Int} {x y : Value} {pn : Nat} (hd : decode c.code pc = .ok (.if_acmp .eq o, 3)) (h1 : x.isRef = true) (h2 : y.isRef = true) (ho : 0 ≤ (pc : Int) + o) (hp : ((pc : Int) + o).toNat = pc') (hn : pc + 3 = pn) (kY : x = y → Goes p e below F T (mkF m pc' ls st)) (kN : ¬ x = y → Goes p e below F T (mkF m pn ls st)) : Goes p e below F T (mkF m pc ls (y :: x :: st)) := gAcmp X hx hd h1 h2 ho hp hn kY kN
theorem gAcmpNe (X : Stand p l e R s m args below meth c T locs cells slots) (hx : p.tables.exec = Jvm.exec) {o : Int} {x y : Value} {pn : Nat} (hd : decode c.code pc = .ok (.if_acmp .ne o, 3)) (h1 : x.isRef = true) (h2 : y.isRef = true) (ho : 0 ≤ (pc : Int) + o) (hp : ((pc : Int) + o).toNat = pc') (hn : pc + 3 = pn) (kY : ¬ x = y → Goes p e below F T (mkF m pc' ls st)) (kN : x = y → Goes p e below F T (mkF m pn ls st)) : Goes p e below F T (mkF m pc ls (y :: x :: st)) := gAcmp X hx hd h1 h2 ho hp hn kN kY
theorem gIfnullZ (X : Stand p l e R s m args below meth c T locs cells slots) (hx : p.tables.exec = Jvm.exec) {o : Int} (hd : decode c.code pc = .ok (.ifnull o, 3)) (ho : 0 ≤ (pc : Int) + o) (hp : ((pc : Int) + o).toNat = pc') (k : Goes p e below F T (mkF m pc' ls st)) : Goes p e below F T (mkF m pc ls (.null :: st)) := Goes.fore (fun _ q => XS.ifnullYes X.here hx rfl rfl hd rfl ho hp q) k
theorem gIfnullR (X : Stand p l e R s m args below meth c T locs cells slots) (hx : p.tables.exec = Jvm.exec) {o : Int} {b : Addr} (hd : decode c.code pc = .ok (.ifnull o, 3)) (hp : pc + 3 = pc') (k : Goes p e below F T (mkF m pc' ls st)) : Goes p e below F T (mkF m pc ls (.ref b :: st)) := by
  subst hp; exact Goes.fore (fun _ q => XS.ifnullNo X.here hx rfl hd rfl q) k
theorem gIfnonnullZ (X : Stand p l e R s m args below meth c T locs cells slots) (hx : p.tables.exec = Jvm.exec) {o : Int} (hd : decode c.code pc = .ok (.ifnonnull o, 3)) (hp : pc + 3 = pc') (k : Goes p e below F T (mkF m pc' ls st)) : Goes p e below F T (mkF m pc ls (.null :: st)) := by
  subst hp; exact Goes.fore (fun _ q => XS.ifnonnullNo X.here hx rfl hd rfl q) k
theorem gIfnonnullR (X : Stand p l e R s m args below meth c T locs cells slots) (hx : p.tables.exec = Jvm.exec) {o : Int} {b : Addr} (hd : decode c.code pc = .ok (.ifnonnull o, 3)) (ho : 0 ≤ (pc : Int) + o) (hp : ((pc : Int) + o).toNat = pc') (k : Goes p e below F T (mkF m pc' ls st)) : Goes p e below F T (mkF m pc ls (.ref b :: st)) := Goes.fore (fun _ q => XS.ifnonnullYes X.here hx rfl rfl hd rfl ho hp q) k
theorem gRet0 {v : Option Value} (X : Stand p l e R s m args below meth c T locs cells slots) (hx : p.tables.exec = Jvm.exec) (hlk : meth.locks = false) (hv : meth.sig.returnType = none → v = none) (hk : cells ≤ kc) (hs : slots ≤ ks) (hq : Q v T.heap locs) {g : JFrame}
    (k : ∀ fs, (∀ (f : JFrame) (acts : List Action), f.method = m → f.locked = none → f.entered = [] → (doReturn e (T.setTop f) acts v).1 = T.setFrames fs) → Steps p.tables e below (T.setTop g) (T.setFrames fs)) : Goes p e below (FinN s kc ks Q) T g := by
  obtain ⟨fs, hr, hrun, hended, hW, hsame⟩ := X.leave hv hlk
  exact ⟨_, _, k fs hr, hrun, hended, _, _, rfl, hq, ⟨_, rfl⟩, hW, hsame.mono hk hs⟩
theorem gRetV (X : Stand p l e R s m args below meth c T locs cells slots) (hx : p.tables.exec = Jvm.exec) (hlk : meth.locks = false) (hret : meth.sig.returnType = none) (hd : decode c.code pc = .ok (.return_, 1)) (hk : cells ≤ kc) (hs : slots ≤ ks) (hq : Q none T.heap locs) : Goes p e below (FinN s kc ks Q) T (mkF m pc ls []) :=
  gRet0 X hx hlk (fun _ => rfl) hk hs hq fun fs hr => X.returnOut hx hret hd hr
theorem gRetN (X : Stand p l e R s m args below meth c T locs cells slots) (hx : p.tables.exec = Jvm.exec) (hlk : meth.locks = false) {t : FieldType} (hret : meth.sig.returnType = some t) (ht : t = .boolean ∨ t = .byte ∨ t = .char ∨ t = .short) {z w : Int32} (hd : decode c.code pc = .ok (.ireturn, 1)) (hw : nar t z = w) (hk : cells ≤ kc) (hs : slots ≤ ks) (hq : Q (some (.int w)) T.heap locs) : Goes p e below (FinN s kc ks Q) T (mkF m pc ls (.int z :: st)) := by
  subst hw
  exact gRet0 X hx hlk (fun h => by rw [hret] at h; cases h) hk hs hq fun fs hr => retN X hx hret ht hd hr
theorem gRetI (X : Stand p l e R s m args below meth c T locs cells slots) (hx : p.tables.exec = Jvm.exec) (hlk : meth.locks = false) (hret : meth.sig.returnType = some .int) {z : Int32} (hd : decode c.code pc = .ok (.ireturn, 1)) (hk : cells ≤ kc) (hs : slots ≤ ks) (hq : Q (some (.int z)) T.heap locs) : Goes p e below (FinN s kc ks Q) T (mkF m pc ls (.int z :: st)) :=
  gRet0 X hx hlk (fun h => by rw [hret] at h; cases h) hk hs hq fun fs hr => retOut X hx hret rfl (Or.inl ⟨rfl, Or.inl rfl, z, rfl⟩) hd hr
theorem gRetJ (X : Stand p l e R s m args below meth c T locs cells slots) (hx : p.tables.exec = Jvm.exec) (hlk : meth.locks = false) (hret : meth.sig.returnType = some .long) {z : Int64} (hd : decode c.code pc = .ok (.lreturn, 1)) (hk : cells ≤ kc) (hs : slots ≤ ks) (hq : Q (some (.long z)) T.heap locs) : Goes p e below (FinN s kc ks Q) T (mkF m pc ls (.long z :: st)) :=
  gRet0 X hx hlk (fun h => by rw [hret] at h; cases h) hk hs hq fun fs hr => retOut X hx hret rfl (Or.inr (Or.inl ⟨rfl, rfl, z, rfl⟩)) hd hr
theorem gRetA (X : Stand p l e R s m args below meth c T locs cells slots) (hx : p.tables.exec = Jvm.exec) (hlk : meth.locks = false) {t : FieldType} (hret : meth.sig.returnType = some t) (ht : t.isReference = true) {v : Value} (hv : v.isRef = true) (hd : decode c.code pc = .ok (.areturn, 1)) (hk : cells ≤ kc) (hs : slots ≤ ks) (hq : Q (some v) T.heap locs) : Goes p e below (FinN s kc ks Q) T (mkF m pc ls (v :: st)) :=
  gRet0 X hx hlk (fun h => by rw [hret] at h; cases h) hk hs hq fun fs hr => retOut X hx hret (by cases t <;> first | rfl | cases ht) (Or.inr (Or.inr (Or.inr (Or.inr ⟨rfl, ht, hv⟩)))) hd hr
theorem gGetS (X : Stand p l e R s m args below meth c T locs cells slots) (hx : p.tables.exec = Jvm.exec) (hZ : Z.Warmed39 s.vm) {own R0 O n d : String} {i : Nat} (hown : s.vm.findClass own = some m.cls) (w : (Jvm.Cond.fieldLink own i R0 n d).before a0 Z = true) (via : Via Z R0 O n d) (eT : T.heap = h) {v : Value} (Fa : Sta Z h O n d v) (hd : decode c.code pc = .ok (.getstatic i, 3)) (hp : pc + 3 = pc')
    (k : ∀ T', Stand p l e R s m args below meth c T' locs cells slots → T'.heap = h → Goes p e below F T' (mkF m pc' ls (v :: st))) : Goes p e below F T (mkF m pc ls st) := by
  subst hp
  obtain ⟨T', X', e', st'⟩ := getS X hx hZ (host := "") hown w via eT Fa (g := mkF m pc ls st) rfl hd
  exact Goes.fore st' (k T' X' e')
theorem gGetF (X : Stand p l e R s m args below meth c T locs cells slots) (hx : p.tables.exec = Jvm.exec) (hZ : Z.Warmed39 s.vm) {own R0 O n d : String} {i : Nat} (hown : s.vm.findClass own = some m.cls) (w : (Jvm.Cond.fieldLink own i R0 n d).before a0 Z = true) (via : Via Z R0 O n d) (eT : T.heap = h) {a : Addr} {v : Value} (Fa : Fld Z h a O n d v) (hd : decode c.code pc = .ok (.getfield i, 3)) (hp : pc + 3 = pc')
    (k : ∀ T', Stand p l e R s m args below meth c T' locs cells slots → T'.heap = h → Goes p e below F T' (mkF m pc' ls (v :: st))) : Goes p e below F T (mkF m pc ls (.ref a :: st)) := by
  subst hp
  obtain ⟨T', X', e', st'⟩ := getF X hx hZ (host := "") hown (Or.inl w) via eT Fa (g := mkF m pc ls (.ref a :: st)) rfl rfl hd
  exact Goes.fore st' (k T' X' e')
theorem gCallS (X : Stand p l e R s m args below meth c T locs cells slots) (hx : p.tables.exec = Jvm.exec) (hZ : Z.Warmed39 s.vm) {y : MethodName} {bytes : ByteArray} {maxL : Nat} {ret : Option FieldType} {rm : Room} {own : String} {i : Nat} {Qc : Option Value → Heap → List Loc → Prop} (hown : s.vm.findClass own = some m.cls) (eT : T.heap = h) (hml : ls.size = c.maxLocals)
    (w1 : (Jvm.Cond.methodLink own i y).before a0 Z = true) (w2 : (Jvm.Cond.static y).before a0 Z = true) (w3 : (Jvm.Cond.initialized y.cls).before a0 Z = true) (w4 : (Jvm.Cond.code y bytes maxL ret).before a0 Z = true) (hy : y.cls ≠ "java/lang/invoke/MethodHandle" ∧ y.cls ≠ "java/lang/invoke/VarHandle")
    {argsL : List Value} {stk : List Value} (hC : Ctr l Z y bytes maxL ret [] rm argsL.toArray h Qc) (hlen : ∀ sig, parseMethodDescriptor y.desc = some sig → argsL.length = sig.parameters.length) (hd : decode c.code pc = .ok (.invokestatic i, 3)) (hp : pc + 3 = pc') (hst : stk = argsL.reverse ++ st)
    (hf : rm.frames + 1 ≤ R.frames) {W : Nat} (hW : (st.map fun v => v.category).sum ≤ W) (hlo : W + (maxL + 11) + rm.locals ≤ R.locals) (hce : cells + rm.cells ≤ R.cells) (hsl : slots + rm.slots ≤ R.slots)
    (k : ∀ T' v L, Stand p l e R s m args below meth c T' (locs ++ L) (cells + rm.cells) (slots + rm.slots) → Qc v T'.heap L → Goes p e below F T' (mkF m pc' ls (v.toList ++ st))) : Goes p e below F T (mkF m pc ls stk) := by
  subst hp hst
  obtain ⟨v, _, ⟨T', L', k', n'⟩, -, X', ⟨Lc, hQ, l1, y1, z1⟩, st'⟩ := Jvm.LawKit.callS X hx (y := y) hown (mvT hZ w1) (mvT hZ w2) (mvT hZ w3) (mvT hZ w4) hy (backOf (W := W) hC hZ w4 w3 hf hlo) (g := mkF m pc ls (argsL.reverse ++ st)) rfl hml (argsL := argsL) (rest := st) hlen rfl (by show 2 * 0 + _ ≤ _; omega) hd (fun _ _ => ⟨rfl, eT, hce, hsl⟩)
  dsimp only [Pt.U, Pt.locs, Pt.cells, Pt.slots] at X' l1 y1 z1 st' hQ
  subst l1 y1 z1
  exact Goes.fore st' (k T' v Lc X' hQ)
theorem gCallSJ (X : Stand p l e R s m args below meth c T locs cells slots) (hx : p.tables.exec = Jvm.exec) (hZ : Z.Warmed39 s.vm) {y : MethodName} {bytes : ByteArray} {maxL : Nat} {ret : Option FieldType} {rm : Room} {own : String} {i : Nat} {w : Value} (hown : s.vm.findClass own = some m.cls) (eT : T.heap = h) (hml : ls.size = c.maxLocals)
    (w1 : (Jvm.Cond.methodLink own i y).before a0 Z = true) (w2 : (Jvm.Cond.static y).before a0 Z = true) (w3 : (Jvm.Cond.initialized y.cls).before a0 Z = true) (w4 : (Jvm.Cond.code y bytes maxL ret).before a0 Z = true) (hy : y.cls ≠ "java/lang/invoke/MethodHandle" ∧ y.cls ≠ "java/lang/invoke/VarHandle")
    {argsL : List Value} {stk : List Value} (hC : Ctr l Z y bytes maxL ret [] rm argsL.toArray h (Just h w)) (hlen : ∀ sig, parseMethodDescriptor y.desc = some sig → argsL.length = sig.parameters.length) (hd : decode c.code pc = .ok (.invokestatic i, 3)) (hp : pc + 3 = pc') (hst : stk = argsL.reverse ++ st)
    (h0c : rm.cells = 0) (h0s : rm.slots = 0) (hf : rm.frames + 1 ≤ R.frames) {W : Nat} (hW : (st.map fun v => v.category).sum ≤ W) (hlo : W + (maxL + 11) + rm.locals ≤ R.locals) (hce : cells + rm.cells ≤ R.cells) (hsl : slots + rm.slots ≤ R.slots)
    (k : ∀ T', Stand p l e R s m args below meth c T' locs cells slots → T'.heap = h → Goes p e below F T' (mkF m pc' ls (w :: st))) : Goes p e below F T (mkF m pc ls stk) := by
  refine gCallS X hx hZ hown eT hml w1 w2 w3 w4 hy hC hlen hd hp hst hf hW hlo hce hsl ?_
  rintro T' v L X' ⟨rfl, e', rfl⟩
  rw [List.append_nil, h0c, h0s] at X'
  exact k T' X' e'
theorem gCallV (X : Stand p l e R s m args below meth c T locs cells slots) (hx : p.tables.exec = Jvm.exec) (hZ : Z.Warmed39 s.vm) {y : MethodName} {bytes : ByteArray} {maxL : Nat} {ret : Option FieldType} {rm : Room} {own : String} {i : Nat} {Qc : Option Value → Heap → List Loc → Prop} {C : String} {a : Addr} (hown : s.vm.findClass own = some m.cls) (eT : T.heap = h) (hml : ls.size = c.maxLocals) (E : Exa Z h a C)
    (w1 : (Jvm.Cond.methodLink own i y).before a0 Z = true) (w2 : (Jvm.Cond.declares y).before a0 Z = true) (w5 : (Jvm.Cond.selects C y y).before a0 Z = true) (w6 : (Jvm.Cond.instanceMethod y).before a0 Z = true) (w3 : (Jvm.Cond.initialized y.cls).before a0 Z = true) (w4 : (Jvm.Cond.code y bytes maxL ret).before a0 Z = true) (hy : y.cls ≠ "java/lang/invoke/MethodHandle" ∧ y.cls ≠ "java/lang/invoke/VarHandle")
    {argsL : List Value} {stk : List Value} (hC : Ctr l Z y bytes maxL ret [] rm (.ref a :: argsL).toArray h Qc) (hlen : ∀ sig, parseMethodDescriptor y.desc = some sig → argsL.length = sig.parameters.length) (hd : decode c.code pc = .ok (.invokevirtual i, 3)) (hp : pc + 3 = pc') (hst : stk = argsL.reverse ++ .ref a :: st)
    (hf : rm.frames + 1 ≤ R.frames) {W : Nat} (hW : (st.map fun v => v.category).sum ≤ W) (hlo : W + (maxL + 11) + rm.locals ≤ R.locals) (hce : cells + rm.cells ≤ R.cells) (hsl : slots + rm.slots ≤ R.slots)
    (k : ∀ T' v L, Stand p l e R s m args below meth c T' (locs ++ L) (cells + rm.cells) (slots + rm.slots) → Qc v T'.heap L → Goes p e below F T' (mkF m pc' ls (v.toList ++ st))) : Goes p e below F T (mkF m pc ls stk) := by
  subst hp hst
  obtain ⟨cq, kq, qa, qb, qc⟩ := isOf hZ eT E
  obtain ⟨v, _, ⟨T', L', k', n'⟩, -, X', ⟨Lc, hQ, l1, y1, z1⟩, st'⟩ := X.virtualBack hx (y := y) (z := y) hown (mvT hZ w1) (mvT hZ w2) (notFace_of_selects (args := #[]) (mvT hZ w5)) (mvT hZ w5) (mvT hZ w6) hy (backOf (W := W) hC hZ w4 w3 hf hlo) qa qc (g := mkF m pc ls (argsL.reverse ++ .ref a :: st)) rfl hml (Steps.refl _) (argsL := argsL) (rest := st) hlen rfl (by show 2 * 0 + _ ≤ _; omega) hd (fun _ _ => ⟨rfl, eT, hce, hsl⟩)
  dsimp only [Pt.U, Pt.locs, Pt.cells, Pt.slots] at X' l1 y1 z1 st' hQ
  subst l1 y1 z1
  exact Goes.tr st' (k T' v Lc X' hQ)
theorem gCallVJ (X : Stand p l e R s m args below meth c T locs cells slots) (hx : p.tables.exec = Jvm.exec) (hZ : Z.Warmed39 s.vm) {y : MethodName} {bytes : ByteArray} {maxL : Nat} {ret : Option FieldType} {rm : Room} {own : String} {i : Nat} {w : Value} {C : String} {a : Addr} (hown : s.vm.findClass own = some m.cls) (eT : T.heap = h) (hml : ls.size = c.maxLocals) (E : Exa Z h a C)
    (w1 : (Jvm.Cond.methodLink own i y).before a0 Z = true) (w2 : (Jvm.Cond.declares y).before a0 Z = true) (w5 : (Jvm.Cond.selects C y y).before a0 Z = true) (w6 : (Jvm.Cond.instanceMethod y).before a0 Z = true) (w3 : (Jvm.Cond.initialized y.cls).before a0 Z = true) (w4 : (Jvm.Cond.code y bytes maxL ret).before a0 Z = true) (hy : y.cls ≠ "java/lang/invoke/MethodHandle" ∧ y.cls ≠ "java/lang/invoke/VarHandle")
    {argsL : List Value} {stk : List Value} (hC : Ctr l Z y bytes maxL ret [] rm (.ref a :: argsL).toArray h (Just h w)) (hlen : ∀ sig, parseMethodDescriptor y.desc = some sig → argsL.length = sig.parameters.length) (hd : decode c.code pc = .ok (.invokevirtual i, 3)) (hp : pc + 3 = pc') (hst : stk = argsL.reverse ++ .ref a :: st)
    (h0c : rm.cells = 0) (h0s : rm.slots = 0) (hf : rm.frames + 1 ≤ R.frames) {W : Nat} (hW : (st.map fun v => v.category).sum ≤ W) (hlo : W + (maxL + 11) + rm.locals ≤ R.locals) (hce : cells + rm.cells ≤ R.cells) (hsl : slots + rm.slots ≤ R.slots)
    (k : ∀ T', Stand p l e R s m args below meth c T' locs cells slots → T'.heap = h → Goes p e below F T' (mkF m pc' ls (w :: st))) : Goes p e below F T (mkF m pc ls stk) := by
  refine gCallV X hx hZ hown eT hml E w1 w2 w5 w6 w3 w4 hy hC hlen hd hp hst hf hW hlo hce hsl ?_
  rintro T' v L X' ⟨rfl, e', rfl⟩
  rw [List.append_nil, h0c, h0s] at X'
  exact k T' X' e'
theorem gLIfEq (X : Stand p l e R s m args below meth c T locs cells slots) (hx : p.tables.exec = Jvm.exec) {o : Int} {x y : Int64} {pn : Nat} (hd : decode c.code pc = .ok (.ifCond .eq o, 3)) (ho : 0 ≤ (pc : Int) + o) (hp : ((pc : Int) + o).toNat = pc') (hn : pc + 3 = pn) (kY : x = y → Goes p e below F T (mkF m pc' ls st)) (kN : ¬ x = y → Goes p e below F T (mkF m pn ls st)) : Goes p e below F T (mkF m pc ls (.int (lcmpW x y) :: st)) := by
  have z := lw_eq x y
  refine gIf X hx hd ho hp hn (fun q => kY ?_) (fun q => kN ?_) <;> simp only [ifCond.holds, decide_eq_true_eq, decide_eq_false_iff_not, beq_iff_eq, bne_iff_ne, Int32.not_lt, Int32.not_le, Int32.lt_iff_toInt_lt, Int32.le_iff_toInt_le, Int64.lt_iff_toInt_lt, ← Int32.toInt_inj, beq_eq_false_iff_ne, bne_eq_false_iff_eq, ne_eq] at q z ⊢ <;> first | exact z.mp q | exact fun k => q (z.mpr k) | omega
theorem gLIfNe (X : Stand p l e R s m args below meth c T locs cells slots) (hx : p.tables.exec = Jvm.exec) {o : Int} {x y : Int64} {pn : Nat} (hd : decode c.code pc = .ok (.ifCond .ne o, 3)) (ho : 0 ≤ (pc : Int) + o) (hp : ((pc : Int) + o).toNat = pc') (hn : pc + 3 = pn) (kY : ¬ x = y → Goes p e below F T (mkF m pc' ls st)) (kN : x = y → Goes p e below F T (mkF m pn ls st)) : Goes p e below F T (mkF m pc ls (.int (lcmpW x y) :: st)) := by
  have z := lw_eq x y
  refine gIf X hx hd ho hp hn (fun q => kY ?_) (fun q => kN ?_) <;> simp only [ifCond.holds, decide_eq_true_eq, decide_eq_false_iff_not, beq_iff_eq, bne_iff_ne, Int32.not_lt, Int32.not_le, Int32.lt_iff_toInt_lt, Int32.le_iff_toInt_le, Int64.lt_iff_toInt_lt, ← Int32.toInt_inj, beq_eq_false_iff_ne, bne_eq_false_iff_eq, ne_eq] at q z ⊢ <;> first | exact z.mp q | exact fun k => q (z.mpr k) | omega
theorem gLIfLt (X : Stand p l e R s m args below meth c T locs cells slots) (hx : p.tables.exec = Jvm.exec) {o : Int} {x y : Int64} {pn : Nat} (hd : decode c.code pc = .ok (.ifCond .lt o, 3)) (ho : 0 ≤ (pc : Int) + o) (hp : ((pc : Int) + o).toNat = pc') (hn : pc + 3 = pn) (kY : x.toInt < y.toInt → Goes p e below F T (mkF m pc' ls st)) (kN : y.toInt ≤ x.toInt → Goes p e below F T (mkF m pn ls st)) : Goes p e below F T (mkF m pc ls (.int (lcmpW x y) :: st)) := by
  have z := lw_lt x y
  refine gIf X hx hd ho hp hn (fun q => kY ?_) (fun q => kN ?_) <;> simp only [ifCond.holds, decide_eq_true_eq, decide_eq_false_iff_not, beq_iff_eq, bne_iff_ne, Int32.not_lt, Int32.not_le, Int32.lt_iff_toInt_lt, Int32.le_iff_toInt_le, Int64.lt_iff_toInt_lt, ← Int32.toInt_inj, beq_eq_false_iff_ne, bne_eq_false_iff_eq, ne_eq] at q z ⊢ <;> first | exact z.mp q | exact fun k => q (z.mpr k) | omega
theorem gLIfGe (X : Stand p l e R s m args below meth c T locs cells slots) (hx : p.tables.exec = Jvm.exec) {o : Int} {x y : Int64} {pn : Nat} (hd : decode c.code pc = .ok (.ifCond .ge o, 3)) (ho : 0 ≤ (pc : Int) + o) (hp : ((pc : Int) + o).toNat = pc') (hn : pc + 3 = pn) (kY : y.toInt ≤ x.toInt → Goes p e below F T (mkF m pc' ls st)) (kN : x.toInt < y.toInt → Goes p e below F T (mkF m pn ls st)) : Goes p e below F T (mkF m pc ls (.int (lcmpW x y) :: st)) := by
  have z := lw_lt x y
  refine gIf X hx hd ho hp hn (fun q => kY ?_) (fun q => kN ?_) <;> simp only [ifCond.holds, decide_eq_true_eq, decide_eq_false_iff_not, beq_iff_eq, bne_iff_ne, Int32.not_lt, Int32.not_le, Int32.lt_iff_toInt_lt, Int32.le_iff_toInt_le, Int64.lt_iff_toInt_lt, ← Int32.toInt_inj, beq_eq_false_iff_ne, bne_eq_false_iff_eq, ne_eq] at q z ⊢ <;> first | exact z.mp q | exact fun k => q (z.mpr k) | omega
theorem gLIfGt (X : Stand p l e R s m args below meth c T locs cells slots) (hx : p.tables.exec = Jvm.exec) {o : Int} {x y : Int64} {pn : Nat} (hd : decode c.code pc = .ok (.ifCond .gt o, 3)) (ho : 0 ≤ (pc : Int) + o) (hp : ((pc : Int) + o).toNat = pc') (hn : pc + 3 = pn) (kY : y.toInt < x.toInt → Goes p e below F T (mkF m pc' ls st)) (kN : x.toInt ≤ y.toInt → Goes p e below F T (mkF m pn ls st)) : Goes p e below F T (mkF m pc ls (.int (lcmpW x y) :: st)) := by
  have z := lw_gt x y
  refine gIf X hx hd ho hp hn (fun q => kY ?_) (fun q => kN ?_) <;> simp only [ifCond.holds, decide_eq_true_eq, decide_eq_false_iff_not, beq_iff_eq, bne_iff_ne, Int32.not_lt, Int32.not_le, Int32.lt_iff_toInt_lt, Int32.le_iff_toInt_le, Int64.lt_iff_toInt_lt, ← Int32.toInt_inj, beq_eq_false_iff_ne, bne_eq_false_iff_eq, ne_eq] at q z ⊢ <;> first | exact z.mp q | exact fun k => q (z.mpr k) | omega
theorem gLIfLe (X : Stand p l e R s m args below meth c T locs cells slots) (hx : p.tables.exec = Jvm.exec) {o : Int} {x y : Int64} {pn : Nat} (hd : decode c.code pc = .ok (.ifCond .le o, 3)) (ho : 0 ≤ (pc : Int) + o) (hp : ((pc : Int) + o).toNat = pc') (hn : pc + 3 = pn) (kY : x.toInt ≤ y.toInt → Goes p e below F T (mkF m pc' ls st)) (kN : y.toInt < x.toInt → Goes p e below F T (mkF m pn ls st)) : Goes p e below F T (mkF m pc ls (.int (lcmpW x y) :: st)) := by
  have z := lw_gt x y
  refine gIf X hx hd ho hp hn (fun q => kY ?_) (fun q => kN ?_) <;> simp only [ifCond.holds, decide_eq_true_eq, decide_eq_false_iff_not, beq_iff_eq, bne_iff_ne, Int32.not_lt, Int32.not_le, Int32.lt_iff_toInt_lt, Int32.le_iff_toInt_le, Int64.lt_iff_toInt_lt, ← Int32.toInt_inj, beq_eq_false_iff_ne, bne_eq_false_iff_eq, ne_eq] at q z ⊢ <;> first | exact z.mp q | exact fun k => q (z.mpr k) | omega
theorem gNew (X : Stand p l e R s m args below meth c T locs cells slots) (hx : p.tables.exec = Jvm.exec) (hZ : Z.Warmed39 s.vm) {own C : String} {i n : Nat} (hown : s.vm.findClass own = some m.cls) (w : (Jvm.Cond.classLink own i C).before a0 Z = true) (wi : (Jvm.Cond.instantiable C n).before a0 Z = true) (wz : (Jvm.Cond.initialized C).before a0 Z = true) (eT : T.heap = h) (hd : decode c.code pc = .ok (.new i, 3)) (hp : pc + 3 = pc') (hc : cells + 1 ≤ R.cells) (hl : slots + n ≤ R.slots)
    (k : ∀ T' h' b, Stand p l e R s m args below meth c T' locs (cells + 1) (slots + n) → T'.heap = h' → b = h.size → Ext h h' → Exa Z h' b C → (∀ {O nm d : String} {ty : FieldType}, Laid Z a0 C O nm d → parseFieldDescriptor d = some ty → Fld Z h' b O nm d (defaultValue ty)) → Goes p e below F T' (mkF m pc' ls (.ref b :: st))) : Goes p e below F T (mkF m pc ls st) := by
  subst hp
  obtain ⟨T', h', X', e', E, A, D, -, st'⟩ := newO X hx hZ hown w wi wz eT (g := mkF m pc ls st) rfl hd hc hl
  exact Goes.fore st' (k T' h' _ X' e' rfl E A D)
theorem gPutF (X : Stand p l e R s m args below meth c T locs cells slots) (hx : p.tables.exec = Jvm.exec) (hZ : Z.Warmed39 s.vm) {own R0 O n d C : String} {i kk : Nat} {ty : FieldType} (hown : s.vm.findClass own = some m.cls) (w : (Jvm.Cond.fieldLink own i R0 n d).before a0 Z = true) (via : Via Z R0 O n d) (eT : T.heap = h) {a : Addr} {v old : Value} (Fa : Fld Z h a O n d old) (E : Exa Z h a C) (L : (Jvm.Cond.lays C O n d).before a0 Z = true ∨ ((Jvm.Cond.laysFinal C O n d).before a0 Z = true ∧ own = O ∧ meth.name = "<init>")) (wi : (Jvm.Cond.instantiable C kk).before a0 Z = true)
    (hty : parseFieldDescriptor d = some ty) (hn : narrow ty v = v) (hf : fits ty v = true) (hd : decode c.code pc = .ok (.putfield i, 3)) (hp : pc + 3 = pc')
    (k : ∀ T' h', Stand p l e R s m args below meth c T' (locs ++ [⟨a, RoadKit.slotOf Z O n d⟩]) cells slots → T'.heap = h' → Wr h h' a (RoadKit.slotOf Z O n d) v → Goes p e below F T' (mkF m pc' ls st)) : Goes p e below F T (mkF m pc ls (v :: .ref a :: st)) := by
  subst hp
  obtain ⟨T', h', X', e', W, st'⟩ := putF X hx hZ (host := "") hown (Or.inl w) via eT Fa E L wi hty hn hf (g := mkF m pc ls (v :: .ref a :: st)) rfl rfl hd
  exact Goes.fore st' (k T' h' X' e' W)
theorem gInitO (X : Stand p l e R s m args below meth c T locs cells slots) (hx : p.tables.exec = Jvm.exec) (hZ : Z.Warmed39 s.vm) {own : String} {i : Nat} (hown : s.vm.findClass own = some m.cls) (w1 : (Jvm.Cond.methodLink own i Lib.objectInit).before a0 Z = true) (w2 : (Jvm.Cond.instanceMethod Lib.objectInit).before a0 Z = true) (w3 : (Jvm.Cond.code Lib.objectInit ⟨#[0xb1]⟩ 1 none).before a0 Z = true) (eT : T.heap = h) (hml : ls.size = c.maxLocals) {a : Addr} (hd : decode c.code pc = .ok (.invokespecial i, 3)) (hp : pc + 3 = pc') (hf : 1 ≤ R.frames) {W : Nat} (hW : (st.map fun v => v.category).sum ≤ W) (hl : W + 12 ≤ R.locals)
    (k : ∀ T', Stand p l e R s m args below meth c T' locs cells slots → T'.heap = h → Goes p e below F T' (mkF m pc' ls st)) : Goes p e below F T (mkF m pc ls (.ref a :: st)) := by
  subst hp
  obtain ⟨T', X', e', st'⟩ := initO X hx hZ hown w1 w2 w3 eT (g := mkF m pc ls (.ref a :: st)) rfl hml rfl hd hf (W := W) (by show 2 * 0 + _ ≤ _; omega) hl
  exact Goes.fore st' (k T' X' e')
theorem gCallI (X : Stand p l e R s m args below meth c T locs cells slots) (hx : p.tables.exec = Jvm.exec) (hZ : Z.Warmed39 s.vm) {y : MethodName} {bytes : ByteArray} {maxL : Nat} {rm : Room} {own : String} {i : Nat} {Qc : Option Value → Heap → List Loc → Prop} {a : Addr} (hy1 : y.name = "<init>") (hown : s.vm.findClass own = some m.cls) (eT : T.heap = h) (hml : ls.size = c.maxLocals)
    (w1 : (Jvm.Cond.methodLink own i y).before a0 Z = true) (w2 : (Jvm.Cond.instanceMethod y).before a0 Z = true) (w3 : (Jvm.Cond.initialized y.cls).before a0 Z = true) (w4 : (Jvm.Cond.code y bytes maxL none).before a0 Z = true) (hy : y.cls ≠ "java/lang/invoke/MethodHandle" ∧ y.cls ≠ "java/lang/invoke/VarHandle")
    {argsL : List Value} {stk : List Value} (hC : Ctr l Z y bytes maxL none [] rm (.ref a :: argsL).toArray h Qc) (hlen : ∀ sig, parseMethodDescriptor y.desc = some sig → argsL.length = sig.parameters.length) (hd : decode c.code pc = .ok (.invokespecial i, 3)) (hp : pc + 3 = pc') (hst : stk = argsL.reverse ++ .ref a :: st)
    (hf : rm.frames + 1 ≤ R.frames) {W : Nat} (hW : (st.map fun v => v.category).sum ≤ W) (hlo : W + (maxL + 11) + rm.locals ≤ R.locals) (hce : cells + rm.cells ≤ R.cells) (hsl : slots + rm.slots ≤ R.slots)
    (k : ∀ T' v L, Stand p l e R s m args below meth c T' (locs ++ L) (cells + rm.cells) (slots + rm.slots) → Qc v T'.heap L → Goes p e below F T' (mkF m pc' ls (v.toList ++ st))) : Goes p e below F T (mkF m pc ls stk) := by
  subst hp hst
  obtain ⟨v, _, ⟨T', L', k', n'⟩, -, X', ⟨Lc, hQ, l1, y1, z1⟩, st'⟩ := X.specialBack hx (y := y) hy1 hown (mvT hZ w1) (mvT hZ w2) (mvT hZ w4) hy (backOf (W := W) hC hZ w4 w3 hf hlo) (g := mkF m pc ls (argsL.reverse ++ .ref a :: st)) rfl hml (Steps.refl _) (a := a) (argsL := argsL) (rest := st) hlen rfl (by show 2 * 0 + _ ≤ _; omega) hd (fun _ _ => ⟨rfl, eT, hce, hsl⟩)
  dsimp only [Pt.U, Pt.locs, Pt.cells, Pt.slots] at X' l1 y1 z1 st' hQ
  subst l1 y1 z1
  exact Goes.tr st' (k T' v Lc X' hQ)
end OwnLayer
theorem ow {Z : State} {a0 : Array Value} (hw : ∀ d ∈ tables_1, d.before a0 Z = true) (i : Nat) {d : Jvm.Cond} (h : tables_1[i]? = some d) : d.before a0 Z = true := hw _ (List.mem_of_getElem? h)
set_option maxRecDepth 65536
set_option maxHeartbeats 40000000
/-- a boolean as the machine holds it -/
def b2i (b : Bool) : Int32 := if b then 1 else 0
theorem b2_t {P : Prop} [Decidable P] (h : P) : b2i (decide P) = 1 := by simp [b2i, h]
theorem b2_f {P : Prop} [Decidable P] (h : ¬ P) : b2i (decide P) = 0 := by simp [b2i, h]
theorem b2_0 {b : Bool} : b2i b = 0 ↔ b = false := by cases b <;> simp [b2i]
theorem b2_n0 {b : Bool} : ¬ b2i b = 0 ↔ b = true := by cases b <;> simp [b2i]
theorem b2_inj {a b : Bool} : b2i a = b2i b ↔ a = b := by cases a <;> cases b <;> simp [b2i]
theorem b2_nar {b : Bool} : nar .boolean (b2i b) = b2i b := by cases b <;> rfl
theorem just_t {h0 h : Heap} {P : Prop} [Decidable P] (q : P) (e : h = h0) : Just h0 (.int (b2i (decide P))) (some (.int 1)) h [] := ⟨by rw [b2_t q], e, rfl⟩
theorem just_f {h0 h : Heap} {P : Prop} [Decidable P] (q : ¬ P) (e : h = h0) : Just h0 (.int (b2i (decide P))) (some (.int 0)) h [] := ⟨by rw [b2_f q], e, rfl⟩
/-- the law returns 1; what it wrote is new -/
def Law1 (h0 : Heap) (v : Option Value) (h : Heap) (L : List Loc) : Prop := v = some (.int 1) ∧ Fr h0.size L
section OwnArrays
variable {p : Program} {l : Launch} {e : Env} {R : Room} {s : State} {m : MethodId} {args : Array Value} {below : List Frame} {meth : Method} {c : Code} {T : State} {locs : List Loc} {cells slots : Nat}
variable {F : State → Outcome → Prop} {pc pc' : Nat} {ls : Array Slot} {st : List Value} {Z : State} {a0 : Array Value} {h : Heap} {a : Addr} {ck : ClassId} {n j : Int32} {vs : List Value} {dv : Value}
theorem gIaload (X : Stand p l e R s m args below meth c T locs cells slots) (hx : p.tables.exec = Jvm.exec) (hZ : Z.Warmed39 s.vm) (eT : T.heap = h) {v : Value} (A : Arv Z h a ck .int n vs dv) (h0 : ¬ j < 0) (h1 : j < n) (hv : vs.getD j.toNatClampNeg dv = v) (hd : decode c.code pc = .ok (.iaload, 1)) (hp : pc + 1 = pc') (k : Goes p e below F T (mkF m pc' ls (v :: st))) : Goes p e below F T (mkF m pc ls (.int j :: .ref a :: st)) := by
  subst hp
  obtain ⟨cl, Ar, q, S, N, H, _⟩ := A
  have hin := inb_of S ⟨h0, h1⟩
  exact Goes.fore (fun t q => X.iaload hx (j := j) (v := v) (by rw [eT]; exact Ar.1) (State.isArrayOf_alike hZ.alike Ar.2.1) Ar.2.2 hin (Has.at H hin hv) (g := mkF m pc ls (.int j :: .ref a :: st)) rfl rfl hd t q) k
theorem gCaload (X : Stand p l e R s m args below meth c T locs cells slots) (hx : p.tables.exec = Jvm.exec) (hZ : Z.Warmed39 s.vm) (eT : T.heap = h) {v : Value} (A : Arv Z h a ck .char n vs dv) (h0 : ¬ j < 0) (h1 : j < n) (hv : vs.getD j.toNatClampNeg dv = v) (hd : decode c.code pc = .ok (.caload, 1)) (hp : pc + 1 = pc') (k : Goes p e below F T (mkF m pc' ls (v :: st))) : Goes p e below F T (mkF m pc ls (.int j :: .ref a :: st)) := by
  subst hp
  obtain ⟨cl, Ar, q, S, N, H, _⟩ := A
  have hin := inb_of S ⟨h0, h1⟩
  exact Goes.fore (fun t q => X.caload hx (j := j) (v := v) (by rw [eT]; exact Ar.1) (State.isArrayOf_alike hZ.alike Ar.2.1) Ar.2.2 hin (Has.at H hin hv) (g := mkF m pc ls (.int j :: .ref a :: st)) rfl rfl hd t q) k
theorem gLaload (X : Stand p l e R s m args below meth c T locs cells slots) (hx : p.tables.exec = Jvm.exec) (hZ : Z.Warmed39 s.vm) (eT : T.heap = h) {v : Value} (A : Arv Z h a ck .long n vs dv) (h0 : ¬ j < 0) (h1 : j < n) (hv : vs.getD j.toNatClampNeg dv = v) (hd : decode c.code pc = .ok (.laload, 1)) (hp : pc + 1 = pc') (k : Goes p e below F T (mkF m pc' ls (v :: st))) : Goes p e below F T (mkF m pc ls (.int j :: .ref a :: st)) := by
  subst hp
  obtain ⟨cl, Ar, q, S, N, H, _⟩ := A
  have hin := inb_of S ⟨h0, h1⟩
  exact Goes.fore (fun t q => X.laload hx (j := j) (v := v) (by rw [eT]; exact Ar.1) (State.isArrayOf_alike hZ.alike Ar.2.1) Ar.2.2 hin (Has.at H hin hv) (g := mkF m pc ls (.int j :: .ref a :: st)) rfl rfl hd t q) k
theorem gBaload (X : Stand p l e R s m args below meth c T locs cells slots) (hx : p.tables.exec = Jvm.exec) (hZ : Z.Warmed39 s.vm) (eT : T.heap = h) {v : Value} (A : Arv Z h a ck .byte n vs dv) (h0 : ¬ j < 0) (h1 : j < n) (hv : vs.getD j.toNatClampNeg dv = v) (hd : decode c.code pc = .ok (.baload, 1)) (hp : pc + 1 = pc') (k : Goes p e below F T (mkF m pc' ls (v :: st))) : Goes p e below F T (mkF m pc ls (.int j :: .ref a :: st)) := by
  subst hp
  obtain ⟨cl, Ar, q, S, N, H, _⟩ := A
  have hin := inb_of S ⟨h0, h1⟩
  exact Goes.fore (fun t q => X.baloadBytes hx (j := j) (v := v) (by rw [eT]; exact Ar.1) (State.isArrayOf_alike hZ.alike Ar.2.1) Ar.2.2 hin (Has.at H hin hv) (g := mkF m pc ls (.int j :: .ref a :: st)) rfl rfl hd t q) k
theorem gAaload (X : Stand p l e R s m args below meth c T locs cells slots) (hx : p.tables.exec = Jvm.exec) (hZ : Z.Warmed39 s.vm) (eT : T.heap = h) {v : Value} {ty : FieldType} (hty : ty.isReference = true) (A : Arv Z h a ck ty n vs dv) (h0 : ¬ j < 0) (h1 : j < n) (hv : vs.getD j.toNatClampNeg dv = v) (hd : decode c.code pc = .ok (.aaload, 1)) (hp : pc + 1 = pc') (k : Goes p e below F T (mkF m pc' ls (v :: st))) : Goes p e below F T (mkF m pc ls (.int j :: .ref a :: st)) := by
  subst hp
  obtain ⟨cl, Ar, q, S, N, H, _⟩ := A
  have hin := inb_of S ⟨h0, h1⟩
  exact Goes.fore (fun t q => X.aaload hx (j := j) (v := v) (by rw [eT]; exact Ar.1) (State.isArrayOf_alike hZ.alike Ar.2.1) hty Ar.2.2 hin (Has.at H hin hv) (g := mkF m pc ls (.int j :: .ref a :: st)) rfl rfl hd t q) k
theorem gArrLen (X : Stand p l e R s m args below meth c T locs cells slots) (hx : p.tables.exec = Jvm.exec) (hZ : Z.Warmed39 s.vm) (eT : T.heap = h) {ty : FieldType} (A : Arv Z h a ck ty n vs dv) (hd : decode c.code pc = .ok (.arraylength, 1)) (hp : pc + 1 = pc') (k : Goes p e below F T (mkF m pc' ls (.int n :: st))) : Goes p e below F T (mkF m pc ls (.ref a :: st)) := by
  subst hp
  obtain ⟨cl, Ar, q, S, N, H, _⟩ := A
  refine Goes.fore (fun t q => X.arraylength hx (by rw [eT]; exact Ar.1) (State.isArrayOf_alike hZ.alike Ar.2.1) (g := mkF m pc ls (.ref a :: st)) rfl rfl hd t q) ?_
  rw [len_of S N]; exact k
theorem gIastore (X : Stand p l e R s m args below meth c T locs cells slots) (hx : p.tables.exec = Jvm.exec) (hZ : Z.Warmed39 s.vm) (eT : T.heap = h) {x : Int32} (A : Arv Z h a ck .int n vs dv) (h0 : ¬ j < 0) (h1 : j < n) (i : Nat) (hj : j.toNatClampNeg = i) (hi : i < vs.length) (hd : decode c.code pc = .ok (.iastore, 1)) (hp : pc + 1 = pc')
    (k : ∀ T' h', Stand p l e R s m args below meth c T' (locs ++ [⟨a, j.toNatClampNeg⟩]) cells slots → T'.heap = h' → Wr h h' a j.toNatClampNeg (.int x) → Arv Z h' a ck .int n (vs.set i (.int x)) dv → Goes p e below F T' (mkF m pc' ls st)) : Goes p e below F T (mkF m pc ls (.int x :: .int j :: .ref a :: st)) := by
  subst hp
  obtain ⟨cl, Ar, q, S, N, H, Gt⟩ := A
  obtain ⟨T', h', X', e', W, st'⟩ := stI X hx hZ eT Ar (j := j) (inb_of S ⟨h0, h1⟩) (g := mkF m pc ls (.int x :: .int j :: .ref a :: st)) rfl rfl hd
  exact Goes.fore st' (k T' h' X' e' W (Arv.set Ar q S N H Gt rfl W i hj hi))
theorem gCastore (X : Stand p l e R s m args below meth c T locs cells slots) (hx : p.tables.exec = Jvm.exec) (hZ : Z.Warmed39 s.vm) (eT : T.heap = h) {x : Int32} (A : Arv Z h a ck .char n vs dv) (h0 : ¬ j < 0) (h1 : j < n) (i : Nat) (hj : j.toNatClampNeg = i) (hi : i < vs.length) (hd : decode c.code pc = .ok (.castore, 1)) (hp : pc + 1 = pc')
    (k : ∀ T' h', Stand p l e R s m args below meth c T' (locs ++ [⟨a, j.toNatClampNeg⟩]) cells slots → T'.heap = h' → Wr h h' a j.toNatClampNeg (.int (nar .char x)) → Arv Z h' a ck .char n (vs.set i (.int (nar .char x))) dv → Goes p e below F T' (mkF m pc' ls st)) : Goes p e below F T (mkF m pc ls (.int x :: .int j :: .ref a :: st)) := by
  subst hp
  obtain ⟨cl, Ar, q, S, N, H, Gt⟩ := A
  obtain ⟨T', h', X', e', W, st'⟩ := stC X hx hZ eT Ar (j := j) (inb_of S ⟨h0, h1⟩) (g := mkF m pc ls (.int x :: .int j :: .ref a :: st)) rfl rfl hd
  exact Goes.fore st' (k T' h' X' e' W (Arv.set Ar q S N H Gt (fits_nar_char _) W i hj hi))
theorem gBastore (X : Stand p l e R s m args below meth c T locs cells slots) (hx : p.tables.exec = Jvm.exec) (hZ : Z.Warmed39 s.vm) (eT : T.heap = h) {x : Int32} (A : Arv Z h a ck .byte n vs dv) (h0 : ¬ j < 0) (h1 : j < n) (i : Nat) (hj : j.toNatClampNeg = i) (hi : i < vs.length) (hd : decode c.code pc = .ok (.bastore, 1)) (hp : pc + 1 = pc')
    (k : ∀ T' h', Stand p l e R s m args below meth c T' (locs ++ [⟨a, j.toNatClampNeg⟩]) cells slots → T'.heap = h' → Wr h h' a j.toNatClampNeg (.int (nar .byte x)) → Arv Z h' a ck .byte n (vs.set i (.int (nar .byte x))) dv → Goes p e below F T' (mkF m pc' ls st)) : Goes p e below F T (mkF m pc ls (.int x :: .int j :: .ref a :: st)) := by
  subst hp
  obtain ⟨cl, Ar, q, S, N, H, Gt⟩ := A
  obtain ⟨T', h', X', e', W, st'⟩ := stB X hx hZ eT Ar (j := j) (inb_of S ⟨h0, h1⟩) (g := mkF m pc ls (.int x :: .int j :: .ref a :: st)) rfl rfl hd
  exact Goes.fore st' (k T' h' X' e' W (Arv.set Ar q S N H Gt (fits_nar_byte _) W i hj hi))
theorem gLastore (X : Stand p l e R s m args below meth c T locs cells slots) (hx : p.tables.exec = Jvm.exec) (hZ : Z.Warmed39 s.vm) (eT : T.heap = h) {x : Int64} (A : Arv Z h a ck .long n vs dv) (h0 : ¬ j < 0) (h1 : j < n) (i : Nat) (hj : j.toNatClampNeg = i) (hi : i < vs.length) (hd : decode c.code pc = .ok (.lastore, 1)) (hp : pc + 1 = pc')
    (k : ∀ T' h', Stand p l e R s m args below meth c T' (locs ++ [⟨a, j.toNatClampNeg⟩]) cells slots → T'.heap = h' → Wr h h' a j.toNatClampNeg (.long x) → Arv Z h' a ck .long n (vs.set i (.long x)) dv → Goes p e below F T' (mkF m pc' ls st)) : Goes p e below F T (mkF m pc ls (.long x :: .int j :: .ref a :: st)) := by
  subst hp
  obtain ⟨cl, Ar, q, S, N, H, Gt⟩ := A
  obtain ⟨T', h', X', e', W, st'⟩ := stJ X hx hZ eT Ar (j := j) (inb_of S ⟨h0, h1⟩) (g := mkF m pc ls (.long x :: .int j :: .ref a :: st)) rfl rfl hd
  exact Goes.fore st' (k T' h' X' e' W (Arv.set Ar q S N H Gt rfl W i hj hi))
theorem gNewP (X : Stand p l e R s m args below meth c T locs cells slots) (hx : p.tables.exec = Jvm.exec) (hZ : Z.Warmed39 s.vm) {aty : ArrayType} (w : (Jvm.Cond.arrayClass (newarray.typeOf aty)).before a0 Z = true) (eT : T.heap = h) (hd : decode c.code pc = .ok (.newarray aty, 2)) (hn : ¬ n < 0) {cap : Nat} (hcap : n.toNatClampNeg ≤ cap) (hb : cap * 8 ≤ 536870912) (hc : cells + 1 ≤ R.cells) (hl : slots + cap ≤ R.slots) (N : Nat) (hp : pc + 2 = pc')
    (k : ∀ T' h' b cA, Stand p l e R s m args below meth c T' locs (cells + 1) (slots + cap) → T'.heap = h' → b = h.size → Ext h h' → Arv Z h' b cA (newarray.typeOf aty) n (List.replicate N (defaultValue (newarray.typeOf aty))) (defaultValue (newarray.typeOf aty)) → Goes p e below F T' (mkF m pc' ls (.ref b :: st))) : Goes p e below F T (mkF m pc ls (.int n :: st)) := by
  subst hp
  obtain ⟨T', h', cA, X', e', E, A, st'⟩ := newP X hx hZ w eT (g := mkF m pc ls (.int n :: st)) rfl hd rfl hn hcap hb hc hl
  exact Goes.fore st' (k T' h' _ cA X' e' rfl E ((Arv.new A hn).pad (pad_rep [] _ N)))
theorem gCast (X : Stand p l e R s m args below meth c T locs cells slots) (hx : p.tables.exec = Jvm.exec) (hZ : Z.Warmed39 s.vm) {own K : String} {i : Nat} (hown : s.vm.findClass own = some m.cls) (w : (Jvm.Cond.classLink own i K).before a0 Z = true) (eT : T.heap = h) (I : Ins Z h a K true) (hd : decode c.code pc = .ok (.checkcast i, 3)) (hp : pc + 3 = pc')
    (k : ∀ T', Stand p l e R s m args below meth c T' locs cells slots → T'.heap = h → Goes p e below F T' (mkF m pc' ls (.ref a :: st))) : Goes p e below F T (mkF m pc ls (.ref a :: st)) := by
  subst hp
  obtain ⟨T', X', e', st'⟩ := castY X hx hZ hown w eT I (g := mkF m pc ls (.ref a :: st)) rfl rfl hd
  exact Goes.fore st' (k T' X' e')
theorem gClone (X : Stand p l e R s m args below meth c T locs cells slots) (hx : p.tables.exec = Jvm.exec) (hZ : Z.Warmed39 s.vm) {own ad : String} {i : Nat} (hown : s.vm.findClass own = some m.cls) (w1 : (Jvm.Cond.methodLink own i ⟨ad, "clone", "()Ljava/lang/Object;"⟩).before a0 Z = true) (w2 : (Jvm.Cond.sameMethod ad "java/lang/Object" "clone" "()Ljava/lang/Object;").before a0 Z = true) (w3 : (Jvm.Cond.native ⟨"java/lang/Object", "clone", "()Ljava/lang/Object;"⟩).before a0 Z = true)
    (w4 : (Jvm.Cond.instanceMethod ⟨"java/lang/Object", "clone", "()Ljava/lang/Object;"⟩).before a0 Z = true) (w5 : (Jvm.Cond.selects ad ⟨ad, "clone", "()Ljava/lang/Object;"⟩ ⟨"java/lang/Object", "clone", "()Ljava/lang/Object;"⟩).before a0 Z = true) (w6 : (Jvm.Cond.castable ad "java/lang/Cloneable").before a0 Z = true) {ty : FieldType}
    (eT : T.heap = h) (A : Arv Z h a ck ty n vs dv) (E : Exa Z h a ad) (hml : ls.size = c.maxLocals) (hd : decode c.code pc = .ok (.invokevirtual i, 3)) (hf : 1 ≤ R.frames) {W cap : Nat} (hW : (st.map fun v => v.category).sum ≤ W) (hlo : W + 14 ≤ R.locals) (hcap : n.toNatClampNeg ≤ cap) (hc : cells + 1 ≤ R.cells) (hsl : slots + cap ≤ R.slots) (hp : pc + 3 = pc')
    (k : ∀ T' h' b, Stand p l e R s m args below meth c T' locs (cells + 1) (slots + cap) → T'.heap = h' → b = h.size → Ext h h' → Arv Z h' b ck ty n vs dv → Exa Z h' b ad → Goes p e below F T' (mkF m pc' ls (.ref b :: st))) : Goes p e below F T (mkF m pc ls (.ref a :: st)) := by
  subst hp
  obtain ⟨T', h', X', e', E', A', Ex, st'⟩ := cloneH X hx hZ hown w1 w2 w3 w4 w5 w6 eT A.arh E (g := mkF m pc ls (.ref a :: st)) rfl hml rfl hd hf (W := W) (cap := cap) (by show 2 * 0 + _ ≤ _; omega) hlo hcap hc hsl
  exact Goes.fore st' (k T' h' _ X' e' rfl E' A' Ex)
theorem gArrCopy (X : Stand p l e R s m args below meth c T locs cells slots) (hx : p.tables.exec = Jvm.exec) (hZ : Z.Warmed39 s.vm) {own : String} {i : Nat} (hown : s.vm.findClass own = some m.cls) (w1 : (Jvm.Cond.methodLink own i Jvm.Stand.acN).before a0 Z = true) (w2 : (Jvm.Cond.native Jvm.Stand.acN).before a0 Z = true) (w3 : (Jvm.Cond.static Jvm.Stand.acN).before a0 Z = true) (w4 : (Jvm.Cond.initialized "java/lang/System").before a0 Z = true) (eT : T.heap = h)
    {b : Addr} {cb : ClassId} {ty : FieldType} {n' sp dp nn : Int32} {vd : List Value} {dd : Value} (A : Arv Z h a ck ty n vs dv) (B : Arv Z h b cb ty n' vd dd) (hty : refKind ty = false) (h1 : ¬ sp < 0) (h2 : ¬ dp < 0) (h3 : ¬ nn < 0) (h4 : sp.toNatClampNeg + nn.toNatClampNeg ≤ n.toNatClampNeg) (h5 : dp.toNatClampNeg + nn.toNatClampNeg ≤ n'.toNatClampNeg) (hl : dp.toNatClampNeg + nn.toNatClampNeg ≤ vd.length) {n0 : Nat} (N : Fr n0 locs) (ge : n0 ≤ b)
    (hml : ls.size = c.maxLocals) (hd : decode c.code pc = .ok (.invokestatic i, 3)) (hp : pc + 3 = pc') (hf : 1 ≤ R.frames) {W : Nat} (hW : (st.map fun v => v.category).sum ≤ W) (hlo : W + (nativeFrameWords "java/lang/System" "arraycopy" 5 + 11) ≤ R.locals)
    (k : ∀ T' h' L, Stand p l e R s m args below meth c T' L cells slots → T'.heap = h' → Fr n0 L → Keep h h' [b] → Arv Z h' b cb ty n' (vd.take dp.toNatClampNeg ++ ((List.range nn.toNatClampNeg).map fun i => vs.getD (sp.toNatClampNeg + i) dv) ++ vd.drop (dp.toNatClampNeg + nn.toNatClampNeg)) dd → Goes p e below F T' (mkF m pc' ls st)) : Goes p e below F T (mkF m pc ls (.int nn :: .int dp :: .ref b :: .int sp :: .ref a :: st)) := by
  subst hp
  obtain ⟨T', h', L, X', e', N', K, A', st'⟩ := cpA X hx hZ hown w1 w2 w3 w4 eT A B (Or.inl ⟨rfl, hty⟩) h1 h2 h3 h4 h5 rfl hl N ge (g := mkF m pc ls (.int nn :: .int dp :: .ref b :: .int sp :: .ref a :: st)) rfl hml rfl hd hf (W := W) (by show 2 * 0 + _ ≤ _; omega) hlo
  exact Goes.fore st' (k T' h' L X' e' N' K A')
theorem gCallP (X : Stand p l e R s m args below meth c T locs cells slots) (hx : p.tables.exec = Jvm.exec) (hZ : Z.Warmed39 s.vm) {y : MethodName} {bytes : ByteArray} {maxL : Nat} {ret : Option FieldType} {rm : Room} {own : String} {i kk : Nat} {Qc : Option Value → Heap → List Loc → Prop} (hown : s.vm.findClass own = some m.cls) (eT : T.heap = h) (hml : ls.size = c.maxLocals) (E : Exa Z h a y.cls)
    (w1 : (Jvm.Cond.methodLink own i y).before a0 Z = true) (w6 : (Jvm.Cond.instanceMethod y).before a0 Z = true) (w5 : (Jvm.Cond.privateMethod y).before a0 Z = true) (wi : (Jvm.Cond.instantiable y.cls kk).before a0 Z = true) (w3 : (Jvm.Cond.initialized y.cls).before a0 Z = true) (w4 : (Jvm.Cond.code y bytes maxL ret).before a0 Z = true) (hy : y.cls ≠ "java/lang/invoke/MethodHandle" ∧ y.cls ≠ "java/lang/invoke/VarHandle")
    {argsL : List Value} {stk : List Value} (hC : Ctr l Z y bytes maxL ret [] rm (.ref a :: argsL).toArray h Qc) (hlen : ∀ sig, parseMethodDescriptor y.desc = some sig → argsL.length = sig.parameters.length) (hd : decode c.code pc = .ok (.invokevirtual i, 3)) (hp : pc + 3 = pc') (hst : stk = argsL.reverse ++ .ref a :: st)
    (hf : rm.frames + 1 ≤ R.frames) {W : Nat} (hW : (st.map fun v => v.category).sum ≤ W) (hlo : W + (maxL + 11) + rm.locals ≤ R.locals) (hce : cells + rm.cells ≤ R.cells) (hsl : slots + rm.slots ≤ R.slots)
    (k : ∀ T' v L, Stand p l e R s m args below meth c T' (locs ++ L) (cells + rm.cells) (slots + rm.slots) → Qc v T'.heap L → Goes p e below F T' (mkF m pc' ls (v.toList ++ st))) : Goes p e below F T (mkF m pc ls stk) := by
  subst hp hst
  obtain ⟨cq, q1, q2⟩ := E.cell
  have hpr : s.PrivateAt y := Cond.privateMethod_at (mvP hZ w5 (args := #[]))
  obtain ⟨cc, kc, hc1, hk1, -, hni, -, -⟩ := Cond.instantiable_spec (mvT (args := args) hZ wi)
  have hsel : (Jvm.Cond.selects y.cls y y).before args s = true := Jvm.Stand.selects_self_of_private hc1 hk1 (Bool.or_eq_false_iff.mp hni).1 hpr (mvT hZ w6) hy
  obtain ⟨v, _, ⟨T', L', k', n'⟩, -, X', ⟨Lc, hQ, l1, y1, z1⟩, st'⟩ := X.privateBack hx (y := y) hown (mvT hZ w1) (mvT hZ w6) hsel hpr (mvT hZ w4) hy (backOf (W := W) hC hZ w4 w3 hf hlo) (g := mkF m pc ls (argsL.reverse ++ .ref a :: st)) rfl hml (Steps.refl _) (a := a) (by rw [eT]; exact q1) q2 (argsL := argsL) (rest := st) hlen rfl (by show 2 * 0 + _ ≤ _; omega) hd (fun _ _ => ⟨rfl, eT, hce, hsl⟩)
  dsimp only [Pt.U, Pt.locs, Pt.cells, Pt.slots] at X' l1 y1 z1 st' hQ
  subst l1 y1 z1
  exact Goes.tr st' (k T' v Lc X' hQ)
theorem gInstY (X : Stand p l e R s m args below meth c T locs cells slots) (hx : p.tables.exec = Jvm.exec) (hZ : Z.Warmed39 s.vm) {own K : String} {i : Nat} (hown : s.vm.findClass own = some m.cls) (w : (Jvm.Cond.classLink own i K).before a0 Z = true) (eT : T.heap = h) (I : Ins Z h a K true) (hd : decode c.code pc = .ok (.instanceof i, 3)) (hp : pc + 3 = pc')
    (k : ∀ T', Stand p l e R s m args below meth c T' locs cells slots → T'.heap = h → Goes p e below F T' (mkF m pc' ls (.int 1 :: st))) : Goes p e below F T (mkF m pc ls (.ref a :: st)) := by
  subst hp
  obtain ⟨T', X', e', st'⟩ := instY X hx hZ hown w eT I (g := mkF m pc ls (.ref a :: st)) rfl rfl hd
  exact Goes.fore st' (k T' X' e')
end OwnArrays
section OwnWide
variable {p : Program} {l : Launch} {e : Env} {R : Room} {s : State} {m : MethodId} {args : Array Value} {below : List Frame} {meth : Method} {c : Code} {T : State} {locs : List Loc} {cells slots : Nat}
variable {F : State → Outcome → Prop} {kc ks : Nat} {Q : Option Value → Heap → List Loc → Prop} {pc pc' : Nat} {ls : Array Slot} {st : List Value} {Z : State} {a0 : Array Value} {h : Heap} {EL : List (String × Nat)} {vm0 : Vm} {k0 : Nat}
/-- it returns, Q holds, the frame is the wide one, and what is booked of the constants EL says its text still -/
def FinH (Z : State) (EL : List (String × Nat)) (s : State) (kc ks : Nat) (Q : Option Value → Heap → List Loc → Prop) (s₂ : State) (o : Outcome) : Prop := ∃ v L, o = .returned v ∧ Q v s₂.heap L ∧ CHr Z EL s.vm s.heap s₂.vm s₂.heap ∧ ReturnedEndW s o s₂ L kc ks
def CtrH (l : Launch) (Z : State) (EL : List (String × Nat)) (SL : List Addr) (y : MethodName) (bytes : ByteArray) (maxL : Nat) (ret : Option FieldType) (ws : List Jvm.Cond) (rm : Room) (as' : Array Value) (h0 : Heap) (Q : Option Value → Heap → List Loc → Prop) : Prop :=
  MetFree l y (head1 (Jvm.Cond.code y bytes maxL ret :: ws) rm) (fun a U => a = as' ∧ Z.Warmed39 U.vm ∧ U.heap = h0 ∧ CHv Z EL U.vm h0 ∧ ∀ x ∈ SL, Safe Z EL U.vm h0 x) (fun _ _ _ _ _ => True) (fun _ U o U' => ∃ v L, o = .returned v ∧ Q v U'.heap L ∧ CHr Z EL U.vm U.heap U'.vm U'.heap ∧ ReturnedEndW U o U' L rm.cells rm.slots)
theorem CtrH.of {SL : List Addr} {y : MethodName} {bytes : ByteArray} {maxL : Nat} {ret : Option FieldType} {ws : List Jvm.Cond} {rm : Room} {as' : Array Value} {h0 : Heap} (hp : plainFor y = true)
    (body : ∀ (p : Program) (e : Env) (s : State) (m : MethodId) (below : List Frame) (meth : Method) (c : Code) (s₁ : State), p.tables.exec = Jvm.exec → (∀ {pc : Nat} {r : Except ClassFile.DecodeError (ClassFile.Instr × Nat)}, ClassFile.decode bytes pc = r → ClassFile.decode c.code pc = r) → c.maxLocals = maxL → meth.sig.returnType = ret → (s.setVm s.vm).vm.findClass y.cls = some m.cls → meth.name = y.name → Z.Warmed39 (s.setVm s.vm).vm → meth.locks = false → Stand p l e rm (s.setVm s.vm) m as' below meth c s₁ [] 0 0 → s₁.heap = h0 → s.Since s.vm 0 → CHr Z EL s.vm s.heap s.vm h0 → (∀ x ∈ SL, Safe Z EL s.vm h0 x) → Goes p e below (FinH Z EL s rm.cells rm.slots Q) s₁ (entryFrame m as' maxL)) :
    CtrH l Z EL SL y bytes maxL ret ws rm as' h0 Q := by
  refine MetFree.of_bodySF hp hisR ?_
  intro p e s m args below meth c s₁ Bd hml hP hK
  obtain ⟨rfl, hZ, hh, hv, hs⟩ := hP
  have X : Stand p l e rm s m args below meth c s₁ [] 0 0 := Stand.of_body Bd
  refine body p e s m below meth c s₁ Bd.exec (fun h2 => hb Bd.bytes h2) hml Bd.returns (findClass_of_methodNamed Bd.named) (name_of_methodNamed Bd.named Bd.method).1 hZ Bd.notSynchronized X (by rw [← hh, Bd.state]; rfl) ((State.WarmedH.refl s).since 0) ?_ hs
  rw [hh]; exact CHr.refl hv
/-- the payer of such a contract; what is asked of the addresses SL goes on to the tables at hand -/
theorem backOfSG {SL : List Addr} {y : MethodName} {bytes : ByteArray} {maxL : Nat} {ret : Option FieldType} {rm : Room} {len W : Nat} {as' : Array Value}
    (hM : CtrH l Z EL SL y bytes maxL ret [] rm as' h Q) (hZ : Z.Warmed39 vm0) (wc : (Jvm.Cond.code y bytes maxL ret).before a0 Z = true) (wz : (Jvm.Cond.initialized y.cls).before a0 Z = true) (hf : rm.frames + 1 ≤ R.frames) (hl : W + (maxL + 11) + rm.locals ≤ R.locals) (hEL : EW Z a0 EL) (H : CHv Z EL vm0 h) (hsl : ∀ x ∈ SL, x < h.size ∧ Safe Z EL vm0 h x) :
    BackS l R p e below (s.setVm vm0) args y len W (fun A a => a = as' ∧ A.U.heap = h ∧ A.cells + rm.cells ≤ R.cells ∧ A.slots + rm.slots ≤ R.slots)
      (fun A _ v B => ∃ L, Q v B.U.heap L ∧ B.locs = A.locs ++ L ∧ B.cells = A.cells + rm.cells ∧ B.slots = A.slots + rm.slots ∧ CHr Z EL vm0 h B.U.vm B.U.heap) :=
  BackS.of_freeW (bytes := bytes) (maxL := maxL) (ret := ret) (E := fun _ first o t L k n => k = rm.cells ∧ n = rm.slots ∧ (∃ v, o = .returned v ∧ Q v t.heap L) ∧ CHr Z EL first.vm first.heap t.vm t.heap) hM hf hl
    (fun m meth c A a Y hp => have hU : Z.Warmed39 A.U.vm := wtrans (s := s.setVm vm0) hZ Y.warmed
      ⟨by show (Jvm.Cond.and _ .tt).before a A.U = true; rw [Cond.before_and, mv hU wc]; rfl, mv hU wc, mv hU wz, hp.2.2.1, hp.2.2.2⟩)
    (fun m meth c A a g mk Y hp => have q := CHv.at Y hZ hEL H
      ⟨hp.1, wtrans (s := s.setVm vm0) hZ Y.warmed, hp.2.1, q.1, fun x hx => q.safe (hsl x hx).1 (hsl x hx).2⟩) (fun _ _ _ _ _ _ _ _ _ => trivial)
    (fun _ _ _ _ ⟨v, L, h1, h2, h3, h4⟩ => ⟨L, _, _, h4, rfl, rfl, ⟨v, h1, h2⟩, h3⟩)
    (fun m meth c A a g mk v t L k n Y hp _ _ ⟨e1, e2, ⟨v', e3, e4⟩, e5⟩ => by
      cases e3; subst e1 e2
      refine ⟨L, e4, rfl, rfl, rfl, (CHv.at Y hZ hEL H).trans ?_⟩
      rw [← hp.2.1]; exact e5)
theorem gLdcO (X : Stand p l e R (s.setVm vm0) m args below meth c T locs cells slots) (hx : p.tables.exec = Jvm.exec) (hZ : Z.Warmed39 (s.setVm vm0).vm) {own text : String} {i : Nat} (hown : (s.setVm vm0).vm.findClass own = some m.cls) (w : (Jvm.Cond.stringLink own i text).before a0 Z = true) (wS : ∀ a ∈ Bundle.stringAtoms, a.before a0 Z = true) (eT : T.heap = h) (hS : s.Since vm0 k0) (hk : k0 ≤ h.size) (hEL : EW Z a0 EL) (H : CHr Z EL s.vm s.heap vm0 h)
    (hd : decode c.code pc = .ok (.ldc i, 2)) (hp : pc + 2 = pc') {n : Nat} (hn : 4 * text.toList.length ≤ n) (hbig : n ≤ 536870912) (hc : cells + 2 ≤ R.cells) (hl : slots + (n + 4) ≤ R.slots)
    (k : ∀ a T' h' k1, Stand p l e R (s.setVm T'.vm) m args below meth c T' locs (cells + 2) (slots + (n + 4)) → T'.heap = h' → Ext h h' → s.Since T'.vm k1 → k1 ≤ h'.size → Z.Warmed39 (s.setVm T'.vm).vm → (s.setVm T'.vm).vm.findClass own = some m.cls → CHr Z EL vm0 h T'.vm h' → CHr Z EL s.vm s.heap T'.vm h' → Goes p e below F T' (mkF m pc' ls (.ref a :: st))) : Goes p e below F T (mkF m pc ls st) := by
  subst hp
  obtain ⟨a, T', h', k1, X', e', E, hS', hk', hZ', ho', hC, -, st'⟩ := ldcOH X hx hZ hown w wS eT hS hk hEL H.1 (g := mkF m pc ls st) rfl hd hn hbig hc hl
  exact Goes.fore st' (k a T' h' k1 X' e' E hS' hk' hZ' ho' hC (H.trans hC))
theorem gLdcC (X : Stand p l e R (s.setVm vm0) m args below meth c T locs cells slots) (hx : p.tables.exec = Jvm.exec) (hZ : Z.Warmed39 (s.setVm vm0).vm) {own text : String} {i : Nat} (hown : (s.setVm vm0).vm.findClass own = some m.cls) (w : (Jvm.Cond.stringLink own i text).before a0 Z = true) (wS : ∀ a ∈ Bundle.stringAtoms, a.before a0 Z = true) (eT : T.heap = h) (hS : s.Since vm0 k0) (hk : k0 ≤ h.size) (hEL : EW Z a0 EL) (hmem : (own, i) ∈ EL) (H : CHr Z EL s.vm s.heap vm0 h)
    {vs : List Value} {z : Int32} (ht : (∀ c ∈ text.toList, c.toNat < 256) ∧ text.toList.map (fun c => Value.int (Jvm.Lit.byteI c.toNat.toUInt16)) = vs) (hz : ¬ z < 0) (hlz : z.toNatClampNeg = vs.length)
    (hd : decode c.code pc = .ok (.ldc i, 2)) (hp : pc + 2 = pc') {n : Nat} (hn : 4 * text.toList.length ≤ n) (hbig : n ≤ 536870912) (hc : cells + 2 ≤ R.cells) (hl : slots + (n + 4) ≤ R.slots)
    (k : ∀ a T' h' k1 b ck, Stand p l e R (s.setVm T'.vm) m args below meth c T' locs (cells + 2) (slots + (n + 4)) → T'.heap = h' → Ext h h' → s.Since T'.vm k1 → k1 ≤ h'.size → Z.Warmed39 (s.setVm T'.vm).vm → (s.setVm T'.vm).vm.findClass own = some m.cls → CHr Z EL vm0 h T'.vm h' → CHr Z EL s.vm s.heap T'.vm h' →
      Exa Z h' a "java/lang/String" → Fld Z h' a "java/lang/String" "coder" "B" (.int 0) → Fld Z h' a "java/lang/String" "value" "[B" (.ref b) → Arv Z h' b ck .byte z vs (.int 0) → (∀ x, Safe Z EL T'.vm h' x → x ≠ a ∧ x ≠ b) → Goes p e below F T' (mkF m pc' ls (.ref a :: st))) : Goes p e below F T (mkF m pc ls st) := by
  subst hp
  obtain ⟨a, T', h', k1, b, ck, X', e', E, hS', hk', hZ', ho', Ex, Fc, Fv, A, -, -, hC, -, hsafe, st'⟩ := ldcCH X hx hZ hown w wS eT hS hk hEL hmem H.1 ht hz hlz (g := mkF m pc ls st) rfl hd hn hbig hc hl
  exact Goes.fore st' (k a T' h' k1 b ck X' e' E hS' hk' hZ' ho' hC (H.trans hC) Ex Fc Fv A hsafe)
theorem gRetH0 {v : Option Value} (X : Stand p l e R (s.setVm vm0) m args below meth c T locs cells slots) (hx : p.tables.exec = Jvm.exec) (hlk : meth.locks = false) (hv : meth.sig.returnType = none → v = none) (eT : T.heap = h) (hS : s.Since vm0 k0) (hk : k0 ≤ h.size) (hZ : Z.Warmed39 (s.setVm vm0).vm) (hEL : EW Z a0 EL) (H : CHr Z EL s.vm s.heap vm0 h) (hkc : cells ≤ kc) (hks : slots ≤ ks) (hq : Q v T.heap locs) {g : JFrame}
    (k : ∀ fs, (∀ (f : JFrame) (acts : List Action), f.method = m → f.locked = none → f.entered = [] → (doReturn e (T.setTop f) acts v).1 = T.setFrames fs) → Steps p.tables e below (T.setTop g) (T.setFrames fs)) : Goes p e below (FinH Z EL s kc ks Q) T g := by
  obtain ⟨fs, hr, hrun, hended, hW⟩ := X.leaveW hS (by rw [eT]; exact hk) hv hlk
  refine ⟨_, _, k fs hr, hrun, hended, _, _, rfl, hq, ?_, hW.1, hW.2.1, hW.2.2.1, hW.2.2.2.mono hkc hks⟩
  have q := CHv.at X hZ hEL H.1
  have e2 : (T.setFrames fs).heap = h := eT
  rw [e2]
  exact H.trans q
theorem gRetHN (X : Stand p l e R (s.setVm vm0) m args below meth c T locs cells slots) (hx : p.tables.exec = Jvm.exec) (hlk : meth.locks = false) {t : FieldType} (hret : meth.sig.returnType = some t) (ht : t = .boolean ∨ t = .byte ∨ t = .char ∨ t = .short) {z w : Int32} (hd : decode c.code pc = .ok (.ireturn, 1)) (hw : nar t z = w) (eT : T.heap = h) (hS : s.Since vm0 k0) (hk : k0 ≤ h.size) (hZ : Z.Warmed39 (s.setVm vm0).vm) (hEL : EW Z a0 EL) (H : CHr Z EL s.vm s.heap vm0 h) (hkc : cells ≤ kc) (hks : slots ≤ ks) (hq : Q (some (.int w)) T.heap locs) : Goes p e below (FinH Z EL s kc ks Q) T (mkF m pc ls (.int z :: st)) := by
  subst hw
  exact gRetH0 X hx hlk (fun h => by rw [hret] at h; cases h) eT hS hk hZ hEL H hkc hks hq fun fs hr => retN X hx hret ht hd hr
theorem gRetHV (X : Stand p l e R (s.setVm vm0) m args below meth c T locs cells slots) (hx : p.tables.exec = Jvm.exec) (hlk : meth.locks = false) (hret : meth.sig.returnType = none) (hd : decode c.code pc = .ok (.return_, 1)) (eT : T.heap = h) (hS : s.Since vm0 k0) (hk : k0 ≤ h.size) (hZ : Z.Warmed39 (s.setVm vm0).vm) (hEL : EW Z a0 EL) (H : CHr Z EL s.vm s.heap vm0 h) (hkc : cells ≤ kc) (hks : slots ≤ ks) (hq : Q none T.heap locs) : Goes p e below (FinH Z EL s kc ks Q) T (mkF m pc ls []) :=
  gRetH0 X hx hlk (fun _ => rfl) eT hS hk hZ hEL H hkc hks hq fun fs hr => X.returnOut hx hret hd hr
theorem gRetHA (X : Stand p l e R (s.setVm vm0) m args below meth c T locs cells slots) (hx : p.tables.exec = Jvm.exec) (hlk : meth.locks = false) {t : FieldType} (hret : meth.sig.returnType = some t) (ht : t.isReference = true) {v : Value} (hv : v.isRef = true) (hd : decode c.code pc = .ok (.areturn, 1)) (eT : T.heap = h) (hS : s.Since vm0 k0) (hk : k0 ≤ h.size) (hZ : Z.Warmed39 (s.setVm vm0).vm) (hEL : EW Z a0 EL) (H : CHr Z EL s.vm s.heap vm0 h) (hkc : cells ≤ kc) (hks : slots ≤ ks) (hq : Q (some v) T.heap locs) : Goes p e below (FinH Z EL s kc ks Q) T (mkF m pc ls (v :: st)) :=
  gRetH0 X hx hlk (fun h => by rw [hret] at h; cases h) eT hS hk hZ hEL H hkc hks hq fun fs hr => retOut X hx hret (by cases t <;> first | rfl | cases ht) (Or.inr (Or.inr (Or.inr (Or.inr ⟨rfl, ht, hv⟩)))) hd hr
theorem gCallSH (X : Stand p l e R (s.setVm vm0) m args below meth c T locs cells slots) (hx : p.tables.exec = Jvm.exec) (hZ : Z.Warmed39 (s.setVm vm0).vm) {y : MethodName} {bytes : ByteArray} {maxL : Nat} {ret : Option FieldType} {rm : Room} {own : String} {i : Nat} {Qc : Option Value → Heap → List Loc → Prop} (hown : (s.setVm vm0).vm.findClass own = some m.cls) (eT : T.heap = h) (hml : ls.size = c.maxLocals) (hS : s.Since vm0 k0) (hk : k0 ≤ h.size) (hEL : EW Z a0 EL) (H : CHr Z EL s.vm s.heap vm0 h)
    (w1 : (Jvm.Cond.methodLink own i y).before a0 Z = true) (w2 : (Jvm.Cond.static y).before a0 Z = true) (w3 : (Jvm.Cond.initialized y.cls).before a0 Z = true) (w4 : (Jvm.Cond.code y bytes maxL ret).before a0 Z = true) (hy : y.cls ≠ "java/lang/invoke/MethodHandle" ∧ y.cls ≠ "java/lang/invoke/VarHandle")
    {SL : List Addr} (hsf : ∀ x ∈ SL, x < h.size ∧ Safe Z EL vm0 h x) {argsL : List Value} {stk : List Value} (hC : CtrH l Z EL SL y bytes maxL ret [] rm argsL.toArray h Qc) (hlen : ∀ sig, parseMethodDescriptor y.desc = some sig → argsL.length = sig.parameters.length) (hd : decode c.code pc = .ok (.invokestatic i, 3)) (hp : pc + 3 = pc') (hst : stk = argsL.reverse ++ st)
    (hf : rm.frames + 1 ≤ R.frames) {W : Nat} (hW : (st.map fun v => v.category).sum ≤ W) (hlo : W + (maxL + 11) + rm.locals ≤ R.locals) (hce : cells + rm.cells ≤ R.cells) (hsl : slots + rm.slots ≤ R.slots)
    (k : ∀ T' v L, Stand p l e R (s.setVm T'.vm) m args below meth c T' (locs ++ L) (cells + rm.cells) (slots + rm.slots) → s.Since T'.vm T'.heap.size → Z.Warmed39 (s.setVm T'.vm).vm → (s.setVm T'.vm).vm.findClass own = some m.cls → CHr Z EL vm0 h T'.vm T'.heap → CHr Z EL s.vm s.heap T'.vm T'.heap → Qc v T'.heap L → Goes p e below F T' (mkF m pc' ls (v.toList ++ st))) : Goes p e below F T (mkF m pc ls stk) := by
  subst hp hst
  obtain ⟨v, vm1, ⟨T', L', k', n'⟩, -, X', hS', hg', ⟨Lc, hQ, l1, y1, z1, hC2⟩, st'⟩ := callSS X hx (y := y) hown (mvT (s := s.setVm vm0) hZ w1) (mvT (s := s.setVm vm0) hZ w2) (mvT (s := s.setVm vm0) hZ w3) (mvT (s := s.setVm vm0) hZ w4) hy (backOfSG (s := s) (W := W) hC hZ w4 w3 hf hlo hEL H.1 hsf) (g := mkF m pc ls (argsL.reverse ++ st)) rfl hml (argsL := argsL) (rest := st) hlen rfl (by show 2 * 0 + _ ≤ _; omega) hd (fun _ _ => ⟨rfl, eT, hce, hsl⟩)
  dsimp only [Pt.U, Pt.locs, Pt.cells, Pt.slots] at X' l1 y1 z1 st' hQ hS' hg' hC2
  subst l1 y1 z1
  exact Goes.tr st' (k T' v Lc X' (foldS hS (by rw [eT]; exact hk) hS' hg') (State.Warmed39.trans (t := s.setVm vm0) hZ hS'.1) (by rw [show (s.setVm T'.vm).vm = T'.vm from rfl, hS'.1.alike.findClass]; exact hown) hC2 (H.trans hC2) hQ)
theorem gCallVH (X : Stand p l e R (s.setVm vm0) m args below meth c T locs cells slots) (hx : p.tables.exec = Jvm.exec) (hZ : Z.Warmed39 (s.setVm vm0).vm) {y : MethodName} {bytes : ByteArray} {maxL : Nat} {ret : Option FieldType} {rm : Room} {own : String} {i : Nat} {Qc : Option Value → Heap → List Loc → Prop} {C : String} {a : Addr} (hown : (s.setVm vm0).vm.findClass own = some m.cls) (eT : T.heap = h) (hml : ls.size = c.maxLocals) (hS : s.Since vm0 k0) (hk : k0 ≤ h.size) (hEL : EW Z a0 EL) (H : CHr Z EL s.vm s.heap vm0 h) (E : Exa Z h a C)
    (w1 : (Jvm.Cond.methodLink own i y).before a0 Z = true) (w2 : (Jvm.Cond.declares y).before a0 Z = true) (w5 : (Jvm.Cond.selects C y y).before a0 Z = true) (w6 : (Jvm.Cond.instanceMethod y).before a0 Z = true) (w3 : (Jvm.Cond.initialized y.cls).before a0 Z = true) (w4 : (Jvm.Cond.code y bytes maxL ret).before a0 Z = true) (hy : y.cls ≠ "java/lang/invoke/MethodHandle" ∧ y.cls ≠ "java/lang/invoke/VarHandle")
    {SL : List Addr} (hsf : ∀ x ∈ SL, x < h.size ∧ Safe Z EL vm0 h x) {argsL : List Value} {stk : List Value} (hC : CtrH l Z EL SL y bytes maxL ret [] rm (.ref a :: argsL).toArray h Qc) (hlen : ∀ sig, parseMethodDescriptor y.desc = some sig → argsL.length = sig.parameters.length) (hd : decode c.code pc = .ok (.invokevirtual i, 3)) (hp : pc + 3 = pc') (hst : stk = argsL.reverse ++ .ref a :: st)
    (hf : rm.frames + 1 ≤ R.frames) {W : Nat} (hW : (st.map fun v => v.category).sum ≤ W) (hlo : W + (maxL + 11) + rm.locals ≤ R.locals) (hce : cells + rm.cells ≤ R.cells) (hsl : slots + rm.slots ≤ R.slots)
    (k : ∀ T' v L, Stand p l e R (s.setVm T'.vm) m args below meth c T' (locs ++ L) (cells + rm.cells) (slots + rm.slots) → s.Since T'.vm T'.heap.size → Z.Warmed39 (s.setVm T'.vm).vm → (s.setVm T'.vm).vm.findClass own = some m.cls → CHr Z EL vm0 h T'.vm T'.heap → CHr Z EL s.vm s.heap T'.vm T'.heap → Qc v T'.heap L → Goes p e below F T' (mkF m pc' ls (v.toList ++ st))) : Goes p e below F T (mkF m pc ls stk) := by
  subst hp hst
  obtain ⟨cq, kq, qa, qb, qc⟩ := isOf (s := s.setVm vm0) hZ eT E
  obtain ⟨v, vm1, ⟨T', L', k', n'⟩, -, X', hS', hg', ⟨Lc, hQ, l1, y1, z1, hC2⟩, st'⟩ := X.virtualBackS hx (y := y) (z := y) hown (mvT (s := s.setVm vm0) hZ w1) (mvT (s := s.setVm vm0) hZ w2) (notFace_of_selects (args := #[]) (mvT (s := s.setVm vm0) hZ w5)) (mvT (s := s.setVm vm0) hZ w5) (mvT (s := s.setVm vm0) hZ w6) hy (backOfSG (s := s) (W := W) hC hZ w4 w3 hf hlo hEL H.1 hsf) qa qc (g := mkF m pc ls (argsL.reverse ++ .ref a :: st)) rfl hml (Steps.refl _) (argsL := argsL) (rest := st) hlen rfl (by show 2 * 0 + _ ≤ _; omega) hd (fun _ _ => ⟨rfl, eT, hce, hsl⟩)
  dsimp only [Pt.U, Pt.locs, Pt.cells, Pt.slots] at X' l1 y1 z1 st' hQ hS' hg' hC2
  subst l1 y1 z1
  exact Goes.tr st' (k T' v Lc X' (foldS hS (by rw [eT]; exact hk) hS' hg') (State.Warmed39.trans (t := s.setVm vm0) hZ hS'.1) (by rw [show (s.setVm T'.vm).vm = T'.vm from rfl, hS'.1.alike.findClass]; exact hown) hC2 (H.trans hC2) hQ)
theorem gCallIH (X : Stand p l e R (s.setVm vm0) m args below meth c T locs cells slots) (hx : p.tables.exec = Jvm.exec) (hZ : Z.Warmed39 (s.setVm vm0).vm) {y : MethodName} {bytes : ByteArray} {maxL : Nat} {rm : Room} {own : String} {i : Nat} {Qc : Option Value → Heap → List Loc → Prop} {a : Addr} (hy1 : y.name = "<init>") (hown : (s.setVm vm0).vm.findClass own = some m.cls) (eT : T.heap = h) (hml : ls.size = c.maxLocals) (hS : s.Since vm0 k0) (hk : k0 ≤ h.size) (hEL : EW Z a0 EL) (H : CHr Z EL s.vm s.heap vm0 h)
    (w1 : (Jvm.Cond.methodLink own i y).before a0 Z = true) (w2 : (Jvm.Cond.instanceMethod y).before a0 Z = true) (w3 : (Jvm.Cond.initialized y.cls).before a0 Z = true) (w4 : (Jvm.Cond.code y bytes maxL none).before a0 Z = true) (hy : y.cls ≠ "java/lang/invoke/MethodHandle" ∧ y.cls ≠ "java/lang/invoke/VarHandle")
    {SL : List Addr} (hsf : ∀ x ∈ SL, x < h.size ∧ Safe Z EL vm0 h x) {argsL : List Value} {stk : List Value} (hC : CtrH l Z EL SL y bytes maxL none [] rm (.ref a :: argsL).toArray h Qc) (hlen : ∀ sig, parseMethodDescriptor y.desc = some sig → argsL.length = sig.parameters.length) (hd : decode c.code pc = .ok (.invokespecial i, 3)) (hp : pc + 3 = pc') (hst : stk = argsL.reverse ++ .ref a :: st)
    (hf : rm.frames + 1 ≤ R.frames) {W : Nat} (hW : (st.map fun v => v.category).sum ≤ W) (hlo : W + (maxL + 11) + rm.locals ≤ R.locals) (hce : cells + rm.cells ≤ R.cells) (hsl : slots + rm.slots ≤ R.slots)
    (k : ∀ T' v L, Stand p l e R (s.setVm T'.vm) m args below meth c T' (locs ++ L) (cells + rm.cells) (slots + rm.slots) → s.Since T'.vm T'.heap.size → Z.Warmed39 (s.setVm T'.vm).vm → (s.setVm T'.vm).vm.findClass own = some m.cls → CHr Z EL vm0 h T'.vm T'.heap → CHr Z EL s.vm s.heap T'.vm T'.heap → Qc v T'.heap L → Goes p e below F T' (mkF m pc' ls (v.toList ++ st))) : Goes p e below F T (mkF m pc ls stk) := by
  subst hp hst
  obtain ⟨v, vm1, ⟨T', L', k', n'⟩, -, X', hS', hg', ⟨Lc, hQ, l1, y1, z1, hC2⟩, st'⟩ := X.specialBackS hx (y := y) hy1 hown (mvT (s := s.setVm vm0) hZ w1) (mvT (s := s.setVm vm0) hZ w2) (mvT (s := s.setVm vm0) hZ w4) hy (backOfSG (s := s) (W := W) hC hZ w4 w3 hf hlo hEL H.1 hsf) (g := mkF m pc ls (argsL.reverse ++ .ref a :: st)) rfl hml (Steps.refl _) (a := a) (argsL := argsL) (rest := st) hlen rfl (by show 2 * 0 + _ ≤ _; omega) hd (fun _ _ => ⟨rfl, eT, hce, hsl⟩)
  dsimp only [Pt.U, Pt.locs, Pt.cells, Pt.slots] at X' l1 y1 z1 st' hQ hS' hg' hC2
  subst l1 y1 z1
  exact Goes.tr st' (k T' v Lc X' (foldS hS (by rw [eT]; exact hk) hS' hg') (State.Warmed39.trans (t := s.setVm vm0) hZ hS'.1) (by rw [show (s.setVm T'.vm).vm = T'.vm from rfl, hS'.1.alike.findClass]; exact hown) hC2 (H.trans hC2) hQ)
theorem sl0 : ∀ x ∈ ([] : List Addr), x < h.size ∧ Safe Z EL vm0 h x := fun _ q => nomatch q
theorem sl1 {x : Addr} (q : x < h.size) (r : Safe Z EL vm0 h x) : ∀ y ∈ [x], y < h.size ∧ Safe Z EL vm0 h y := fun y z => by cases List.mem_singleton.mp z; exact ⟨q, r⟩
end OwnWide
theorem own_i2c (x : Int32) : x.toUInt32.toUInt16.toUInt32.toInt32 = x &&& 65535 := by
  apply Int32.toBitVec_inj.mp
  apply BitVec.eq_of_toNat_eq
  simp [BitVec.toNat_and]
  rw [show (65535 : Nat) = 2 ^ 16 - 1 from rfl, Nat.and_two_pow_sub_one_eq_mod]
theorem own_mask (x : Int32) : (x &&& 65535).toInt = x.toInt % 65536 := Jvm.Kit.i32_mask x 65535 (k := 16) (by decide) (by decide)
/-- compact strings are on -/
def Cpt (Z : State) (h : Heap) : Prop := ∃ cz : Int32, Sta Z h "java/lang/String" "COMPACT_STRINGS" "Z" (.int cz) ∧ ¬ cz.toInt = 0
theorem Cpt.ext {Z : State} {h h' : Heap} (E : Ext h h') (Fa : Cpt Z h) : Cpt Z h' := by obtain ⟨a, b, c⟩ := Fa; exact ⟨a, b.ext E, c⟩
theorem Cpt.wr {Z : State} {h h' : Heap} {a : Addr} {sl : Nat} {v : Value} (W : Wr h h' a sl v) (Fa : Cpt Z h) : Cpt Z h' := by obtain ⟨a, b, c⟩ := Fa; exact ⟨a, b.wr W, c⟩
theorem own_sta_keep {Z : State} {h h' : Heap} {C n d : String} {v : Value} {ws : List Addr} (Fa : Sta Z h C n d v) (K : Keep h h' ws) (q : ∀ x ∈ ws, ∀ cell : Cell, h[x]? = some cell → cell.vm.isStatics = false) : Sta Z h' C n d v := by
  obtain ⟨cf, i, k, f, st, cell, h1, h2, h3, h4, h5, h6, h7⟩ := Fa
  refine ⟨cf, i, k, f, st, cell, h1, h2, h3, h4, K.2.1 _ _ h5 (fun hm => ?_), h6, h7⟩
  have := q _ hm _ h5
  rw [h6] at this; cases this
theorem own_cpt_keep {Z : State} {h h' : Heap} {ws : List Addr} (Fa : Cpt Z h) (K : Keep h h' ws) (q : ∀ x ∈ ws, ∀ cell : Cell, h[x]? = some cell → cell.vm.isStatics = false) : Cpt Z h' := by
  obtain ⟨a, b, c⟩ := Fa; exact ⟨a, own_sta_keep b K q, c⟩
def Sio (Z : State) (h : Heap) : Prop := ∃ sf : Value, Sta Z h "jdk/internal/util/Preconditions" "SIOOBE_FORMATTER" "Ljava/util/function/BiFunction;" sf ∧ sf.isRef = true
theorem Sio.ext {Z : State} {h h' : Heap} (E : Ext h h') (Fa : Sio Z h) : Sio Z h' := by obtain ⟨a, b, c⟩ := Fa; exact ⟨a, b.ext E, c⟩
theorem Sio.wr {Z : State} {h h' : Heap} {a : Addr} {sl : Nat} {v : Value} (W : Wr h h' a sl v) (Fa : Sio Z h) : Sio Z h' := by obtain ⟨a, b, c⟩ := Fa; exact ⟨a, b.wr W, c⟩
theorem own_sio_keep {Z : State} {h h' : Heap} {ws : List Addr} (Fa : Sio Z h) (K : Keep h h' ws) (q : ∀ x ∈ ws, ∀ cell : Cell, h[x]? = some cell → cell.vm.isStatics = false) : Sio Z h' := by
  obtain ⟨a, b, c⟩ := Fa; exact ⟨a, own_sta_keep b K q, c⟩
theorem own_nb (x : Int32) : nar .byte x.toInt8.toInt32 = x.toInt8.toInt32 := by simp [nar]
theorem own_nc {c : Int32} (h : 0 ≤ c.toInt ∧ c.toInt ≤ 65535) : nar .char c = c := by
  show c.toUInt32.toUInt16.toUInt32.toInt32 = c
  rw [own_i2c]
  apply Int32.toInt_inj.mp
  rw [own_mask]; omega
theorem own_c8 {c : Int32} (h : 0 ≤ c.toInt ∧ c.toInt ≤ 255) : 0 ≤ c.toInt ∧ c.toInt ≤ 65535 := by omega
theorem own_mask8 (x : Int32) : (x &&& 255).toInt = x.toInt % 256 := Jvm.Kit.i32_mask x 255 (k := 8) (by decide) (by decide)
theorem own_b8 {c : Int32} : c.toInt8.toInt32.toInt = c.toInt.bmod 256 := by simp
theorem own_ch {c : Int32} (h : 0 ≤ c.toInt ∧ c.toInt ≤ 255) : (c.toInt8.toInt32 &&& 255).toUInt32.toUInt16.toUInt32.toInt32 = c := by
  rw [own_i2c]
  apply Int32.toInt_inj.mp
  rw [own_mask, own_mask8, own_b8, Int.bmod_def]; split <;> omega
theorem own_binj {a b : Int32} (ha : 0 ≤ a.toInt ∧ a.toInt ≤ 255) (hb : 0 ≤ b.toInt ∧ b.toInt ≤ 255) : a.toInt8.toInt32 = b.toInt8.toInt32 ↔ a.toInt = b.toInt := by
  constructor
  · intro q
    have := own_ch ha; rw [q, own_ch hb] at this; rw [this]
  · intro q; rw [Int32.toInt_inj.mp q]
abbrev rg (c : Int32) : Prop := 0 ≤ c.toInt ∧ c.toInt ≤ 255
abbrev sE (Z : State) (h : Heap) (a : Addr) : Prop := Exa Z h a "java/lang/String"
abbrev sC (Z : State) (h : Heap) (a : Addr) : Prop := Fld Z h a "java/lang/String" "coder" "B" (.int 0)
abbrev sV (Z : State) (h : Heap) (a t : Addr) : Prop := Fld Z h a "java/lang/String" "value" "[B" (.ref t)
abbrev sA (Z : State) (h : Heap) (t : Addr) (ck : ClassId) (n : Int32) (vs : List Value) : Prop := Arv Z h t ck .byte n vs (.int 0)
def SQd (Z : State) (h0 : Heap) (n : Int32) (vs : List Value) (v : Option Value) (h : Heap) (L : List Loc) : Prop := ∃ (a t : Addr) (ct : ClassId), v = some (.ref a) ∧ Fr h0.size L ∧ Keep h0 h [] ∧ sE Z h a ∧ sC Z h a ∧ sV Z h a t ∧ sA Z h t ct n vs
abbrev by8 (c : Int32) : Value := .int c.toInt8.toInt32
abbrev r6 (c : Int32) : Prop := 0 ≤ c.toInt ∧ c.toInt ≤ 65535
theorem own_i2c_r6 (y : Int32) : r6 (y.toUInt32.toUInt16.toUInt32.toInt32) := by
  show 0 ≤ (y.toUInt32.toUInt16.toUInt32.toInt32).toInt ∧ (y.toUInt32.toUInt16.toUInt32.toInt32).toInt ≤ 65535
  rw [own_i2c, own_mask]; omega
abbrev lo8 (c : Int32) : Int32 := (c >>> ((0 : Int32) &&& 31)).toInt8.toInt32
abbrev hi8 (c : Int32) : Int32 := (c >>> ((8 : Int32) &&& 31)).toInt8.toInt32
theorem own_u16b (v : BitVec 32) (h : v.toNat < 65536) :
    ((((v.setWidth 8).signExtend 32 &&& 255#32) ||| ((((v.sshiftRight 8).setWidth 8).signExtend 32 &&& 255#32) <<< 8)) &&& 65535#32) = v := by
  have hz : ∀ i, 16 ≤ i → v.getLsbD i = false := fun i hi => by
    show v.toNat.testBit i = false
    exact Nat.testBit_lt_two_pow (Nat.lt_of_lt_of_le h (Nat.pow_le_pow_right (n := 2) (i := 16) (by decide) hi))
  apply BitVec.eq_of_getLsbD_eq
  intro i hi
  have e1 : (255#32).getLsbD i = decide (i < 8) := by
    have : ∀ j : Fin 32, (255#32).getLsbD j.1 = decide (j.1 < 8) := by decide
    exact this ⟨i, hi⟩
  have e2 : (65535#32).getLsbD i = decide (i < 16) := by
    have : ∀ j : Fin 32, (65535#32).getLsbD j.1 = decide (j.1 < 16) := by decide
    exact this ⟨i, hi⟩
  have e3 : ∀ j, j < 32 → (255#32).getLsbD j = decide (j < 8) := fun j hj => by
    have : ∀ j : Fin 32, (255#32).getLsbD j.1 = decide (j.1 < 8) := by decide
    exact this ⟨j, hj⟩
  simp only [BitVec.getLsbD_and, BitVec.getLsbD_or, BitVec.getLsbD_shiftLeft, BitVec.getLsbD_signExtend, BitVec.getLsbD_setWidth, BitVec.getLsbD_sshiftRight, e1, e2, e3 (i - 8) (by omega)]
  by_cases a : i < 8
  · simp [a, hi, show i < 16 by omega]
  · by_cases b : i < 16
    · have : i - 8 < 8 := by omega
      have q : 8 + (i - 8) = i := by omega
      simp [a, b, hi, this, show i - 8 < 32 by omega, q]
    · simp [a, b, hz i (by omega)]
theorem own_u16 {c : Int32} (h : 0 ≤ c.toInt ∧ c.toInt ≤ 65535) : ((((lo8 c) &&& (255 : Int32)) <<< ((0 : Int32) &&& 31)) ||| (((hi8 c) &&& (255 : Int32)) <<< ((8 : Int32) &&& 31))).toUInt32.toUInt16.toUInt32.toInt32 = c := by
  rw [own_i2c]
  apply Int32.toBitVec_inj.mp
  have hn : c.toBitVec.toNat < 65536 := by
    have e : c.toInt = c.toBitVec.toInt := rfl
    rw [e, BitVec.toInt_eq_toNat_cond] at h
    have := c.toBitVec.isLt
    split at h <;> omega
  have := own_u16b c.toBitVec hn
  show _ = c.toBitVec
  conv => rhs; rw [← this]
  have k1 : ((8 : Int32) &&& 31) = 8 := by decide
  have k0 : ((0 : Int32) &&& 31) = 0 := by decide
  simp only [lo8, hi8, k1, k0]
  simp
  rw [BitVec.signExtend_eq_setWidth_of_le _ (show 8 ≤ 32 from by decide), BitVec.signExtend_eq_setWidth_of_le _ (show 8 ≤ 32 from by decide)]
def U16 (Z : State) (h : Heap) : Prop := Sta Z h "java/lang/StringUTF16" "$assertionsDisabled" "Z" (.int 1) ∧ Sta Z h "java/lang/StringUTF16" "HI_BYTE_SHIFT" "I" (.int 0) ∧ Sta Z h "java/lang/StringUTF16" "LO_BYTE_SHIFT" "I" (.int 8)
theorem U16.ext {Z : State} {h h' : Heap} (E : Ext h h') (Fa : U16 Z h) : U16 Z h' := ⟨Fa.1.ext E, Fa.2.1.ext E, Fa.2.2.ext E⟩
theorem U16.wr {Z : State} {h h' : Heap} {a : Addr} {sl : Nat} {v : Value} (W : Wr h h' a sl v) (Fa : U16 Z h) : U16 Z h' := ⟨Fa.1.wr W, Fa.2.1.wr W, Fa.2.2.wr W⟩
theorem own_u16_keep {Z : State} {h h' : Heap} {ws : List Addr} (Fa : U16 Z h) (K : Keep h h' ws) (q : ∀ x ∈ ws, ∀ cell : Cell, h[x]? = some cell → cell.vm.isStatics = false) : U16 Z h' := ⟨own_sta_keep Fa.1 K q, own_sta_keep Fa.2.1 K q, own_sta_keep Fa.2.2 K q⟩
abbrev uC (Z : State) (h : Heap) (a : Addr) : Prop := Fld Z h a "java/lang/String" "coder" "B" (.int 1)
theorem own_r5 (x : Int32) : (x &&& 7) % 5 = 0 ∨ (x &&& 7) % 5 = 1 ∨ (x &&& 7) % 5 = 2 ∨ (x &&& 7) % 5 = 3 ∨ (x &&& 7) % 5 = 4 := by
  have e1 : (x &&& 7).toInt = x.toInt % 2 ^ 3 := Jvm.Kit.i32_mask x 7 (by decide) (by decide)
  have e2 : ((x &&& 7) % 5).toInt = (x &&& 7).toInt % 5 := Jvm.Kit.i32_rem_nonneg (by omega)
  simp only [← Int32.toInt_inj, e2]
  have t0 : (0 : Int32).toInt = 0 := rfl
  have t1 : (1 : Int32).toInt = 1 := rfl
  have t2 : (2 : Int32).toInt = 2 := rfl
  have t3 : (3 : Int32).toInt = 3 := rfl
  have t4 : (4 : Int32).toInt = 4 := rfl
  omega
theorem d27_0 : decode method_2_code 0 = .ok (.iload_n 0, 1) := by decide +kernel
theorem d27_1 : decode method_2_code 1 = .ok (.bipush 16, 2) := by decide +kernel
theorem d27_3 : decode method_2_code 3 = .ok (.iushr, 1) := by decide +kernel
theorem d27_4 : decode method_2_code 4 = .ok (.iconst 3, 1) := by decide +kernel
theorem d27_5 : decode method_2_code 5 = .ok (.iand, 1) := by decide +kernel
theorem d27_6 : decode method_2_code 6 = .ok (.istore_n 1, 1) := by decide +kernel
theorem d27_7 : decode method_2_code 7 = .ok (.iload_n 1, 1) := by decide +kernel
theorem d27_8 : decode method_2_code 8 = .ok (.iconst 1, 1) := by decide +kernel
theorem d27_9 : decode method_2_code 9 = .ok (.if_icmp .ne 6, 3) := by decide +kernel
theorem d27_15 : decode method_2_code 15 = .ok (.iload_n 1, 1) := by decide +kernel
theorem d27_16 : decode method_2_code 16 = .ok (.iconst 2, 1) := by decide +kernel
theorem d27_17 : decode method_2_code 17 = .ok (.if_icmp .ne 17, 3) := by decide +kernel
theorem d27_34 : decode method_2_code 34 = .ok (.iload_n 0, 1) := by decide +kernel
theorem d27_35 : decode method_2_code 35 = .ok (.ldc 8, 2) := by decide +kernel
theorem d27_37 : decode method_2_code 37 = .ok (.iand, 1) := by decide +kernel
theorem d27_38 : decode method_2_code 38 = .ok (.i2c, 1) := by decide +kernel
theorem d27_39 : decode method_2_code 39 = .ok (.ireturn, 1) := by decide +kernel
theorem d27_20 : decode method_2_code 20 = .ok (.ldc 7, 2) := by decide +kernel
theorem d27_22 : decode method_2_code 22 = .ok (.iconst 1, 1) := by decide +kernel
theorem d27_23 : decode method_2_code 23 = .ok (.iload_n 0, 1) := by decide +kernel
theorem d27_24 : decode method_2_code 24 = .ok (.bipush 18, 2) := by decide +kernel
theorem d27_26 : decode method_2_code 26 = .ok (.iushr, 1) := by decide +kernel
theorem d27_27 : decode method_2_code 27 = .ok (.bipush 15, 2) := by decide +kernel
theorem d27_29 : decode method_2_code 29 = .ok (.iand, 1) := by decide +kernel
theorem d27_30 : decode method_2_code 30 = .ok (.ishl, 1) := by decide +kernel
theorem d27_31 : decode method_2_code 31 = .ok (.ixor, 1) := by decide +kernel
theorem d27_32 : decode method_2_code 32 = .ok (.i2c, 1) := by decide +kernel
theorem d27_33 : decode method_2_code 33 = .ok (.ireturn, 1) := by decide +kernel
theorem d27_12 : decode method_2_code 12 = .ok (.ldc 7, 2) := by decide +kernel
theorem d27_14 : decode method_2_code 14 = .ok (.ireturn, 1) := by decide +kernel
abbrev mn3 : MethodName := ⟨"com/example/estival/estival/cli/ArgumentsUndecodablePinLaw", "pick", "(I)C"⟩
theorem pn_1 : plainName "com/example/estival/estival/cli/ArgumentsUndecodablePinLaw" = true := by first | (simp [plainName, overriddenIn]; done) | decide +kernel
theorem c_pick (l : Launch) (Z : State) (a0 : Array Value) (hw : ∀ d ∈ tables_1, d.before a0 Z = true) (p0 : Int32) (h0 : Heap)  :
    Ctr l Z mn3 method_2_code 2 (some .char) [] ⟨0, 0, 0, 0⟩ #[(.int p0)] h0 (fun v h L => ∃ z : Int32, v = some (.int z) ∧ r6 z ∧ h = h0 ∧ L = []) := by
  refine Ctr.of (plainFor_of_name pn_1) ?_
  intro p e s m below meth c s₁ hx H hml hret hown hnm hZ hlk X0 e0
  refine Goes.cast (show entryFrame m _ _ = mkF m 0 #[.val (.int p0), .unset] [] from rfl) ?_
  refine gLoadIN 1 X0 hx (H d27_0) rfl rfl ?_
  refine gBipush 3 X0 hx (v := (16 : Int32)) (H d27_1) rfl rfl ?_
  refine gIushr 4 X0 hx (H d27_3) rfl ?_
  refine gIconst 5 X0 hx (v := (3 : Int32)) (H d27_4) rfl rfl ?_
  refine gIand 6 X0 hx (H d27_5) rfl ?_
  refine gStoreIN 7 X0 hx (H d27_6) (l' := #[.val (.int p0), .val (.int (((p0.toUInt32 >>> ((16 : Int32) &&& 31).toUInt32).toInt32) &&& (3 : Int32)))]) rfl rfl ?_
  refine gLoadIN 8 X0 hx (H d27_7) rfl rfl ?_
  refine gIconst 9 X0 hx (v := (1 : Int32)) (H d27_8) rfl rfl ?_
  refine gIcmpNeT X0 hx (H d27_9) (pc' := 15) (by decide) (by decide) (pn := 12) rfl (fun (c9 : ¬ (((p0.toUInt32 >>> ((16 : Int32) &&& 31).toUInt32).toInt32) &&& (3 : Int32)).toInt = (1 : Int)) => ?_) (fun (c9 : (((p0.toUInt32 >>> ((16 : Int32) &&& 31).toUInt32).toInt32) &&& (3 : Int32)).toInt = (1 : Int)) => ?_)
  · refine gLoadIN 16 X0 hx (H d27_15) rfl rfl ?_
    refine gIconst 17 X0 hx (v := (2 : Int32)) (H d27_16) rfl rfl ?_
    refine gIcmpNeT X0 hx (H d27_17) (pc' := 34) (by decide) (by decide) (pn := 20) rfl (fun (c17 : ¬ (((p0.toUInt32 >>> ((16 : Int32) &&& 31).toUInt32).toInt32) &&& (3 : Int32)).toInt = (2 : Int)) => ?_) (fun (c17 : (((p0.toUInt32 >>> ((16 : Int32) &&& 31).toUInt32).toInt32) &&& (3 : Int32)).toInt = (2 : Int)) => ?_)
    · refine gLoadIN 35 X0 hx (H d27_34) rfl rfl ?_
      refine gLdc 37 X0 hx hZ hown (ow hw 4 rfl) (H d27_35) rfl ?_
      refine gIand 38 X0 hx (H d27_37) rfl ?_
      refine gI2c 39 X0 hx (H d27_38) rfl ?_
      exact gRetN X0 hx hlk hret (by simp) (H d27_39) (w := ((p0 &&& (65535 : Int32)).toUInt32.toUInt16.toUInt32.toInt32)) (own_nc (own_i2c_r6 _)) (by decide) (by decide) (⟨_, rfl, own_i2c_r6 _, e0, rfl⟩)
    · refine gLdc 22 X0 hx hZ hown (ow hw 78 rfl) (H d27_20) rfl ?_
      refine gIconst 23 X0 hx (v := (1 : Int32)) (H d27_22) rfl rfl ?_
      refine gLoadIN 24 X0 hx (H d27_23) rfl rfl ?_
      refine gBipush 26 X0 hx (v := (18 : Int32)) (H d27_24) rfl rfl ?_
      refine gIushr 27 X0 hx (H d27_26) rfl ?_
      refine gBipush 29 X0 hx (v := (15 : Int32)) (H d27_27) rfl rfl ?_
      refine gIand 30 X0 hx (H d27_29) rfl ?_
      refine gIshl 31 X0 hx (H d27_30) rfl ?_
      refine gIxor 32 X0 hx (H d27_31) rfl ?_
      refine gI2c 33 X0 hx (H d27_32) rfl ?_
      exact gRetN X0 hx hlk hret (by simp) (H d27_33) (w := (((65533 : Int32) ^^^ ((1 : Int32) <<< ((((p0.toUInt32 >>> ((18 : Int32) &&& 31).toUInt32).toInt32) &&& (15 : Int32)) &&& 31))).toUInt32.toUInt16.toUInt32.toInt32)) (own_nc (own_i2c_r6 _)) (by decide) (by decide) (⟨_, rfl, own_i2c_r6 _, e0, rfl⟩)
  · refine gLdc 14 X0 hx hZ hown (ow hw 78 rfl) (H d27_12) rfl ?_
    exact gRetN X0 hx hlk hret (by simp) (H d27_14) (w := (65533 : Int32)) rfl (by decide) (by decide) (⟨_, rfl, by decide, e0, rfl⟩)
theorem d28_0 : decode method_3_code 0 = .ok (.iload_n 0, 1) := by decide +kernel
theorem d28_1 : decode method_3_code 1 = .ok (.ldc 7, 2) := by decide +kernel
theorem d28_3 : decode method_3_code 3 = .ok (.if_icmp .ne 7, 3) := by decide +kernel
theorem d28_10 : decode method_3_code 10 = .ok (.iconst 0, 1) := by decide +kernel
theorem d28_11 : decode method_3_code 11 = .ok (.ireturn, 1) := by decide +kernel
theorem d28_6 : decode method_3_code 6 = .ok (.iconst 1, 1) := by decide +kernel
theorem d28_7 : decode method_3_code 7 = .ok (.goto 4, 3) := by decide +kernel
abbrev mn1 : MethodName := ⟨"com/example/estival/estival/cli/ArgumentsUndecodablePinLaw", "isRep", "(C)Z"⟩
theorem c_rep (l : Launch) (Z : State) (a0 : Array Value) (hw : ∀ d ∈ tables_1, d.before a0 Z = true) (p0 : Int32) (h0 : Heap)  :
    Ctr l Z mn1 method_3_code 1 (some .boolean) [] ⟨0, 0, 0, 0⟩ #[(.int p0)] h0 (Just h0 (.int (b2i (decide (p0.toInt = 65533))))) := by
  refine Ctr.of (plainFor_of_name pn_1) ?_
  intro p e s m below meth c s₁ hx H hml hret hown hnm hZ hlk X0 e0
  refine Goes.cast (show entryFrame m _ _ = mkF m 0 #[.val (.int p0)] [] from rfl) ?_
  refine gLoadIN 1 X0 hx (H d28_0) rfl rfl ?_
  refine gLdc 3 X0 hx hZ hown (ow hw 78 rfl) (H d28_1) rfl ?_
  refine gIcmpNeT X0 hx (H d28_3) (pc' := 10) (by decide) (by decide) (pn := 6) rfl (fun (c3 : ¬ p0.toInt = (65533 : Int)) => ?_) (fun (c3 : p0.toInt = (65533 : Int)) => ?_)
  · refine gIconst 11 X0 hx (v := (0 : Int32)) (H d28_10) rfl rfl ?_
    exact gRetN X0 hx hlk hret (by simp) (H d28_11) (w := (0 : Int32)) rfl (by decide) (by decide) (just_f c3 e0)
  · refine gIconst 7 X0 hx (v := (1 : Int32)) (H d28_6) rfl rfl ?_
    refine gGoto X0 hx (H d28_7) (pc' := 11) (by decide) (by decide) ?_
    exact gRetN X0 hx hlk hret (by simp) (H d28_11) (w := (1 : Int32)) rfl (by decide) (by decide) (just_t c3 e0)
theorem d19_0 : decode jdk_52_method_3_code 0 = .ok (.iload_n 0, 1) := by decide +kernel
theorem d19_1 : decode jdk_52_method_3_code 1 = .ok (.ifCond .ge 11, 3) := by decide +kernel
theorem d19_12 : decode jdk_52_method_3_code 12 = .ok (.iload_n 0, 1) := by decide +kernel
theorem d19_13 : decode jdk_52_method_3_code 13 = .ok (.ldc 20, 2) := by decide +kernel
theorem d19_15 : decode jdk_52_method_3_code 15 = .ok (.if_icmp .lt 40, 3) := by decide +kernel
theorem d19_55 : decode jdk_52_method_3_code 55 = .ok (.iload_n 0, 1) := by decide +kernel
theorem d19_56 : decode jdk_52_method_3_code 56 = .ok (.iconst 1, 1) := by decide +kernel
theorem d19_57 : decode jdk_52_method_3_code 57 = .ok (.ishl, 1) := by decide +kernel
theorem d19_58 : decode jdk_52_method_3_code 58 = .ok (.ireturn, 1) := by decide +kernel
abbrev mn27 : MethodName := ⟨"java/lang/StringUTF16", "newBytesLength", "(I)I"⟩
theorem pn_6 : plainName "java/lang/StringUTF16" = true := by first | (simp [plainName, overriddenIn]; done) | decide +kernel
theorem c_nbl_1 (l : Launch) (Z : State) (a0 : Array Value) (hw : ∀ d ∈ tables_1, d.before a0 Z = true)  (h0 : Heap)  :
    Ctr l Z mn27 jdk_52_method_3_code 1 (some .int) [] ⟨0, 0, 0, 0⟩ #[(.int (1 : Int32))] h0 (Just h0 (.int 2)) := by
  refine Ctr.of (plainFor_of_name pn_6) ?_
  intro p e s m below meth c s₁ hx H hml hret hown hnm hZ hlk X0 e0
  refine Goes.cast (show entryFrame m _ _ = mkF m 0 #[.val (.int (1 : Int32))] [] from rfl) ?_
  refine gLoadIN 1 X0 hx (H d19_0) rfl rfl ?_
  refine gIfGe X0 hx (H d19_1) (pc' := 12) (by decide) (by decide) (pn := 4) rfl (fun (c1 : (0 : Int) ≤ (1 : Int)) => ?_) (fun (c1 : (1 : Int) < (0 : Int)) => ?_)
  · refine gLoadIN 13 X0 hx (H d19_12) rfl rfl ?_
    refine gLdc 15 X0 hx hZ hown (ow hw 88 rfl) (H d19_13) rfl ?_
    refine gIcmpLt X0 hx (H d19_15) (pc' := 55) (by decide) (by decide) (pn := 18) rfl (fun (c15 : (1 : Int) < (1073741823 : Int)) => ?_) (fun (c15 : (1073741823 : Int) ≤ (1 : Int)) => ?_)
    · refine gLoadIN 56 X0 hx (H d19_55) rfl rfl ?_
      refine gIconst 57 X0 hx (v := (1 : Int32)) (H d19_56) rfl rfl ?_
      refine gIshl 58 X0 hx (H d19_57) rfl ?_
      show Goes p e below _ s₁ (mkF m 58 #[.val (.int (1 : Int32))] [(.int (2 : Int32))])
      exact gRetI X0 hx hlk hret (H d19_58) (by decide) (by decide) (⟨rfl, e0, rfl⟩)
    · exact absurd c15 (by decide)
  · exact absurd c1 (by decide)
theorem d18_0 : decode jdk_52_method_2_code 0 = .ok (.iload_n 0, 1) := by decide +kernel
theorem d18_1 : decode jdk_52_method_2_code 1 = .ok (.invokestatic 11, 3) := by decide +kernel
theorem pd_6 : parseMethodDescriptor "(I)I" = some ⟨[.int], some .int⟩ := by decide +kernel
theorem d18_4 : decode jdk_52_method_2_code 4 = .ok (.newarray .byte, 2) := by decide +kernel
theorem d18_6 : decode jdk_52_method_2_code 6 = .ok (.areturn, 1) := by decide +kernel
abbrev mn26 : MethodName := ⟨"java/lang/StringUTF16", "newBytesFor", "(I)[B"⟩
theorem c_nbf_1 (l : Launch) (Z : State) (a0 : Array Value) (hw : ∀ d ∈ tables_1, d.before a0 Z = true)  (h0 : Heap)  :
    Ctr l Z mn26 jdk_52_method_2_code 1 (some (.array .byte)) [] ⟨1, 1, 2, 12⟩ #[(.int (1 : Int32))] h0 (fun v h L => ∃ (t : Addr) (ct : ClassId), v = some (.ref t) ∧ h0.size ≤ t ∧ Fr h0.size L ∧ Keep h0 h [] ∧ sA Z h t ct 2 [.int 0, .int 0]) := by
  refine Ctr.of (plainFor_of_name pn_6) ?_
  intro p e s m below meth c s₁ hx H hml hret hown hnm hZ hlk X0 e0
  refine Goes.cast (show entryFrame m _ _ = mkF m 0 #[.val (.int (1 : Int32))] [] from rfl) ?_
  refine gLoadIN 1 X0 hx (H d18_0) rfl rfl ?_
  refine gCallSJ X0 hx hZ (y := mn27) hown e0 (by rw [hml]; rfl) (ow hw 85 rfl) (ow hw 86 rfl) (ow hw 67 rfl) (ow hw 87 rfl) (by decide) (argsL := [(.int (1 : Int32))]) (st := []) (c_nbl_1 l Z a0 hw h0) (lenOf pd_6 rfl) (H d18_1) (pc' := 4) rfl rfl rfl rfl (by decide) (W := 0) (Nat.le_of_eq rfl) (by decide) (by decide) (by decide) ?_
  intro T1 X1 e1
  refine gNewP X1 hx hZ (ow hw 20 rfl) e1 (n := (2 : Int32)) (H d18_4) (by decide) (cap := 2) (by decide) (by decide) (by decide) (by decide) 2 (pc' := 6) rfl (fun T2 h2 b2 ck2 X2 e2 g2 E2 A2 => ?_)
  have sz_b2 : h0.size ≤ b2 := Nat.le_trans (Nat.le_refl _) (Nat.le_of_eq g2.symm)
  have zs2 : h0.size ≤ h2.size := Nat.le_trans (Nat.le_refl _) E2.1
  have K2 : Keep h0 h2 [] := (Keep.refl h0 []).ext E2
  have V2 : Arv Z h2 b2 ck2 .byte (2 : Int32) [(.int (0 : Int32)), (.int (0 : Int32))] (.int (0 : Int32)) := A2
  exact gRetA X2 hx hlk hret rfl rfl (H d18_6) (by decide) (by decide) (⟨_, _, rfl, sz_b2, Fr.nil _, by rw [e2]; exact K2, by rw [e2]; exact V2⟩)
theorem d23_0 : decode jdk_52_method_4_code 0 = .ok (.getstatic 44, 3) := by decide +kernel
theorem d23_3 : decode jdk_52_method_4_code 3 = .ok (.ifCond .ne 25, 3) := by decide +kernel
theorem d23_28 : decode jdk_52_method_4_code 28 = .ok (.iload_n 1, 1) := by decide +kernel
theorem d23_29 : decode jdk_52_method_4_code 29 = .ok (.iconst 1, 1) := by decide +kernel
theorem d23_30 : decode jdk_52_method_4_code 30 = .ok (.ishl, 1) := by decide +kernel
theorem d23_31 : decode jdk_52_method_4_code 31 = .ok (.istore_n 1, 1) := by decide +kernel
theorem d23_32 : decode jdk_52_method_4_code 32 = .ok (.aload_n 0, 1) := by decide +kernel
theorem d23_33 : decode jdk_52_method_4_code 33 = .ok (.iload_n 1, 1) := by decide +kernel
theorem d23_34 : decode jdk_52_method_4_code 34 = .ok (.iinc 1 1, 3) := by decide +kernel
theorem d23_37 : decode jdk_52_method_4_code 37 = .ok (.iload_n 2, 1) := by decide +kernel
theorem d23_38 : decode jdk_52_method_4_code 38 = .ok (.getstatic 59, 3) := by decide +kernel
theorem d23_41 : decode jdk_52_method_4_code 41 = .ok (.ishr, 1) := by decide +kernel
theorem d23_42 : decode jdk_52_method_4_code 42 = .ok (.i2b, 1) := by decide +kernel
theorem d23_43 : decode jdk_52_method_4_code 43 = .ok (.bastore, 1) := by decide +kernel
theorem d23_44 : decode jdk_52_method_4_code 44 = .ok (.aload_n 0, 1) := by decide +kernel
theorem d23_45 : decode jdk_52_method_4_code 45 = .ok (.iload_n 1, 1) := by decide +kernel
theorem d23_46 : decode jdk_52_method_4_code 46 = .ok (.iload_n 2, 1) := by decide +kernel
theorem d23_47 : decode jdk_52_method_4_code 47 = .ok (.getstatic 63, 3) := by decide +kernel
theorem d23_50 : decode jdk_52_method_4_code 50 = .ok (.ishr, 1) := by decide +kernel
theorem d23_51 : decode jdk_52_method_4_code 51 = .ok (.i2b, 1) := by decide +kernel
theorem d23_52 : decode jdk_52_method_4_code 52 = .ok (.bastore, 1) := by decide +kernel
theorem d23_53 : decode jdk_52_method_4_code 53 = .ok (.return_, 1) := by decide +kernel
abbrev mn28 : MethodName := ⟨"java/lang/StringUTF16", "putChar", "([BII)V"⟩
theorem c_put_1_0 (l : Launch) (Z : State) (a0 : Array Value) (hw : ∀ d ∈ tables_1, d.before a0 Z = true) (t : Addr) (ct : ClassId) (n0 : Nat) (ch0 : Int32) (h0 : Heap) (gt : n0 ≤ t) (hU : U16 Z h0) (B : sA Z h0 t ct 2 [(.int (0 : Int32)), (.int (0 : Int32))]) :
    Ctr l Z mn28 jdk_52_method_4_code 3 none [] ⟨0, 0, 0, 0⟩ #[(.ref t), (.int (0 : Int32)), (.int ch0)] h0 (fun v h L => v = none ∧ Fr n0 L ∧ Keep h0 h [t] ∧ sA Z h t ct 2 [(.int (lo8 ch0)), (.int (hi8 ch0))]) := by
  refine Ctr.of (plainFor_of_name pn_6) ?_
  intro p e s m below meth c s₁ hx H hml hret hown hnm hZ hlk X0 e0
  refine Goes.cast (show entryFrame m _ _ = mkF m 0 #[.val (.ref t), .val (.int (0 : Int32)), .val (.int ch0)] [] from rfl) ?_
  refine gGetS X0 hx hZ hown (ow hw 92 rfl) Via.refl e0 hU.1 (H d23_0) (pc' := 3) rfl (fun T1 X1 e1 => ?_)
  refine gIfNeT X1 hx (H d23_3) (pc' := 28) (by decide) (by decide) (pn := 6) rfl (fun (c3 : ¬ (1 : Int) = (0 : Int)) => ?_) (fun (c3 : (1 : Int) = (0 : Int)) => ?_)
  · refine gLoadIN 29 X1 hx (H d23_28) rfl rfl ?_
    refine gIconst 30 X1 hx (v := (1 : Int32)) (H d23_29) rfl rfl ?_
    refine gIshl 31 X1 hx (H d23_30) rfl ?_
    show Goes p e below _ T1 (mkF m 31 #[.val (.ref t), .val (.int (0 : Int32)), .val (.int ch0)] [(.int (0 : Int32))])
    refine gStoreIN 32 X1 hx (H d23_31) (l' := #[.val (.ref t), .val (.int (0 : Int32)), .val (.int ch0)]) rfl rfl ?_
    refine gLoadAN 33 X1 hx (H d23_32) rfl rfl rfl ?_
    refine gLoadIN 34 X1 hx (H d23_33) rfl rfl ?_
    refine gIinc X1 hx (v := (1 : Int32)) (H d23_34) (l' := #[.val (.ref t), .val (.int (1 : Int32)), .val (.int ch0)]) (pc' := 37) rfl rfl rfl rfl ?_
    refine gLoadIN 38 X1 hx (H d23_37) rfl rfl ?_
    refine gGetS X1 hx hZ hown (ow hw 93 rfl) Via.refl e1 hU.2.1 (H d23_38) (pc' := 41) rfl (fun T2 X2 e2 => ?_)
    refine gIshr 42 X2 hx (H d23_41) rfl ?_
    refine gI2b 43 X2 hx (H d23_42) rfl ?_
    refine gBastore X2 hx hZ e2 (x := ((ch0 >>> ((0 : Int32) &&& 31)).toInt8.toInt32)) B (j := (0 : Int32)) (by decide) (by decide) 0 (by decide) (by simp) (H d23_43) (pc' := 44) rfl (fun T3 h3 X3 e3 W3 A3 => ?_)
    have f3_0 := hU.1.wr W3
    have f3_1 := hU.2.1.wr W3
    have f3_2 := hU.2.2.wr W3
    have zs3 : h0.size ≤ h3.size := by rw [W3.size]; exact (Nat.le_refl _)
    have N3 := Fr.snoc X3 (Fr.nil n0) gt
    have K3 : Keep h0 h3 [t] := (Keep.refl h0 [t]).wr W3 (Or.inl (by simp))
    have V3 : Arv Z h3 t _ .byte (2 : Int32) [(.int (lo8 ch0)), (.int (0 : Int32))] (.int 0) := (by have q := A3; rw [own_nb] at q; exact q)
    refine gLoadAN 45 X3 hx (H d23_44) rfl rfl rfl ?_
    refine gLoadIN 46 X3 hx (H d23_45) rfl rfl ?_
    refine gLoadIN 47 X3 hx (H d23_46) rfl rfl ?_
    refine gGetS X3 hx hZ hown (ow hw 94 rfl) Via.refl e3 f3_2 (H d23_47) (pc' := 50) rfl (fun T4 X4 e4 => ?_)
    refine gIshr 51 X4 hx (H d23_50) rfl ?_
    refine gI2b 52 X4 hx (H d23_51) rfl ?_
    refine gBastore X4 hx hZ e4 (x := ((ch0 >>> ((8 : Int32) &&& 31)).toInt8.toInt32)) V3 (j := (1 : Int32)) (by decide) (by decide) 1 (by decide) (by simp) (H d23_52) (pc' := 53) rfl (fun T5 h5 X5 e5 W5 A5 => ?_)
    have f5_0 := f3_0.wr W5
    have f5_1 := f3_1.wr W5
    have f5_2 := f3_2.wr W5
    have zs5 : h0.size ≤ h5.size := by rw [W5.size]; exact zs3
    have N5 := Fr.snoc X5 N3 gt
    have K5 : Keep h0 h5 [t] := K3.wr W5 (Or.inl (by simp))
    have V5 : Arv Z h5 t _ .byte (2 : Int32) [(.int (lo8 ch0)), (.int (hi8 ch0))] (.int 0) := (by have q := A5; rw [own_nb] at q; exact q)
    exact gRetV X5 hx hlk hret (H d23_53) (by decide) (by decide) (⟨rfl, N5, by rw [e5]; exact K5, by rw [e5]; exact V5⟩)
  · exact absurd c3 (by decide)
theorem d24_0 : decode jdk_52_method_5_code 0 = .ok (.getstatic 44, 3) := by decide +kernel
theorem d24_3 : decode jdk_52_method_5_code 3 = .ok (.ifCond .ne 25, 3) := by decide +kernel
theorem d24_28 : decode jdk_52_method_5_code 28 = .ok (.iload_n 1, 1) := by decide +kernel
theorem d24_29 : decode jdk_52_method_5_code 29 = .ok (.iconst 1, 1) := by decide +kernel
theorem d24_30 : decode jdk_52_method_5_code 30 = .ok (.ishl, 1) := by decide +kernel
theorem d24_31 : decode jdk_52_method_5_code 31 = .ok (.istore_n 1, 1) := by decide +kernel
theorem d24_32 : decode jdk_52_method_5_code 32 = .ok (.aload_n 0, 1) := by decide +kernel
theorem d24_33 : decode jdk_52_method_5_code 33 = .ok (.iload_n 1, 1) := by decide +kernel
theorem d24_34 : decode jdk_52_method_5_code 34 = .ok (.iinc 1 1, 3) := by decide +kernel
theorem d24_37 : decode jdk_52_method_5_code 37 = .ok (.baload, 1) := by decide +kernel
theorem d24_38 : decode jdk_52_method_5_code 38 = .ok (.sipush 255, 3) := by decide +kernel
theorem d24_41 : decode jdk_52_method_5_code 41 = .ok (.iand, 1) := by decide +kernel
theorem d24_42 : decode jdk_52_method_5_code 42 = .ok (.getstatic 59, 3) := by decide +kernel
theorem d24_45 : decode jdk_52_method_5_code 45 = .ok (.ishl, 1) := by decide +kernel
theorem d24_46 : decode jdk_52_method_5_code 46 = .ok (.aload_n 0, 1) := by decide +kernel
theorem d24_47 : decode jdk_52_method_5_code 47 = .ok (.iload_n 1, 1) := by decide +kernel
theorem d24_48 : decode jdk_52_method_5_code 48 = .ok (.baload, 1) := by decide +kernel
theorem d24_49 : decode jdk_52_method_5_code 49 = .ok (.sipush 255, 3) := by decide +kernel
theorem d24_52 : decode jdk_52_method_5_code 52 = .ok (.iand, 1) := by decide +kernel
theorem d24_53 : decode jdk_52_method_5_code 53 = .ok (.getstatic 63, 3) := by decide +kernel
theorem d24_56 : decode jdk_52_method_5_code 56 = .ok (.ishl, 1) := by decide +kernel
theorem d24_57 : decode jdk_52_method_5_code 57 = .ok (.ior, 1) := by decide +kernel
theorem d24_58 : decode jdk_52_method_5_code 58 = .ok (.i2c, 1) := by decide +kernel
theorem d24_59 : decode jdk_52_method_5_code 59 = .ok (.ireturn, 1) := by decide +kernel
abbrev mn21 : MethodName := ⟨"java/lang/StringUTF16", "getChar", "([BI)C"⟩
theorem c_get_1_0 (l : Launch) (Z : State) (a0 : Array Value) (hw : ∀ d ∈ tables_1, d.before a0 Z = true) (t : Addr) (ct : ClassId) (ch0 : Int32) (h0 : Heap) (hU : U16 Z h0) (B : sA Z h0 t ct 2 [(.int (lo8 ch0)), (.int (hi8 ch0))]) (hch0 : r6 ch0) :
    Ctr l Z mn21 jdk_52_method_5_code 2 (some .char) [] ⟨0, 0, 0, 0⟩ #[(.ref t), (.int (0 : Int32))] h0 (Just h0 (.int ch0)) := by
  refine Ctr.of (plainFor_of_name pn_6) ?_
  intro p e s m below meth c s₁ hx H hml hret hown hnm hZ hlk X0 e0
  refine Goes.cast (show entryFrame m _ _ = mkF m 0 #[.val (.ref t), .val (.int (0 : Int32))] [] from rfl) ?_
  refine gGetS X0 hx hZ hown (ow hw 92 rfl) Via.refl e0 hU.1 (H d24_0) (pc' := 3) rfl (fun T1 X1 e1 => ?_)
  refine gIfNeT X1 hx (H d24_3) (pc' := 28) (by decide) (by decide) (pn := 6) rfl (fun (c3 : ¬ (1 : Int) = (0 : Int)) => ?_) (fun (c3 : (1 : Int) = (0 : Int)) => ?_)
  · refine gLoadIN 29 X1 hx (H d24_28) rfl rfl ?_
    refine gIconst 30 X1 hx (v := (1 : Int32)) (H d24_29) rfl rfl ?_
    refine gIshl 31 X1 hx (H d24_30) rfl ?_
    show Goes p e below _ T1 (mkF m 31 #[.val (.ref t), .val (.int (0 : Int32))] [(.int (0 : Int32))])
    refine gStoreIN 32 X1 hx (H d24_31) (l' := #[.val (.ref t), .val (.int (0 : Int32))]) rfl rfl ?_
    refine gLoadAN 33 X1 hx (H d24_32) rfl rfl rfl ?_
    refine gLoadIN 34 X1 hx (H d24_33) rfl rfl ?_
    refine gIinc X1 hx (v := (1 : Int32)) (H d24_34) (l' := #[.val (.ref t), .val (.int (1 : Int32))]) (pc' := 37) rfl rfl rfl rfl ?_
    refine gBaload X1 hx hZ e1 B (j := (0 : Int32)) (v := (.int (lo8 ch0))) (by decide) (by decide) rfl (H d24_37) (pc' := 38) rfl ?_
    refine gSipush 41 X1 hx (v := (255 : Int32)) (H d24_38) rfl rfl ?_
    refine gIand 42 X1 hx (H d24_41) rfl ?_
    refine gGetS X1 hx hZ hown (ow hw 93 rfl) Via.refl e1 hU.2.1 (H d24_42) (pc' := 45) rfl (fun T2 X2 e2 => ?_)
    refine gIshl 46 X2 hx (H d24_45) rfl ?_
    refine gLoadAN 47 X2 hx (H d24_46) rfl rfl rfl ?_
    refine gLoadIN 48 X2 hx (H d24_47) rfl rfl ?_
    refine gBaload X2 hx hZ e2 B (j := (1 : Int32)) (v := (.int (hi8 ch0))) (by decide) (by decide) rfl (H d24_48) (pc' := 49) rfl ?_
    refine gSipush 52 X2 hx (v := (255 : Int32)) (H d24_49) rfl rfl ?_
    refine gIand 53 X2 hx (H d24_52) rfl ?_
    refine gGetS X2 hx hZ hown (ow hw 94 rfl) Via.refl e2 hU.2.2 (H d24_53) (pc' := 56) rfl (fun T3 X3 e3 => ?_)
    refine gIshl 57 X3 hx (H d24_56) rfl ?_
    refine gIor 58 X3 hx (H d24_57) rfl ?_
    refine gI2c 59 X3 hx (H d24_58) rfl ?_
    rw [own_u16 hch0]
    exact gRetN X3 hx hlk hret (by simp) (H d24_59) (w := ch0) (own_nc hch0) (by decide) (by decide) (⟨rfl, e3, rfl⟩)
  · exact absurd c3 (by decide)
theorem d14_0 : decode jdk_52_method_14_code 0 = .ok (.iload_n 2, 1) := by decide +kernel
theorem d14_1 : decode jdk_52_method_14_code 1 = .ok (.invokestatic 107, 3) := by decide +kernel
theorem pd_8 : parseMethodDescriptor "(I)[B" = some ⟨[.int], some (.array .byte)⟩ := by decide +kernel
theorem d14_4 : decode jdk_52_method_14_code 4 = .ok (.astore_n 3, 1) := by decide +kernel
theorem d14_5 : decode jdk_52_method_14_code 5 = .ok (.iconst 0, 1) := by decide +kernel
theorem d14_6 : decode jdk_52_method_14_code 6 = .ok (.istore 4, 2) := by decide +kernel
theorem d14_8 : decode jdk_52_method_14_code 8 = .ok (.iload 4, 2) := by decide +kernel
theorem d14_10 : decode jdk_52_method_14_code 10 = .ok (.iload_n 2, 1) := by decide +kernel
theorem d14_11 : decode jdk_52_method_14_code 11 = .ok (.if_icmp .ge 21, 3) := by decide +kernel
theorem d14_14 : decode jdk_52_method_14_code 14 = .ok (.aload_n 3, 1) := by decide +kernel
theorem d14_15 : decode jdk_52_method_14_code 15 = .ok (.iload 4, 2) := by decide +kernel
theorem d14_17 : decode jdk_52_method_14_code 17 = .ok (.aload_n 0, 1) := by decide +kernel
theorem d14_18 : decode jdk_52_method_14_code 18 = .ok (.iload_n 1, 1) := by decide +kernel
theorem d14_19 : decode jdk_52_method_14_code 19 = .ok (.caload, 1) := by decide +kernel
theorem d14_20 : decode jdk_52_method_14_code 20 = .ok (.invokestatic 111, 3) := by decide +kernel
theorem pd_17 : parseMethodDescriptor "([BII)V" = some ⟨[(.array .byte), .int, .int], none⟩ := by decide +kernel
theorem d14_23 : decode jdk_52_method_14_code 23 = .ok (.iinc 1 1, 3) := by decide +kernel
theorem d14_26 : decode jdk_52_method_14_code 26 = .ok (.iinc 4 1, 3) := by decide +kernel
theorem d14_29 : decode jdk_52_method_14_code 29 = .ok (.goto (-21), 3) := by decide +kernel
theorem d14_32 : decode jdk_52_method_14_code 32 = .ok (.aload_n 3, 1) := by decide +kernel
theorem d14_33 : decode jdk_52_method_14_code 33 = .ok (.areturn, 1) := by decide +kernel
abbrev mn29 : MethodName := ⟨"java/lang/StringUTF16", "toBytes", "([CII)[B"⟩
theorem c_tob_1 (l : Launch) (Z : State) (a0 : Array Value) (hw : ∀ d ∈ tables_1, d.before a0 Z = true) (x : Addr) (cx : ClassId) (ch0 : Int32) (h0 : Heap) (hU : U16 Z h0) (A : Arv Z h0 x cx .char 1 [.int ch0] (.int 0)) (hch0 : r6 ch0) :
    Ctr l Z mn29 jdk_52_method_14_code 5 (some (.array .byte)) [] ⟨2, 1, 2, 40⟩ #[(.ref x), (.int (0 : Int32)), (.int (1 : Int32))] h0 (fun v h L => ∃ (t : Addr) (ct : ClassId), v = some (.ref t) ∧ h0.size ≤ t ∧ Fr h0.size L ∧ Keep h0 h [] ∧ sA Z h t ct 2 [(.int (lo8 ch0)), (.int (hi8 ch0))]) := by
  refine Ctr.of (plainFor_of_name pn_6) ?_
  intro p e s m below meth c s₁ hx H hml hret hown hnm hZ hlk X0 e0
  refine Goes.cast (show entryFrame m _ _ = mkF m 0 #[.val (.ref x), .val (.int (0 : Int32)), .val (.int (1 : Int32)), .unset, .unset] [] from rfl) ?_
  refine gLoadIN 1 X0 hx (H d14_0) rfl rfl ?_
  refine gCallS X0 hx hZ (y := mn26) hown e0 (by rw [hml]; rfl) (ow hw 82 rfl) (ow hw 83 rfl) (ow hw 67 rfl) (ow hw 84 rfl) (by decide) (argsL := [(.int (1 : Int32))]) (st := []) (c_nbf_1 l Z a0 hw h0) (lenOf pd_8 rfl) (H d14_1) (pc' := 4) rfl rfl (by decide) (W := 0) (Nat.le_of_eq rfl) (by decide) (by decide) (by decide) ?_
  intro T1 v1 L1 X1 hQ1
  obtain ⟨q1, ctq1, rfl, gq1, Nq1, Kq1, Aq1⟩ := hQ1
  have N1 := Fr.app (Fr.nil h0.size) (fun y hy => Nat.le_trans (Nat.le_refl _) (Nq1 y hy))
  have K1 : Keep h0 T1.heap [] := (Keep.refl h0 []).trans Kq1 all0
  have nt1 : x ≠ q1 := Nat.ne_of_lt (Nat.lt_of_lt_of_le A.lt gq1)
  have f1_0 := A.keep Kq1 nin0
  have f1_1 := own_u16_keep hU Kq1 ns0
  refine gStoreAN 5 X1 hx (H d14_4) (l' := #[.val (.ref x), .val (.int (0 : Int32)), .val (.int (1 : Int32)), .val (.ref q1), .unset]) rfl rfl rfl ?_
  refine gIconst 6 X1 hx (v := (0 : Int32)) (H d14_5) rfl rfl ?_
  refine gStoreI 8 X1 hx (H d14_6) (l' := #[.val (.ref x), .val (.int (0 : Int32)), .val (.int (1 : Int32)), .val (.ref q1), .val (.int (0 : Int32))]) rfl rfl ?_
  refine gLoadI 10 X1 hx (H d14_8) rfl rfl ?_
  refine gLoadIN 11 X1 hx (H d14_10) rfl rfl ?_
  refine gIcmpGe X1 hx (H d14_11) (pc' := 32) (by decide) (by decide) (pn := 14) rfl (fun (c11 : (1 : Int) ≤ (0 : Int)) => ?_) (fun (c11 : (0 : Int) < (1 : Int)) => ?_)
  · exact absurd c11 (by decide)
  · refine gLoadAN 15 X1 hx (H d14_14) rfl rfl rfl ?_
    refine gLoadI 17 X1 hx (H d14_15) rfl rfl ?_
    refine gLoadAN 18 X1 hx (H d14_17) rfl rfl rfl ?_
    refine gLoadIN 19 X1 hx (H d14_18) rfl rfl ?_
    refine gCaload X1 hx hZ rfl f1_0 (j := (0 : Int32)) (v := (.int ch0)) (by decide) (by decide) rfl (H d14_19) (pc' := 20) rfl ?_
    refine gCallS X1 hx hZ (y := mn28) hown rfl (by rw [hml]; rfl) (ow hw 89 rfl) (ow hw 90 rfl) (ow hw 67 rfl) (ow hw 91 rfl) (by decide) (argsL := [(.ref q1), (.int (0 : Int32)), (.int ch0)]) (st := []) (c_put_1_0 l Z a0 hw q1 ctq1 h0.size ch0 T1.heap gq1 f1_1 Aq1) (lenOf pd_17 rfl) (H d14_20) (pc' := 23) rfl rfl (by decide) (W := 0) (Nat.le_of_eq rfl) (by decide) (by decide) (by decide) ?_
    intro T2 v2 L2 X2 hQ2
    obtain ⟨rfl, Nq2, Kq2, Aq2⟩ := hQ2
    have N2 := Fr.app N1 Nq2
    have K2 : Keep h0 T2.heap [] := K1.trans Kq2 (allS (Or.inr gq1) all0)
    have f2_0 := f1_0.keep Kq2 (ninS nt1 nin0)
    have f2_1 := own_u16_keep f1_1 Kq2 (nsS (Arv.nostat Aq1) ns0)
    refine gIinc X2 hx (v := (1 : Int32)) (H d14_23) (l' := #[.val (.ref x), .val (.int (1 : Int32)), .val (.int (1 : Int32)), .val (.ref q1), .val (.int (0 : Int32))]) (pc' := 26) rfl rfl rfl rfl ?_
    refine gIinc X2 hx (v := (1 : Int32)) (H d14_26) (l' := #[.val (.ref x), .val (.int (1 : Int32)), .val (.int (1 : Int32)), .val (.ref q1), .val (.int (1 : Int32))]) (pc' := 29) rfl rfl rfl rfl ?_
    refine gGoto X2 hx (H d14_29) (pc' := 8) (by decide) (by decide) ?_
    refine gLoadI 10 X2 hx (H d14_8) rfl rfl ?_
    refine gLoadIN 11 X2 hx (H d14_10) rfl rfl ?_
    refine gIcmpGe X2 hx (H d14_11) (pc' := 32) (by decide) (by decide) (pn := 14) rfl (fun (c11' : (1 : Int) ≤ (1 : Int)) => ?_) (fun (c11' : (1 : Int) < (1 : Int)) => ?_)
    · refine gLoadAN 33 X2 hx (H d14_32) rfl rfl rfl ?_
      exact gRetA X2 hx hlk hret rfl rfl (H d14_33) (by decide) (by decide) (⟨q1, ctq1, rfl, gq1, N2, K2, Aq2⟩)
    · exact absurd c11' (by decide)
theorem d17_0 : decode jdk_52_method_21_code 0 = .ok (.iconst 0, 1) := by decide +kernel
theorem d17_1 : decode jdk_52_method_21_code 1 = .ok (.istore 5, 2) := by decide +kernel
theorem d17_3 : decode jdk_52_method_21_code 3 = .ok (.iload 5, 2) := by decide +kernel
theorem d17_5 : decode jdk_52_method_21_code 5 = .ok (.iload 4, 2) := by decide +kernel
theorem d17_7 : decode jdk_52_method_21_code 7 = .ok (.if_icmp .ge 37, 3) := by decide +kernel
theorem d17_10 : decode jdk_52_method_21_code 10 = .ok (.aload_n 0, 1) := by decide +kernel
theorem d17_11 : decode jdk_52_method_21_code 11 = .ok (.iload_n 1, 1) := by decide +kernel
theorem d17_12 : decode jdk_52_method_21_code 12 = .ok (.caload, 1) := by decide +kernel
theorem d17_13 : decode jdk_52_method_21_code 13 = .ok (.istore 6, 2) := by decide +kernel
theorem d17_15 : decode jdk_52_method_21_code 15 = .ok (.iload 6, 2) := by decide +kernel
theorem d17_17 : decode jdk_52_method_21_code 17 = .ok (.sipush 255, 3) := by decide +kernel
theorem d17_20 : decode jdk_52_method_21_code 20 = .ok (.if_icmp .le 6, 3) := by decide +kernel
theorem d17_23 : decode jdk_52_method_21_code 23 = .ok (.iload 5, 2) := by decide +kernel
theorem d17_25 : decode jdk_52_method_21_code 25 = .ok (.ireturn, 1) := by decide +kernel
abbrev mn20 : MethodName := ⟨"java/lang/StringUTF16", "compress", "([CI[BII)I"⟩
theorem c_cui_1 (l : Launch) (Z : State) (a0 : Array Value) (hw : ∀ d ∈ tables_1, d.before a0 Z = true) (x t : Addr) (cx ct : ClassId) (n0 : Nat) (ch0 : Int32) (h0 : Heap) (gt : n0 ≤ t) (hne : x ≠ t) (A : Arv Z h0 x cx .char 1 [.int ch0] (.int 0)) (B : Arv Z h0 t ct .byte 1 [.int 0] (.int 0)) (hbig : 255 < ch0.toInt) :
    Ctr l Z mn20 jdk_52_method_21_code 7 (some .int) [] ⟨0, 0, 0, 0⟩ #[(.ref x), (.int (0 : Int32)), (.ref t), (.int (0 : Int32)), (.int (1 : Int32))] h0 (fun v h L => ∃ k : Int32, v = some (.int k) ∧ Fr n0 L ∧ Keep h0 h [t] ∧ ((k = 0 ∧ 255 < ch0.toInt))) := by
  refine Ctr.of (plainFor_of_name pn_6) ?_
  intro p e s m below meth c s₁ hx H hml hret hown hnm hZ hlk X0 e0
  refine Goes.cast (show entryFrame m _ _ = mkF m 0 #[.val (.ref x), .val (.int (0 : Int32)), .val (.ref t), .val (.int (0 : Int32)), .val (.int (1 : Int32)), .unset, .unset] [] from rfl) ?_
  refine gIconst 1 X0 hx (v := (0 : Int32)) (H d17_0) rfl rfl ?_
  refine gStoreI 3 X0 hx (H d17_1) (l' := #[.val (.ref x), .val (.int (0 : Int32)), .val (.ref t), .val (.int (0 : Int32)), .val (.int (1 : Int32)), .val (.int (0 : Int32)), .unset]) rfl rfl ?_
  refine gLoadI 5 X0 hx (H d17_3) rfl rfl ?_
  refine gLoadI 7 X0 hx (H d17_5) rfl rfl ?_
  refine gIcmpGe X0 hx (H d17_7) (pc' := 44) (by decide) (by decide) (pn := 10) rfl (fun (c7 : (1 : Int) ≤ (0 : Int)) => ?_) (fun (c7 : (0 : Int) < (1 : Int)) => ?_)
  · exact absurd c7 (by decide)
  · refine gLoadAN 11 X0 hx (H d17_10) rfl rfl rfl ?_
    refine gLoadIN 12 X0 hx (H d17_11) rfl rfl ?_
    refine gCaload X0 hx hZ e0 A (j := (0 : Int32)) (v := (.int ch0)) (by decide) (by decide) rfl (H d17_12) (pc' := 13) rfl ?_
    refine gStoreI 15 X0 hx (H d17_13) (l' := #[.val (.ref x), .val (.int (0 : Int32)), .val (.ref t), .val (.int (0 : Int32)), .val (.int (1 : Int32)), .val (.int (0 : Int32)), .val (.int ch0)]) rfl rfl ?_
    refine gLoadI 17 X0 hx (H d17_15) rfl rfl ?_
    refine gSipush 20 X0 hx (v := (255 : Int32)) (H d17_17) rfl rfl ?_
    refine gIcmpLe X0 hx (H d17_20) (pc' := 26) (by decide) (by decide) (pn := 23) rfl (fun (c20 : ch0.toInt ≤ (255 : Int)) => ?_) (fun (c20 : (255 : Int) < ch0.toInt) => ?_)
    · exact absurd hbig (by omega)
    · refine gLoadI 25 X0 hx (H d17_23) rfl rfl ?_
      exact gRetI X0 hx hlk hret (H d17_25) (by decide) (by decide) (⟨(0 : Int32), rfl, (Fr.nil n0), by rw [e0]; exact (Keep.refl h0 [t]), ⟨rfl, c20⟩⟩)
theorem d16_0 : decode jdk_52_method_16_code 0 = .ok (.iload_n 2, 1) := by decide +kernel
theorem d16_1 : decode jdk_52_method_16_code 1 = .ok (.newarray .byte, 2) := by decide +kernel
theorem d16_3 : decode jdk_52_method_16_code 3 = .ok (.astore_n 3, 1) := by decide +kernel
theorem d16_4 : decode jdk_52_method_16_code 4 = .ok (.aload_n 0, 1) := by decide +kernel
theorem d16_5 : decode jdk_52_method_16_code 5 = .ok (.iload_n 1, 1) := by decide +kernel
theorem d16_6 : decode jdk_52_method_16_code 6 = .ok (.aload_n 3, 1) := by decide +kernel
theorem d16_7 : decode jdk_52_method_16_code 7 = .ok (.iconst 0, 1) := by decide +kernel
theorem d16_8 : decode jdk_52_method_16_code 8 = .ok (.iload_n 2, 1) := by decide +kernel
theorem d16_9 : decode jdk_52_method_16_code 9 = .ok (.invokestatic 115, 3) := by decide +kernel
theorem pd_22 : parseMethodDescriptor "([CI[BII)I" = some ⟨[(.array .char), .int, (.array .byte), .int, .int], some .int⟩ := by decide +kernel
theorem d16_12 : decode jdk_52_method_16_code 12 = .ok (.istore 4, 2) := by decide +kernel
theorem d16_14 : decode jdk_52_method_16_code 14 = .ok (.iload 4, 2) := by decide +kernel
theorem d16_16 : decode jdk_52_method_16_code 16 = .ok (.iload_n 2, 1) := by decide +kernel
theorem d16_17 : decode jdk_52_method_16_code 17 = .ok (.if_icmp .eq 40, 3) := by decide +kernel
theorem d16_20 : decode jdk_52_method_16_code 20 = .ok (.aload_n 0, 1) := by decide +kernel
theorem d16_21 : decode jdk_52_method_16_code 21 = .ok (.iload_n 1, 1) := by decide +kernel
theorem d16_22 : decode jdk_52_method_16_code 22 = .ok (.iload_n 2, 1) := by decide +kernel
theorem d16_23 : decode jdk_52_method_16_code 23 = .ok (.invokestatic 119, 3) := by decide +kernel
theorem pd_20 : parseMethodDescriptor "([CII)[B" = some ⟨[(.array .char), .int, .int], some (.array .byte)⟩ := by decide +kernel
theorem d16_26 : decode jdk_52_method_16_code 26 = .ok (.astore 5, 2) := by decide +kernel
theorem d16_28 : decode jdk_52_method_16_code 28 = .ok (.aload 5, 2) := by decide +kernel
theorem d16_30 : decode jdk_52_method_16_code 30 = .ok (.iload 4, 2) := by decide +kernel
theorem d16_32 : decode jdk_52_method_16_code 32 = .ok (.invokestatic 71, 3) := by decide +kernel
theorem pd_16 : parseMethodDescriptor "([BI)C" = some ⟨[(.array .byte), .int], some .char⟩ := by decide +kernel
theorem d16_35 : decode jdk_52_method_16_code 35 = .ok (.sipush 255, 3) := by decide +kernel
theorem d16_38 : decode jdk_52_method_16_code 38 = .ok (.if_icmp .gt 16, 3) := by decide +kernel
theorem d16_54 : decode jdk_52_method_16_code 54 = .ok (.aload 5, 2) := by decide +kernel
theorem d16_56 : decode jdk_52_method_16_code 56 = .ok (.areturn, 1) := by decide +kernel
abbrev mn19 : MethodName := ⟨"java/lang/StringUTF16", "compress", "([CII)[B"⟩
theorem c_cuo_1 (l : Launch) (Z : State) (a0 : Array Value) (hw : ∀ d ∈ tables_1, d.before a0 Z = true) (x : Addr) (cx : ClassId) (ch0 : Int32) (h0 : Heap) (hU : U16 Z h0) (A : Arv Z h0 x cx .char 1 [.int ch0] (.int 0)) (hch0 : r6 ch0) (hbig : 255 < ch0.toInt) :
    Ctr l Z mn19 jdk_52_method_16_code 6 (some (.array .byte)) [] ⟨3, 2, 3, 60⟩ #[(.ref x), (.int (0 : Int32)), (.int (1 : Int32))] h0 (fun v h L => ∃ (t : Addr) (ct : ClassId), v = some (.ref t) ∧ h0.size ≤ t ∧ Fr h0.size L ∧ Keep h0 h [] ∧ sA Z h t ct 2 [(.int (lo8 ch0)), (.int (hi8 ch0))]) := by
  refine Ctr.of (plainFor_of_name pn_6) ?_
  intro p e s m below meth c s₁ hx H hml hret hown hnm hZ hlk X0 e0
  refine Goes.cast (show entryFrame m _ _ = mkF m 0 #[.val (.ref x), .val (.int (0 : Int32)), .val (.int (1 : Int32)), .unset, .unset, .unset] [] from rfl) ?_
  refine gLoadIN 1 X0 hx (H d16_0) rfl rfl ?_
  refine gNewP X0 hx hZ (ow hw 20 rfl) e0 (n := (1 : Int32)) (H d16_1) (by decide) (cap := 1) (by decide) (by decide) (by decide) (by decide) 1 (pc' := 3) rfl (fun T1 h1 b1 ck1 X1 e1 g1 E1 A1 => ?_)
  have ne_x_b1 : x ≠ b1 := Nat.ne_of_lt (Nat.lt_of_lt_of_eq A.lt g1.symm)
  have f1_0 := A.ext E1
  have f1_1 := hU.ext E1
  have sz_b1 : h0.size ≤ b1 := Nat.le_trans (Nat.le_refl _) (Nat.le_of_eq g1.symm)
  have zs1 : h0.size ≤ h1.size := Nat.le_trans (Nat.le_refl _) E1.1
  have K1 : Keep h0 h1 [] := (Keep.refl h0 []).ext E1
  have V1 : Arv Z h1 b1 ck1 .byte (1 : Int32) [(.int (0 : Int32))] (.int (0 : Int32)) := A1
  refine gStoreAN 4 X1 hx (H d16_3) (l' := #[.val (.ref x), .val (.int (0 : Int32)), .val (.int (1 : Int32)), .val (.ref b1), .unset, .unset]) rfl rfl rfl ?_
  refine gLoadAN 5 X1 hx (H d16_4) rfl rfl rfl ?_
  refine gLoadIN 6 X1 hx (H d16_5) rfl rfl ?_
  refine gLoadAN 7 X1 hx (H d16_6) rfl rfl rfl ?_
  refine gIconst 8 X1 hx (v := (0 : Int32)) (H d16_7) rfl rfl ?_
  refine gLoadIN 9 X1 hx (H d16_8) rfl rfl ?_
  refine gCallS X1 hx hZ (y := mn20) hown e1 (by rw [hml]; rfl) (ow hw 69 rfl) (ow hw 70 rfl) (ow hw 67 rfl) (ow hw 71 rfl) (by decide) (argsL := [(.ref x), (.int (0 : Int32)), (.ref b1), (.int (0 : Int32)), (.int (1 : Int32))]) (st := []) (c_cui_1 l Z a0 hw x b1 cx ck1 h0.size ch0 h1 sz_b1 ne_x_b1 f1_0 V1 hbig) (lenOf pd_22 rfl) (H d16_9) (pc' := 12) rfl rfl (by decide) (W := 0) (Nat.le_of_eq rfl) (by decide) (by decide) (by decide) ?_
  intro T2 v2 L2 X2 hQ2
  obtain ⟨kk, rfl, Nq2, Kq2, hkk⟩ := hQ2
  have N2 := Fr.app (Fr.nil h0.size) Nq2
  have K2 : Keep h0 T2.heap [] := K1.trans Kq2 (allS (Or.inr sz_b1) all0)
  have f2_0 := f1_0.keep Kq2 (ninS ne_x_b1 nin0)
  have f2_1 := own_u16_keep f1_1 Kq2 (nsS (Arv.nostat V1) ns0)
  have zs2 := Nat.le_trans zs1 Kq2.1
  rcases hkk with ⟨rfl, hk⟩
  · refine gStoreI 14 X2 hx (H d16_12) (l' := #[.val (.ref x), .val (.int (0 : Int32)), .val (.int (1 : Int32)), .val (.ref b1), .val (.int (0 : Int32)), .unset]) rfl rfl ?_
    refine gLoadI 16 X2 hx (H d16_14) rfl rfl ?_
    refine gLoadIN 17 X2 hx (H d16_16) rfl rfl ?_
    refine gIcmpEqT X2 hx (H d16_17) (pc' := 57) (by decide) (by decide) (pn := 20) rfl (fun (c17 : (0 : Int) = (1 : Int)) => ?_) (fun (c17 : ¬ (0 : Int) = (1 : Int)) => ?_)
    · exact absurd c17 (by decide)
    · refine gLoadAN 21 X2 hx (H d16_20) rfl rfl rfl ?_
      refine gLoadIN 22 X2 hx (H d16_21) rfl rfl ?_
      refine gLoadIN 23 X2 hx (H d16_22) rfl rfl ?_
      refine gCallS X2 hx hZ (y := mn29) hown rfl (by rw [hml]; rfl) (ow hw 79 rfl) (ow hw 80 rfl) (ow hw 67 rfl) (ow hw 81 rfl) (by decide) (argsL := [(.ref x), (.int (0 : Int32)), (.int (1 : Int32))]) (st := []) (c_tob_1 l Z a0 hw x cx ch0 T2.heap f2_1 f2_0 hch0) (lenOf pd_20 rfl) (H d16_23) (pc' := 26) rfl rfl (by decide) (W := 0) (Nat.le_of_eq rfl) (by decide) (by decide) (by decide) ?_
      intro T3 v3 L3 X3 hQ3
      obtain ⟨q3, ctq3, rfl, gq3, Nq3, Kq3, Aq3⟩ := hQ3
      have N3 := Fr.app N2 (fun y hy => Nat.le_trans zs2 (Nq3 y hy))
      have K3 : Keep h0 T3.heap [] := K2.trans Kq3 all0
      have f3_0 := f2_0.keep Kq3 nin0
      have f3_1 := own_u16_keep f2_1 Kq3 ns0
      have gz3 := Nat.le_trans zs2 gq3
      refine gStoreA 28 X3 hx (H d16_26) (l' := #[.val (.ref x), .val (.int (0 : Int32)), .val (.int (1 : Int32)), .val (.ref b1), .val (.int (0 : Int32)), .val (.ref q3)]) rfl rfl rfl ?_
      refine gLoadA 30 X3 hx (H d16_28) rfl rfl rfl ?_
      refine gLoadI 32 X3 hx (H d16_30) rfl rfl ?_
      refine gCallSJ X3 hx hZ (y := mn21) hown rfl (by rw [hml]; rfl) (ow hw 95 rfl) (ow hw 96 rfl) (ow hw 67 rfl) (ow hw 97 rfl) (by decide) (argsL := [(.ref q3), (.int (0 : Int32))]) (st := []) (c_get_1_0 l Z a0 hw q3 ctq3 ch0 T3.heap f3_1 Aq3 hch0) (lenOf pd_16 rfl) (H d16_32) (pc' := 35) rfl rfl rfl rfl (by decide) (W := 0) (Nat.le_of_eq rfl) (by decide) (by decide) (by decide) ?_
      intro T4 X4 e4
      refine gSipush 38 X4 hx (v := (255 : Int32)) (H d16_35) rfl rfl ?_
      refine gIcmpGt X4 hx (H d16_38) (pc' := 54) (by decide) (by decide) (pn := 41) rfl (fun (c38 : (255 : Int) < ch0.toInt) => ?_) (fun (c38 : ch0.toInt ≤ (255 : Int)) => ?_)
      · refine gLoadA 56 X4 hx (H d16_54) rfl rfl rfl ?_
        exact gRetA X4 hx hlk hret rfl rfl (H d16_56) (by decide) (by decide) (⟨q3, ctq3, rfl, gz3, N3, by rw [e4]; exact K3, by rw [e4]; exact Aq3⟩)
      · exact absurd c38 (by omega)
theorem d15_0 : decode jdk_52_method_15_code 0 = .ok (.iload_n 1, 1) := by decide +kernel
theorem d15_1 : decode jdk_52_method_15_code 1 = .ok (.aload_n 0, 1) := by decide +kernel
theorem d15_2 : decode jdk_52_method_15_code 2 = .ok (.arraylength, 1) := by decide +kernel
theorem d15_3 : decode jdk_52_method_15_code 3 = .ok (.isub, 1) := by decide +kernel
theorem d15_4 : decode jdk_52_method_15_code 4 = .ok (.bipush 31, 2) := by decide +kernel
theorem d15_6 : decode jdk_52_method_15_code 6 = .ok (.iushr, 1) := by decide +kernel
theorem d15_7 : decode jdk_52_method_15_code 7 = .ok (.i2b, 1) := by decide +kernel
theorem d15_8 : decode jdk_52_method_15_code 8 = .ok (.ireturn, 1) := by decide +kernel
abbrev mn18 : MethodName := ⟨"java/lang/StringUTF16", "coderFromArrayLen", "([BI)B"⟩
theorem c_cfu_1 (l : Launch) (Z : State) (a0 : Array Value) (hw : ∀ d ∈ tables_1, d.before a0 Z = true) (t : Addr) (ck : ClassId) (ch0 : Int32) (h0 : Heap) (A : sA Z h0 t ck 2 [(.int (lo8 ch0)), (.int (hi8 ch0))]) :
    Ctr l Z mn18 jdk_52_method_15_code 2 (some .byte) [] ⟨0, 0, 0, 0⟩ #[(.ref t), (.int (1 : Int32))] h0 (Just h0 (.int 1)) := by
  refine Ctr.of (plainFor_of_name pn_6) ?_
  intro p e s m below meth c s₁ hx H hml hret hown hnm hZ hlk X0 e0
  refine Goes.cast (show entryFrame m _ _ = mkF m 0 #[.val (.ref t), .val (.int (1 : Int32))] [] from rfl) ?_
  refine gLoadIN 1 X0 hx (H d15_0) rfl rfl ?_
  refine gLoadAN 2 X0 hx (H d15_1) rfl rfl rfl ?_
  refine gArrLen X0 hx hZ e0 A (H d15_2) (pc' := 3) rfl ?_
  refine gIsub 4 X0 hx (H d15_3) rfl ?_
  show Goes p e below _ s₁ (mkF m 4 #[.val (.ref t), .val (.int (1 : Int32))] [(.int (-1 : Int32))])
  refine gBipush 6 X0 hx (v := (31 : Int32)) (H d15_4) rfl rfl ?_
  refine gIushr 7 X0 hx (H d15_6) rfl ?_
  show Goes p e below _ s₁ (mkF m 7 #[.val (.ref t), .val (.int (1 : Int32))] [(.int (1 : Int32))])
  refine gI2b 8 X0 hx (H d15_7) rfl ?_
  show Goes p e below _ s₁ (mkF m 8 #[.val (.ref t), .val (.int (1 : Int32))] [(.int (1 : Int32))])
  exact gRetN X0 hx hlk hret (by simp) (H d15_8) (w := (1 : Int32)) rfl (by decide) (by decide) (⟨rfl, e0, rfl⟩)
theorem d4_0 : decode jdk_42_method_149_code 0 = .ok (.aload_n 0, 1) := by decide +kernel
theorem d4_1 : decode jdk_42_method_149_code 1 = .ok (.invokespecial 1, 3) := by decide +kernel
theorem d4_4 : decode jdk_42_method_149_code 4 = .ok (.iload_n 3, 1) := by decide +kernel
theorem d4_5 : decode jdk_42_method_149_code 5 = .ok (.ifCond .ne 22, 3) := by decide +kernel
theorem d4_27 : decode jdk_42_method_149_code 27 = .ok (.getstatic 38, 3) := by decide +kernel
theorem d4_30 : decode jdk_42_method_149_code 30 = .ok (.ifCond .eq 28, 3) := by decide +kernel
theorem d4_33 : decode jdk_42_method_149_code 33 = .ok (.aload_n 1, 1) := by decide +kernel
theorem d4_34 : decode jdk_42_method_149_code 34 = .ok (.iload_n 2, 1) := by decide +kernel
theorem d4_35 : decode jdk_42_method_149_code 35 = .ok (.iload_n 3, 1) := by decide +kernel
theorem d4_36 : decode jdk_42_method_149_code 36 = .ok (.invokestatic 177, 3) := by decide +kernel
theorem d4_39 : decode jdk_42_method_149_code 39 = .ok (.astore 5, 2) := by decide +kernel
theorem d4_41 : decode jdk_42_method_149_code 41 = .ok (.aload_n 0, 1) := by decide +kernel
theorem d4_42 : decode jdk_42_method_149_code 42 = .ok (.aload 5, 2) := by decide +kernel
theorem d4_44 : decode jdk_42_method_149_code 44 = .ok (.iload_n 3, 1) := by decide +kernel
theorem d4_45 : decode jdk_42_method_149_code 45 = .ok (.invokestatic 47, 3) := by decide +kernel
theorem pd_15 : parseMethodDescriptor "([BI)B" = some ⟨[(.array .byte), .int], some .byte⟩ := by decide +kernel
theorem d4_48 : decode jdk_42_method_149_code 48 = .ok (.putfield 15, 3) := by decide +kernel
theorem d4_51 : decode jdk_42_method_149_code 51 = .ok (.aload_n 0, 1) := by decide +kernel
theorem d4_52 : decode jdk_42_method_149_code 52 = .ok (.aload 5, 2) := by decide +kernel
theorem d4_54 : decode jdk_42_method_149_code 54 = .ok (.putfield 9, 3) := by decide +kernel
theorem d4_57 : decode jdk_42_method_149_code 57 = .ok (.return_, 1) := by decide +kernel
abbrev mn8 : MethodName := ⟨"java/lang/String", "<init>", "([CIILjava/lang/Void;)V"⟩
theorem pn_4 : plainName "java/lang/String" = true := by first | (simp [plainName, overriddenIn]; done) | decide +kernel
theorem c_siu_1v (l : Launch) (Z : State) (a0 : Array Value) (hw : ∀ d ∈ tables_1, d.before a0 Z = true) (a x : Addr) (cx : ClassId) (n0 : Nat) (ch0 : Int32) (h0 : Heap) (hCpt : Cpt Z h0) (hU : U16 Z h0) (ga : n0 ≤ a) (gz : n0 ≤ h0.size) (hax : x ≠ a) (E : sE Z h0 a) (C : sC Z h0 a) (V : Fld Z h0 a "java/lang/String" "value" "[B" .null) (A : Arv Z h0 x cx .char 1 [.int ch0] (.int 0)) (hch0 : r6 ch0) (hbig : 255 < ch0.toInt) :
    Ctr l Z mn8 jdk_42_method_149_code 6 none [] ⟨4, 2, 3, 80⟩ #[(.ref a), (.ref x), (.int (0 : Int32)), (.int (1 : Int32)), .null] h0 (fun v h L => ∃ (t : Addr) (ct : ClassId), v = none ∧ Fr n0 L ∧ Keep h0 h [a] ∧ h0.size ≤ t ∧ sE Z h a ∧ uC Z h a ∧ sV Z h a t ∧ sA Z h t ct 2 [(.int (lo8 ch0)), (.int (hi8 ch0))]) := by
  refine Ctr.of (plainFor_of_name pn_4) ?_
  intro p e s m below meth c s₁ hx H hml hret hown hnm hZ hlk X0 e0
  refine Goes.cast (show entryFrame m _ _ = mkF m 0 #[.val (.ref a), .val (.ref x), .val (.int (0 : Int32)), .val (.int (1 : Int32)), .val .null, .unset] [] from rfl) ?_
  obtain ⟨cz, SC, hcz⟩ := hCpt
  refine gLoadAN 1 X0 hx (H d4_0) rfl rfl rfl ?_
  refine gInitO X0 hx hZ hown (ow hw 16 rfl) (ow hw 17 rfl) (ow hw 18 rfl) e0 (by rw [hml]; rfl) (H d4_1) (pc' := 4) rfl (by decide) (W := 0) (Nat.le_of_eq rfl) (by decide) (fun T1 X1 e1 => ?_)
  refine gLoadIN 5 X1 hx (H d4_4) rfl rfl ?_
  refine gIfNeT X1 hx (H d4_5) (pc' := 27) (by decide) (by decide) (pn := 8) rfl (fun (c5 : ¬ (1 : Int) = (0 : Int)) => ?_) (fun (c5 : (1 : Int) = (0 : Int)) => ?_)
  · refine gGetS X1 hx hZ hown (ow hw 47 rfl) Via.refl e1 SC (H d4_27) (pc' := 30) rfl (fun T2 X2 e2 => ?_)
    refine gIfEqT X2 hx (H d4_30) (pc' := 58) (by decide) (by decide) (pn := 33) rfl (fun (c30 : cz.toInt = (0 : Int)) => ?_) (fun (c30 : ¬ cz.toInt = (0 : Int)) => ?_)
    · exact absurd c30 hcz
    · refine gLoadAN 34 X2 hx (H d4_33) rfl rfl rfl ?_
      refine gLoadIN 35 X2 hx (H d4_34) rfl rfl ?_
      refine gLoadIN 36 X2 hx (H d4_35) rfl rfl ?_
      refine gCallS X2 hx hZ (y := mn19) hown e2 (by rw [hml]; rfl) (ow hw 65 rfl) (ow hw 66 rfl) (ow hw 67 rfl) (ow hw 68 rfl) (by decide) (argsL := [(.ref x), (.int (0 : Int32)), (.int (1 : Int32))]) (st := []) (c_cuo_1 l Z a0 hw x cx ch0 h0 hU A hch0 hbig) (lenOf pd_20 rfl) (H d4_36) (pc' := 39) rfl rfl (by decide) (W := 0) (Nat.le_of_eq rfl) (by decide) (by decide) (by decide) ?_
      intro T3 v3 L3 X3 hQ3
      obtain ⟨t3, ct3, rfl, gt3, Nq3, Kq3, Aq3⟩ := hQ3
      have N3 := Fr.app (Fr.nil n0) (fun y hy => Nat.le_trans gz (Nq3 y hy))
      have K3 : Keep h0 T3.heap [a] := (Keep.refl h0 [a]).trans Kq3 all0
      have f3_0 := own_sta_keep SC Kq3 ns0
      have f3_1 := own_u16_keep hU Kq3 ns0
      have f3_2 := E.keep Kq3
      have f3_3 := C.keep Kq3 nin0
      have f3_4 := V.keep Kq3 nin0
      have nt3 : t3 ≠ a := Ne.symm (Nat.ne_of_lt (Nat.lt_of_lt_of_le E.lt gt3))
      refine gStoreA 41 X3 hx (H d4_39) (l' := #[.val (.ref a), .val (.ref x), .val (.int (0 : Int32)), .val (.int (1 : Int32)), .val .null, .val (.ref t3)]) rfl rfl rfl ?_
      refine gLoadAN 42 X3 hx (H d4_41) rfl rfl rfl ?_
      refine gLoadA 44 X3 hx (H d4_42) rfl rfl rfl ?_
      refine gLoadIN 45 X3 hx (H d4_44) rfl rfl ?_
      refine gCallSJ X3 hx hZ (y := mn18) hown rfl (by rw [hml]; rfl) (ow hw 72 rfl) (ow hw 73 rfl) (ow hw 67 rfl) (ow hw 74 rfl) (by decide) (argsL := [(.ref t3), (.int (1 : Int32))]) (st := [(.ref a)]) (c_cfu_1 l Z a0 hw t3 ct3 ch0 _ Aq3) (lenOf pd_15 rfl) (H d4_45) (pc' := 48) rfl rfl rfl rfl (by decide) (W := 1) (Nat.le_of_eq rfl) (by decide) (by decide) (by decide) ?_
      intro T4 X4 e4
      refine gPutF X4 hx hZ hown (ow hw 26 rfl) Via.refl e4 f3_3 f3_2 (Or.inr ⟨(ow hw 22 rfl), rfl, hnm⟩) (ow hw 6 rfl) (ty := .byte) (by decide) rfl rfl (H d4_48) (pc' := 51) rfl (fun T5 h5 X5 e5 W5 => ?_)
      have f5_0 := f3_0.wr W5
      have f5_1 := f3_1.wr W5
      have f5_2 := f3_2.wr W5
      have f5_3 := f3_3.same W5
      have f5_4 := f3_4.other W5 (Or.inr (slot_ne (Or.inr (ow hw 21 rfl)) (Or.inr (ow hw 22 rfl)) (by decide) (t := (.array .byte)) (t' := .byte) (by decide) (by decide)))
      have f5_5 := Aq3.other W5 nt3
      have zs5 : h0.size ≤ h5.size := by rw [W5.size]; exact Kq3.1
      have N5 := Fr.snoc X5 N3 ga
      have K5 : Keep h0 h5 [a] := K3.wr W5 (Or.inl (by simp))
      refine gLoadAN 52 X5 hx (H d4_51) rfl rfl rfl ?_
      refine gLoadA 54 X5 hx (H d4_52) rfl rfl rfl ?_
      refine gPutF X5 hx hZ hown (ow hw 25 rfl) Via.refl e5 f5_4 f5_2 (Or.inr ⟨(ow hw 21 rfl), rfl, hnm⟩) (ow hw 6 rfl) (ty := (.array .byte)) (by decide) rfl rfl (H d4_54) (pc' := 57) rfl (fun T6 h6 X6 e6 W6 => ?_)
      have f6_0 := f5_0.wr W6
      have f6_1 := f5_1.wr W6
      have f6_2 := f5_2.wr W6
      have f6_3 := f5_3.other W6 (Or.inr (slot_ne (Or.inr (ow hw 22 rfl)) (Or.inr (ow hw 21 rfl)) (by decide) (t := .byte) (t' := (.array .byte)) (by decide) (by decide)))
      have f6_4 := f5_4.same W6
      have f6_5 := f5_5.other W6 nt3
      have zs6 : h0.size ≤ h6.size := by rw [W6.size]; exact zs5
      have N6 := Fr.snoc X6 N5 ga
      have K6 : Keep h0 h6 [a] := K5.wr W6 (Or.inl (by simp))
      exact gRetV X6 hx hlk hret (H d4_57) (by decide) (by decide) (⟨t3, ct3, rfl, N6, by rw [e6]; exact K6, gt3, by rw [e6]; exact f6_2, by rw [e6]; exact f6_3, by rw [e6]; exact f6_4, by rw [e6]; exact f6_5⟩)
  · exact absurd c5 (by decide)
theorem d8_0 : decode jdk_42_method_3_code 0 = .ok (.aload_n 0, 1) := by decide +kernel
theorem d8_1 : decode jdk_42_method_3_code 1 = .ok (.aload_n 1, 1) := by decide +kernel
theorem d8_2 : decode jdk_42_method_3_code 2 = .ok (.iconst 0, 1) := by decide +kernel
theorem d8_3 : decode jdk_42_method_3_code 3 = .ok (.aload_n 1, 1) := by decide +kernel
theorem d8_4 : decode jdk_42_method_3_code 4 = .ok (.arraylength, 1) := by decide +kernel
theorem d8_5 : decode jdk_42_method_3_code 5 = .ok (.aconst_null, 1) := by decide +kernel
theorem d8_6 : decode jdk_42_method_3_code 6 = .ok (.invokespecial 27, 3) := by decide +kernel
theorem pd_21 : parseMethodDescriptor "([CIILjava/lang/Void;)V" = some ⟨[(.array .char), .int, .int, (.object "java/lang/Void")], none⟩ := by decide +kernel
theorem d8_9 : decode jdk_42_method_3_code 9 = .ok (.return_, 1) := by decide +kernel
abbrev mn7 : MethodName := ⟨"java/lang/String", "<init>", "([C)V"⟩
theorem c_siu_1 (l : Launch) (Z : State) (a0 : Array Value) (hw : ∀ d ∈ tables_1, d.before a0 Z = true) (a x : Addr) (cx : ClassId) (n0 : Nat) (ch0 : Int32) (h0 : Heap) (hCpt : Cpt Z h0) (hU : U16 Z h0) (ga : n0 ≤ a) (gz : n0 ≤ h0.size) (hax : x ≠ a) (E : sE Z h0 a) (C : sC Z h0 a) (V : Fld Z h0 a "java/lang/String" "value" "[B" .null) (A : Arv Z h0 x cx .char 1 [.int ch0] (.int 0)) (hch0 : r6 ch0) (hbig : 255 < ch0.toInt) :
    Ctr l Z mn7 jdk_42_method_3_code 2 none [] ⟨5, 2, 3, 100⟩ #[(.ref a), (.ref x)] h0 (fun v h L => ∃ (t : Addr) (ct : ClassId), v = none ∧ Fr n0 L ∧ Keep h0 h [a] ∧ h0.size ≤ t ∧ sE Z h a ∧ uC Z h a ∧ sV Z h a t ∧ sA Z h t ct 2 [(.int (lo8 ch0)), (.int (hi8 ch0))]) := by
  refine Ctr.of (plainFor_of_name pn_4) ?_
  intro p e s m below meth c s₁ hx H hml hret hown hnm hZ hlk X0 e0
  refine Goes.cast (show entryFrame m _ _ = mkF m 0 #[.val (.ref a), .val (.ref x)] [] from rfl) ?_
  refine gLoadAN 1 X0 hx (H d8_0) rfl rfl rfl ?_
  refine gLoadAN 2 X0 hx (H d8_1) rfl rfl rfl ?_
  refine gIconst 3 X0 hx (v := (0 : Int32)) (H d8_2) rfl rfl ?_
  refine gLoadAN 4 X0 hx (H d8_3) rfl rfl rfl ?_
  refine gArrLen X0 hx hZ e0 A (H d8_4) (pc' := 5) rfl ?_
  refine gNull 6 X0 hx (H d8_5) rfl ?_
  refine gCallI X0 hx hZ (y := mn8) rfl hown e0 (by rw [hml]; rfl) (ow hw 12 rfl) (ow hw 13 rfl) (ow hw 7 rfl) (ow hw 15 rfl) (by decide) (argsL := [(.ref x), (.int (0 : Int32)), (.int (1 : Int32)), .null]) (st := []) (c_siu_1v l Z a0 hw a x cx n0 ch0 h0 hCpt hU ga gz hax E C V A hch0 hbig) (lenOf pd_21 rfl) (H d8_6) (pc' := 9) rfl rfl (by decide) (W := 0) (Nat.le_of_eq rfl) (by decide) (by decide) (by decide) ?_
  intro T1 v1 L1 X1 hQ1
  obtain ⟨t, ct, rfl, Nq, Kq, gt, Eq, Cq, Vq, Aq⟩ := hQ1
  exact gRetV X1 hx hlk hret (H d8_9) (by decide) (by decide) (⟨t, ct, rfl, Nq, Kq, gt, Eq, Cq, Vq, Aq⟩)
theorem c_nbl_2 (l : Launch) (Z : State) (a0 : Array Value) (hw : ∀ d ∈ tables_1, d.before a0 Z = true)  (h0 : Heap)  :
    Ctr l Z mn27 jdk_52_method_3_code 1 (some .int) [] ⟨0, 0, 0, 0⟩ #[(.int (2 : Int32))] h0 (Just h0 (.int 4)) := by
  refine Ctr.of (plainFor_of_name pn_6) ?_
  intro p e s m below meth c s₁ hx H hml hret hown hnm hZ hlk X0 e0
  refine Goes.cast (show entryFrame m _ _ = mkF m 0 #[.val (.int (2 : Int32))] [] from rfl) ?_
  refine gLoadIN 1 X0 hx (H d19_0) rfl rfl ?_
  refine gIfGe X0 hx (H d19_1) (pc' := 12) (by decide) (by decide) (pn := 4) rfl (fun (c1 : (0 : Int) ≤ (2 : Int)) => ?_) (fun (c1 : (2 : Int) < (0 : Int)) => ?_)
  · refine gLoadIN 13 X0 hx (H d19_12) rfl rfl ?_
    refine gLdc 15 X0 hx hZ hown (ow hw 88 rfl) (H d19_13) rfl ?_
    refine gIcmpLt X0 hx (H d19_15) (pc' := 55) (by decide) (by decide) (pn := 18) rfl (fun (c15 : (2 : Int) < (1073741823 : Int)) => ?_) (fun (c15 : (1073741823 : Int) ≤ (2 : Int)) => ?_)
    · refine gLoadIN 56 X0 hx (H d19_55) rfl rfl ?_
      refine gIconst 57 X0 hx (v := (1 : Int32)) (H d19_56) rfl rfl ?_
      refine gIshl 58 X0 hx (H d19_57) rfl ?_
      show Goes p e below _ s₁ (mkF m 58 #[.val (.int (2 : Int32))] [(.int (4 : Int32))])
      exact gRetI X0 hx hlk hret (H d19_58) (by decide) (by decide) (⟨rfl, e0, rfl⟩)
    · exact absurd c15 (by decide)
  · exact absurd c1 (by decide)
theorem c_nbf_2 (l : Launch) (Z : State) (a0 : Array Value) (hw : ∀ d ∈ tables_1, d.before a0 Z = true)  (h0 : Heap)  :
    Ctr l Z mn26 jdk_52_method_2_code 1 (some (.array .byte)) [] ⟨1, 1, 4, 12⟩ #[(.int (2 : Int32))] h0 (fun v h L => ∃ (t : Addr) (ct : ClassId), v = some (.ref t) ∧ h0.size ≤ t ∧ Fr h0.size L ∧ Keep h0 h [] ∧ sA Z h t ct 4 [.int 0, .int 0, .int 0, .int 0]) := by
  refine Ctr.of (plainFor_of_name pn_6) ?_
  intro p e s m below meth c s₁ hx H hml hret hown hnm hZ hlk X0 e0
  refine Goes.cast (show entryFrame m _ _ = mkF m 0 #[.val (.int (2 : Int32))] [] from rfl) ?_
  refine gLoadIN 1 X0 hx (H d18_0) rfl rfl ?_
  refine gCallSJ X0 hx hZ (y := mn27) hown e0 (by rw [hml]; rfl) (ow hw 85 rfl) (ow hw 86 rfl) (ow hw 67 rfl) (ow hw 87 rfl) (by decide) (argsL := [(.int (2 : Int32))]) (st := []) (c_nbl_2 l Z a0 hw h0) (lenOf pd_6 rfl) (H d18_1) (pc' := 4) rfl rfl rfl rfl (by decide) (W := 0) (Nat.le_of_eq rfl) (by decide) (by decide) (by decide) ?_
  intro T1 X1 e1
  refine gNewP X1 hx hZ (ow hw 20 rfl) e1 (n := (4 : Int32)) (H d18_4) (by decide) (cap := 4) (by decide) (by decide) (by decide) (by decide) 4 (pc' := 6) rfl (fun T2 h2 b2 ck2 X2 e2 g2 E2 A2 => ?_)
  have sz_b2 : h0.size ≤ b2 := Nat.le_trans (Nat.le_refl _) (Nat.le_of_eq g2.symm)
  have zs2 : h0.size ≤ h2.size := Nat.le_trans (Nat.le_refl _) E2.1
  have K2 : Keep h0 h2 [] := (Keep.refl h0 []).ext E2
  have V2 : Arv Z h2 b2 ck2 .byte (4 : Int32) [(.int (0 : Int32)), (.int (0 : Int32)), (.int (0 : Int32)), (.int (0 : Int32))] (.int (0 : Int32)) := A2
  exact gRetA X2 hx hlk hret rfl rfl (H d18_6) (by decide) (by decide) (⟨_, _, rfl, sz_b2, Fr.nil _, by rw [e2]; exact K2, by rw [e2]; exact V2⟩)
theorem c_put_2_0 (l : Launch) (Z : State) (a0 : Array Value) (hw : ∀ d ∈ tables_1, d.before a0 Z = true) (t : Addr) (ct : ClassId) (n0 : Nat) (ch0 : Int32) (h0 : Heap) (gt : n0 ≤ t) (hU : U16 Z h0) (B : sA Z h0 t ct 4 [(.int (0 : Int32)), (.int (0 : Int32)), (.int (0 : Int32)), (.int (0 : Int32))]) :
    Ctr l Z mn28 jdk_52_method_4_code 3 none [] ⟨0, 0, 0, 0⟩ #[(.ref t), (.int (0 : Int32)), (.int ch0)] h0 (fun v h L => v = none ∧ Fr n0 L ∧ Keep h0 h [t] ∧ sA Z h t ct 4 [(.int (lo8 ch0)), (.int (hi8 ch0)), (.int (0 : Int32)), (.int (0 : Int32))]) := by
  refine Ctr.of (plainFor_of_name pn_6) ?_
  intro p e s m below meth c s₁ hx H hml hret hown hnm hZ hlk X0 e0
  refine Goes.cast (show entryFrame m _ _ = mkF m 0 #[.val (.ref t), .val (.int (0 : Int32)), .val (.int ch0)] [] from rfl) ?_
  refine gGetS X0 hx hZ hown (ow hw 92 rfl) Via.refl e0 hU.1 (H d23_0) (pc' := 3) rfl (fun T1 X1 e1 => ?_)
  refine gIfNeT X1 hx (H d23_3) (pc' := 28) (by decide) (by decide) (pn := 6) rfl (fun (c3 : ¬ (1 : Int) = (0 : Int)) => ?_) (fun (c3 : (1 : Int) = (0 : Int)) => ?_)
  · refine gLoadIN 29 X1 hx (H d23_28) rfl rfl ?_
    refine gIconst 30 X1 hx (v := (1 : Int32)) (H d23_29) rfl rfl ?_
    refine gIshl 31 X1 hx (H d23_30) rfl ?_
    show Goes p e below _ T1 (mkF m 31 #[.val (.ref t), .val (.int (0 : Int32)), .val (.int ch0)] [(.int (0 : Int32))])
    refine gStoreIN 32 X1 hx (H d23_31) (l' := #[.val (.ref t), .val (.int (0 : Int32)), .val (.int ch0)]) rfl rfl ?_
    refine gLoadAN 33 X1 hx (H d23_32) rfl rfl rfl ?_
    refine gLoadIN 34 X1 hx (H d23_33) rfl rfl ?_
    refine gIinc X1 hx (v := (1 : Int32)) (H d23_34) (l' := #[.val (.ref t), .val (.int (1 : Int32)), .val (.int ch0)]) (pc' := 37) rfl rfl rfl rfl ?_
    refine gLoadIN 38 X1 hx (H d23_37) rfl rfl ?_
    refine gGetS X1 hx hZ hown (ow hw 93 rfl) Via.refl e1 hU.2.1 (H d23_38) (pc' := 41) rfl (fun T2 X2 e2 => ?_)
    refine gIshr 42 X2 hx (H d23_41) rfl ?_
    refine gI2b 43 X2 hx (H d23_42) rfl ?_
    refine gBastore X2 hx hZ e2 (x := ((ch0 >>> ((0 : Int32) &&& 31)).toInt8.toInt32)) B (j := (0 : Int32)) (by decide) (by decide) 0 (by decide) (by simp) (H d23_43) (pc' := 44) rfl (fun T3 h3 X3 e3 W3 A3 => ?_)
    have f3_0 := hU.1.wr W3
    have f3_1 := hU.2.1.wr W3
    have f3_2 := hU.2.2.wr W3
    have zs3 : h0.size ≤ h3.size := by rw [W3.size]; exact (Nat.le_refl _)
    have N3 := Fr.snoc X3 (Fr.nil n0) gt
    have K3 : Keep h0 h3 [t] := (Keep.refl h0 [t]).wr W3 (Or.inl (by simp))
    have V3 : Arv Z h3 t _ .byte (4 : Int32) [(.int (lo8 ch0)), (.int (0 : Int32)), (.int (0 : Int32)), (.int (0 : Int32))] (.int 0) := (by have q := A3; rw [own_nb] at q; exact q)
    refine gLoadAN 45 X3 hx (H d23_44) rfl rfl rfl ?_
    refine gLoadIN 46 X3 hx (H d23_45) rfl rfl ?_
    refine gLoadIN 47 X3 hx (H d23_46) rfl rfl ?_
    refine gGetS X3 hx hZ hown (ow hw 94 rfl) Via.refl e3 f3_2 (H d23_47) (pc' := 50) rfl (fun T4 X4 e4 => ?_)
    refine gIshr 51 X4 hx (H d23_50) rfl ?_
    refine gI2b 52 X4 hx (H d23_51) rfl ?_
    refine gBastore X4 hx hZ e4 (x := ((ch0 >>> ((8 : Int32) &&& 31)).toInt8.toInt32)) V3 (j := (1 : Int32)) (by decide) (by decide) 1 (by decide) (by simp) (H d23_52) (pc' := 53) rfl (fun T5 h5 X5 e5 W5 A5 => ?_)
    have f5_0 := f3_0.wr W5
    have f5_1 := f3_1.wr W5
    have f5_2 := f3_2.wr W5
    have zs5 : h0.size ≤ h5.size := by rw [W5.size]; exact zs3
    have N5 := Fr.snoc X5 N3 gt
    have K5 : Keep h0 h5 [t] := K3.wr W5 (Or.inl (by simp))
    have V5 : Arv Z h5 t _ .byte (4 : Int32) [(.int (lo8 ch0)), (.int (hi8 ch0)), (.int (0 : Int32)), (.int (0 : Int32))] (.int 0) := (by have q := A5; rw [own_nb] at q; exact q)
    exact gRetV X5 hx hlk hret (H d23_53) (by decide) (by decide) (⟨rfl, N5, by rw [e5]; exact K5, by rw [e5]; exact V5⟩)
  · exact absurd c3 (by decide)
theorem c_get_2_0 (l : Launch) (Z : State) (a0 : Array Value) (hw : ∀ d ∈ tables_1, d.before a0 Z = true) (t : Addr) (ct : ClassId) (ch0 ch1 : Int32) (h0 : Heap) (hU : U16 Z h0) (B : sA Z h0 t ct 4 [(.int (lo8 ch0)), (.int (hi8 ch0)), (.int (lo8 ch1)), (.int (hi8 ch1))]) (hch0 : r6 ch0) (hch1 : r6 ch1) :
    Ctr l Z mn21 jdk_52_method_5_code 2 (some .char) [] ⟨0, 0, 0, 0⟩ #[(.ref t), (.int (0 : Int32))] h0 (Just h0 (.int ch0)) := by
  refine Ctr.of (plainFor_of_name pn_6) ?_
  intro p e s m below meth c s₁ hx H hml hret hown hnm hZ hlk X0 e0
  refine Goes.cast (show entryFrame m _ _ = mkF m 0 #[.val (.ref t), .val (.int (0 : Int32))] [] from rfl) ?_
  refine gGetS X0 hx hZ hown (ow hw 92 rfl) Via.refl e0 hU.1 (H d24_0) (pc' := 3) rfl (fun T1 X1 e1 => ?_)
  refine gIfNeT X1 hx (H d24_3) (pc' := 28) (by decide) (by decide) (pn := 6) rfl (fun (c3 : ¬ (1 : Int) = (0 : Int)) => ?_) (fun (c3 : (1 : Int) = (0 : Int)) => ?_)
  · refine gLoadIN 29 X1 hx (H d24_28) rfl rfl ?_
    refine gIconst 30 X1 hx (v := (1 : Int32)) (H d24_29) rfl rfl ?_
    refine gIshl 31 X1 hx (H d24_30) rfl ?_
    show Goes p e below _ T1 (mkF m 31 #[.val (.ref t), .val (.int (0 : Int32))] [(.int (0 : Int32))])
    refine gStoreIN 32 X1 hx (H d24_31) (l' := #[.val (.ref t), .val (.int (0 : Int32))]) rfl rfl ?_
    refine gLoadAN 33 X1 hx (H d24_32) rfl rfl rfl ?_
    refine gLoadIN 34 X1 hx (H d24_33) rfl rfl ?_
    refine gIinc X1 hx (v := (1 : Int32)) (H d24_34) (l' := #[.val (.ref t), .val (.int (1 : Int32))]) (pc' := 37) rfl rfl rfl rfl ?_
    refine gBaload X1 hx hZ e1 B (j := (0 : Int32)) (v := (.int (lo8 ch0))) (by decide) (by decide) rfl (H d24_37) (pc' := 38) rfl ?_
    refine gSipush 41 X1 hx (v := (255 : Int32)) (H d24_38) rfl rfl ?_
    refine gIand 42 X1 hx (H d24_41) rfl ?_
    refine gGetS X1 hx hZ hown (ow hw 93 rfl) Via.refl e1 hU.2.1 (H d24_42) (pc' := 45) rfl (fun T2 X2 e2 => ?_)
    refine gIshl 46 X2 hx (H d24_45) rfl ?_
    refine gLoadAN 47 X2 hx (H d24_46) rfl rfl rfl ?_
    refine gLoadIN 48 X2 hx (H d24_47) rfl rfl ?_
    refine gBaload X2 hx hZ e2 B (j := (1 : Int32)) (v := (.int (hi8 ch0))) (by decide) (by decide) rfl (H d24_48) (pc' := 49) rfl ?_
    refine gSipush 52 X2 hx (v := (255 : Int32)) (H d24_49) rfl rfl ?_
    refine gIand 53 X2 hx (H d24_52) rfl ?_
    refine gGetS X2 hx hZ hown (ow hw 94 rfl) Via.refl e2 hU.2.2 (H d24_53) (pc' := 56) rfl (fun T3 X3 e3 => ?_)
    refine gIshl 57 X3 hx (H d24_56) rfl ?_
    refine gIor 58 X3 hx (H d24_57) rfl ?_
    refine gI2c 59 X3 hx (H d24_58) rfl ?_
    rw [own_u16 hch0]
    exact gRetN X3 hx hlk hret (by simp) (H d24_59) (w := ch0) (own_nc hch0) (by decide) (by decide) (⟨rfl, e3, rfl⟩)
  · exact absurd c3 (by decide)
theorem c_put_2_1 (l : Launch) (Z : State) (a0 : Array Value) (hw : ∀ d ∈ tables_1, d.before a0 Z = true) (t : Addr) (ct : ClassId) (n0 : Nat) (ch0 ch1 : Int32) (h0 : Heap) (gt : n0 ≤ t) (hU : U16 Z h0) (B : sA Z h0 t ct 4 [(.int (lo8 ch0)), (.int (hi8 ch0)), (.int (0 : Int32)), (.int (0 : Int32))]) :
    Ctr l Z mn28 jdk_52_method_4_code 3 none [] ⟨0, 0, 0, 0⟩ #[(.ref t), (.int (1 : Int32)), (.int ch1)] h0 (fun v h L => v = none ∧ Fr n0 L ∧ Keep h0 h [t] ∧ sA Z h t ct 4 [(.int (lo8 ch0)), (.int (hi8 ch0)), (.int (lo8 ch1)), (.int (hi8 ch1))]) := by
  refine Ctr.of (plainFor_of_name pn_6) ?_
  intro p e s m below meth c s₁ hx H hml hret hown hnm hZ hlk X0 e0
  refine Goes.cast (show entryFrame m _ _ = mkF m 0 #[.val (.ref t), .val (.int (1 : Int32)), .val (.int ch1)] [] from rfl) ?_
  refine gGetS X0 hx hZ hown (ow hw 92 rfl) Via.refl e0 hU.1 (H d23_0) (pc' := 3) rfl (fun T1 X1 e1 => ?_)
  refine gIfNeT X1 hx (H d23_3) (pc' := 28) (by decide) (by decide) (pn := 6) rfl (fun (c3 : ¬ (1 : Int) = (0 : Int)) => ?_) (fun (c3 : (1 : Int) = (0 : Int)) => ?_)
  · refine gLoadIN 29 X1 hx (H d23_28) rfl rfl ?_
    refine gIconst 30 X1 hx (v := (1 : Int32)) (H d23_29) rfl rfl ?_
    refine gIshl 31 X1 hx (H d23_30) rfl ?_
    show Goes p e below _ T1 (mkF m 31 #[.val (.ref t), .val (.int (1 : Int32)), .val (.int ch1)] [(.int (2 : Int32))])
    refine gStoreIN 32 X1 hx (H d23_31) (l' := #[.val (.ref t), .val (.int (2 : Int32)), .val (.int ch1)]) rfl rfl ?_
    refine gLoadAN 33 X1 hx (H d23_32) rfl rfl rfl ?_
    refine gLoadIN 34 X1 hx (H d23_33) rfl rfl ?_
    refine gIinc X1 hx (v := (1 : Int32)) (H d23_34) (l' := #[.val (.ref t), .val (.int (3 : Int32)), .val (.int ch1)]) (pc' := 37) rfl rfl rfl rfl ?_
    refine gLoadIN 38 X1 hx (H d23_37) rfl rfl ?_
    refine gGetS X1 hx hZ hown (ow hw 93 rfl) Via.refl e1 hU.2.1 (H d23_38) (pc' := 41) rfl (fun T2 X2 e2 => ?_)
    refine gIshr 42 X2 hx (H d23_41) rfl ?_
    refine gI2b 43 X2 hx (H d23_42) rfl ?_
    refine gBastore X2 hx hZ e2 (x := ((ch1 >>> ((0 : Int32) &&& 31)).toInt8.toInt32)) B (j := (2 : Int32)) (by decide) (by decide) 2 (by decide) (by simp) (H d23_43) (pc' := 44) rfl (fun T3 h3 X3 e3 W3 A3 => ?_)
    have f3_0 := hU.1.wr W3
    have f3_1 := hU.2.1.wr W3
    have f3_2 := hU.2.2.wr W3
    have zs3 : h0.size ≤ h3.size := by rw [W3.size]; exact (Nat.le_refl _)
    have N3 := Fr.snoc X3 (Fr.nil n0) gt
    have K3 : Keep h0 h3 [t] := (Keep.refl h0 [t]).wr W3 (Or.inl (by simp))
    have V3 : Arv Z h3 t _ .byte (4 : Int32) [(.int (lo8 ch0)), (.int (hi8 ch0)), (.int (lo8 ch1)), (.int (0 : Int32))] (.int 0) := (by have q := A3; rw [own_nb] at q; exact q)
    refine gLoadAN 45 X3 hx (H d23_44) rfl rfl rfl ?_
    refine gLoadIN 46 X3 hx (H d23_45) rfl rfl ?_
    refine gLoadIN 47 X3 hx (H d23_46) rfl rfl ?_
    refine gGetS X3 hx hZ hown (ow hw 94 rfl) Via.refl e3 f3_2 (H d23_47) (pc' := 50) rfl (fun T4 X4 e4 => ?_)
    refine gIshr 51 X4 hx (H d23_50) rfl ?_
    refine gI2b 52 X4 hx (H d23_51) rfl ?_
    refine gBastore X4 hx hZ e4 (x := ((ch1 >>> ((8 : Int32) &&& 31)).toInt8.toInt32)) V3 (j := (3 : Int32)) (by decide) (by decide) 3 (by decide) (by simp) (H d23_52) (pc' := 53) rfl (fun T5 h5 X5 e5 W5 A5 => ?_)
    have f5_0 := f3_0.wr W5
    have f5_1 := f3_1.wr W5
    have f5_2 := f3_2.wr W5
    have zs5 : h0.size ≤ h5.size := by rw [W5.size]; exact zs3
    have N5 := Fr.snoc X5 N3 gt
    have K5 : Keep h0 h5 [t] := K3.wr W5 (Or.inl (by simp))
    have V5 : Arv Z h5 t _ .byte (4 : Int32) [(.int (lo8 ch0)), (.int (hi8 ch0)), (.int (lo8 ch1)), (.int (hi8 ch1))] (.int 0) := (by have q := A5; rw [own_nb] at q; exact q)
    exact gRetV X5 hx hlk hret (H d23_53) (by decide) (by decide) (⟨rfl, N5, by rw [e5]; exact K5, by rw [e5]; exact V5⟩)
  · exact absurd c3 (by decide)
theorem c_get_2_1 (l : Launch) (Z : State) (a0 : Array Value) (hw : ∀ d ∈ tables_1, d.before a0 Z = true) (t : Addr) (ct : ClassId) (ch0 ch1 : Int32) (h0 : Heap) (hU : U16 Z h0) (B : sA Z h0 t ct 4 [(.int (lo8 ch0)), (.int (hi8 ch0)), (.int (lo8 ch1)), (.int (hi8 ch1))]) (hch0 : r6 ch0) (hch1 : r6 ch1) :
    Ctr l Z mn21 jdk_52_method_5_code 2 (some .char) [] ⟨0, 0, 0, 0⟩ #[(.ref t), (.int (1 : Int32))] h0 (Just h0 (.int ch1)) := by
  refine Ctr.of (plainFor_of_name pn_6) ?_
  intro p e s m below meth c s₁ hx H hml hret hown hnm hZ hlk X0 e0
  refine Goes.cast (show entryFrame m _ _ = mkF m 0 #[.val (.ref t), .val (.int (1 : Int32))] [] from rfl) ?_
  refine gGetS X0 hx hZ hown (ow hw 92 rfl) Via.refl e0 hU.1 (H d24_0) (pc' := 3) rfl (fun T1 X1 e1 => ?_)
  refine gIfNeT X1 hx (H d24_3) (pc' := 28) (by decide) (by decide) (pn := 6) rfl (fun (c3 : ¬ (1 : Int) = (0 : Int)) => ?_) (fun (c3 : (1 : Int) = (0 : Int)) => ?_)
  · refine gLoadIN 29 X1 hx (H d24_28) rfl rfl ?_
    refine gIconst 30 X1 hx (v := (1 : Int32)) (H d24_29) rfl rfl ?_
    refine gIshl 31 X1 hx (H d24_30) rfl ?_
    show Goes p e below _ T1 (mkF m 31 #[.val (.ref t), .val (.int (1 : Int32))] [(.int (2 : Int32))])
    refine gStoreIN 32 X1 hx (H d24_31) (l' := #[.val (.ref t), .val (.int (2 : Int32))]) rfl rfl ?_
    refine gLoadAN 33 X1 hx (H d24_32) rfl rfl rfl ?_
    refine gLoadIN 34 X1 hx (H d24_33) rfl rfl ?_
    refine gIinc X1 hx (v := (1 : Int32)) (H d24_34) (l' := #[.val (.ref t), .val (.int (3 : Int32))]) (pc' := 37) rfl rfl rfl rfl ?_
    refine gBaload X1 hx hZ e1 B (j := (2 : Int32)) (v := (.int (lo8 ch1))) (by decide) (by decide) rfl (H d24_37) (pc' := 38) rfl ?_
    refine gSipush 41 X1 hx (v := (255 : Int32)) (H d24_38) rfl rfl ?_
    refine gIand 42 X1 hx (H d24_41) rfl ?_
    refine gGetS X1 hx hZ hown (ow hw 93 rfl) Via.refl e1 hU.2.1 (H d24_42) (pc' := 45) rfl (fun T2 X2 e2 => ?_)
    refine gIshl 46 X2 hx (H d24_45) rfl ?_
    refine gLoadAN 47 X2 hx (H d24_46) rfl rfl rfl ?_
    refine gLoadIN 48 X2 hx (H d24_47) rfl rfl ?_
    refine gBaload X2 hx hZ e2 B (j := (3 : Int32)) (v := (.int (hi8 ch1))) (by decide) (by decide) rfl (H d24_48) (pc' := 49) rfl ?_
    refine gSipush 52 X2 hx (v := (255 : Int32)) (H d24_49) rfl rfl ?_
    refine gIand 53 X2 hx (H d24_52) rfl ?_
    refine gGetS X2 hx hZ hown (ow hw 94 rfl) Via.refl e2 hU.2.2 (H d24_53) (pc' := 56) rfl (fun T3 X3 e3 => ?_)
    refine gIshl 57 X3 hx (H d24_56) rfl ?_
    refine gIor 58 X3 hx (H d24_57) rfl ?_
    refine gI2c 59 X3 hx (H d24_58) rfl ?_
    rw [own_u16 hch1]
    exact gRetN X3 hx hlk hret (by simp) (H d24_59) (w := ch1) (own_nc hch1) (by decide) (by decide) (⟨rfl, e3, rfl⟩)
  · exact absurd c3 (by decide)
theorem c_tob_2 (l : Launch) (Z : State) (a0 : Array Value) (hw : ∀ d ∈ tables_1, d.before a0 Z = true) (x : Addr) (cx : ClassId) (ch0 ch1 : Int32) (h0 : Heap) (hU : U16 Z h0) (A : Arv Z h0 x cx .char 2 [.int ch0, .int ch1] (.int 0)) (hch0 : r6 ch0) (hch1 : r6 ch1) :
    Ctr l Z mn29 jdk_52_method_14_code 5 (some (.array .byte)) [] ⟨2, 1, 4, 40⟩ #[(.ref x), (.int (0 : Int32)), (.int (2 : Int32))] h0 (fun v h L => ∃ (t : Addr) (ct : ClassId), v = some (.ref t) ∧ h0.size ≤ t ∧ Fr h0.size L ∧ Keep h0 h [] ∧ sA Z h t ct 4 [(.int (lo8 ch0)), (.int (hi8 ch0)), (.int (lo8 ch1)), (.int (hi8 ch1))]) := by
  refine Ctr.of (plainFor_of_name pn_6) ?_
  intro p e s m below meth c s₁ hx H hml hret hown hnm hZ hlk X0 e0
  refine Goes.cast (show entryFrame m _ _ = mkF m 0 #[.val (.ref x), .val (.int (0 : Int32)), .val (.int (2 : Int32)), .unset, .unset] [] from rfl) ?_
  refine gLoadIN 1 X0 hx (H d14_0) rfl rfl ?_
  refine gCallS X0 hx hZ (y := mn26) hown e0 (by rw [hml]; rfl) (ow hw 82 rfl) (ow hw 83 rfl) (ow hw 67 rfl) (ow hw 84 rfl) (by decide) (argsL := [(.int (2 : Int32))]) (st := []) (c_nbf_2 l Z a0 hw h0) (lenOf pd_8 rfl) (H d14_1) (pc' := 4) rfl rfl (by decide) (W := 0) (Nat.le_of_eq rfl) (by decide) (by decide) (by decide) ?_
  intro T1 v1 L1 X1 hQ1
  obtain ⟨q1, ctq1, rfl, gq1, Nq1, Kq1, Aq1⟩ := hQ1
  have N1 := Fr.app (Fr.nil h0.size) (fun y hy => Nat.le_trans (Nat.le_refl _) (Nq1 y hy))
  have K1 : Keep h0 T1.heap [] := (Keep.refl h0 []).trans Kq1 all0
  have nt1 : x ≠ q1 := Nat.ne_of_lt (Nat.lt_of_lt_of_le A.lt gq1)
  have f1_0 := A.keep Kq1 nin0
  have f1_1 := own_u16_keep hU Kq1 ns0
  refine gStoreAN 5 X1 hx (H d14_4) (l' := #[.val (.ref x), .val (.int (0 : Int32)), .val (.int (2 : Int32)), .val (.ref q1), .unset]) rfl rfl rfl ?_
  refine gIconst 6 X1 hx (v := (0 : Int32)) (H d14_5) rfl rfl ?_
  refine gStoreI 8 X1 hx (H d14_6) (l' := #[.val (.ref x), .val (.int (0 : Int32)), .val (.int (2 : Int32)), .val (.ref q1), .val (.int (0 : Int32))]) rfl rfl ?_
  refine gLoadI 10 X1 hx (H d14_8) rfl rfl ?_
  refine gLoadIN 11 X1 hx (H d14_10) rfl rfl ?_
  refine gIcmpGe X1 hx (H d14_11) (pc' := 32) (by decide) (by decide) (pn := 14) rfl (fun (c11 : (2 : Int) ≤ (0 : Int)) => ?_) (fun (c11 : (0 : Int) < (2 : Int)) => ?_)
  · exact absurd c11 (by decide)
  · refine gLoadAN 15 X1 hx (H d14_14) rfl rfl rfl ?_
    refine gLoadI 17 X1 hx (H d14_15) rfl rfl ?_
    refine gLoadAN 18 X1 hx (H d14_17) rfl rfl rfl ?_
    refine gLoadIN 19 X1 hx (H d14_18) rfl rfl ?_
    refine gCaload X1 hx hZ rfl f1_0 (j := (0 : Int32)) (v := (.int ch0)) (by decide) (by decide) rfl (H d14_19) (pc' := 20) rfl ?_
    refine gCallS X1 hx hZ (y := mn28) hown rfl (by rw [hml]; rfl) (ow hw 89 rfl) (ow hw 90 rfl) (ow hw 67 rfl) (ow hw 91 rfl) (by decide) (argsL := [(.ref q1), (.int (0 : Int32)), (.int ch0)]) (st := []) (c_put_2_0 l Z a0 hw q1 ctq1 h0.size ch0 T1.heap gq1 f1_1 Aq1) (lenOf pd_17 rfl) (H d14_20) (pc' := 23) rfl rfl (by decide) (W := 0) (Nat.le_of_eq rfl) (by decide) (by decide) (by decide) ?_
    intro T2 v2 L2 X2 hQ2
    obtain ⟨rfl, Nq2, Kq2, Aq2⟩ := hQ2
    have N2 := Fr.app N1 Nq2
    have K2 : Keep h0 T2.heap [] := K1.trans Kq2 (allS (Or.inr gq1) all0)
    have f2_0 := f1_0.keep Kq2 (ninS nt1 nin0)
    have f2_1 := own_u16_keep f1_1 Kq2 (nsS (Arv.nostat Aq1) ns0)
    refine gIinc X2 hx (v := (1 : Int32)) (H d14_23) (l' := #[.val (.ref x), .val (.int (1 : Int32)), .val (.int (2 : Int32)), .val (.ref q1), .val (.int (0 : Int32))]) (pc' := 26) rfl rfl rfl rfl ?_
    refine gIinc X2 hx (v := (1 : Int32)) (H d14_26) (l' := #[.val (.ref x), .val (.int (1 : Int32)), .val (.int (2 : Int32)), .val (.ref q1), .val (.int (1 : Int32))]) (pc' := 29) rfl rfl rfl rfl ?_
    refine gGoto X2 hx (H d14_29) (pc' := 8) (by decide) (by decide) ?_
    refine gLoadI 10 X2 hx (H d14_8) rfl rfl ?_
    refine gLoadIN 11 X2 hx (H d14_10) rfl rfl ?_
    refine gIcmpGe X2 hx (H d14_11) (pc' := 32) (by decide) (by decide) (pn := 14) rfl (fun (c11' : (2 : Int) ≤ (1 : Int)) => ?_) (fun (c11' : (1 : Int) < (2 : Int)) => ?_)
    · exact absurd c11' (by decide)
    · refine gLoadAN 15 X2 hx (H d14_14) rfl rfl rfl ?_
      refine gLoadI 17 X2 hx (H d14_15) rfl rfl ?_
      refine gLoadAN 18 X2 hx (H d14_17) rfl rfl rfl ?_
      refine gLoadIN 19 X2 hx (H d14_18) rfl rfl ?_
      refine gCaload X2 hx hZ rfl f2_0 (j := (1 : Int32)) (v := (.int ch1)) (by decide) (by decide) rfl (H d14_19) (pc' := 20) rfl ?_
      refine gCallS X2 hx hZ (y := mn28) hown rfl (by rw [hml]; rfl) (ow hw 89 rfl) (ow hw 90 rfl) (ow hw 67 rfl) (ow hw 91 rfl) (by decide) (argsL := [(.ref q1), (.int (1 : Int32)), (.int ch1)]) (st := []) (c_put_2_1 l Z a0 hw q1 ctq1 h0.size ch0 ch1 T2.heap gq1 f2_1 Aq2) (lenOf pd_17 rfl) (H d14_20) (pc' := 23) rfl rfl (by decide) (W := 0) (Nat.le_of_eq rfl) (by decide) (by decide) (by decide) ?_
      intro T3 v3 L3 X3 hQ3
      obtain ⟨rfl, Nq3, Kq3, Aq3⟩ := hQ3
      have N3 := Fr.app N2 Nq3
      have K3 : Keep h0 T3.heap [] := K2.trans Kq3 (allS (Or.inr gq1) all0)
      have f3_0 := f2_0.keep Kq3 (ninS nt1 nin0)
      have f3_1 := own_u16_keep f2_1 Kq3 (nsS (Arv.nostat Aq2) ns0)
      refine gIinc X3 hx (v := (1 : Int32)) (H d14_23) (l' := #[.val (.ref x), .val (.int (2 : Int32)), .val (.int (2 : Int32)), .val (.ref q1), .val (.int (1 : Int32))]) (pc' := 26) rfl rfl rfl rfl ?_
      refine gIinc X3 hx (v := (1 : Int32)) (H d14_26) (l' := #[.val (.ref x), .val (.int (2 : Int32)), .val (.int (2 : Int32)), .val (.ref q1), .val (.int (2 : Int32))]) (pc' := 29) rfl rfl rfl rfl ?_
      refine gGoto X3 hx (H d14_29) (pc' := 8) (by decide) (by decide) ?_
      refine gLoadI 10 X3 hx (H d14_8) rfl rfl ?_
      refine gLoadIN 11 X3 hx (H d14_10) rfl rfl ?_
      refine gIcmpGe X3 hx (H d14_11) (pc' := 32) (by decide) (by decide) (pn := 14) rfl (fun (c11'' : (2 : Int) ≤ (2 : Int)) => ?_) (fun (c11'' : (2 : Int) < (2 : Int)) => ?_)
      · refine gLoadAN 33 X3 hx (H d14_32) rfl rfl rfl ?_
        exact gRetA X3 hx hlk hret rfl rfl (H d14_33) (by decide) (by decide) (⟨q1, ctq1, rfl, gq1, N3, K3, Aq3⟩)
      · exact absurd c11'' (by decide)
theorem d17_26 : decode jdk_52_method_21_code 26 = .ok (.aload_n 2, 1) := by decide +kernel
theorem d17_27 : decode jdk_52_method_21_code 27 = .ok (.iload_n 3, 1) := by decide +kernel
theorem d17_28 : decode jdk_52_method_21_code 28 = .ok (.iload 6, 2) := by decide +kernel
theorem d17_30 : decode jdk_52_method_21_code 30 = .ok (.i2b, 1) := by decide +kernel
theorem d17_31 : decode jdk_52_method_21_code 31 = .ok (.bastore, 1) := by decide +kernel
theorem d17_32 : decode jdk_52_method_21_code 32 = .ok (.iinc 1 1, 3) := by decide +kernel
theorem d17_35 : decode jdk_52_method_21_code 35 = .ok (.iinc 3 1, 3) := by decide +kernel
theorem d17_38 : decode jdk_52_method_21_code 38 = .ok (.iinc 5 1, 3) := by decide +kernel
theorem d17_41 : decode jdk_52_method_21_code 41 = .ok (.goto (-38), 3) := by decide +kernel
theorem c_cui_2 (l : Launch) (Z : State) (a0 : Array Value) (hw : ∀ d ∈ tables_1, d.before a0 Z = true) (x t : Addr) (cx ct : ClassId) (n0 : Nat) (ch0 ch1 : Int32) (h0 : Heap) (gt : n0 ≤ t) (hne : x ≠ t) (A : Arv Z h0 x cx .char 2 [.int ch0, .int ch1] (.int 0)) (B : Arv Z h0 t ct .byte 2 [.int 0, .int 0] (.int 0)) (hbig : 255 < ch0.toInt ∨ 255 < ch1.toInt) :
    Ctr l Z mn20 jdk_52_method_21_code 7 (some .int) [] ⟨0, 0, 0, 0⟩ #[(.ref x), (.int (0 : Int32)), (.ref t), (.int (0 : Int32)), (.int (2 : Int32))] h0 (fun v h L => ∃ k : Int32, v = some (.int k) ∧ Fr n0 L ∧ Keep h0 h [t] ∧ ((k = 0 ∧ 255 < ch0.toInt) ∨ (k = 1 ∧ 255 < ch1.toInt))) := by
  refine Ctr.of (plainFor_of_name pn_6) ?_
  intro p e s m below meth c s₁ hx H hml hret hown hnm hZ hlk X0 e0
  refine Goes.cast (show entryFrame m _ _ = mkF m 0 #[.val (.ref x), .val (.int (0 : Int32)), .val (.ref t), .val (.int (0 : Int32)), .val (.int (2 : Int32)), .unset, .unset] [] from rfl) ?_
  refine gIconst 1 X0 hx (v := (0 : Int32)) (H d17_0) rfl rfl ?_
  refine gStoreI 3 X0 hx (H d17_1) (l' := #[.val (.ref x), .val (.int (0 : Int32)), .val (.ref t), .val (.int (0 : Int32)), .val (.int (2 : Int32)), .val (.int (0 : Int32)), .unset]) rfl rfl ?_
  refine gLoadI 5 X0 hx (H d17_3) rfl rfl ?_
  refine gLoadI 7 X0 hx (H d17_5) rfl rfl ?_
  refine gIcmpGe X0 hx (H d17_7) (pc' := 44) (by decide) (by decide) (pn := 10) rfl (fun (c7 : (2 : Int) ≤ (0 : Int)) => ?_) (fun (c7 : (0 : Int) < (2 : Int)) => ?_)
  · exact absurd c7 (by decide)
  · refine gLoadAN 11 X0 hx (H d17_10) rfl rfl rfl ?_
    refine gLoadIN 12 X0 hx (H d17_11) rfl rfl ?_
    refine gCaload X0 hx hZ e0 A (j := (0 : Int32)) (v := (.int ch0)) (by decide) (by decide) rfl (H d17_12) (pc' := 13) rfl ?_
    refine gStoreI 15 X0 hx (H d17_13) (l' := #[.val (.ref x), .val (.int (0 : Int32)), .val (.ref t), .val (.int (0 : Int32)), .val (.int (2 : Int32)), .val (.int (0 : Int32)), .val (.int ch0)]) rfl rfl ?_
    refine gLoadI 17 X0 hx (H d17_15) rfl rfl ?_
    refine gSipush 20 X0 hx (v := (255 : Int32)) (H d17_17) rfl rfl ?_
    refine gIcmpLe X0 hx (H d17_20) (pc' := 26) (by decide) (by decide) (pn := 23) rfl (fun (c20 : ch0.toInt ≤ (255 : Int)) => ?_) (fun (c20 : (255 : Int) < ch0.toInt) => ?_)
    · refine gLoadAN 27 X0 hx (H d17_26) rfl rfl rfl ?_
      refine gLoadIN 28 X0 hx (H d17_27) rfl rfl ?_
      refine gLoadI 30 X0 hx (H d17_28) rfl rfl ?_
      refine gI2b 31 X0 hx (H d17_30) rfl ?_
      refine gBastore X0 hx hZ e0 (x := (ch0.toInt8.toInt32)) B (j := (0 : Int32)) (by decide) (by decide) 0 (by decide) (by simp) (H d17_31) (pc' := 32) rfl (fun T1 h1 X1 e1 W1 A1 => ?_)
      have f1_0 := A.other W1 hne
      have zs1 : h0.size ≤ h1.size := by rw [W1.size]; exact (Nat.le_refl _)
      have N1 := Fr.snoc X1 (Fr.nil n0) gt
      have K1 : Keep h0 h1 [t] := (Keep.refl h0 [t]).wr W1 (Or.inl (by simp))
      have V1 : Arv Z h1 t _ .byte (2 : Int32) [(.int (ch0.toInt8.toInt32)), (.int (0 : Int32))] (.int 0) := (by have q := A1; rw [own_nb] at q; exact q)
      refine gIinc X1 hx (v := (1 : Int32)) (H d17_32) (l' := #[.val (.ref x), .val (.int (1 : Int32)), .val (.ref t), .val (.int (0 : Int32)), .val (.int (2 : Int32)), .val (.int (0 : Int32)), .val (.int ch0)]) (pc' := 35) rfl rfl rfl rfl ?_
      refine gIinc X1 hx (v := (1 : Int32)) (H d17_35) (l' := #[.val (.ref x), .val (.int (1 : Int32)), .val (.ref t), .val (.int (1 : Int32)), .val (.int (2 : Int32)), .val (.int (0 : Int32)), .val (.int ch0)]) (pc' := 38) rfl rfl rfl rfl ?_
      refine gIinc X1 hx (v := (1 : Int32)) (H d17_38) (l' := #[.val (.ref x), .val (.int (1 : Int32)), .val (.ref t), .val (.int (1 : Int32)), .val (.int (2 : Int32)), .val (.int (1 : Int32)), .val (.int ch0)]) (pc' := 41) rfl rfl rfl rfl ?_
      refine gGoto X1 hx (H d17_41) (pc' := 3) (by decide) (by decide) ?_
      refine gLoadI 5 X1 hx (H d17_3) rfl rfl ?_
      refine gLoadI 7 X1 hx (H d17_5) rfl rfl ?_
      refine gIcmpGe X1 hx (H d17_7) (pc' := 44) (by decide) (by decide) (pn := 10) rfl (fun (c7' : (2 : Int) ≤ (1 : Int)) => ?_) (fun (c7' : (1 : Int) < (2 : Int)) => ?_)
      · exact absurd c7' (by decide)
      · refine gLoadAN 11 X1 hx (H d17_10) rfl rfl rfl ?_
        refine gLoadIN 12 X1 hx (H d17_11) rfl rfl ?_
        refine gCaload X1 hx hZ e1 f1_0 (j := (1 : Int32)) (v := (.int ch1)) (by decide) (by decide) rfl (H d17_12) (pc' := 13) rfl ?_
        refine gStoreI 15 X1 hx (H d17_13) (l' := #[.val (.ref x), .val (.int (1 : Int32)), .val (.ref t), .val (.int (1 : Int32)), .val (.int (2 : Int32)), .val (.int (1 : Int32)), .val (.int ch1)]) rfl rfl ?_
        refine gLoadI 17 X1 hx (H d17_15) rfl rfl ?_
        refine gSipush 20 X1 hx (v := (255 : Int32)) (H d17_17) rfl rfl ?_
        refine gIcmpLe X1 hx (H d17_20) (pc' := 26) (by decide) (by decide) (pn := 23) rfl (fun (c20' : ch1.toInt ≤ (255 : Int)) => ?_) (fun (c20' : (255 : Int) < ch1.toInt) => ?_)
        · exact absurd hbig (by omega)
        · refine gLoadI 25 X1 hx (H d17_23) rfl rfl ?_
          exact gRetI X1 hx hlk hret (H d17_25) (by decide) (by decide) (⟨(1 : Int32), rfl, N1, by rw [e1]; exact K1, Or.inr (⟨rfl, c20'⟩)⟩)
    · refine gLoadI 25 X0 hx (H d17_23) rfl rfl ?_
      exact gRetI X0 hx hlk hret (H d17_25) (by decide) (by decide) (⟨(0 : Int32), rfl, (Fr.nil n0), by rw [e0]; exact (Keep.refl h0 [t]), Or.inl (⟨rfl, c20⟩)⟩)
theorem c_cuo_2 (l : Launch) (Z : State) (a0 : Array Value) (hw : ∀ d ∈ tables_1, d.before a0 Z = true) (x : Addr) (cx : ClassId) (ch0 ch1 : Int32) (h0 : Heap) (hU : U16 Z h0) (A : Arv Z h0 x cx .char 2 [.int ch0, .int ch1] (.int 0)) (hch0 : r6 ch0) (hch1 : r6 ch1) (hbig : 255 < ch0.toInt ∨ 255 < ch1.toInt) :
    Ctr l Z mn19 jdk_52_method_16_code 6 (some (.array .byte)) [] ⟨3, 2, 6, 60⟩ #[(.ref x), (.int (0 : Int32)), (.int (2 : Int32))] h0 (fun v h L => ∃ (t : Addr) (ct : ClassId), v = some (.ref t) ∧ h0.size ≤ t ∧ Fr h0.size L ∧ Keep h0 h [] ∧ sA Z h t ct 4 [(.int (lo8 ch0)), (.int (hi8 ch0)), (.int (lo8 ch1)), (.int (hi8 ch1))]) := by
  refine Ctr.of (plainFor_of_name pn_6) ?_
  intro p e s m below meth c s₁ hx H hml hret hown hnm hZ hlk X0 e0
  refine Goes.cast (show entryFrame m _ _ = mkF m 0 #[.val (.ref x), .val (.int (0 : Int32)), .val (.int (2 : Int32)), .unset, .unset, .unset] [] from rfl) ?_
  refine gLoadIN 1 X0 hx (H d16_0) rfl rfl ?_
  refine gNewP X0 hx hZ (ow hw 20 rfl) e0 (n := (2 : Int32)) (H d16_1) (by decide) (cap := 2) (by decide) (by decide) (by decide) (by decide) 2 (pc' := 3) rfl (fun T1 h1 b1 ck1 X1 e1 g1 E1 A1 => ?_)
  have ne_x_b1 : x ≠ b1 := Nat.ne_of_lt (Nat.lt_of_lt_of_eq A.lt g1.symm)
  have f1_0 := A.ext E1
  have f1_1 := hU.ext E1
  have sz_b1 : h0.size ≤ b1 := Nat.le_trans (Nat.le_refl _) (Nat.le_of_eq g1.symm)
  have zs1 : h0.size ≤ h1.size := Nat.le_trans (Nat.le_refl _) E1.1
  have K1 : Keep h0 h1 [] := (Keep.refl h0 []).ext E1
  have V1 : Arv Z h1 b1 ck1 .byte (2 : Int32) [(.int (0 : Int32)), (.int (0 : Int32))] (.int (0 : Int32)) := A1
  refine gStoreAN 4 X1 hx (H d16_3) (l' := #[.val (.ref x), .val (.int (0 : Int32)), .val (.int (2 : Int32)), .val (.ref b1), .unset, .unset]) rfl rfl rfl ?_
  refine gLoadAN 5 X1 hx (H d16_4) rfl rfl rfl ?_
  refine gLoadIN 6 X1 hx (H d16_5) rfl rfl ?_
  refine gLoadAN 7 X1 hx (H d16_6) rfl rfl rfl ?_
  refine gIconst 8 X1 hx (v := (0 : Int32)) (H d16_7) rfl rfl ?_
  refine gLoadIN 9 X1 hx (H d16_8) rfl rfl ?_
  refine gCallS X1 hx hZ (y := mn20) hown e1 (by rw [hml]; rfl) (ow hw 69 rfl) (ow hw 70 rfl) (ow hw 67 rfl) (ow hw 71 rfl) (by decide) (argsL := [(.ref x), (.int (0 : Int32)), (.ref b1), (.int (0 : Int32)), (.int (2 : Int32))]) (st := []) (c_cui_2 l Z a0 hw x b1 cx ck1 h0.size ch0 ch1 h1 sz_b1 ne_x_b1 f1_0 V1 hbig) (lenOf pd_22 rfl) (H d16_9) (pc' := 12) rfl rfl (by decide) (W := 0) (Nat.le_of_eq rfl) (by decide) (by decide) (by decide) ?_
  intro T2 v2 L2 X2 hQ2
  obtain ⟨kk, rfl, Nq2, Kq2, hkk⟩ := hQ2
  have N2 := Fr.app (Fr.nil h0.size) Nq2
  have K2 : Keep h0 T2.heap [] := K1.trans Kq2 (allS (Or.inr sz_b1) all0)
  have f2_0 := f1_0.keep Kq2 (ninS ne_x_b1 nin0)
  have f2_1 := own_u16_keep f1_1 Kq2 (nsS (Arv.nostat V1) ns0)
  have zs2 := Nat.le_trans zs1 Kq2.1
  rcases hkk with ⟨rfl, hk⟩ | ⟨rfl, hk⟩
  · refine gStoreI 14 X2 hx (H d16_12) (l' := #[.val (.ref x), .val (.int (0 : Int32)), .val (.int (2 : Int32)), .val (.ref b1), .val (.int (0 : Int32)), .unset]) rfl rfl ?_
    refine gLoadI 16 X2 hx (H d16_14) rfl rfl ?_
    refine gLoadIN 17 X2 hx (H d16_16) rfl rfl ?_
    refine gIcmpEqT X2 hx (H d16_17) (pc' := 57) (by decide) (by decide) (pn := 20) rfl (fun (c17 : (0 : Int) = (2 : Int)) => ?_) (fun (c17 : ¬ (0 : Int) = (2 : Int)) => ?_)
    · exact absurd c17 (by decide)
    · refine gLoadAN 21 X2 hx (H d16_20) rfl rfl rfl ?_
      refine gLoadIN 22 X2 hx (H d16_21) rfl rfl ?_
      refine gLoadIN 23 X2 hx (H d16_22) rfl rfl ?_
      refine gCallS X2 hx hZ (y := mn29) hown rfl (by rw [hml]; rfl) (ow hw 79 rfl) (ow hw 80 rfl) (ow hw 67 rfl) (ow hw 81 rfl) (by decide) (argsL := [(.ref x), (.int (0 : Int32)), (.int (2 : Int32))]) (st := []) (c_tob_2 l Z a0 hw x cx ch0 ch1 T2.heap f2_1 f2_0 hch0 hch1) (lenOf pd_20 rfl) (H d16_23) (pc' := 26) rfl rfl (by decide) (W := 0) (Nat.le_of_eq rfl) (by decide) (by decide) (by decide) ?_
      intro T3 v3 L3 X3 hQ3
      obtain ⟨q3, ctq3, rfl, gq3, Nq3, Kq3, Aq3⟩ := hQ3
      have N3 := Fr.app N2 (fun y hy => Nat.le_trans zs2 (Nq3 y hy))
      have K3 : Keep h0 T3.heap [] := K2.trans Kq3 all0
      have f3_0 := f2_0.keep Kq3 nin0
      have f3_1 := own_u16_keep f2_1 Kq3 ns0
      have gz3 := Nat.le_trans zs2 gq3
      refine gStoreA 28 X3 hx (H d16_26) (l' := #[.val (.ref x), .val (.int (0 : Int32)), .val (.int (2 : Int32)), .val (.ref b1), .val (.int (0 : Int32)), .val (.ref q3)]) rfl rfl rfl ?_
      refine gLoadA 30 X3 hx (H d16_28) rfl rfl rfl ?_
      refine gLoadI 32 X3 hx (H d16_30) rfl rfl ?_
      refine gCallSJ X3 hx hZ (y := mn21) hown rfl (by rw [hml]; rfl) (ow hw 95 rfl) (ow hw 96 rfl) (ow hw 67 rfl) (ow hw 97 rfl) (by decide) (argsL := [(.ref q3), (.int (0 : Int32))]) (st := []) (c_get_2_0 l Z a0 hw q3 ctq3 ch0 ch1 T3.heap f3_1 Aq3 hch0 hch1) (lenOf pd_16 rfl) (H d16_32) (pc' := 35) rfl rfl rfl rfl (by decide) (W := 0) (Nat.le_of_eq rfl) (by decide) (by decide) (by decide) ?_
      intro T4 X4 e4
      refine gSipush 38 X4 hx (v := (255 : Int32)) (H d16_35) rfl rfl ?_
      refine gIcmpGt X4 hx (H d16_38) (pc' := 54) (by decide) (by decide) (pn := 41) rfl (fun (c38 : (255 : Int) < ch0.toInt) => ?_) (fun (c38 : ch0.toInt ≤ (255 : Int)) => ?_)
      · refine gLoadA 56 X4 hx (H d16_54) rfl rfl rfl ?_
        exact gRetA X4 hx hlk hret rfl rfl (H d16_56) (by decide) (by decide) (⟨q3, ctq3, rfl, gz3, N3, by rw [e4]; exact K3, by rw [e4]; exact Aq3⟩)
      · exact absurd c38 (by omega)
  · refine gStoreI 14 X2 hx (H d16_12) (l' := #[.val (.ref x), .val (.int (0 : Int32)), .val (.int (2 : Int32)), .val (.ref b1), .val (.int (1 : Int32)), .unset]) rfl rfl ?_
    refine gLoadI 16 X2 hx (H d16_14) rfl rfl ?_
    refine gLoadIN 17 X2 hx (H d16_16) rfl rfl ?_
    refine gIcmpEqT X2 hx (H d16_17) (pc' := 57) (by decide) (by decide) (pn := 20) rfl (fun (c17 : (1 : Int) = (2 : Int)) => ?_) (fun (c17 : ¬ (1 : Int) = (2 : Int)) => ?_)
    · exact absurd c17 (by decide)
    · refine gLoadAN 21 X2 hx (H d16_20) rfl rfl rfl ?_
      refine gLoadIN 22 X2 hx (H d16_21) rfl rfl ?_
      refine gLoadIN 23 X2 hx (H d16_22) rfl rfl ?_
      refine gCallS X2 hx hZ (y := mn29) hown rfl (by rw [hml]; rfl) (ow hw 79 rfl) (ow hw 80 rfl) (ow hw 67 rfl) (ow hw 81 rfl) (by decide) (argsL := [(.ref x), (.int (0 : Int32)), (.int (2 : Int32))]) (st := []) (c_tob_2 l Z a0 hw x cx ch0 ch1 T2.heap f2_1 f2_0 hch0 hch1) (lenOf pd_20 rfl) (H d16_23) (pc' := 26) rfl rfl (by decide) (W := 0) (Nat.le_of_eq rfl) (by decide) (by decide) (by decide) ?_
      intro T5 v5 L5 X5 hQ5
      obtain ⟨q5, ctq5, rfl, gq5, Nq5, Kq5, Aq5⟩ := hQ5
      have N5 := Fr.app N2 (fun y hy => Nat.le_trans zs2 (Nq5 y hy))
      have K5 : Keep h0 T5.heap [] := K2.trans Kq5 all0
      have f5_0 := f2_0.keep Kq5 nin0
      have f5_1 := own_u16_keep f2_1 Kq5 ns0
      have gz5 := Nat.le_trans zs2 gq5
      refine gStoreA 28 X5 hx (H d16_26) (l' := #[.val (.ref x), .val (.int (0 : Int32)), .val (.int (2 : Int32)), .val (.ref b1), .val (.int (1 : Int32)), .val (.ref q5)]) rfl rfl rfl ?_
      refine gLoadA 30 X5 hx (H d16_28) rfl rfl rfl ?_
      refine gLoadI 32 X5 hx (H d16_30) rfl rfl ?_
      refine gCallSJ X5 hx hZ (y := mn21) hown rfl (by rw [hml]; rfl) (ow hw 95 rfl) (ow hw 96 rfl) (ow hw 67 rfl) (ow hw 97 rfl) (by decide) (argsL := [(.ref q5), (.int (1 : Int32))]) (st := []) (c_get_2_1 l Z a0 hw q5 ctq5 ch0 ch1 T5.heap f5_1 Aq5 hch0 hch1) (lenOf pd_16 rfl) (H d16_32) (pc' := 35) rfl rfl rfl rfl (by decide) (W := 0) (Nat.le_of_eq rfl) (by decide) (by decide) (by decide) ?_
      intro T6 X6 e6
      refine gSipush 38 X6 hx (v := (255 : Int32)) (H d16_35) rfl rfl ?_
      refine gIcmpGt X6 hx (H d16_38) (pc' := 54) (by decide) (by decide) (pn := 41) rfl (fun (c38 : (255 : Int) < ch1.toInt) => ?_) (fun (c38 : ch1.toInt ≤ (255 : Int)) => ?_)
      · refine gLoadA 56 X6 hx (H d16_54) rfl rfl rfl ?_
        exact gRetA X6 hx hlk hret rfl rfl (H d16_56) (by decide) (by decide) (⟨q5, ctq5, rfl, gz5, N5, by rw [e6]; exact K5, by rw [e6]; exact Aq5⟩)
      · exact absurd c38 (by omega)
theorem c_cfu_2 (l : Launch) (Z : State) (a0 : Array Value) (hw : ∀ d ∈ tables_1, d.before a0 Z = true) (t : Addr) (ck : ClassId) (ch0 ch1 : Int32) (h0 : Heap) (A : sA Z h0 t ck 4 [(.int (lo8 ch0)), (.int (hi8 ch0)), (.int (lo8 ch1)), (.int (hi8 ch1))]) :
    Ctr l Z mn18 jdk_52_method_15_code 2 (some .byte) [] ⟨0, 0, 0, 0⟩ #[(.ref t), (.int (2 : Int32))] h0 (Just h0 (.int 1)) := by
  refine Ctr.of (plainFor_of_name pn_6) ?_
  intro p e s m below meth c s₁ hx H hml hret hown hnm hZ hlk X0 e0
  refine Goes.cast (show entryFrame m _ _ = mkF m 0 #[.val (.ref t), .val (.int (2 : Int32))] [] from rfl) ?_
  refine gLoadIN 1 X0 hx (H d15_0) rfl rfl ?_
  refine gLoadAN 2 X0 hx (H d15_1) rfl rfl rfl ?_
  refine gArrLen X0 hx hZ e0 A (H d15_2) (pc' := 3) rfl ?_
  refine gIsub 4 X0 hx (H d15_3) rfl ?_
  show Goes p e below _ s₁ (mkF m 4 #[.val (.ref t), .val (.int (2 : Int32))] [(.int (-2 : Int32))])
  refine gBipush 6 X0 hx (v := (31 : Int32)) (H d15_4) rfl rfl ?_
  refine gIushr 7 X0 hx (H d15_6) rfl ?_
  show Goes p e below _ s₁ (mkF m 7 #[.val (.ref t), .val (.int (2 : Int32))] [(.int (1 : Int32))])
  refine gI2b 8 X0 hx (H d15_7) rfl ?_
  show Goes p e below _ s₁ (mkF m 8 #[.val (.ref t), .val (.int (2 : Int32))] [(.int (1 : Int32))])
  exact gRetN X0 hx hlk hret (by simp) (H d15_8) (w := (1 : Int32)) rfl (by decide) (by decide) (⟨rfl, e0, rfl⟩)
theorem c_siu_2v (l : Launch) (Z : State) (a0 : Array Value) (hw : ∀ d ∈ tables_1, d.before a0 Z = true) (a x : Addr) (cx : ClassId) (n0 : Nat) (ch0 ch1 : Int32) (h0 : Heap) (hCpt : Cpt Z h0) (hU : U16 Z h0) (ga : n0 ≤ a) (gz : n0 ≤ h0.size) (hax : x ≠ a) (E : sE Z h0 a) (C : sC Z h0 a) (V : Fld Z h0 a "java/lang/String" "value" "[B" .null) (A : Arv Z h0 x cx .char 2 [.int ch0, .int ch1] (.int 0)) (hch0 : r6 ch0) (hch1 : r6 ch1) (hbig : 255 < ch0.toInt ∨ 255 < ch1.toInt) :
    Ctr l Z mn8 jdk_42_method_149_code 6 none [] ⟨4, 2, 6, 80⟩ #[(.ref a), (.ref x), (.int (0 : Int32)), (.int (2 : Int32)), .null] h0 (fun v h L => ∃ (t : Addr) (ct : ClassId), v = none ∧ Fr n0 L ∧ Keep h0 h [a] ∧ h0.size ≤ t ∧ sE Z h a ∧ uC Z h a ∧ sV Z h a t ∧ sA Z h t ct 4 [(.int (lo8 ch0)), (.int (hi8 ch0)), (.int (lo8 ch1)), (.int (hi8 ch1))]) := by
  refine Ctr.of (plainFor_of_name pn_4) ?_
  intro p e s m below meth c s₁ hx H hml hret hown hnm hZ hlk X0 e0
  refine Goes.cast (show entryFrame m _ _ = mkF m 0 #[.val (.ref a), .val (.ref x), .val (.int (0 : Int32)), .val (.int (2 : Int32)), .val .null, .unset] [] from rfl) ?_
  obtain ⟨cz, SC, hcz⟩ := hCpt
  refine gLoadAN 1 X0 hx (H d4_0) rfl rfl rfl ?_
  refine gInitO X0 hx hZ hown (ow hw 16 rfl) (ow hw 17 rfl) (ow hw 18 rfl) e0 (by rw [hml]; rfl) (H d4_1) (pc' := 4) rfl (by decide) (W := 0) (Nat.le_of_eq rfl) (by decide) (fun T1 X1 e1 => ?_)
  refine gLoadIN 5 X1 hx (H d4_4) rfl rfl ?_
  refine gIfNeT X1 hx (H d4_5) (pc' := 27) (by decide) (by decide) (pn := 8) rfl (fun (c5 : ¬ (2 : Int) = (0 : Int)) => ?_) (fun (c5 : (2 : Int) = (0 : Int)) => ?_)
  · refine gGetS X1 hx hZ hown (ow hw 47 rfl) Via.refl e1 SC (H d4_27) (pc' := 30) rfl (fun T2 X2 e2 => ?_)
    refine gIfEqT X2 hx (H d4_30) (pc' := 58) (by decide) (by decide) (pn := 33) rfl (fun (c30 : cz.toInt = (0 : Int)) => ?_) (fun (c30 : ¬ cz.toInt = (0 : Int)) => ?_)
    · exact absurd c30 hcz
    · refine gLoadAN 34 X2 hx (H d4_33) rfl rfl rfl ?_
      refine gLoadIN 35 X2 hx (H d4_34) rfl rfl ?_
      refine gLoadIN 36 X2 hx (H d4_35) rfl rfl ?_
      refine gCallS X2 hx hZ (y := mn19) hown e2 (by rw [hml]; rfl) (ow hw 65 rfl) (ow hw 66 rfl) (ow hw 67 rfl) (ow hw 68 rfl) (by decide) (argsL := [(.ref x), (.int (0 : Int32)), (.int (2 : Int32))]) (st := []) (c_cuo_2 l Z a0 hw x cx ch0 ch1 h0 hU A hch0 hch1 hbig) (lenOf pd_20 rfl) (H d4_36) (pc' := 39) rfl rfl (by decide) (W := 0) (Nat.le_of_eq rfl) (by decide) (by decide) (by decide) ?_
      intro T3 v3 L3 X3 hQ3
      obtain ⟨t3, ct3, rfl, gt3, Nq3, Kq3, Aq3⟩ := hQ3
      have N3 := Fr.app (Fr.nil n0) (fun y hy => Nat.le_trans gz (Nq3 y hy))
      have K3 : Keep h0 T3.heap [a] := (Keep.refl h0 [a]).trans Kq3 all0
      have f3_0 := own_sta_keep SC Kq3 ns0
      have f3_1 := own_u16_keep hU Kq3 ns0
      have f3_2 := E.keep Kq3
      have f3_3 := C.keep Kq3 nin0
      have f3_4 := V.keep Kq3 nin0
      have nt3 : t3 ≠ a := Ne.symm (Nat.ne_of_lt (Nat.lt_of_lt_of_le E.lt gt3))
      refine gStoreA 41 X3 hx (H d4_39) (l' := #[.val (.ref a), .val (.ref x), .val (.int (0 : Int32)), .val (.int (2 : Int32)), .val .null, .val (.ref t3)]) rfl rfl rfl ?_
      refine gLoadAN 42 X3 hx (H d4_41) rfl rfl rfl ?_
      refine gLoadA 44 X3 hx (H d4_42) rfl rfl rfl ?_
      refine gLoadIN 45 X3 hx (H d4_44) rfl rfl ?_
      refine gCallSJ X3 hx hZ (y := mn18) hown rfl (by rw [hml]; rfl) (ow hw 72 rfl) (ow hw 73 rfl) (ow hw 67 rfl) (ow hw 74 rfl) (by decide) (argsL := [(.ref t3), (.int (2 : Int32))]) (st := [(.ref a)]) (c_cfu_2 l Z a0 hw t3 ct3 ch0 ch1 _ Aq3) (lenOf pd_15 rfl) (H d4_45) (pc' := 48) rfl rfl rfl rfl (by decide) (W := 1) (Nat.le_of_eq rfl) (by decide) (by decide) (by decide) ?_
      intro T4 X4 e4
      refine gPutF X4 hx hZ hown (ow hw 26 rfl) Via.refl e4 f3_3 f3_2 (Or.inr ⟨(ow hw 22 rfl), rfl, hnm⟩) (ow hw 6 rfl) (ty := .byte) (by decide) rfl rfl (H d4_48) (pc' := 51) rfl (fun T5 h5 X5 e5 W5 => ?_)
      have f5_0 := f3_0.wr W5
      have f5_1 := f3_1.wr W5
      have f5_2 := f3_2.wr W5
      have f5_3 := f3_3.same W5
      have f5_4 := f3_4.other W5 (Or.inr (slot_ne (Or.inr (ow hw 21 rfl)) (Or.inr (ow hw 22 rfl)) (by decide) (t := (.array .byte)) (t' := .byte) (by decide) (by decide)))
      have f5_5 := Aq3.other W5 nt3
      have zs5 : h0.size ≤ h5.size := by rw [W5.size]; exact Kq3.1
      have N5 := Fr.snoc X5 N3 ga
      have K5 : Keep h0 h5 [a] := K3.wr W5 (Or.inl (by simp))
      refine gLoadAN 52 X5 hx (H d4_51) rfl rfl rfl ?_
      refine gLoadA 54 X5 hx (H d4_52) rfl rfl rfl ?_
      refine gPutF X5 hx hZ hown (ow hw 25 rfl) Via.refl e5 f5_4 f5_2 (Or.inr ⟨(ow hw 21 rfl), rfl, hnm⟩) (ow hw 6 rfl) (ty := (.array .byte)) (by decide) rfl rfl (H d4_54) (pc' := 57) rfl (fun T6 h6 X6 e6 W6 => ?_)
      have f6_0 := f5_0.wr W6
      have f6_1 := f5_1.wr W6
      have f6_2 := f5_2.wr W6
      have f6_3 := f5_3.other W6 (Or.inr (slot_ne (Or.inr (ow hw 22 rfl)) (Or.inr (ow hw 21 rfl)) (by decide) (t := .byte) (t' := (.array .byte)) (by decide) (by decide)))
      have f6_4 := f5_4.same W6
      have f6_5 := f5_5.other W6 nt3
      have zs6 : h0.size ≤ h6.size := by rw [W6.size]; exact zs5
      have N6 := Fr.snoc X6 N5 ga
      have K6 : Keep h0 h6 [a] := K5.wr W6 (Or.inl (by simp))
      exact gRetV X6 hx hlk hret (H d4_57) (by decide) (by decide) (⟨t3, ct3, rfl, N6, by rw [e6]; exact K6, gt3, by rw [e6]; exact f6_2, by rw [e6]; exact f6_3, by rw [e6]; exact f6_4, by rw [e6]; exact f6_5⟩)
  · exact absurd c5 (by decide)
theorem c_siu_2 (l : Launch) (Z : State) (a0 : Array Value) (hw : ∀ d ∈ tables_1, d.before a0 Z = true) (a x : Addr) (cx : ClassId) (n0 : Nat) (ch0 ch1 : Int32) (h0 : Heap) (hCpt : Cpt Z h0) (hU : U16 Z h0) (ga : n0 ≤ a) (gz : n0 ≤ h0.size) (hax : x ≠ a) (E : sE Z h0 a) (C : sC Z h0 a) (V : Fld Z h0 a "java/lang/String" "value" "[B" .null) (A : Arv Z h0 x cx .char 2 [.int ch0, .int ch1] (.int 0)) (hch0 : r6 ch0) (hch1 : r6 ch1) (hbig : 255 < ch0.toInt ∨ 255 < ch1.toInt) :
    Ctr l Z mn7 jdk_42_method_3_code 2 none [] ⟨5, 2, 6, 100⟩ #[(.ref a), (.ref x)] h0 (fun v h L => ∃ (t : Addr) (ct : ClassId), v = none ∧ Fr n0 L ∧ Keep h0 h [a] ∧ h0.size ≤ t ∧ sE Z h a ∧ uC Z h a ∧ sV Z h a t ∧ sA Z h t ct 4 [(.int (lo8 ch0)), (.int (hi8 ch0)), (.int (lo8 ch1)), (.int (hi8 ch1))]) := by
  refine Ctr.of (plainFor_of_name pn_4) ?_
  intro p e s m below meth c s₁ hx H hml hret hown hnm hZ hlk X0 e0
  refine Goes.cast (show entryFrame m _ _ = mkF m 0 #[.val (.ref a), .val (.ref x)] [] from rfl) ?_
  refine gLoadAN 1 X0 hx (H d8_0) rfl rfl rfl ?_
  refine gLoadAN 2 X0 hx (H d8_1) rfl rfl rfl ?_
  refine gIconst 3 X0 hx (v := (0 : Int32)) (H d8_2) rfl rfl ?_
  refine gLoadAN 4 X0 hx (H d8_3) rfl rfl rfl ?_
  refine gArrLen X0 hx hZ e0 A (H d8_4) (pc' := 5) rfl ?_
  refine gNull 6 X0 hx (H d8_5) rfl ?_
  refine gCallI X0 hx hZ (y := mn8) rfl hown e0 (by rw [hml]; rfl) (ow hw 12 rfl) (ow hw 13 rfl) (ow hw 7 rfl) (ow hw 15 rfl) (by decide) (argsL := [(.ref x), (.int (0 : Int32)), (.int (2 : Int32)), .null]) (st := []) (c_siu_2v l Z a0 hw a x cx n0 ch0 ch1 h0 hCpt hU ga gz hax E C V A hch0 hch1 hbig) (lenOf pd_21 rfl) (H d8_6) (pc' := 9) rfl rfl (by decide) (W := 0) (Nat.le_of_eq rfl) (by decide) (by decide) (by decide) ?_
  intro T1 v1 L1 X1 hQ1
  obtain ⟨t, ct, rfl, Nq, Kq, gt, Eq, Cq, Vq, Aq⟩ := hQ1
  exact gRetV X1 hx hlk hret (H d8_9) (by decide) (by decide) (⟨t, ct, rfl, Nq, Kq, gt, Eq, Cq, Vq, Aq⟩)
theorem c_nbl_3 (l : Launch) (Z : State) (a0 : Array Value) (hw : ∀ d ∈ tables_1, d.before a0 Z = true)  (h0 : Heap)  :
    Ctr l Z mn27 jdk_52_method_3_code 1 (some .int) [] ⟨0, 0, 0, 0⟩ #[(.int (3 : Int32))] h0 (Just h0 (.int 6)) := by
  refine Ctr.of (plainFor_of_name pn_6) ?_
  intro p e s m below meth c s₁ hx H hml hret hown hnm hZ hlk X0 e0
  refine Goes.cast (show entryFrame m _ _ = mkF m 0 #[.val (.int (3 : Int32))] [] from rfl) ?_
  refine gLoadIN 1 X0 hx (H d19_0) rfl rfl ?_
  refine gIfGe X0 hx (H d19_1) (pc' := 12) (by decide) (by decide) (pn := 4) rfl (fun (c1 : (0 : Int) ≤ (3 : Int)) => ?_) (fun (c1 : (3 : Int) < (0 : Int)) => ?_)
  · refine gLoadIN 13 X0 hx (H d19_12) rfl rfl ?_
    refine gLdc 15 X0 hx hZ hown (ow hw 88 rfl) (H d19_13) rfl ?_
    refine gIcmpLt X0 hx (H d19_15) (pc' := 55) (by decide) (by decide) (pn := 18) rfl (fun (c15 : (3 : Int) < (1073741823 : Int)) => ?_) (fun (c15 : (1073741823 : Int) ≤ (3 : Int)) => ?_)
    · refine gLoadIN 56 X0 hx (H d19_55) rfl rfl ?_
      refine gIconst 57 X0 hx (v := (1 : Int32)) (H d19_56) rfl rfl ?_
      refine gIshl 58 X0 hx (H d19_57) rfl ?_
      show Goes p e below _ s₁ (mkF m 58 #[.val (.int (3 : Int32))] [(.int (6 : Int32))])
      exact gRetI X0 hx hlk hret (H d19_58) (by decide) (by decide) (⟨rfl, e0, rfl⟩)
    · exact absurd c15 (by decide)
  · exact absurd c1 (by decide)
theorem c_nbf_3 (l : Launch) (Z : State) (a0 : Array Value) (hw : ∀ d ∈ tables_1, d.before a0 Z = true)  (h0 : Heap)  :
    Ctr l Z mn26 jdk_52_method_2_code 1 (some (.array .byte)) [] ⟨1, 1, 6, 12⟩ #[(.int (3 : Int32))] h0 (fun v h L => ∃ (t : Addr) (ct : ClassId), v = some (.ref t) ∧ h0.size ≤ t ∧ Fr h0.size L ∧ Keep h0 h [] ∧ sA Z h t ct 6 [.int 0, .int 0, .int 0, .int 0, .int 0, .int 0]) := by
  refine Ctr.of (plainFor_of_name pn_6) ?_
  intro p e s m below meth c s₁ hx H hml hret hown hnm hZ hlk X0 e0
  refine Goes.cast (show entryFrame m _ _ = mkF m 0 #[.val (.int (3 : Int32))] [] from rfl) ?_
  refine gLoadIN 1 X0 hx (H d18_0) rfl rfl ?_
  refine gCallSJ X0 hx hZ (y := mn27) hown e0 (by rw [hml]; rfl) (ow hw 85 rfl) (ow hw 86 rfl) (ow hw 67 rfl) (ow hw 87 rfl) (by decide) (argsL := [(.int (3 : Int32))]) (st := []) (c_nbl_3 l Z a0 hw h0) (lenOf pd_6 rfl) (H d18_1) (pc' := 4) rfl rfl rfl rfl (by decide) (W := 0) (Nat.le_of_eq rfl) (by decide) (by decide) (by decide) ?_
  intro T1 X1 e1
  refine gNewP X1 hx hZ (ow hw 20 rfl) e1 (n := (6 : Int32)) (H d18_4) (by decide) (cap := 6) (by decide) (by decide) (by decide) (by decide) 6 (pc' := 6) rfl (fun T2 h2 b2 ck2 X2 e2 g2 E2 A2 => ?_)
  have sz_b2 : h0.size ≤ b2 := Nat.le_trans (Nat.le_refl _) (Nat.le_of_eq g2.symm)
  have zs2 : h0.size ≤ h2.size := Nat.le_trans (Nat.le_refl _) E2.1
  have K2 : Keep h0 h2 [] := (Keep.refl h0 []).ext E2
  have V2 : Arv Z h2 b2 ck2 .byte (6 : Int32) [(.int (0 : Int32)), (.int (0 : Int32)), (.int (0 : Int32)), (.int (0 : Int32)), (.int (0 : Int32)), (.int (0 : Int32))] (.int (0 : Int32)) := A2
  exact gRetA X2 hx hlk hret rfl rfl (H d18_6) (by decide) (by decide) (⟨_, _, rfl, sz_b2, Fr.nil _, by rw [e2]; exact K2, by rw [e2]; exact V2⟩)
theorem c_put_3_0 (l : Launch) (Z : State) (a0 : Array Value) (hw : ∀ d ∈ tables_1, d.before a0 Z = true) (t : Addr) (ct : ClassId) (n0 : Nat) (ch0 : Int32) (h0 : Heap) (gt : n0 ≤ t) (hU : U16 Z h0) (B : sA Z h0 t ct 6 [(.int (0 : Int32)), (.int (0 : Int32)), (.int (0 : Int32)), (.int (0 : Int32)), (.int (0 : Int32)), (.int (0 : Int32))]) :
    Ctr l Z mn28 jdk_52_method_4_code 3 none [] ⟨0, 0, 0, 0⟩ #[(.ref t), (.int (0 : Int32)), (.int ch0)] h0 (fun v h L => v = none ∧ Fr n0 L ∧ Keep h0 h [t] ∧ sA Z h t ct 6 [(.int (lo8 ch0)), (.int (hi8 ch0)), (.int (0 : Int32)), (.int (0 : Int32)), (.int (0 : Int32)), (.int (0 : Int32))]) := by
  refine Ctr.of (plainFor_of_name pn_6) ?_
  intro p e s m below meth c s₁ hx H hml hret hown hnm hZ hlk X0 e0
  refine Goes.cast (show entryFrame m _ _ = mkF m 0 #[.val (.ref t), .val (.int (0 : Int32)), .val (.int ch0)] [] from rfl) ?_
  refine gGetS X0 hx hZ hown (ow hw 92 rfl) Via.refl e0 hU.1 (H d23_0) (pc' := 3) rfl (fun T1 X1 e1 => ?_)
  refine gIfNeT X1 hx (H d23_3) (pc' := 28) (by decide) (by decide) (pn := 6) rfl (fun (c3 : ¬ (1 : Int) = (0 : Int)) => ?_) (fun (c3 : (1 : Int) = (0 : Int)) => ?_)
  · refine gLoadIN 29 X1 hx (H d23_28) rfl rfl ?_
    refine gIconst 30 X1 hx (v := (1 : Int32)) (H d23_29) rfl rfl ?_
    refine gIshl 31 X1 hx (H d23_30) rfl ?_
    show Goes p e below _ T1 (mkF m 31 #[.val (.ref t), .val (.int (0 : Int32)), .val (.int ch0)] [(.int (0 : Int32))])
    refine gStoreIN 32 X1 hx (H d23_31) (l' := #[.val (.ref t), .val (.int (0 : Int32)), .val (.int ch0)]) rfl rfl ?_
    refine gLoadAN 33 X1 hx (H d23_32) rfl rfl rfl ?_
    refine gLoadIN 34 X1 hx (H d23_33) rfl rfl ?_
    refine gIinc X1 hx (v := (1 : Int32)) (H d23_34) (l' := #[.val (.ref t), .val (.int (1 : Int32)), .val (.int ch0)]) (pc' := 37) rfl rfl rfl rfl ?_
    refine gLoadIN 38 X1 hx (H d23_37) rfl rfl ?_
    refine gGetS X1 hx hZ hown (ow hw 93 rfl) Via.refl e1 hU.2.1 (H d23_38) (pc' := 41) rfl (fun T2 X2 e2 => ?_)
    refine gIshr 42 X2 hx (H d23_41) rfl ?_
    refine gI2b 43 X2 hx (H d23_42) rfl ?_
    refine gBastore X2 hx hZ e2 (x := ((ch0 >>> ((0 : Int32) &&& 31)).toInt8.toInt32)) B (j := (0 : Int32)) (by decide) (by decide) 0 (by decide) (by simp) (H d23_43) (pc' := 44) rfl (fun T3 h3 X3 e3 W3 A3 => ?_)
    have f3_0 := hU.1.wr W3
    have f3_1 := hU.2.1.wr W3
    have f3_2 := hU.2.2.wr W3
    have zs3 : h0.size ≤ h3.size := by rw [W3.size]; exact (Nat.le_refl _)
    have N3 := Fr.snoc X3 (Fr.nil n0) gt
    have K3 : Keep h0 h3 [t] := (Keep.refl h0 [t]).wr W3 (Or.inl (by simp))
    have V3 : Arv Z h3 t _ .byte (6 : Int32) [(.int (lo8 ch0)), (.int (0 : Int32)), (.int (0 : Int32)), (.int (0 : Int32)), (.int (0 : Int32)), (.int (0 : Int32))] (.int 0) := (by have q := A3; rw [own_nb] at q; exact q)
    refine gLoadAN 45 X3 hx (H d23_44) rfl rfl rfl ?_
    refine gLoadIN 46 X3 hx (H d23_45) rfl rfl ?_
    refine gLoadIN 47 X3 hx (H d23_46) rfl rfl ?_
    refine gGetS X3 hx hZ hown (ow hw 94 rfl) Via.refl e3 f3_2 (H d23_47) (pc' := 50) rfl (fun T4 X4 e4 => ?_)
    refine gIshr 51 X4 hx (H d23_50) rfl ?_
    refine gI2b 52 X4 hx (H d23_51) rfl ?_
    refine gBastore X4 hx hZ e4 (x := ((ch0 >>> ((8 : Int32) &&& 31)).toInt8.toInt32)) V3 (j := (1 : Int32)) (by decide) (by decide) 1 (by decide) (by simp) (H d23_52) (pc' := 53) rfl (fun T5 h5 X5 e5 W5 A5 => ?_)
    have f5_0 := f3_0.wr W5
    have f5_1 := f3_1.wr W5
    have f5_2 := f3_2.wr W5
    have zs5 : h0.size ≤ h5.size := by rw [W5.size]; exact zs3
    have N5 := Fr.snoc X5 N3 gt
    have K5 : Keep h0 h5 [t] := K3.wr W5 (Or.inl (by simp))
    have V5 : Arv Z h5 t _ .byte (6 : Int32) [(.int (lo8 ch0)), (.int (hi8 ch0)), (.int (0 : Int32)), (.int (0 : Int32)), (.int (0 : Int32)), (.int (0 : Int32))] (.int 0) := (by have q := A5; rw [own_nb] at q; exact q)
    exact gRetV X5 hx hlk hret (H d23_53) (by decide) (by decide) (⟨rfl, N5, by rw [e5]; exact K5, by rw [e5]; exact V5⟩)
  · exact absurd c3 (by decide)
theorem c_get_3_0 (l : Launch) (Z : State) (a0 : Array Value) (hw : ∀ d ∈ tables_1, d.before a0 Z = true) (t : Addr) (ct : ClassId) (ch0 ch1 ch2 : Int32) (h0 : Heap) (hU : U16 Z h0) (B : sA Z h0 t ct 6 [(.int (lo8 ch0)), (.int (hi8 ch0)), (.int (lo8 ch1)), (.int (hi8 ch1)), (.int (lo8 ch2)), (.int (hi8 ch2))]) (hch0 : r6 ch0) (hch1 : r6 ch1) (hch2 : r6 ch2) :
    Ctr l Z mn21 jdk_52_method_5_code 2 (some .char) [] ⟨0, 0, 0, 0⟩ #[(.ref t), (.int (0 : Int32))] h0 (Just h0 (.int ch0)) := by
  refine Ctr.of (plainFor_of_name pn_6) ?_
  intro p e s m below meth c s₁ hx H hml hret hown hnm hZ hlk X0 e0
  refine Goes.cast (show entryFrame m _ _ = mkF m 0 #[.val (.ref t), .val (.int (0 : Int32))] [] from rfl) ?_
  refine gGetS X0 hx hZ hown (ow hw 92 rfl) Via.refl e0 hU.1 (H d24_0) (pc' := 3) rfl (fun T1 X1 e1 => ?_)
  refine gIfNeT X1 hx (H d24_3) (pc' := 28) (by decide) (by decide) (pn := 6) rfl (fun (c3 : ¬ (1 : Int) = (0 : Int)) => ?_) (fun (c3 : (1 : Int) = (0 : Int)) => ?_)
  · refine gLoadIN 29 X1 hx (H d24_28) rfl rfl ?_
    refine gIconst 30 X1 hx (v := (1 : Int32)) (H d24_29) rfl rfl ?_
    refine gIshl 31 X1 hx (H d24_30) rfl ?_
    show Goes p e below _ T1 (mkF m 31 #[.val (.ref t), .val (.int (0 : Int32))] [(.int (0 : Int32))])
    refine gStoreIN 32 X1 hx (H d24_31) (l' := #[.val (.ref t), .val (.int (0 : Int32))]) rfl rfl ?_
    refine gLoadAN 33 X1 hx (H d24_32) rfl rfl rfl ?_
    refine gLoadIN 34 X1 hx (H d24_33) rfl rfl ?_
    refine gIinc X1 hx (v := (1 : Int32)) (H d24_34) (l' := #[.val (.ref t), .val (.int (1 : Int32))]) (pc' := 37) rfl rfl rfl rfl ?_
    refine gBaload X1 hx hZ e1 B (j := (0 : Int32)) (v := (.int (lo8 ch0))) (by decide) (by decide) rfl (H d24_37) (pc' := 38) rfl ?_
    refine gSipush 41 X1 hx (v := (255 : Int32)) (H d24_38) rfl rfl ?_
    refine gIand 42 X1 hx (H d24_41) rfl ?_
    refine gGetS X1 hx hZ hown (ow hw 93 rfl) Via.refl e1 hU.2.1 (H d24_42) (pc' := 45) rfl (fun T2 X2 e2 => ?_)
    refine gIshl 46 X2 hx (H d24_45) rfl ?_
    refine gLoadAN 47 X2 hx (H d24_46) rfl rfl rfl ?_
    refine gLoadIN 48 X2 hx (H d24_47) rfl rfl ?_
    refine gBaload X2 hx hZ e2 B (j := (1 : Int32)) (v := (.int (hi8 ch0))) (by decide) (by decide) rfl (H d24_48) (pc' := 49) rfl ?_
    refine gSipush 52 X2 hx (v := (255 : Int32)) (H d24_49) rfl rfl ?_
    refine gIand 53 X2 hx (H d24_52) rfl ?_
    refine gGetS X2 hx hZ hown (ow hw 94 rfl) Via.refl e2 hU.2.2 (H d24_53) (pc' := 56) rfl (fun T3 X3 e3 => ?_)
    refine gIshl 57 X3 hx (H d24_56) rfl ?_
    refine gIor 58 X3 hx (H d24_57) rfl ?_
    refine gI2c 59 X3 hx (H d24_58) rfl ?_
    rw [own_u16 hch0]
    exact gRetN X3 hx hlk hret (by simp) (H d24_59) (w := ch0) (own_nc hch0) (by decide) (by decide) (⟨rfl, e3, rfl⟩)
  · exact absurd c3 (by decide)
theorem c_put_3_1 (l : Launch) (Z : State) (a0 : Array Value) (hw : ∀ d ∈ tables_1, d.before a0 Z = true) (t : Addr) (ct : ClassId) (n0 : Nat) (ch0 ch1 : Int32) (h0 : Heap) (gt : n0 ≤ t) (hU : U16 Z h0) (B : sA Z h0 t ct 6 [(.int (lo8 ch0)), (.int (hi8 ch0)), (.int (0 : Int32)), (.int (0 : Int32)), (.int (0 : Int32)), (.int (0 : Int32))]) :
    Ctr l Z mn28 jdk_52_method_4_code 3 none [] ⟨0, 0, 0, 0⟩ #[(.ref t), (.int (1 : Int32)), (.int ch1)] h0 (fun v h L => v = none ∧ Fr n0 L ∧ Keep h0 h [t] ∧ sA Z h t ct 6 [(.int (lo8 ch0)), (.int (hi8 ch0)), (.int (lo8 ch1)), (.int (hi8 ch1)), (.int (0 : Int32)), (.int (0 : Int32))]) := by
  refine Ctr.of (plainFor_of_name pn_6) ?_
  intro p e s m below meth c s₁ hx H hml hret hown hnm hZ hlk X0 e0
  refine Goes.cast (show entryFrame m _ _ = mkF m 0 #[.val (.ref t), .val (.int (1 : Int32)), .val (.int ch1)] [] from rfl) ?_
  refine gGetS X0 hx hZ hown (ow hw 92 rfl) Via.refl e0 hU.1 (H d23_0) (pc' := 3) rfl (fun T1 X1 e1 => ?_)
  refine gIfNeT X1 hx (H d23_3) (pc' := 28) (by decide) (by decide) (pn := 6) rfl (fun (c3 : ¬ (1 : Int) = (0 : Int)) => ?_) (fun (c3 : (1 : Int) = (0 : Int)) => ?_)
  · refine gLoadIN 29 X1 hx (H d23_28) rfl rfl ?_
    refine gIconst 30 X1 hx (v := (1 : Int32)) (H d23_29) rfl rfl ?_
    refine gIshl 31 X1 hx (H d23_30) rfl ?_
    show Goes p e below _ T1 (mkF m 31 #[.val (.ref t), .val (.int (1 : Int32)), .val (.int ch1)] [(.int (2 : Int32))])
    refine gStoreIN 32 X1 hx (H d23_31) (l' := #[.val (.ref t), .val (.int (2 : Int32)), .val (.int ch1)]) rfl rfl ?_
    refine gLoadAN 33 X1 hx (H d23_32) rfl rfl rfl ?_
    refine gLoadIN 34 X1 hx (H d23_33) rfl rfl ?_
    refine gIinc X1 hx (v := (1 : Int32)) (H d23_34) (l' := #[.val (.ref t), .val (.int (3 : Int32)), .val (.int ch1)]) (pc' := 37) rfl rfl rfl rfl ?_
    refine gLoadIN 38 X1 hx (H d23_37) rfl rfl ?_
    refine gGetS X1 hx hZ hown (ow hw 93 rfl) Via.refl e1 hU.2.1 (H d23_38) (pc' := 41) rfl (fun T2 X2 e2 => ?_)
    refine gIshr 42 X2 hx (H d23_41) rfl ?_
    refine gI2b 43 X2 hx (H d23_42) rfl ?_
    refine gBastore X2 hx hZ e2 (x := ((ch1 >>> ((0 : Int32) &&& 31)).toInt8.toInt32)) B (j := (2 : Int32)) (by decide) (by decide) 2 (by decide) (by simp) (H d23_43) (pc' := 44) rfl (fun T3 h3 X3 e3 W3 A3 => ?_)
    have f3_0 := hU.1.wr W3
    have f3_1 := hU.2.1.wr W3
    have f3_2 := hU.2.2.wr W3
    have zs3 : h0.size ≤ h3.size := by rw [W3.size]; exact (Nat.le_refl _)
    have N3 := Fr.snoc X3 (Fr.nil n0) gt
    have K3 : Keep h0 h3 [t] := (Keep.refl h0 [t]).wr W3 (Or.inl (by simp))
    have V3 : Arv Z h3 t _ .byte (6 : Int32) [(.int (lo8 ch0)), (.int (hi8 ch0)), (.int (lo8 ch1)), (.int (0 : Int32)), (.int (0 : Int32)), (.int (0 : Int32))] (.int 0) := (by have q := A3; rw [own_nb] at q; exact q)
    refine gLoadAN 45 X3 hx (H d23_44) rfl rfl rfl ?_
    refine gLoadIN 46 X3 hx (H d23_45) rfl rfl ?_
    refine gLoadIN 47 X3 hx (H d23_46) rfl rfl ?_
    refine gGetS X3 hx hZ hown (ow hw 94 rfl) Via.refl e3 f3_2 (H d23_47) (pc' := 50) rfl (fun T4 X4 e4 => ?_)
    refine gIshr 51 X4 hx (H d23_50) rfl ?_
    refine gI2b 52 X4 hx (H d23_51) rfl ?_
    refine gBastore X4 hx hZ e4 (x := ((ch1 >>> ((8 : Int32) &&& 31)).toInt8.toInt32)) V3 (j := (3 : Int32)) (by decide) (by decide) 3 (by decide) (by simp) (H d23_52) (pc' := 53) rfl (fun T5 h5 X5 e5 W5 A5 => ?_)
    have f5_0 := f3_0.wr W5
    have f5_1 := f3_1.wr W5
    have f5_2 := f3_2.wr W5
    have zs5 : h0.size ≤ h5.size := by rw [W5.size]; exact zs3
    have N5 := Fr.snoc X5 N3 gt
    have K5 : Keep h0 h5 [t] := K3.wr W5 (Or.inl (by simp))
    have V5 : Arv Z h5 t _ .byte (6 : Int32) [(.int (lo8 ch0)), (.int (hi8 ch0)), (.int (lo8 ch1)), (.int (hi8 ch1)), (.int (0 : Int32)), (.int (0 : Int32))] (.int 0) := (by have q := A5; rw [own_nb] at q; exact q)
    exact gRetV X5 hx hlk hret (H d23_53) (by decide) (by decide) (⟨rfl, N5, by rw [e5]; exact K5, by rw [e5]; exact V5⟩)
  · exact absurd c3 (by decide)
theorem c_get_3_1 (l : Launch) (Z : State) (a0 : Array Value) (hw : ∀ d ∈ tables_1, d.before a0 Z = true) (t : Addr) (ct : ClassId) (ch0 ch1 ch2 : Int32) (h0 : Heap) (hU : U16 Z h0) (B : sA Z h0 t ct 6 [(.int (lo8 ch0)), (.int (hi8 ch0)), (.int (lo8 ch1)), (.int (hi8 ch1)), (.int (lo8 ch2)), (.int (hi8 ch2))]) (hch0 : r6 ch0) (hch1 : r6 ch1) (hch2 : r6 ch2) :
    Ctr l Z mn21 jdk_52_method_5_code 2 (some .char) [] ⟨0, 0, 0, 0⟩ #[(.ref t), (.int (1 : Int32))] h0 (Just h0 (.int ch1)) := by
  refine Ctr.of (plainFor_of_name pn_6) ?_
  intro p e s m below meth c s₁ hx H hml hret hown hnm hZ hlk X0 e0
  refine Goes.cast (show entryFrame m _ _ = mkF m 0 #[.val (.ref t), .val (.int (1 : Int32))] [] from rfl) ?_
  refine gGetS X0 hx hZ hown (ow hw 92 rfl) Via.refl e0 hU.1 (H d24_0) (pc' := 3) rfl (fun T1 X1 e1 => ?_)
  refine gIfNeT X1 hx (H d24_3) (pc' := 28) (by decide) (by decide) (pn := 6) rfl (fun (c3 : ¬ (1 : Int) = (0 : Int)) => ?_) (fun (c3 : (1 : Int) = (0 : Int)) => ?_)
  · refine gLoadIN 29 X1 hx (H d24_28) rfl rfl ?_
    refine gIconst 30 X1 hx (v := (1 : Int32)) (H d24_29) rfl rfl ?_
    refine gIshl 31 X1 hx (H d24_30) rfl ?_
    show Goes p e below _ T1 (mkF m 31 #[.val (.ref t), .val (.int (1 : Int32))] [(.int (2 : Int32))])
    refine gStoreIN 32 X1 hx (H d24_31) (l' := #[.val (.ref t), .val (.int (2 : Int32))]) rfl rfl ?_
    refine gLoadAN 33 X1 hx (H d24_32) rfl rfl rfl ?_
    refine gLoadIN 34 X1 hx (H d24_33) rfl rfl ?_
    refine gIinc X1 hx (v := (1 : Int32)) (H d24_34) (l' := #[.val (.ref t), .val (.int (3 : Int32))]) (pc' := 37) rfl rfl rfl rfl ?_
    refine gBaload X1 hx hZ e1 B (j := (2 : Int32)) (v := (.int (lo8 ch1))) (by decide) (by decide) rfl (H d24_37) (pc' := 38) rfl ?_
    refine gSipush 41 X1 hx (v := (255 : Int32)) (H d24_38) rfl rfl ?_
    refine gIand 42 X1 hx (H d24_41) rfl ?_
    refine gGetS X1 hx hZ hown (ow hw 93 rfl) Via.refl e1 hU.2.1 (H d24_42) (pc' := 45) rfl (fun T2 X2 e2 => ?_)
    refine gIshl 46 X2 hx (H d24_45) rfl ?_
    refine gLoadAN 47 X2 hx (H d24_46) rfl rfl rfl ?_
    refine gLoadIN 48 X2 hx (H d24_47) rfl rfl ?_
    refine gBaload X2 hx hZ e2 B (j := (3 : Int32)) (v := (.int (hi8 ch1))) (by decide) (by decide) rfl (H d24_48) (pc' := 49) rfl ?_
    refine gSipush 52 X2 hx (v := (255 : Int32)) (H d24_49) rfl rfl ?_
    refine gIand 53 X2 hx (H d24_52) rfl ?_
    refine gGetS X2 hx hZ hown (ow hw 94 rfl) Via.refl e2 hU.2.2 (H d24_53) (pc' := 56) rfl (fun T3 X3 e3 => ?_)
    refine gIshl 57 X3 hx (H d24_56) rfl ?_
    refine gIor 58 X3 hx (H d24_57) rfl ?_
    refine gI2c 59 X3 hx (H d24_58) rfl ?_
    rw [own_u16 hch1]
    exact gRetN X3 hx hlk hret (by simp) (H d24_59) (w := ch1) (own_nc hch1) (by decide) (by decide) (⟨rfl, e3, rfl⟩)
  · exact absurd c3 (by decide)
theorem c_put_3_2 (l : Launch) (Z : State) (a0 : Array Value) (hw : ∀ d ∈ tables_1, d.before a0 Z = true) (t : Addr) (ct : ClassId) (n0 : Nat) (ch0 ch1 ch2 : Int32) (h0 : Heap) (gt : n0 ≤ t) (hU : U16 Z h0) (B : sA Z h0 t ct 6 [(.int (lo8 ch0)), (.int (hi8 ch0)), (.int (lo8 ch1)), (.int (hi8 ch1)), (.int (0 : Int32)), (.int (0 : Int32))]) :
    Ctr l Z mn28 jdk_52_method_4_code 3 none [] ⟨0, 0, 0, 0⟩ #[(.ref t), (.int (2 : Int32)), (.int ch2)] h0 (fun v h L => v = none ∧ Fr n0 L ∧ Keep h0 h [t] ∧ sA Z h t ct 6 [(.int (lo8 ch0)), (.int (hi8 ch0)), (.int (lo8 ch1)), (.int (hi8 ch1)), (.int (lo8 ch2)), (.int (hi8 ch2))]) := by
  refine Ctr.of (plainFor_of_name pn_6) ?_
  intro p e s m below meth c s₁ hx H hml hret hown hnm hZ hlk X0 e0
  refine Goes.cast (show entryFrame m _ _ = mkF m 0 #[.val (.ref t), .val (.int (2 : Int32)), .val (.int ch2)] [] from rfl) ?_
  refine gGetS X0 hx hZ hown (ow hw 92 rfl) Via.refl e0 hU.1 (H d23_0) (pc' := 3) rfl (fun T1 X1 e1 => ?_)
  refine gIfNeT X1 hx (H d23_3) (pc' := 28) (by decide) (by decide) (pn := 6) rfl (fun (c3 : ¬ (1 : Int) = (0 : Int)) => ?_) (fun (c3 : (1 : Int) = (0 : Int)) => ?_)
  · refine gLoadIN 29 X1 hx (H d23_28) rfl rfl ?_
    refine gIconst 30 X1 hx (v := (1 : Int32)) (H d23_29) rfl rfl ?_
    refine gIshl 31 X1 hx (H d23_30) rfl ?_
    show Goes p e below _ T1 (mkF m 31 #[.val (.ref t), .val (.int (2 : Int32)), .val (.int ch2)] [(.int (4 : Int32))])
    refine gStoreIN 32 X1 hx (H d23_31) (l' := #[.val (.ref t), .val (.int (4 : Int32)), .val (.int ch2)]) rfl rfl ?_
    refine gLoadAN 33 X1 hx (H d23_32) rfl rfl rfl ?_
    refine gLoadIN 34 X1 hx (H d23_33) rfl rfl ?_
    refine gIinc X1 hx (v := (1 : Int32)) (H d23_34) (l' := #[.val (.ref t), .val (.int (5 : Int32)), .val (.int ch2)]) (pc' := 37) rfl rfl rfl rfl ?_
    refine gLoadIN 38 X1 hx (H d23_37) rfl rfl ?_
    refine gGetS X1 hx hZ hown (ow hw 93 rfl) Via.refl e1 hU.2.1 (H d23_38) (pc' := 41) rfl (fun T2 X2 e2 => ?_)
    refine gIshr 42 X2 hx (H d23_41) rfl ?_
    refine gI2b 43 X2 hx (H d23_42) rfl ?_
    refine gBastore X2 hx hZ e2 (x := ((ch2 >>> ((0 : Int32) &&& 31)).toInt8.toInt32)) B (j := (4 : Int32)) (by decide) (by decide) 4 (by decide) (by simp) (H d23_43) (pc' := 44) rfl (fun T3 h3 X3 e3 W3 A3 => ?_)
    have f3_0 := hU.1.wr W3
    have f3_1 := hU.2.1.wr W3
    have f3_2 := hU.2.2.wr W3
    have zs3 : h0.size ≤ h3.size := by rw [W3.size]; exact (Nat.le_refl _)
    have N3 := Fr.snoc X3 (Fr.nil n0) gt
    have K3 : Keep h0 h3 [t] := (Keep.refl h0 [t]).wr W3 (Or.inl (by simp))
    have V3 : Arv Z h3 t _ .byte (6 : Int32) [(.int (lo8 ch0)), (.int (hi8 ch0)), (.int (lo8 ch1)), (.int (hi8 ch1)), (.int (lo8 ch2)), (.int (0 : Int32))] (.int 0) := (by have q := A3; rw [own_nb] at q; exact q)
    refine gLoadAN 45 X3 hx (H d23_44) rfl rfl rfl ?_
    refine gLoadIN 46 X3 hx (H d23_45) rfl rfl ?_
    refine gLoadIN 47 X3 hx (H d23_46) rfl rfl ?_
    refine gGetS X3 hx hZ hown (ow hw 94 rfl) Via.refl e3 f3_2 (H d23_47) (pc' := 50) rfl (fun T4 X4 e4 => ?_)
    refine gIshr 51 X4 hx (H d23_50) rfl ?_
    refine gI2b 52 X4 hx (H d23_51) rfl ?_
    refine gBastore X4 hx hZ e4 (x := ((ch2 >>> ((8 : Int32) &&& 31)).toInt8.toInt32)) V3 (j := (5 : Int32)) (by decide) (by decide) 5 (by decide) (by simp) (H d23_52) (pc' := 53) rfl (fun T5 h5 X5 e5 W5 A5 => ?_)
    have f5_0 := f3_0.wr W5
    have f5_1 := f3_1.wr W5
    have f5_2 := f3_2.wr W5
    have zs5 : h0.size ≤ h5.size := by rw [W5.size]; exact zs3
    have N5 := Fr.snoc X5 N3 gt
    have K5 : Keep h0 h5 [t] := K3.wr W5 (Or.inl (by simp))
    have V5 : Arv Z h5 t _ .byte (6 : Int32) [(.int (lo8 ch0)), (.int (hi8 ch0)), (.int (lo8 ch1)), (.int (hi8 ch1)), (.int (lo8 ch2)), (.int (hi8 ch2))] (.int 0) := (by have q := A5; rw [own_nb] at q; exact q)
    exact gRetV X5 hx hlk hret (H d23_53) (by decide) (by decide) (⟨rfl, N5, by rw [e5]; exact K5, by rw [e5]; exact V5⟩)
  · exact absurd c3 (by decide)
theorem c_get_3_2 (l : Launch) (Z : State) (a0 : Array Value) (hw : ∀ d ∈ tables_1, d.before a0 Z = true) (t : Addr) (ct : ClassId) (ch0 ch1 ch2 : Int32) (h0 : Heap) (hU : U16 Z h0) (B : sA Z h0 t ct 6 [(.int (lo8 ch0)), (.int (hi8 ch0)), (.int (lo8 ch1)), (.int (hi8 ch1)), (.int (lo8 ch2)), (.int (hi8 ch2))]) (hch0 : r6 ch0) (hch1 : r6 ch1) (hch2 : r6 ch2) :
    Ctr l Z mn21 jdk_52_method_5_code 2 (some .char) [] ⟨0, 0, 0, 0⟩ #[(.ref t), (.int (2 : Int32))] h0 (Just h0 (.int ch2)) := by
  refine Ctr.of (plainFor_of_name pn_6) ?_
  intro p e s m below meth c s₁ hx H hml hret hown hnm hZ hlk X0 e0
  refine Goes.cast (show entryFrame m _ _ = mkF m 0 #[.val (.ref t), .val (.int (2 : Int32))] [] from rfl) ?_
  refine gGetS X0 hx hZ hown (ow hw 92 rfl) Via.refl e0 hU.1 (H d24_0) (pc' := 3) rfl (fun T1 X1 e1 => ?_)
  refine gIfNeT X1 hx (H d24_3) (pc' := 28) (by decide) (by decide) (pn := 6) rfl (fun (c3 : ¬ (1 : Int) = (0 : Int)) => ?_) (fun (c3 : (1 : Int) = (0 : Int)) => ?_)
  · refine gLoadIN 29 X1 hx (H d24_28) rfl rfl ?_
    refine gIconst 30 X1 hx (v := (1 : Int32)) (H d24_29) rfl rfl ?_
    refine gIshl 31 X1 hx (H d24_30) rfl ?_
    show Goes p e below _ T1 (mkF m 31 #[.val (.ref t), .val (.int (2 : Int32))] [(.int (4 : Int32))])
    refine gStoreIN 32 X1 hx (H d24_31) (l' := #[.val (.ref t), .val (.int (4 : Int32))]) rfl rfl ?_
    refine gLoadAN 33 X1 hx (H d24_32) rfl rfl rfl ?_
    refine gLoadIN 34 X1 hx (H d24_33) rfl rfl ?_
    refine gIinc X1 hx (v := (1 : Int32)) (H d24_34) (l' := #[.val (.ref t), .val (.int (5 : Int32))]) (pc' := 37) rfl rfl rfl rfl ?_
    refine gBaload X1 hx hZ e1 B (j := (4 : Int32)) (v := (.int (lo8 ch2))) (by decide) (by decide) rfl (H d24_37) (pc' := 38) rfl ?_
    refine gSipush 41 X1 hx (v := (255 : Int32)) (H d24_38) rfl rfl ?_
    refine gIand 42 X1 hx (H d24_41) rfl ?_
    refine gGetS X1 hx hZ hown (ow hw 93 rfl) Via.refl e1 hU.2.1 (H d24_42) (pc' := 45) rfl (fun T2 X2 e2 => ?_)
    refine gIshl 46 X2 hx (H d24_45) rfl ?_
    refine gLoadAN 47 X2 hx (H d24_46) rfl rfl rfl ?_
    refine gLoadIN 48 X2 hx (H d24_47) rfl rfl ?_
    refine gBaload X2 hx hZ e2 B (j := (5 : Int32)) (v := (.int (hi8 ch2))) (by decide) (by decide) rfl (H d24_48) (pc' := 49) rfl ?_
    refine gSipush 52 X2 hx (v := (255 : Int32)) (H d24_49) rfl rfl ?_
    refine gIand 53 X2 hx (H d24_52) rfl ?_
    refine gGetS X2 hx hZ hown (ow hw 94 rfl) Via.refl e2 hU.2.2 (H d24_53) (pc' := 56) rfl (fun T3 X3 e3 => ?_)
    refine gIshl 57 X3 hx (H d24_56) rfl ?_
    refine gIor 58 X3 hx (H d24_57) rfl ?_
    refine gI2c 59 X3 hx (H d24_58) rfl ?_
    rw [own_u16 hch2]
    exact gRetN X3 hx hlk hret (by simp) (H d24_59) (w := ch2) (own_nc hch2) (by decide) (by decide) (⟨rfl, e3, rfl⟩)
  · exact absurd c3 (by decide)
theorem c_tob_3 (l : Launch) (Z : State) (a0 : Array Value) (hw : ∀ d ∈ tables_1, d.before a0 Z = true) (x : Addr) (cx : ClassId) (ch0 ch1 ch2 : Int32) (h0 : Heap) (hU : U16 Z h0) (A : Arv Z h0 x cx .char 3 [.int ch0, .int ch1, .int ch2] (.int 0)) (hch0 : r6 ch0) (hch1 : r6 ch1) (hch2 : r6 ch2) :
    Ctr l Z mn29 jdk_52_method_14_code 5 (some (.array .byte)) [] ⟨2, 1, 6, 40⟩ #[(.ref x), (.int (0 : Int32)), (.int (3 : Int32))] h0 (fun v h L => ∃ (t : Addr) (ct : ClassId), v = some (.ref t) ∧ h0.size ≤ t ∧ Fr h0.size L ∧ Keep h0 h [] ∧ sA Z h t ct 6 [(.int (lo8 ch0)), (.int (hi8 ch0)), (.int (lo8 ch1)), (.int (hi8 ch1)), (.int (lo8 ch2)), (.int (hi8 ch2))]) := by
  refine Ctr.of (plainFor_of_name pn_6) ?_
  intro p e s m below meth c s₁ hx H hml hret hown hnm hZ hlk X0 e0
  refine Goes.cast (show entryFrame m _ _ = mkF m 0 #[.val (.ref x), .val (.int (0 : Int32)), .val (.int (3 : Int32)), .unset, .unset] [] from rfl) ?_
  refine gLoadIN 1 X0 hx (H d14_0) rfl rfl ?_
  refine gCallS X0 hx hZ (y := mn26) hown e0 (by rw [hml]; rfl) (ow hw 82 rfl) (ow hw 83 rfl) (ow hw 67 rfl) (ow hw 84 rfl) (by decide) (argsL := [(.int (3 : Int32))]) (st := []) (c_nbf_3 l Z a0 hw h0) (lenOf pd_8 rfl) (H d14_1) (pc' := 4) rfl rfl (by decide) (W := 0) (Nat.le_of_eq rfl) (by decide) (by decide) (by decide) ?_
  intro T1 v1 L1 X1 hQ1
  obtain ⟨q1, ctq1, rfl, gq1, Nq1, Kq1, Aq1⟩ := hQ1
  have N1 := Fr.app (Fr.nil h0.size) (fun y hy => Nat.le_trans (Nat.le_refl _) (Nq1 y hy))
  have K1 : Keep h0 T1.heap [] := (Keep.refl h0 []).trans Kq1 all0
  have nt1 : x ≠ q1 := Nat.ne_of_lt (Nat.lt_of_lt_of_le A.lt gq1)
  have f1_0 := A.keep Kq1 nin0
  have f1_1 := own_u16_keep hU Kq1 ns0
  refine gStoreAN 5 X1 hx (H d14_4) (l' := #[.val (.ref x), .val (.int (0 : Int32)), .val (.int (3 : Int32)), .val (.ref q1), .unset]) rfl rfl rfl ?_
  refine gIconst 6 X1 hx (v := (0 : Int32)) (H d14_5) rfl rfl ?_
  refine gStoreI 8 X1 hx (H d14_6) (l' := #[.val (.ref x), .val (.int (0 : Int32)), .val (.int (3 : Int32)), .val (.ref q1), .val (.int (0 : Int32))]) rfl rfl ?_
  refine gLoadI 10 X1 hx (H d14_8) rfl rfl ?_
  refine gLoadIN 11 X1 hx (H d14_10) rfl rfl ?_
  refine gIcmpGe X1 hx (H d14_11) (pc' := 32) (by decide) (by decide) (pn := 14) rfl (fun (c11 : (3 : Int) ≤ (0 : Int)) => ?_) (fun (c11 : (0 : Int) < (3 : Int)) => ?_)
  · exact absurd c11 (by decide)
  · refine gLoadAN 15 X1 hx (H d14_14) rfl rfl rfl ?_
    refine gLoadI 17 X1 hx (H d14_15) rfl rfl ?_
    refine gLoadAN 18 X1 hx (H d14_17) rfl rfl rfl ?_
    refine gLoadIN 19 X1 hx (H d14_18) rfl rfl ?_
    refine gCaload X1 hx hZ rfl f1_0 (j := (0 : Int32)) (v := (.int ch0)) (by decide) (by decide) rfl (H d14_19) (pc' := 20) rfl ?_
    refine gCallS X1 hx hZ (y := mn28) hown rfl (by rw [hml]; rfl) (ow hw 89 rfl) (ow hw 90 rfl) (ow hw 67 rfl) (ow hw 91 rfl) (by decide) (argsL := [(.ref q1), (.int (0 : Int32)), (.int ch0)]) (st := []) (c_put_3_0 l Z a0 hw q1 ctq1 h0.size ch0 T1.heap gq1 f1_1 Aq1) (lenOf pd_17 rfl) (H d14_20) (pc' := 23) rfl rfl (by decide) (W := 0) (Nat.le_of_eq rfl) (by decide) (by decide) (by decide) ?_
    intro T2 v2 L2 X2 hQ2
    obtain ⟨rfl, Nq2, Kq2, Aq2⟩ := hQ2
    have N2 := Fr.app N1 Nq2
    have K2 : Keep h0 T2.heap [] := K1.trans Kq2 (allS (Or.inr gq1) all0)
    have f2_0 := f1_0.keep Kq2 (ninS nt1 nin0)
    have f2_1 := own_u16_keep f1_1 Kq2 (nsS (Arv.nostat Aq1) ns0)
    refine gIinc X2 hx (v := (1 : Int32)) (H d14_23) (l' := #[.val (.ref x), .val (.int (1 : Int32)), .val (.int (3 : Int32)), .val (.ref q1), .val (.int (0 : Int32))]) (pc' := 26) rfl rfl rfl rfl ?_
    refine gIinc X2 hx (v := (1 : Int32)) (H d14_26) (l' := #[.val (.ref x), .val (.int (1 : Int32)), .val (.int (3 : Int32)), .val (.ref q1), .val (.int (1 : Int32))]) (pc' := 29) rfl rfl rfl rfl ?_
    refine gGoto X2 hx (H d14_29) (pc' := 8) (by decide) (by decide) ?_
    refine gLoadI 10 X2 hx (H d14_8) rfl rfl ?_
    refine gLoadIN 11 X2 hx (H d14_10) rfl rfl ?_
    refine gIcmpGe X2 hx (H d14_11) (pc' := 32) (by decide) (by decide) (pn := 14) rfl (fun (c11' : (3 : Int) ≤ (1 : Int)) => ?_) (fun (c11' : (1 : Int) < (3 : Int)) => ?_)
    · exact absurd c11' (by decide)
    · refine gLoadAN 15 X2 hx (H d14_14) rfl rfl rfl ?_
      refine gLoadI 17 X2 hx (H d14_15) rfl rfl ?_
      refine gLoadAN 18 X2 hx (H d14_17) rfl rfl rfl ?_
      refine gLoadIN 19 X2 hx (H d14_18) rfl rfl ?_
      refine gCaload X2 hx hZ rfl f2_0 (j := (1 : Int32)) (v := (.int ch1)) (by decide) (by decide) rfl (H d14_19) (pc' := 20) rfl ?_
      refine gCallS X2 hx hZ (y := mn28) hown rfl (by rw [hml]; rfl) (ow hw 89 rfl) (ow hw 90 rfl) (ow hw 67 rfl) (ow hw 91 rfl) (by decide) (argsL := [(.ref q1), (.int (1 : Int32)), (.int ch1)]) (st := []) (c_put_3_1 l Z a0 hw q1 ctq1 h0.size ch0 ch1 T2.heap gq1 f2_1 Aq2) (lenOf pd_17 rfl) (H d14_20) (pc' := 23) rfl rfl (by decide) (W := 0) (Nat.le_of_eq rfl) (by decide) (by decide) (by decide) ?_
      intro T3 v3 L3 X3 hQ3
      obtain ⟨rfl, Nq3, Kq3, Aq3⟩ := hQ3
      have N3 := Fr.app N2 Nq3
      have K3 : Keep h0 T3.heap [] := K2.trans Kq3 (allS (Or.inr gq1) all0)
      have f3_0 := f2_0.keep Kq3 (ninS nt1 nin0)
      have f3_1 := own_u16_keep f2_1 Kq3 (nsS (Arv.nostat Aq2) ns0)
      refine gIinc X3 hx (v := (1 : Int32)) (H d14_23) (l' := #[.val (.ref x), .val (.int (2 : Int32)), .val (.int (3 : Int32)), .val (.ref q1), .val (.int (1 : Int32))]) (pc' := 26) rfl rfl rfl rfl ?_
      refine gIinc X3 hx (v := (1 : Int32)) (H d14_26) (l' := #[.val (.ref x), .val (.int (2 : Int32)), .val (.int (3 : Int32)), .val (.ref q1), .val (.int (2 : Int32))]) (pc' := 29) rfl rfl rfl rfl ?_
      refine gGoto X3 hx (H d14_29) (pc' := 8) (by decide) (by decide) ?_
      refine gLoadI 10 X3 hx (H d14_8) rfl rfl ?_
      refine gLoadIN 11 X3 hx (H d14_10) rfl rfl ?_
      refine gIcmpGe X3 hx (H d14_11) (pc' := 32) (by decide) (by decide) (pn := 14) rfl (fun (c11'' : (3 : Int) ≤ (2 : Int)) => ?_) (fun (c11'' : (2 : Int) < (3 : Int)) => ?_)
      · exact absurd c11'' (by decide)
      · refine gLoadAN 15 X3 hx (H d14_14) rfl rfl rfl ?_
        refine gLoadI 17 X3 hx (H d14_15) rfl rfl ?_
        refine gLoadAN 18 X3 hx (H d14_17) rfl rfl rfl ?_
        refine gLoadIN 19 X3 hx (H d14_18) rfl rfl ?_
        refine gCaload X3 hx hZ rfl f3_0 (j := (2 : Int32)) (v := (.int ch2)) (by decide) (by decide) rfl (H d14_19) (pc' := 20) rfl ?_
        refine gCallS X3 hx hZ (y := mn28) hown rfl (by rw [hml]; rfl) (ow hw 89 rfl) (ow hw 90 rfl) (ow hw 67 rfl) (ow hw 91 rfl) (by decide) (argsL := [(.ref q1), (.int (2 : Int32)), (.int ch2)]) (st := []) (c_put_3_2 l Z a0 hw q1 ctq1 h0.size ch0 ch1 ch2 T3.heap gq1 f3_1 Aq3) (lenOf pd_17 rfl) (H d14_20) (pc' := 23) rfl rfl (by decide) (W := 0) (Nat.le_of_eq rfl) (by decide) (by decide) (by decide) ?_
        intro T4 v4 L4 X4 hQ4
        obtain ⟨rfl, Nq4, Kq4, Aq4⟩ := hQ4
        have N4 := Fr.app N3 Nq4
        have K4 : Keep h0 T4.heap [] := K3.trans Kq4 (allS (Or.inr gq1) all0)
        have f4_0 := f3_0.keep Kq4 (ninS nt1 nin0)
        have f4_1 := own_u16_keep f3_1 Kq4 (nsS (Arv.nostat Aq3) ns0)
        refine gIinc X4 hx (v := (1 : Int32)) (H d14_23) (l' := #[.val (.ref x), .val (.int (3 : Int32)), .val (.int (3 : Int32)), .val (.ref q1), .val (.int (2 : Int32))]) (pc' := 26) rfl rfl rfl rfl ?_
        refine gIinc X4 hx (v := (1 : Int32)) (H d14_26) (l' := #[.val (.ref x), .val (.int (3 : Int32)), .val (.int (3 : Int32)), .val (.ref q1), .val (.int (3 : Int32))]) (pc' := 29) rfl rfl rfl rfl ?_
        refine gGoto X4 hx (H d14_29) (pc' := 8) (by decide) (by decide) ?_
        refine gLoadI 10 X4 hx (H d14_8) rfl rfl ?_
        refine gLoadIN 11 X4 hx (H d14_10) rfl rfl ?_
        refine gIcmpGe X4 hx (H d14_11) (pc' := 32) (by decide) (by decide) (pn := 14) rfl (fun (c11''' : (3 : Int) ≤ (3 : Int)) => ?_) (fun (c11''' : (3 : Int) < (3 : Int)) => ?_)
        · refine gLoadAN 33 X4 hx (H d14_32) rfl rfl rfl ?_
          exact gRetA X4 hx hlk hret rfl rfl (H d14_33) (by decide) (by decide) (⟨q1, ctq1, rfl, gq1, N4, K4, Aq4⟩)
        · exact absurd c11''' (by decide)
theorem c_cui_3 (l : Launch) (Z : State) (a0 : Array Value) (hw : ∀ d ∈ tables_1, d.before a0 Z = true) (x t : Addr) (cx ct : ClassId) (n0 : Nat) (ch0 ch1 ch2 : Int32) (h0 : Heap) (gt : n0 ≤ t) (hne : x ≠ t) (A : Arv Z h0 x cx .char 3 [.int ch0, .int ch1, .int ch2] (.int 0)) (B : Arv Z h0 t ct .byte 3 [.int 0, .int 0, .int 0] (.int 0)) (hbig : 255 < ch0.toInt ∨ 255 < ch1.toInt ∨ 255 < ch2.toInt) :
    Ctr l Z mn20 jdk_52_method_21_code 7 (some .int) [] ⟨0, 0, 0, 0⟩ #[(.ref x), (.int (0 : Int32)), (.ref t), (.int (0 : Int32)), (.int (3 : Int32))] h0 (fun v h L => ∃ k : Int32, v = some (.int k) ∧ Fr n0 L ∧ Keep h0 h [t] ∧ ((k = 0 ∧ 255 < ch0.toInt) ∨ (k = 1 ∧ 255 < ch1.toInt) ∨ (k = 2 ∧ 255 < ch2.toInt))) := by
  refine Ctr.of (plainFor_of_name pn_6) ?_
  intro p e s m below meth c s₁ hx H hml hret hown hnm hZ hlk X0 e0
  refine Goes.cast (show entryFrame m _ _ = mkF m 0 #[.val (.ref x), .val (.int (0 : Int32)), .val (.ref t), .val (.int (0 : Int32)), .val (.int (3 : Int32)), .unset, .unset] [] from rfl) ?_
  refine gIconst 1 X0 hx (v := (0 : Int32)) (H d17_0) rfl rfl ?_
  refine gStoreI 3 X0 hx (H d17_1) (l' := #[.val (.ref x), .val (.int (0 : Int32)), .val (.ref t), .val (.int (0 : Int32)), .val (.int (3 : Int32)), .val (.int (0 : Int32)), .unset]) rfl rfl ?_
  refine gLoadI 5 X0 hx (H d17_3) rfl rfl ?_
  refine gLoadI 7 X0 hx (H d17_5) rfl rfl ?_
  refine gIcmpGe X0 hx (H d17_7) (pc' := 44) (by decide) (by decide) (pn := 10) rfl (fun (c7 : (3 : Int) ≤ (0 : Int)) => ?_) (fun (c7 : (0 : Int) < (3 : Int)) => ?_)
  · exact absurd c7 (by decide)
  · refine gLoadAN 11 X0 hx (H d17_10) rfl rfl rfl ?_
    refine gLoadIN 12 X0 hx (H d17_11) rfl rfl ?_
    refine gCaload X0 hx hZ e0 A (j := (0 : Int32)) (v := (.int ch0)) (by decide) (by decide) rfl (H d17_12) (pc' := 13) rfl ?_
    refine gStoreI 15 X0 hx (H d17_13) (l' := #[.val (.ref x), .val (.int (0 : Int32)), .val (.ref t), .val (.int (0 : Int32)), .val (.int (3 : Int32)), .val (.int (0 : Int32)), .val (.int ch0)]) rfl rfl ?_
    refine gLoadI 17 X0 hx (H d17_15) rfl rfl ?_
    refine gSipush 20 X0 hx (v := (255 : Int32)) (H d17_17) rfl rfl ?_
    refine gIcmpLe X0 hx (H d17_20) (pc' := 26) (by decide) (by decide) (pn := 23) rfl (fun (c20 : ch0.toInt ≤ (255 : Int)) => ?_) (fun (c20 : (255 : Int) < ch0.toInt) => ?_)
    · refine gLoadAN 27 X0 hx (H d17_26) rfl rfl rfl ?_
      refine gLoadIN 28 X0 hx (H d17_27) rfl rfl ?_
      refine gLoadI 30 X0 hx (H d17_28) rfl rfl ?_
      refine gI2b 31 X0 hx (H d17_30) rfl ?_
      refine gBastore X0 hx hZ e0 (x := (ch0.toInt8.toInt32)) B (j := (0 : Int32)) (by decide) (by decide) 0 (by decide) (by simp) (H d17_31) (pc' := 32) rfl (fun T1 h1 X1 e1 W1 A1 => ?_)
      have f1_0 := A.other W1 hne
      have zs1 : h0.size ≤ h1.size := by rw [W1.size]; exact (Nat.le_refl _)
      have N1 := Fr.snoc X1 (Fr.nil n0) gt
      have K1 : Keep h0 h1 [t] := (Keep.refl h0 [t]).wr W1 (Or.inl (by simp))
      have V1 : Arv Z h1 t _ .byte (3 : Int32) [(.int (ch0.toInt8.toInt32)), (.int (0 : Int32)), (.int (0 : Int32))] (.int 0) := (by have q := A1; rw [own_nb] at q; exact q)
      refine gIinc X1 hx (v := (1 : Int32)) (H d17_32) (l' := #[.val (.ref x), .val (.int (1 : Int32)), .val (.ref t), .val (.int (0 : Int32)), .val (.int (3 : Int32)), .val (.int (0 : Int32)), .val (.int ch0)]) (pc' := 35) rfl rfl rfl rfl ?_
      refine gIinc X1 hx (v := (1 : Int32)) (H d17_35) (l' := #[.val (.ref x), .val (.int (1 : Int32)), .val (.ref t), .val (.int (1 : Int32)), .val (.int (3 : Int32)), .val (.int (0 : Int32)), .val (.int ch0)]) (pc' := 38) rfl rfl rfl rfl ?_
      refine gIinc X1 hx (v := (1 : Int32)) (H d17_38) (l' := #[.val (.ref x), .val (.int (1 : Int32)), .val (.ref t), .val (.int (1 : Int32)), .val (.int (3 : Int32)), .val (.int (1 : Int32)), .val (.int ch0)]) (pc' := 41) rfl rfl rfl rfl ?_
      refine gGoto X1 hx (H d17_41) (pc' := 3) (by decide) (by decide) ?_
      refine gLoadI 5 X1 hx (H d17_3) rfl rfl ?_
      refine gLoadI 7 X1 hx (H d17_5) rfl rfl ?_
      refine gIcmpGe X1 hx (H d17_7) (pc' := 44) (by decide) (by decide) (pn := 10) rfl (fun (c7' : (3 : Int) ≤ (1 : Int)) => ?_) (fun (c7' : (1 : Int) < (3 : Int)) => ?_)
      · exact absurd c7' (by decide)
      · refine gLoadAN 11 X1 hx (H d17_10) rfl rfl rfl ?_
        refine gLoadIN 12 X1 hx (H d17_11) rfl rfl ?_
        refine gCaload X1 hx hZ e1 f1_0 (j := (1 : Int32)) (v := (.int ch1)) (by decide) (by decide) rfl (H d17_12) (pc' := 13) rfl ?_
        refine gStoreI 15 X1 hx (H d17_13) (l' := #[.val (.ref x), .val (.int (1 : Int32)), .val (.ref t), .val (.int (1 : Int32)), .val (.int (3 : Int32)), .val (.int (1 : Int32)), .val (.int ch1)]) rfl rfl ?_
        refine gLoadI 17 X1 hx (H d17_15) rfl rfl ?_
        refine gSipush 20 X1 hx (v := (255 : Int32)) (H d17_17) rfl rfl ?_
        refine gIcmpLe X1 hx (H d17_20) (pc' := 26) (by decide) (by decide) (pn := 23) rfl (fun (c20' : ch1.toInt ≤ (255 : Int)) => ?_) (fun (c20' : (255 : Int) < ch1.toInt) => ?_)
        · refine gLoadAN 27 X1 hx (H d17_26) rfl rfl rfl ?_
          refine gLoadIN 28 X1 hx (H d17_27) rfl rfl ?_
          refine gLoadI 30 X1 hx (H d17_28) rfl rfl ?_
          refine gI2b 31 X1 hx (H d17_30) rfl ?_
          refine gBastore X1 hx hZ e1 (x := (ch1.toInt8.toInt32)) V1 (j := (1 : Int32)) (by decide) (by decide) 1 (by decide) (by simp) (H d17_31) (pc' := 32) rfl (fun T2 h2 X2 e2 W2 A2 => ?_)
          have f2_0 := f1_0.other W2 hne
          have zs2 : h0.size ≤ h2.size := by rw [W2.size]; exact zs1
          have N2 := Fr.snoc X2 N1 gt
          have K2 : Keep h0 h2 [t] := K1.wr W2 (Or.inl (by simp))
          have V2 : Arv Z h2 t _ .byte (3 : Int32) [(.int (ch0.toInt8.toInt32)), (.int (ch1.toInt8.toInt32)), (.int (0 : Int32))] (.int 0) := (by have q := A2; rw [own_nb] at q; exact q)
          refine gIinc X2 hx (v := (1 : Int32)) (H d17_32) (l' := #[.val (.ref x), .val (.int (2 : Int32)), .val (.ref t), .val (.int (1 : Int32)), .val (.int (3 : Int32)), .val (.int (1 : Int32)), .val (.int ch1)]) (pc' := 35) rfl rfl rfl rfl ?_
          refine gIinc X2 hx (v := (1 : Int32)) (H d17_35) (l' := #[.val (.ref x), .val (.int (2 : Int32)), .val (.ref t), .val (.int (2 : Int32)), .val (.int (3 : Int32)), .val (.int (1 : Int32)), .val (.int ch1)]) (pc' := 38) rfl rfl rfl rfl ?_
          refine gIinc X2 hx (v := (1 : Int32)) (H d17_38) (l' := #[.val (.ref x), .val (.int (2 : Int32)), .val (.ref t), .val (.int (2 : Int32)), .val (.int (3 : Int32)), .val (.int (2 : Int32)), .val (.int ch1)]) (pc' := 41) rfl rfl rfl rfl ?_
          refine gGoto X2 hx (H d17_41) (pc' := 3) (by decide) (by decide) ?_
          refine gLoadI 5 X2 hx (H d17_3) rfl rfl ?_
          refine gLoadI 7 X2 hx (H d17_5) rfl rfl ?_
          refine gIcmpGe X2 hx (H d17_7) (pc' := 44) (by decide) (by decide) (pn := 10) rfl (fun (c7'' : (3 : Int) ≤ (2 : Int)) => ?_) (fun (c7'' : (2 : Int) < (3 : Int)) => ?_)
          · exact absurd c7'' (by decide)
          · refine gLoadAN 11 X2 hx (H d17_10) rfl rfl rfl ?_
            refine gLoadIN 12 X2 hx (H d17_11) rfl rfl ?_
            refine gCaload X2 hx hZ e2 f2_0 (j := (2 : Int32)) (v := (.int ch2)) (by decide) (by decide) rfl (H d17_12) (pc' := 13) rfl ?_
            refine gStoreI 15 X2 hx (H d17_13) (l' := #[.val (.ref x), .val (.int (2 : Int32)), .val (.ref t), .val (.int (2 : Int32)), .val (.int (3 : Int32)), .val (.int (2 : Int32)), .val (.int ch2)]) rfl rfl ?_
            refine gLoadI 17 X2 hx (H d17_15) rfl rfl ?_
            refine gSipush 20 X2 hx (v := (255 : Int32)) (H d17_17) rfl rfl ?_
            refine gIcmpLe X2 hx (H d17_20) (pc' := 26) (by decide) (by decide) (pn := 23) rfl (fun (c20'' : ch2.toInt ≤ (255 : Int)) => ?_) (fun (c20'' : (255 : Int) < ch2.toInt) => ?_)
            · exact absurd hbig (by omega)
            · refine gLoadI 25 X2 hx (H d17_23) rfl rfl ?_
              exact gRetI X2 hx hlk hret (H d17_25) (by decide) (by decide) (⟨(2 : Int32), rfl, N2, by rw [e2]; exact K2, Or.inr (Or.inr (⟨rfl, c20''⟩))⟩)
        · refine gLoadI 25 X1 hx (H d17_23) rfl rfl ?_
          exact gRetI X1 hx hlk hret (H d17_25) (by decide) (by decide) (⟨(1 : Int32), rfl, N1, by rw [e1]; exact K1, Or.inr (Or.inl (⟨rfl, c20'⟩))⟩)
    · refine gLoadI 25 X0 hx (H d17_23) rfl rfl ?_
      exact gRetI X0 hx hlk hret (H d17_25) (by decide) (by decide) (⟨(0 : Int32), rfl, (Fr.nil n0), by rw [e0]; exact (Keep.refl h0 [t]), Or.inl (⟨rfl, c20⟩)⟩)
theorem c_cuo_3 (l : Launch) (Z : State) (a0 : Array Value) (hw : ∀ d ∈ tables_1, d.before a0 Z = true) (x : Addr) (cx : ClassId) (ch0 ch1 ch2 : Int32) (h0 : Heap) (hU : U16 Z h0) (A : Arv Z h0 x cx .char 3 [.int ch0, .int ch1, .int ch2] (.int 0)) (hch0 : r6 ch0) (hch1 : r6 ch1) (hch2 : r6 ch2) (hbig : 255 < ch0.toInt ∨ 255 < ch1.toInt ∨ 255 < ch2.toInt) :
    Ctr l Z mn19 jdk_52_method_16_code 6 (some (.array .byte)) [] ⟨3, 2, 9, 60⟩ #[(.ref x), (.int (0 : Int32)), (.int (3 : Int32))] h0 (fun v h L => ∃ (t : Addr) (ct : ClassId), v = some (.ref t) ∧ h0.size ≤ t ∧ Fr h0.size L ∧ Keep h0 h [] ∧ sA Z h t ct 6 [(.int (lo8 ch0)), (.int (hi8 ch0)), (.int (lo8 ch1)), (.int (hi8 ch1)), (.int (lo8 ch2)), (.int (hi8 ch2))]) := by
  refine Ctr.of (plainFor_of_name pn_6) ?_
  intro p e s m below meth c s₁ hx H hml hret hown hnm hZ hlk X0 e0
  refine Goes.cast (show entryFrame m _ _ = mkF m 0 #[.val (.ref x), .val (.int (0 : Int32)), .val (.int (3 : Int32)), .unset, .unset, .unset] [] from rfl) ?_
  refine gLoadIN 1 X0 hx (H d16_0) rfl rfl ?_
  refine gNewP X0 hx hZ (ow hw 20 rfl) e0 (n := (3 : Int32)) (H d16_1) (by decide) (cap := 3) (by decide) (by decide) (by decide) (by decide) 3 (pc' := 3) rfl (fun T1 h1 b1 ck1 X1 e1 g1 E1 A1 => ?_)
  have ne_x_b1 : x ≠ b1 := Nat.ne_of_lt (Nat.lt_of_lt_of_eq A.lt g1.symm)
  have f1_0 := A.ext E1
  have f1_1 := hU.ext E1
  have sz_b1 : h0.size ≤ b1 := Nat.le_trans (Nat.le_refl _) (Nat.le_of_eq g1.symm)
  have zs1 : h0.size ≤ h1.size := Nat.le_trans (Nat.le_refl _) E1.1
  have K1 : Keep h0 h1 [] := (Keep.refl h0 []).ext E1
  have V1 : Arv Z h1 b1 ck1 .byte (3 : Int32) [(.int (0 : Int32)), (.int (0 : Int32)), (.int (0 : Int32))] (.int (0 : Int32)) := A1
  refine gStoreAN 4 X1 hx (H d16_3) (l' := #[.val (.ref x), .val (.int (0 : Int32)), .val (.int (3 : Int32)), .val (.ref b1), .unset, .unset]) rfl rfl rfl ?_
  refine gLoadAN 5 X1 hx (H d16_4) rfl rfl rfl ?_
  refine gLoadIN 6 X1 hx (H d16_5) rfl rfl ?_
  refine gLoadAN 7 X1 hx (H d16_6) rfl rfl rfl ?_
  refine gIconst 8 X1 hx (v := (0 : Int32)) (H d16_7) rfl rfl ?_
  refine gLoadIN 9 X1 hx (H d16_8) rfl rfl ?_
  refine gCallS X1 hx hZ (y := mn20) hown e1 (by rw [hml]; rfl) (ow hw 69 rfl) (ow hw 70 rfl) (ow hw 67 rfl) (ow hw 71 rfl) (by decide) (argsL := [(.ref x), (.int (0 : Int32)), (.ref b1), (.int (0 : Int32)), (.int (3 : Int32))]) (st := []) (c_cui_3 l Z a0 hw x b1 cx ck1 h0.size ch0 ch1 ch2 h1 sz_b1 ne_x_b1 f1_0 V1 hbig) (lenOf pd_22 rfl) (H d16_9) (pc' := 12) rfl rfl (by decide) (W := 0) (Nat.le_of_eq rfl) (by decide) (by decide) (by decide) ?_
  intro T2 v2 L2 X2 hQ2
  obtain ⟨kk, rfl, Nq2, Kq2, hkk⟩ := hQ2
  have N2 := Fr.app (Fr.nil h0.size) Nq2
  have K2 : Keep h0 T2.heap [] := K1.trans Kq2 (allS (Or.inr sz_b1) all0)
  have f2_0 := f1_0.keep Kq2 (ninS ne_x_b1 nin0)
  have f2_1 := own_u16_keep f1_1 Kq2 (nsS (Arv.nostat V1) ns0)
  have zs2 := Nat.le_trans zs1 Kq2.1
  rcases hkk with ⟨rfl, hk⟩ | ⟨rfl, hk⟩ | ⟨rfl, hk⟩
  · refine gStoreI 14 X2 hx (H d16_12) (l' := #[.val (.ref x), .val (.int (0 : Int32)), .val (.int (3 : Int32)), .val (.ref b1), .val (.int (0 : Int32)), .unset]) rfl rfl ?_
    refine gLoadI 16 X2 hx (H d16_14) rfl rfl ?_
    refine gLoadIN 17 X2 hx (H d16_16) rfl rfl ?_
    refine gIcmpEqT X2 hx (H d16_17) (pc' := 57) (by decide) (by decide) (pn := 20) rfl (fun (c17 : (0 : Int) = (3 : Int)) => ?_) (fun (c17 : ¬ (0 : Int) = (3 : Int)) => ?_)
    · exact absurd c17 (by decide)
    · refine gLoadAN 21 X2 hx (H d16_20) rfl rfl rfl ?_
      refine gLoadIN 22 X2 hx (H d16_21) rfl rfl ?_
      refine gLoadIN 23 X2 hx (H d16_22) rfl rfl ?_
      refine gCallS X2 hx hZ (y := mn29) hown rfl (by rw [hml]; rfl) (ow hw 79 rfl) (ow hw 80 rfl) (ow hw 67 rfl) (ow hw 81 rfl) (by decide) (argsL := [(.ref x), (.int (0 : Int32)), (.int (3 : Int32))]) (st := []) (c_tob_3 l Z a0 hw x cx ch0 ch1 ch2 T2.heap f2_1 f2_0 hch0 hch1 hch2) (lenOf pd_20 rfl) (H d16_23) (pc' := 26) rfl rfl (by decide) (W := 0) (Nat.le_of_eq rfl) (by decide) (by decide) (by decide) ?_
      intro T3 v3 L3 X3 hQ3
      obtain ⟨q3, ctq3, rfl, gq3, Nq3, Kq3, Aq3⟩ := hQ3
      have N3 := Fr.app N2 (fun y hy => Nat.le_trans zs2 (Nq3 y hy))
      have K3 : Keep h0 T3.heap [] := K2.trans Kq3 all0
      have f3_0 := f2_0.keep Kq3 nin0
      have f3_1 := own_u16_keep f2_1 Kq3 ns0
      have gz3 := Nat.le_trans zs2 gq3
      refine gStoreA 28 X3 hx (H d16_26) (l' := #[.val (.ref x), .val (.int (0 : Int32)), .val (.int (3 : Int32)), .val (.ref b1), .val (.int (0 : Int32)), .val (.ref q3)]) rfl rfl rfl ?_
      refine gLoadA 30 X3 hx (H d16_28) rfl rfl rfl ?_
      refine gLoadI 32 X3 hx (H d16_30) rfl rfl ?_
      refine gCallSJ X3 hx hZ (y := mn21) hown rfl (by rw [hml]; rfl) (ow hw 95 rfl) (ow hw 96 rfl) (ow hw 67 rfl) (ow hw 97 rfl) (by decide) (argsL := [(.ref q3), (.int (0 : Int32))]) (st := []) (c_get_3_0 l Z a0 hw q3 ctq3 ch0 ch1 ch2 T3.heap f3_1 Aq3 hch0 hch1 hch2) (lenOf pd_16 rfl) (H d16_32) (pc' := 35) rfl rfl rfl rfl (by decide) (W := 0) (Nat.le_of_eq rfl) (by decide) (by decide) (by decide) ?_
      intro T4 X4 e4
      refine gSipush 38 X4 hx (v := (255 : Int32)) (H d16_35) rfl rfl ?_
      refine gIcmpGt X4 hx (H d16_38) (pc' := 54) (by decide) (by decide) (pn := 41) rfl (fun (c38 : (255 : Int) < ch0.toInt) => ?_) (fun (c38 : ch0.toInt ≤ (255 : Int)) => ?_)
      · refine gLoadA 56 X4 hx (H d16_54) rfl rfl rfl ?_
        exact gRetA X4 hx hlk hret rfl rfl (H d16_56) (by decide) (by decide) (⟨q3, ctq3, rfl, gz3, N3, by rw [e4]; exact K3, by rw [e4]; exact Aq3⟩)
      · exact absurd c38 (by omega)
  · refine gStoreI 14 X2 hx (H d16_12) (l' := #[.val (.ref x), .val (.int (0 : Int32)), .val (.int (3 : Int32)), .val (.ref b1), .val (.int (1 : Int32)), .unset]) rfl rfl ?_
    refine gLoadI 16 X2 hx (H d16_14) rfl rfl ?_
    refine gLoadIN 17 X2 hx (H d16_16) rfl rfl ?_
    refine gIcmpEqT X2 hx (H d16_17) (pc' := 57) (by decide) (by decide) (pn := 20) rfl (fun (c17 : (1 : Int) = (3 : Int)) => ?_) (fun (c17 : ¬ (1 : Int) = (3 : Int)) => ?_)
    · exact absurd c17 (by decide)
    · refine gLoadAN 21 X2 hx (H d16_20) rfl rfl rfl ?_
      refine gLoadIN 22 X2 hx (H d16_21) rfl rfl ?_
      refine gLoadIN 23 X2 hx (H d16_22) rfl rfl ?_
      refine gCallS X2 hx hZ (y := mn29) hown rfl (by rw [hml]; rfl) (ow hw 79 rfl) (ow hw 80 rfl) (ow hw 67 rfl) (ow hw 81 rfl) (by decide) (argsL := [(.ref x), (.int (0 : Int32)), (.int (3 : Int32))]) (st := []) (c_tob_3 l Z a0 hw x cx ch0 ch1 ch2 T2.heap f2_1 f2_0 hch0 hch1 hch2) (lenOf pd_20 rfl) (H d16_23) (pc' := 26) rfl rfl (by decide) (W := 0) (Nat.le_of_eq rfl) (by decide) (by decide) (by decide) ?_
      intro T5 v5 L5 X5 hQ5
      obtain ⟨q5, ctq5, rfl, gq5, Nq5, Kq5, Aq5⟩ := hQ5
      have N5 := Fr.app N2 (fun y hy => Nat.le_trans zs2 (Nq5 y hy))
      have K5 : Keep h0 T5.heap [] := K2.trans Kq5 all0
      have f5_0 := f2_0.keep Kq5 nin0
      have f5_1 := own_u16_keep f2_1 Kq5 ns0
      have gz5 := Nat.le_trans zs2 gq5
      refine gStoreA 28 X5 hx (H d16_26) (l' := #[.val (.ref x), .val (.int (0 : Int32)), .val (.int (3 : Int32)), .val (.ref b1), .val (.int (1 : Int32)), .val (.ref q5)]) rfl rfl rfl ?_
      refine gLoadA 30 X5 hx (H d16_28) rfl rfl rfl ?_
      refine gLoadI 32 X5 hx (H d16_30) rfl rfl ?_
      refine gCallSJ X5 hx hZ (y := mn21) hown rfl (by rw [hml]; rfl) (ow hw 95 rfl) (ow hw 96 rfl) (ow hw 67 rfl) (ow hw 97 rfl) (by decide) (argsL := [(.ref q5), (.int (1 : Int32))]) (st := []) (c_get_3_1 l Z a0 hw q5 ctq5 ch0 ch1 ch2 T5.heap f5_1 Aq5 hch0 hch1 hch2) (lenOf pd_16 rfl) (H d16_32) (pc' := 35) rfl rfl rfl rfl (by decide) (W := 0) (Nat.le_of_eq rfl) (by decide) (by decide) (by decide) ?_
      intro T6 X6 e6
      refine gSipush 38 X6 hx (v := (255 : Int32)) (H d16_35) rfl rfl ?_
      refine gIcmpGt X6 hx (H d16_38) (pc' := 54) (by decide) (by decide) (pn := 41) rfl (fun (c38 : (255 : Int) < ch1.toInt) => ?_) (fun (c38 : ch1.toInt ≤ (255 : Int)) => ?_)
      · refine gLoadA 56 X6 hx (H d16_54) rfl rfl rfl ?_
        exact gRetA X6 hx hlk hret rfl rfl (H d16_56) (by decide) (by decide) (⟨q5, ctq5, rfl, gz5, N5, by rw [e6]; exact K5, by rw [e6]; exact Aq5⟩)
      · exact absurd c38 (by omega)
  · refine gStoreI 14 X2 hx (H d16_12) (l' := #[.val (.ref x), .val (.int (0 : Int32)), .val (.int (3 : Int32)), .val (.ref b1), .val (.int (2 : Int32)), .unset]) rfl rfl ?_
    refine gLoadI 16 X2 hx (H d16_14) rfl rfl ?_
    refine gLoadIN 17 X2 hx (H d16_16) rfl rfl ?_
    refine gIcmpEqT X2 hx (H d16_17) (pc' := 57) (by decide) (by decide) (pn := 20) rfl (fun (c17 : (2 : Int) = (3 : Int)) => ?_) (fun (c17 : ¬ (2 : Int) = (3 : Int)) => ?_)
    · exact absurd c17 (by decide)
    · refine gLoadAN 21 X2 hx (H d16_20) rfl rfl rfl ?_
      refine gLoadIN 22 X2 hx (H d16_21) rfl rfl ?_
      refine gLoadIN 23 X2 hx (H d16_22) rfl rfl ?_
      refine gCallS X2 hx hZ (y := mn29) hown rfl (by rw [hml]; rfl) (ow hw 79 rfl) (ow hw 80 rfl) (ow hw 67 rfl) (ow hw 81 rfl) (by decide) (argsL := [(.ref x), (.int (0 : Int32)), (.int (3 : Int32))]) (st := []) (c_tob_3 l Z a0 hw x cx ch0 ch1 ch2 T2.heap f2_1 f2_0 hch0 hch1 hch2) (lenOf pd_20 rfl) (H d16_23) (pc' := 26) rfl rfl (by decide) (W := 0) (Nat.le_of_eq rfl) (by decide) (by decide) (by decide) ?_
      intro T7 v7 L7 X7 hQ7
      obtain ⟨q7, ctq7, rfl, gq7, Nq7, Kq7, Aq7⟩ := hQ7
      have N7 := Fr.app N2 (fun y hy => Nat.le_trans zs2 (Nq7 y hy))
      have K7 : Keep h0 T7.heap [] := K2.trans Kq7 all0
      have f7_0 := f2_0.keep Kq7 nin0
      have f7_1 := own_u16_keep f2_1 Kq7 ns0
      have gz7 := Nat.le_trans zs2 gq7
      refine gStoreA 28 X7 hx (H d16_26) (l' := #[.val (.ref x), .val (.int (0 : Int32)), .val (.int (3 : Int32)), .val (.ref b1), .val (.int (2 : Int32)), .val (.ref q7)]) rfl rfl rfl ?_
      refine gLoadA 30 X7 hx (H d16_28) rfl rfl rfl ?_
      refine gLoadI 32 X7 hx (H d16_30) rfl rfl ?_
      refine gCallSJ X7 hx hZ (y := mn21) hown rfl (by rw [hml]; rfl) (ow hw 95 rfl) (ow hw 96 rfl) (ow hw 67 rfl) (ow hw 97 rfl) (by decide) (argsL := [(.ref q7), (.int (2 : Int32))]) (st := []) (c_get_3_2 l Z a0 hw q7 ctq7 ch0 ch1 ch2 T7.heap f7_1 Aq7 hch0 hch1 hch2) (lenOf pd_16 rfl) (H d16_32) (pc' := 35) rfl rfl rfl rfl (by decide) (W := 0) (Nat.le_of_eq rfl) (by decide) (by decide) (by decide) ?_
      intro T8 X8 e8
      refine gSipush 38 X8 hx (v := (255 : Int32)) (H d16_35) rfl rfl ?_
      refine gIcmpGt X8 hx (H d16_38) (pc' := 54) (by decide) (by decide) (pn := 41) rfl (fun (c38 : (255 : Int) < ch2.toInt) => ?_) (fun (c38 : ch2.toInt ≤ (255 : Int)) => ?_)
      · refine gLoadA 56 X8 hx (H d16_54) rfl rfl rfl ?_
        exact gRetA X8 hx hlk hret rfl rfl (H d16_56) (by decide) (by decide) (⟨q7, ctq7, rfl, gz7, N7, by rw [e8]; exact K7, by rw [e8]; exact Aq7⟩)
      · exact absurd c38 (by omega)
theorem c_cfu_3 (l : Launch) (Z : State) (a0 : Array Value) (hw : ∀ d ∈ tables_1, d.before a0 Z = true) (t : Addr) (ck : ClassId) (ch0 ch1 ch2 : Int32) (h0 : Heap) (A : sA Z h0 t ck 6 [(.int (lo8 ch0)), (.int (hi8 ch0)), (.int (lo8 ch1)), (.int (hi8 ch1)), (.int (lo8 ch2)), (.int (hi8 ch2))]) :
    Ctr l Z mn18 jdk_52_method_15_code 2 (some .byte) [] ⟨0, 0, 0, 0⟩ #[(.ref t), (.int (3 : Int32))] h0 (Just h0 (.int 1)) := by
  refine Ctr.of (plainFor_of_name pn_6) ?_
  intro p e s m below meth c s₁ hx H hml hret hown hnm hZ hlk X0 e0
  refine Goes.cast (show entryFrame m _ _ = mkF m 0 #[.val (.ref t), .val (.int (3 : Int32))] [] from rfl) ?_
  refine gLoadIN 1 X0 hx (H d15_0) rfl rfl ?_
  refine gLoadAN 2 X0 hx (H d15_1) rfl rfl rfl ?_
  refine gArrLen X0 hx hZ e0 A (H d15_2) (pc' := 3) rfl ?_
  refine gIsub 4 X0 hx (H d15_3) rfl ?_
  show Goes p e below _ s₁ (mkF m 4 #[.val (.ref t), .val (.int (3 : Int32))] [(.int (-3 : Int32))])
  refine gBipush 6 X0 hx (v := (31 : Int32)) (H d15_4) rfl rfl ?_
  refine gIushr 7 X0 hx (H d15_6) rfl ?_
  show Goes p e below _ s₁ (mkF m 7 #[.val (.ref t), .val (.int (3 : Int32))] [(.int (1 : Int32))])
  refine gI2b 8 X0 hx (H d15_7) rfl ?_
  show Goes p e below _ s₁ (mkF m 8 #[.val (.ref t), .val (.int (3 : Int32))] [(.int (1 : Int32))])
  exact gRetN X0 hx hlk hret (by simp) (H d15_8) (w := (1 : Int32)) rfl (by decide) (by decide) (⟨rfl, e0, rfl⟩)
theorem c_siu_3v (l : Launch) (Z : State) (a0 : Array Value) (hw : ∀ d ∈ tables_1, d.before a0 Z = true) (a x : Addr) (cx : ClassId) (n0 : Nat) (ch0 ch1 ch2 : Int32) (h0 : Heap) (hCpt : Cpt Z h0) (hU : U16 Z h0) (ga : n0 ≤ a) (gz : n0 ≤ h0.size) (hax : x ≠ a) (E : sE Z h0 a) (C : sC Z h0 a) (V : Fld Z h0 a "java/lang/String" "value" "[B" .null) (A : Arv Z h0 x cx .char 3 [.int ch0, .int ch1, .int ch2] (.int 0)) (hch0 : r6 ch0) (hch1 : r6 ch1) (hch2 : r6 ch2) (hbig : 255 < ch0.toInt ∨ 255 < ch1.toInt ∨ 255 < ch2.toInt) :
    Ctr l Z mn8 jdk_42_method_149_code 6 none [] ⟨4, 2, 9, 80⟩ #[(.ref a), (.ref x), (.int (0 : Int32)), (.int (3 : Int32)), .null] h0 (fun v h L => ∃ (t : Addr) (ct : ClassId), v = none ∧ Fr n0 L ∧ Keep h0 h [a] ∧ h0.size ≤ t ∧ sE Z h a ∧ uC Z h a ∧ sV Z h a t ∧ sA Z h t ct 6 [(.int (lo8 ch0)), (.int (hi8 ch0)), (.int (lo8 ch1)), (.int (hi8 ch1)), (.int (lo8 ch2)), (.int (hi8 ch2))]) := by
  refine Ctr.of (plainFor_of_name pn_4) ?_
  intro p e s m below meth c s₁ hx H hml hret hown hnm hZ hlk X0 e0
  refine Goes.cast (show entryFrame m _ _ = mkF m 0 #[.val (.ref a), .val (.ref x), .val (.int (0 : Int32)), .val (.int (3 : Int32)), .val .null, .unset] [] from rfl) ?_
  obtain ⟨cz, SC, hcz⟩ := hCpt
  refine gLoadAN 1 X0 hx (H d4_0) rfl rfl rfl ?_
  refine gInitO X0 hx hZ hown (ow hw 16 rfl) (ow hw 17 rfl) (ow hw 18 rfl) e0 (by rw [hml]; rfl) (H d4_1) (pc' := 4) rfl (by decide) (W := 0) (Nat.le_of_eq rfl) (by decide) (fun T1 X1 e1 => ?_)
  refine gLoadIN 5 X1 hx (H d4_4) rfl rfl ?_
  refine gIfNeT X1 hx (H d4_5) (pc' := 27) (by decide) (by decide) (pn := 8) rfl (fun (c5 : ¬ (3 : Int) = (0 : Int)) => ?_) (fun (c5 : (3 : Int) = (0 : Int)) => ?_)
  · refine gGetS X1 hx hZ hown (ow hw 47 rfl) Via.refl e1 SC (H d4_27) (pc' := 30) rfl (fun T2 X2 e2 => ?_)
    refine gIfEqT X2 hx (H d4_30) (pc' := 58) (by decide) (by decide) (pn := 33) rfl (fun (c30 : cz.toInt = (0 : Int)) => ?_) (fun (c30 : ¬ cz.toInt = (0 : Int)) => ?_)
    · exact absurd c30 hcz
    · refine gLoadAN 34 X2 hx (H d4_33) rfl rfl rfl ?_
      refine gLoadIN 35 X2 hx (H d4_34) rfl rfl ?_
      refine gLoadIN 36 X2 hx (H d4_35) rfl rfl ?_
      refine gCallS X2 hx hZ (y := mn19) hown e2 (by rw [hml]; rfl) (ow hw 65 rfl) (ow hw 66 rfl) (ow hw 67 rfl) (ow hw 68 rfl) (by decide) (argsL := [(.ref x), (.int (0 : Int32)), (.int (3 : Int32))]) (st := []) (c_cuo_3 l Z a0 hw x cx ch0 ch1 ch2 h0 hU A hch0 hch1 hch2 hbig) (lenOf pd_20 rfl) (H d4_36) (pc' := 39) rfl rfl (by decide) (W := 0) (Nat.le_of_eq rfl) (by decide) (by decide) (by decide) ?_
      intro T3 v3 L3 X3 hQ3
      obtain ⟨t3, ct3, rfl, gt3, Nq3, Kq3, Aq3⟩ := hQ3
      have N3 := Fr.app (Fr.nil n0) (fun y hy => Nat.le_trans gz (Nq3 y hy))
      have K3 : Keep h0 T3.heap [a] := (Keep.refl h0 [a]).trans Kq3 all0
      have f3_0 := own_sta_keep SC Kq3 ns0
      have f3_1 := own_u16_keep hU Kq3 ns0
      have f3_2 := E.keep Kq3
      have f3_3 := C.keep Kq3 nin0
      have f3_4 := V.keep Kq3 nin0
      have nt3 : t3 ≠ a := Ne.symm (Nat.ne_of_lt (Nat.lt_of_lt_of_le E.lt gt3))
      refine gStoreA 41 X3 hx (H d4_39) (l' := #[.val (.ref a), .val (.ref x), .val (.int (0 : Int32)), .val (.int (3 : Int32)), .val .null, .val (.ref t3)]) rfl rfl rfl ?_
      refine gLoadAN 42 X3 hx (H d4_41) rfl rfl rfl ?_
      refine gLoadA 44 X3 hx (H d4_42) rfl rfl rfl ?_
      refine gLoadIN 45 X3 hx (H d4_44) rfl rfl ?_
      refine gCallSJ X3 hx hZ (y := mn18) hown rfl (by rw [hml]; rfl) (ow hw 72 rfl) (ow hw 73 rfl) (ow hw 67 rfl) (ow hw 74 rfl) (by decide) (argsL := [(.ref t3), (.int (3 : Int32))]) (st := [(.ref a)]) (c_cfu_3 l Z a0 hw t3 ct3 ch0 ch1 ch2 _ Aq3) (lenOf pd_15 rfl) (H d4_45) (pc' := 48) rfl rfl rfl rfl (by decide) (W := 1) (Nat.le_of_eq rfl) (by decide) (by decide) (by decide) ?_
      intro T4 X4 e4
      refine gPutF X4 hx hZ hown (ow hw 26 rfl) Via.refl e4 f3_3 f3_2 (Or.inr ⟨(ow hw 22 rfl), rfl, hnm⟩) (ow hw 6 rfl) (ty := .byte) (by decide) rfl rfl (H d4_48) (pc' := 51) rfl (fun T5 h5 X5 e5 W5 => ?_)
      have f5_0 := f3_0.wr W5
      have f5_1 := f3_1.wr W5
      have f5_2 := f3_2.wr W5
      have f5_3 := f3_3.same W5
      have f5_4 := f3_4.other W5 (Or.inr (slot_ne (Or.inr (ow hw 21 rfl)) (Or.inr (ow hw 22 rfl)) (by decide) (t := (.array .byte)) (t' := .byte) (by decide) (by decide)))
      have f5_5 := Aq3.other W5 nt3
      have zs5 : h0.size ≤ h5.size := by rw [W5.size]; exact Kq3.1
      have N5 := Fr.snoc X5 N3 ga
      have K5 : Keep h0 h5 [a] := K3.wr W5 (Or.inl (by simp))
      refine gLoadAN 52 X5 hx (H d4_51) rfl rfl rfl ?_
      refine gLoadA 54 X5 hx (H d4_52) rfl rfl rfl ?_
      refine gPutF X5 hx hZ hown (ow hw 25 rfl) Via.refl e5 f5_4 f5_2 (Or.inr ⟨(ow hw 21 rfl), rfl, hnm⟩) (ow hw 6 rfl) (ty := (.array .byte)) (by decide) rfl rfl (H d4_54) (pc' := 57) rfl (fun T6 h6 X6 e6 W6 => ?_)
      have f6_0 := f5_0.wr W6
      have f6_1 := f5_1.wr W6
      have f6_2 := f5_2.wr W6
      have f6_3 := f5_3.other W6 (Or.inr (slot_ne (Or.inr (ow hw 22 rfl)) (Or.inr (ow hw 21 rfl)) (by decide) (t := .byte) (t' := (.array .byte)) (by decide) (by decide)))
      have f6_4 := f5_4.same W6
      have f6_5 := f5_5.other W6 nt3
      have zs6 : h0.size ≤ h6.size := by rw [W6.size]; exact zs5
      have N6 := Fr.snoc X6 N5 ga
      have K6 : Keep h0 h6 [a] := K5.wr W6 (Or.inl (by simp))
      exact gRetV X6 hx hlk hret (H d4_57) (by decide) (by decide) (⟨t3, ct3, rfl, N6, by rw [e6]; exact K6, gt3, by rw [e6]; exact f6_2, by rw [e6]; exact f6_3, by rw [e6]; exact f6_4, by rw [e6]; exact f6_5⟩)
  · exact absurd c5 (by decide)
theorem c_siu_3 (l : Launch) (Z : State) (a0 : Array Value) (hw : ∀ d ∈ tables_1, d.before a0 Z = true) (a x : Addr) (cx : ClassId) (n0 : Nat) (ch0 ch1 ch2 : Int32) (h0 : Heap) (hCpt : Cpt Z h0) (hU : U16 Z h0) (ga : n0 ≤ a) (gz : n0 ≤ h0.size) (hax : x ≠ a) (E : sE Z h0 a) (C : sC Z h0 a) (V : Fld Z h0 a "java/lang/String" "value" "[B" .null) (A : Arv Z h0 x cx .char 3 [.int ch0, .int ch1, .int ch2] (.int 0)) (hch0 : r6 ch0) (hch1 : r6 ch1) (hch2 : r6 ch2) (hbig : 255 < ch0.toInt ∨ 255 < ch1.toInt ∨ 255 < ch2.toInt) :
    Ctr l Z mn7 jdk_42_method_3_code 2 none [] ⟨5, 2, 9, 100⟩ #[(.ref a), (.ref x)] h0 (fun v h L => ∃ (t : Addr) (ct : ClassId), v = none ∧ Fr n0 L ∧ Keep h0 h [a] ∧ h0.size ≤ t ∧ sE Z h a ∧ uC Z h a ∧ sV Z h a t ∧ sA Z h t ct 6 [(.int (lo8 ch0)), (.int (hi8 ch0)), (.int (lo8 ch1)), (.int (hi8 ch1)), (.int (lo8 ch2)), (.int (hi8 ch2))]) := by
  refine Ctr.of (plainFor_of_name pn_4) ?_
  intro p e s m below meth c s₁ hx H hml hret hown hnm hZ hlk X0 e0
  refine Goes.cast (show entryFrame m _ _ = mkF m 0 #[.val (.ref a), .val (.ref x)] [] from rfl) ?_
  refine gLoadAN 1 X0 hx (H d8_0) rfl rfl rfl ?_
  refine gLoadAN 2 X0 hx (H d8_1) rfl rfl rfl ?_
  refine gIconst 3 X0 hx (v := (0 : Int32)) (H d8_2) rfl rfl ?_
  refine gLoadAN 4 X0 hx (H d8_3) rfl rfl rfl ?_
  refine gArrLen X0 hx hZ e0 A (H d8_4) (pc' := 5) rfl ?_
  refine gNull 6 X0 hx (H d8_5) rfl ?_
  refine gCallI X0 hx hZ (y := mn8) rfl hown e0 (by rw [hml]; rfl) (ow hw 12 rfl) (ow hw 13 rfl) (ow hw 7 rfl) (ow hw 15 rfl) (by decide) (argsL := [(.ref x), (.int (0 : Int32)), (.int (3 : Int32)), .null]) (st := []) (c_siu_3v l Z a0 hw a x cx n0 ch0 ch1 ch2 h0 hCpt hU ga gz hax E C V A hch0 hch1 hch2 hbig) (lenOf pd_21 rfl) (H d8_6) (pc' := 9) rfl rfl (by decide) (W := 0) (Nat.le_of_eq rfl) (by decide) (by decide) (by decide) ?_
  intro T1 v1 L1 X1 hQ1
  obtain ⟨t, ct, rfl, Nq, Kq, gt, Eq, Cq, Vq, Aq⟩ := hQ1
  exact gRetV X1 hx hlk hret (H d8_9) (by decide) (by decide) (⟨t, ct, rfl, Nq, Kq, gt, Eq, Cq, Vq, Aq⟩)
theorem c_nbl_4 (l : Launch) (Z : State) (a0 : Array Value) (hw : ∀ d ∈ tables_1, d.before a0 Z = true)  (h0 : Heap)  :
    Ctr l Z mn27 jdk_52_method_3_code 1 (some .int) [] ⟨0, 0, 0, 0⟩ #[(.int (4 : Int32))] h0 (Just h0 (.int 8)) := by
  refine Ctr.of (plainFor_of_name pn_6) ?_
  intro p e s m below meth c s₁ hx H hml hret hown hnm hZ hlk X0 e0
  refine Goes.cast (show entryFrame m _ _ = mkF m 0 #[.val (.int (4 : Int32))] [] from rfl) ?_
  refine gLoadIN 1 X0 hx (H d19_0) rfl rfl ?_
  refine gIfGe X0 hx (H d19_1) (pc' := 12) (by decide) (by decide) (pn := 4) rfl (fun (c1 : (0 : Int) ≤ (4 : Int)) => ?_) (fun (c1 : (4 : Int) < (0 : Int)) => ?_)
  · refine gLoadIN 13 X0 hx (H d19_12) rfl rfl ?_
    refine gLdc 15 X0 hx hZ hown (ow hw 88 rfl) (H d19_13) rfl ?_
    refine gIcmpLt X0 hx (H d19_15) (pc' := 55) (by decide) (by decide) (pn := 18) rfl (fun (c15 : (4 : Int) < (1073741823 : Int)) => ?_) (fun (c15 : (1073741823 : Int) ≤ (4 : Int)) => ?_)
    · refine gLoadIN 56 X0 hx (H d19_55) rfl rfl ?_
      refine gIconst 57 X0 hx (v := (1 : Int32)) (H d19_56) rfl rfl ?_
      refine gIshl 58 X0 hx (H d19_57) rfl ?_
      show Goes p e below _ s₁ (mkF m 58 #[.val (.int (4 : Int32))] [(.int (8 : Int32))])
      exact gRetI X0 hx hlk hret (H d19_58) (by decide) (by decide) (⟨rfl, e0, rfl⟩)
    · exact absurd c15 (by decide)
  · exact absurd c1 (by decide)
theorem c_nbf_4 (l : Launch) (Z : State) (a0 : Array Value) (hw : ∀ d ∈ tables_1, d.before a0 Z = true)  (h0 : Heap)  :
    Ctr l Z mn26 jdk_52_method_2_code 1 (some (.array .byte)) [] ⟨1, 1, 8, 12⟩ #[(.int (4 : Int32))] h0 (fun v h L => ∃ (t : Addr) (ct : ClassId), v = some (.ref t) ∧ h0.size ≤ t ∧ Fr h0.size L ∧ Keep h0 h [] ∧ sA Z h t ct 8 [.int 0, .int 0, .int 0, .int 0, .int 0, .int 0, .int 0, .int 0]) := by
  refine Ctr.of (plainFor_of_name pn_6) ?_
  intro p e s m below meth c s₁ hx H hml hret hown hnm hZ hlk X0 e0
  refine Goes.cast (show entryFrame m _ _ = mkF m 0 #[.val (.int (4 : Int32))] [] from rfl) ?_
  refine gLoadIN 1 X0 hx (H d18_0) rfl rfl ?_
  refine gCallSJ X0 hx hZ (y := mn27) hown e0 (by rw [hml]; rfl) (ow hw 85 rfl) (ow hw 86 rfl) (ow hw 67 rfl) (ow hw 87 rfl) (by decide) (argsL := [(.int (4 : Int32))]) (st := []) (c_nbl_4 l Z a0 hw h0) (lenOf pd_6 rfl) (H d18_1) (pc' := 4) rfl rfl rfl rfl (by decide) (W := 0) (Nat.le_of_eq rfl) (by decide) (by decide) (by decide) ?_
  intro T1 X1 e1
  refine gNewP X1 hx hZ (ow hw 20 rfl) e1 (n := (8 : Int32)) (H d18_4) (by decide) (cap := 8) (by decide) (by decide) (by decide) (by decide) 8 (pc' := 6) rfl (fun T2 h2 b2 ck2 X2 e2 g2 E2 A2 => ?_)
  have sz_b2 : h0.size ≤ b2 := Nat.le_trans (Nat.le_refl _) (Nat.le_of_eq g2.symm)
  have zs2 : h0.size ≤ h2.size := Nat.le_trans (Nat.le_refl _) E2.1
  have K2 : Keep h0 h2 [] := (Keep.refl h0 []).ext E2
  have V2 : Arv Z h2 b2 ck2 .byte (8 : Int32) [(.int (0 : Int32)), (.int (0 : Int32)), (.int (0 : Int32)), (.int (0 : Int32)), (.int (0 : Int32)), (.int (0 : Int32)), (.int (0 : Int32)), (.int (0 : Int32))] (.int (0 : Int32)) := A2
  exact gRetA X2 hx hlk hret rfl rfl (H d18_6) (by decide) (by decide) (⟨_, _, rfl, sz_b2, Fr.nil _, by rw [e2]; exact K2, by rw [e2]; exact V2⟩)
theorem c_put_4_0 (l : Launch) (Z : State) (a0 : Array Value) (hw : ∀ d ∈ tables_1, d.before a0 Z = true) (t : Addr) (ct : ClassId) (n0 : Nat) (ch0 : Int32) (h0 : Heap) (gt : n0 ≤ t) (hU : U16 Z h0) (B : sA Z h0 t ct 8 [(.int (0 : Int32)), (.int (0 : Int32)), (.int (0 : Int32)), (.int (0 : Int32)), (.int (0 : Int32)), (.int (0 : Int32)), (.int (0 : Int32)), (.int (0 : Int32))]) :
    Ctr l Z mn28 jdk_52_method_4_code 3 none [] ⟨0, 0, 0, 0⟩ #[(.ref t), (.int (0 : Int32)), (.int ch0)] h0 (fun v h L => v = none ∧ Fr n0 L ∧ Keep h0 h [t] ∧ sA Z h t ct 8 [(.int (lo8 ch0)), (.int (hi8 ch0)), (.int (0 : Int32)), (.int (0 : Int32)), (.int (0 : Int32)), (.int (0 : Int32)), (.int (0 : Int32)), (.int (0 : Int32))]) := by
  refine Ctr.of (plainFor_of_name pn_6) ?_
  intro p e s m below meth c s₁ hx H hml hret hown hnm hZ hlk X0 e0
  refine Goes.cast (show entryFrame m _ _ = mkF m 0 #[.val (.ref t), .val (.int (0 : Int32)), .val (.int ch0)] [] from rfl) ?_
  refine gGetS X0 hx hZ hown (ow hw 92 rfl) Via.refl e0 hU.1 (H d23_0) (pc' := 3) rfl (fun T1 X1 e1 => ?_)
  refine gIfNeT X1 hx (H d23_3) (pc' := 28) (by decide) (by decide) (pn := 6) rfl (fun (c3 : ¬ (1 : Int) = (0 : Int)) => ?_) (fun (c3 : (1 : Int) = (0 : Int)) => ?_)
  · refine gLoadIN 29 X1 hx (H d23_28) rfl rfl ?_
    refine gIconst 30 X1 hx (v := (1 : Int32)) (H d23_29) rfl rfl ?_
    refine gIshl 31 X1 hx (H d23_30) rfl ?_
    show Goes p e below _ T1 (mkF m 31 #[.val (.ref t), .val (.int (0 : Int32)), .val (.int ch0)] [(.int (0 : Int32))])
    refine gStoreIN 32 X1 hx (H d23_31) (l' := #[.val (.ref t), .val (.int (0 : Int32)), .val (.int ch0)]) rfl rfl ?_
    refine gLoadAN 33 X1 hx (H d23_32) rfl rfl rfl ?_
    refine gLoadIN 34 X1 hx (H d23_33) rfl rfl ?_
    refine gIinc X1 hx (v := (1 : Int32)) (H d23_34) (l' := #[.val (.ref t), .val (.int (1 : Int32)), .val (.int ch0)]) (pc' := 37) rfl rfl rfl rfl ?_
    refine gLoadIN 38 X1 hx (H d23_37) rfl rfl ?_
    refine gGetS X1 hx hZ hown (ow hw 93 rfl) Via.refl e1 hU.2.1 (H d23_38) (pc' := 41) rfl (fun T2 X2 e2 => ?_)
    refine gIshr 42 X2 hx (H d23_41) rfl ?_
    refine gI2b 43 X2 hx (H d23_42) rfl ?_
    refine gBastore X2 hx hZ e2 (x := ((ch0 >>> ((0 : Int32) &&& 31)).toInt8.toInt32)) B (j := (0 : Int32)) (by decide) (by decide) 0 (by decide) (by simp) (H d23_43) (pc' := 44) rfl (fun T3 h3 X3 e3 W3 A3 => ?_)
    have f3_0 := hU.1.wr W3
    have f3_1 := hU.2.1.wr W3
    have f3_2 := hU.2.2.wr W3
    have zs3 : h0.size ≤ h3.size := by rw [W3.size]; exact (Nat.le_refl _)
    have N3 := Fr.snoc X3 (Fr.nil n0) gt
    have K3 : Keep h0 h3 [t] := (Keep.refl h0 [t]).wr W3 (Or.inl (by simp))
    have V3 : Arv Z h3 t _ .byte (8 : Int32) [(.int (lo8 ch0)), (.int (0 : Int32)), (.int (0 : Int32)), (.int (0 : Int32)), (.int (0 : Int32)), (.int (0 : Int32)), (.int (0 : Int32)), (.int (0 : Int32))] (.int 0) := (by have q := A3; rw [own_nb] at q; exact q)
    refine gLoadAN 45 X3 hx (H d23_44) rfl rfl rfl ?_
    refine gLoadIN 46 X3 hx (H d23_45) rfl rfl ?_
    refine gLoadIN 47 X3 hx (H d23_46) rfl rfl ?_
    refine gGetS X3 hx hZ hown (ow hw 94 rfl) Via.refl e3 f3_2 (H d23_47) (pc' := 50) rfl (fun T4 X4 e4 => ?_)
    refine gIshr 51 X4 hx (H d23_50) rfl ?_
    refine gI2b 52 X4 hx (H d23_51) rfl ?_
    refine gBastore X4 hx hZ e4 (x := ((ch0 >>> ((8 : Int32) &&& 31)).toInt8.toInt32)) V3 (j := (1 : Int32)) (by decide) (by decide) 1 (by decide) (by simp) (H d23_52) (pc' := 53) rfl (fun T5 h5 X5 e5 W5 A5 => ?_)
    have f5_0 := f3_0.wr W5
    have f5_1 := f3_1.wr W5
    have f5_2 := f3_2.wr W5
    have zs5 : h0.size ≤ h5.size := by rw [W5.size]; exact zs3
    have N5 := Fr.snoc X5 N3 gt
    have K5 : Keep h0 h5 [t] := K3.wr W5 (Or.inl (by simp))
    have V5 : Arv Z h5 t _ .byte (8 : Int32) [(.int (lo8 ch0)), (.int (hi8 ch0)), (.int (0 : Int32)), (.int (0 : Int32)), (.int (0 : Int32)), (.int (0 : Int32)), (.int (0 : Int32)), (.int (0 : Int32))] (.int 0) := (by have q := A5; rw [own_nb] at q; exact q)
    exact gRetV X5 hx hlk hret (H d23_53) (by decide) (by decide) (⟨rfl, N5, by rw [e5]; exact K5, by rw [e5]; exact V5⟩)
  · exact absurd c3 (by decide)
theorem c_get_4_0 (l : Launch) (Z : State) (a0 : Array Value) (hw : ∀ d ∈ tables_1, d.before a0 Z = true) (t : Addr) (ct : ClassId) (ch0 ch1 ch2 ch3 : Int32) (h0 : Heap) (hU : U16 Z h0) (B : sA Z h0 t ct 8 [(.int (lo8 ch0)), (.int (hi8 ch0)), (.int (lo8 ch1)), (.int (hi8 ch1)), (.int (lo8 ch2)), (.int (hi8 ch2)), (.int (lo8 ch3)), (.int (hi8 ch3))]) (hch0 : r6 ch0) (hch1 : r6 ch1) (hch2 : r6 ch2) (hch3 : r6 ch3) :
    Ctr l Z mn21 jdk_52_method_5_code 2 (some .char) [] ⟨0, 0, 0, 0⟩ #[(.ref t), (.int (0 : Int32))] h0 (Just h0 (.int ch0)) := by
  refine Ctr.of (plainFor_of_name pn_6) ?_
  intro p e s m below meth c s₁ hx H hml hret hown hnm hZ hlk X0 e0
  refine Goes.cast (show entryFrame m _ _ = mkF m 0 #[.val (.ref t), .val (.int (0 : Int32))] [] from rfl) ?_
  refine gGetS X0 hx hZ hown (ow hw 92 rfl) Via.refl e0 hU.1 (H d24_0) (pc' := 3) rfl (fun T1 X1 e1 => ?_)
  refine gIfNeT X1 hx (H d24_3) (pc' := 28) (by decide) (by decide) (pn := 6) rfl (fun (c3 : ¬ (1 : Int) = (0 : Int)) => ?_) (fun (c3 : (1 : Int) = (0 : Int)) => ?_)
  · refine gLoadIN 29 X1 hx (H d24_28) rfl rfl ?_
    refine gIconst 30 X1 hx (v := (1 : Int32)) (H d24_29) rfl rfl ?_
    refine gIshl 31 X1 hx (H d24_30) rfl ?_
    show Goes p e below _ T1 (mkF m 31 #[.val (.ref t), .val (.int (0 : Int32))] [(.int (0 : Int32))])
    refine gStoreIN 32 X1 hx (H d24_31) (l' := #[.val (.ref t), .val (.int (0 : Int32))]) rfl rfl ?_
    refine gLoadAN 33 X1 hx (H d24_32) rfl rfl rfl ?_
    refine gLoadIN 34 X1 hx (H d24_33) rfl rfl ?_
    refine gIinc X1 hx (v := (1 : Int32)) (H d24_34) (l' := #[.val (.ref t), .val (.int (1 : Int32))]) (pc' := 37) rfl rfl rfl rfl ?_
    refine gBaload X1 hx hZ e1 B (j := (0 : Int32)) (v := (.int (lo8 ch0))) (by decide) (by decide) rfl (H d24_37) (pc' := 38) rfl ?_
    refine gSipush 41 X1 hx (v := (255 : Int32)) (H d24_38) rfl rfl ?_
    refine gIand 42 X1 hx (H d24_41) rfl ?_
    refine gGetS X1 hx hZ hown (ow hw 93 rfl) Via.refl e1 hU.2.1 (H d24_42) (pc' := 45) rfl (fun T2 X2 e2 => ?_)
    refine gIshl 46 X2 hx (H d24_45) rfl ?_
    refine gLoadAN 47 X2 hx (H d24_46) rfl rfl rfl ?_
    refine gLoadIN 48 X2 hx (H d24_47) rfl rfl ?_
    refine gBaload X2 hx hZ e2 B (j := (1 : Int32)) (v := (.int (hi8 ch0))) (by decide) (by decide) rfl (H d24_48) (pc' := 49) rfl ?_
    refine gSipush 52 X2 hx (v := (255 : Int32)) (H d24_49) rfl rfl ?_
    refine gIand 53 X2 hx (H d24_52) rfl ?_
    refine gGetS X2 hx hZ hown (ow hw 94 rfl) Via.refl e2 hU.2.2 (H d24_53) (pc' := 56) rfl (fun T3 X3 e3 => ?_)
    refine gIshl 57 X3 hx (H d24_56) rfl ?_
    refine gIor 58 X3 hx (H d24_57) rfl ?_
    refine gI2c 59 X3 hx (H d24_58) rfl ?_
    rw [own_u16 hch0]
    exact gRetN X3 hx hlk hret (by simp) (H d24_59) (w := ch0) (own_nc hch0) (by decide) (by decide) (⟨rfl, e3, rfl⟩)
  · exact absurd c3 (by decide)
theorem c_put_4_1 (l : Launch) (Z : State) (a0 : Array Value) (hw : ∀ d ∈ tables_1, d.before a0 Z = true) (t : Addr) (ct : ClassId) (n0 : Nat) (ch0 ch1 : Int32) (h0 : Heap) (gt : n0 ≤ t) (hU : U16 Z h0) (B : sA Z h0 t ct 8 [(.int (lo8 ch0)), (.int (hi8 ch0)), (.int (0 : Int32)), (.int (0 : Int32)), (.int (0 : Int32)), (.int (0 : Int32)), (.int (0 : Int32)), (.int (0 : Int32))]) :
    Ctr l Z mn28 jdk_52_method_4_code 3 none [] ⟨0, 0, 0, 0⟩ #[(.ref t), (.int (1 : Int32)), (.int ch1)] h0 (fun v h L => v = none ∧ Fr n0 L ∧ Keep h0 h [t] ∧ sA Z h t ct 8 [(.int (lo8 ch0)), (.int (hi8 ch0)), (.int (lo8 ch1)), (.int (hi8 ch1)), (.int (0 : Int32)), (.int (0 : Int32)), (.int (0 : Int32)), (.int (0 : Int32))]) := by
  refine Ctr.of (plainFor_of_name pn_6) ?_
  intro p e s m below meth c s₁ hx H hml hret hown hnm hZ hlk X0 e0
  refine Goes.cast (show entryFrame m _ _ = mkF m 0 #[.val (.ref t), .val (.int (1 : Int32)), .val (.int ch1)] [] from rfl) ?_
  refine gGetS X0 hx hZ hown (ow hw 92 rfl) Via.refl e0 hU.1 (H d23_0) (pc' := 3) rfl (fun T1 X1 e1 => ?_)
  refine gIfNeT X1 hx (H d23_3) (pc' := 28) (by decide) (by decide) (pn := 6) rfl (fun (c3 : ¬ (1 : Int) = (0 : Int)) => ?_) (fun (c3 : (1 : Int) = (0 : Int)) => ?_)
  · refine gLoadIN 29 X1 hx (H d23_28) rfl rfl ?_
    refine gIconst 30 X1 hx (v := (1 : Int32)) (H d23_29) rfl rfl ?_
    refine gIshl 31 X1 hx (H d23_30) rfl ?_
    show Goes p e below _ T1 (mkF m 31 #[.val (.ref t), .val (.int (1 : Int32)), .val (.int ch1)] [(.int (2 : Int32))])
    refine gStoreIN 32 X1 hx (H d23_31) (l' := #[.val (.ref t), .val (.int (2 : Int32)), .val (.int ch1)]) rfl rfl ?_
    refine gLoadAN 33 X1 hx (H d23_32) rfl rfl rfl ?_
    refine gLoadIN 34 X1 hx (H d23_33) rfl rfl ?_
    refine gIinc X1 hx (v := (1 : Int32)) (H d23_34) (l' := #[.val (.ref t), .val (.int (3 : Int32)), .val (.int ch1)]) (pc' := 37) rfl rfl rfl rfl ?_
    refine gLoadIN 38 X1 hx (H d23_37) rfl rfl ?_
    refine gGetS X1 hx hZ hown (ow hw 93 rfl) Via.refl e1 hU.2.1 (H d23_38) (pc' := 41) rfl (fun T2 X2 e2 => ?_)
    refine gIshr 42 X2 hx (H d23_41) rfl ?_
    refine gI2b 43 X2 hx (H d23_42) rfl ?_
    refine gBastore X2 hx hZ e2 (x := ((ch1 >>> ((0 : Int32) &&& 31)).toInt8.toInt32)) B (j := (2 : Int32)) (by decide) (by decide) 2 (by decide) (by simp) (H d23_43) (pc' := 44) rfl (fun T3 h3 X3 e3 W3 A3 => ?_)
    have f3_0 := hU.1.wr W3
    have f3_1 := hU.2.1.wr W3
    have f3_2 := hU.2.2.wr W3
    have zs3 : h0.size ≤ h3.size := by rw [W3.size]; exact (Nat.le_refl _)
    have N3 := Fr.snoc X3 (Fr.nil n0) gt
    have K3 : Keep h0 h3 [t] := (Keep.refl h0 [t]).wr W3 (Or.inl (by simp))
    have V3 : Arv Z h3 t _ .byte (8 : Int32) [(.int (lo8 ch0)), (.int (hi8 ch0)), (.int (lo8 ch1)), (.int (0 : Int32)), (.int (0 : Int32)), (.int (0 : Int32)), (.int (0 : Int32)), (.int (0 : Int32))] (.int 0) := (by have q := A3; rw [own_nb] at q; exact q)
    refine gLoadAN 45 X3 hx (H d23_44) rfl rfl rfl ?_
    refine gLoadIN 46 X3 hx (H d23_45) rfl rfl ?_
    refine gLoadIN 47 X3 hx (H d23_46) rfl rfl ?_
    refine gGetS X3 hx hZ hown (ow hw 94 rfl) Via.refl e3 f3_2 (H d23_47) (pc' := 50) rfl (fun T4 X4 e4 => ?_)
    refine gIshr 51 X4 hx (H d23_50) rfl ?_
    refine gI2b 52 X4 hx (H d23_51) rfl ?_
    refine gBastore X4 hx hZ e4 (x := ((ch1 >>> ((8 : Int32) &&& 31)).toInt8.toInt32)) V3 (j := (3 : Int32)) (by decide) (by decide) 3 (by decide) (by simp) (H d23_52) (pc' := 53) rfl (fun T5 h5 X5 e5 W5 A5 => ?_)
    have f5_0 := f3_0.wr W5
    have f5_1 := f3_1.wr W5
    have f5_2 := f3_2.wr W5
    have zs5 : h0.size ≤ h5.size := by rw [W5.size]; exact zs3
    have N5 := Fr.snoc X5 N3 gt
    have K5 : Keep h0 h5 [t] := K3.wr W5 (Or.inl (by simp))
    have V5 : Arv Z h5 t _ .byte (8 : Int32) [(.int (lo8 ch0)), (.int (hi8 ch0)), (.int (lo8 ch1)), (.int (hi8 ch1)), (.int (0 : Int32)), (.int (0 : Int32)), (.int (0 : Int32)), (.int (0 : Int32))] (.int 0) := (by have q := A5; rw [own_nb] at q; exact q)
    exact gRetV X5 hx hlk hret (H d23_53) (by decide) (by decide) (⟨rfl, N5, by rw [e5]; exact K5, by rw [e5]; exact V5⟩)
  · exact absurd c3 (by decide)
theorem c_get_4_1 (l : Launch) (Z : State) (a0 : Array Value) (hw : ∀ d ∈ tables_1, d.before a0 Z = true) (t : Addr) (ct : ClassId) (ch0 ch1 ch2 ch3 : Int32) (h0 : Heap) (hU : U16 Z h0) (B : sA Z h0 t ct 8 [(.int (lo8 ch0)), (.int (hi8 ch0)), (.int (lo8 ch1)), (.int (hi8 ch1)), (.int (lo8 ch2)), (.int (hi8 ch2)), (.int (lo8 ch3)), (.int (hi8 ch3))]) (hch0 : r6 ch0) (hch1 : r6 ch1) (hch2 : r6 ch2) (hch3 : r6 ch3) :
    Ctr l Z mn21 jdk_52_method_5_code 2 (some .char) [] ⟨0, 0, 0, 0⟩ #[(.ref t), (.int (1 : Int32))] h0 (Just h0 (.int ch1)) := by
  refine Ctr.of (plainFor_of_name pn_6) ?_
  intro p e s m below meth c s₁ hx H hml hret hown hnm hZ hlk X0 e0
  refine Goes.cast (show entryFrame m _ _ = mkF m 0 #[.val (.ref t), .val (.int (1 : Int32))] [] from rfl) ?_
  refine gGetS X0 hx hZ hown (ow hw 92 rfl) Via.refl e0 hU.1 (H d24_0) (pc' := 3) rfl (fun T1 X1 e1 => ?_)
  refine gIfNeT X1 hx (H d24_3) (pc' := 28) (by decide) (by decide) (pn := 6) rfl (fun (c3 : ¬ (1 : Int) = (0 : Int)) => ?_) (fun (c3 : (1 : Int) = (0 : Int)) => ?_)
  · refine gLoadIN 29 X1 hx (H d24_28) rfl rfl ?_
    refine gIconst 30 X1 hx (v := (1 : Int32)) (H d24_29) rfl rfl ?_
    refine gIshl 31 X1 hx (H d24_30) rfl ?_
    show Goes p e below _ T1 (mkF m 31 #[.val (.ref t), .val (.int (1 : Int32))] [(.int (2 : Int32))])
    refine gStoreIN 32 X1 hx (H d24_31) (l' := #[.val (.ref t), .val (.int (2 : Int32))]) rfl rfl ?_
    refine gLoadAN 33 X1 hx (H d24_32) rfl rfl rfl ?_
    refine gLoadIN 34 X1 hx (H d24_33) rfl rfl ?_
    refine gIinc X1 hx (v := (1 : Int32)) (H d24_34) (l' := #[.val (.ref t), .val (.int (3 : Int32))]) (pc' := 37) rfl rfl rfl rfl ?_
    refine gBaload X1 hx hZ e1 B (j := (2 : Int32)) (v := (.int (lo8 ch1))) (by decide) (by decide) rfl (H d24_37) (pc' := 38) rfl ?_
    refine gSipush 41 X1 hx (v := (255 : Int32)) (H d24_38) rfl rfl ?_
    refine gIand 42 X1 hx (H d24_41) rfl ?_
    refine gGetS X1 hx hZ hown (ow hw 93 rfl) Via.refl e1 hU.2.1 (H d24_42) (pc' := 45) rfl (fun T2 X2 e2 => ?_)
    refine gIshl 46 X2 hx (H d24_45) rfl ?_
    refine gLoadAN 47 X2 hx (H d24_46) rfl rfl rfl ?_
    refine gLoadIN 48 X2 hx (H d24_47) rfl rfl ?_
    refine gBaload X2 hx hZ e2 B (j := (3 : Int32)) (v := (.int (hi8 ch1))) (by decide) (by decide) rfl (H d24_48) (pc' := 49) rfl ?_
    refine gSipush 52 X2 hx (v := (255 : Int32)) (H d24_49) rfl rfl ?_
    refine gIand 53 X2 hx (H d24_52) rfl ?_
    refine gGetS X2 hx hZ hown (ow hw 94 rfl) Via.refl e2 hU.2.2 (H d24_53) (pc' := 56) rfl (fun T3 X3 e3 => ?_)
    refine gIshl 57 X3 hx (H d24_56) rfl ?_
    refine gIor 58 X3 hx (H d24_57) rfl ?_
    refine gI2c 59 X3 hx (H d24_58) rfl ?_
    rw [own_u16 hch1]
    exact gRetN X3 hx hlk hret (by simp) (H d24_59) (w := ch1) (own_nc hch1) (by decide) (by decide) (⟨rfl, e3, rfl⟩)
  · exact absurd c3 (by decide)
theorem c_put_4_2 (l : Launch) (Z : State) (a0 : Array Value) (hw : ∀ d ∈ tables_1, d.before a0 Z = true) (t : Addr) (ct : ClassId) (n0 : Nat) (ch0 ch1 ch2 : Int32) (h0 : Heap) (gt : n0 ≤ t) (hU : U16 Z h0) (B : sA Z h0 t ct 8 [(.int (lo8 ch0)), (.int (hi8 ch0)), (.int (lo8 ch1)), (.int (hi8 ch1)), (.int (0 : Int32)), (.int (0 : Int32)), (.int (0 : Int32)), (.int (0 : Int32))]) :
    Ctr l Z mn28 jdk_52_method_4_code 3 none [] ⟨0, 0, 0, 0⟩ #[(.ref t), (.int (2 : Int32)), (.int ch2)] h0 (fun v h L => v = none ∧ Fr n0 L ∧ Keep h0 h [t] ∧ sA Z h t ct 8 [(.int (lo8 ch0)), (.int (hi8 ch0)), (.int (lo8 ch1)), (.int (hi8 ch1)), (.int (lo8 ch2)), (.int (hi8 ch2)), (.int (0 : Int32)), (.int (0 : Int32))]) := by
  refine Ctr.of (plainFor_of_name pn_6) ?_
  intro p e s m below meth c s₁ hx H hml hret hown hnm hZ hlk X0 e0
  refine Goes.cast (show entryFrame m _ _ = mkF m 0 #[.val (.ref t), .val (.int (2 : Int32)), .val (.int ch2)] [] from rfl) ?_
  refine gGetS X0 hx hZ hown (ow hw 92 rfl) Via.refl e0 hU.1 (H d23_0) (pc' := 3) rfl (fun T1 X1 e1 => ?_)
  refine gIfNeT X1 hx (H d23_3) (pc' := 28) (by decide) (by decide) (pn := 6) rfl (fun (c3 : ¬ (1 : Int) = (0 : Int)) => ?_) (fun (c3 : (1 : Int) = (0 : Int)) => ?_)
  · refine gLoadIN 29 X1 hx (H d23_28) rfl rfl ?_
    refine gIconst 30 X1 hx (v := (1 : Int32)) (H d23_29) rfl rfl ?_
    refine gIshl 31 X1 hx (H d23_30) rfl ?_
    show Goes p e below _ T1 (mkF m 31 #[.val (.ref t), .val (.int (2 : Int32)), .val (.int ch2)] [(.int (4 : Int32))])
    refine gStoreIN 32 X1 hx (H d23_31) (l' := #[.val (.ref t), .val (.int (4 : Int32)), .val (.int ch2)]) rfl rfl ?_
    refine gLoadAN 33 X1 hx (H d23_32) rfl rfl rfl ?_
    refine gLoadIN 34 X1 hx (H d23_33) rfl rfl ?_
    refine gIinc X1 hx (v := (1 : Int32)) (H d23_34) (l' := #[.val (.ref t), .val (.int (5 : Int32)), .val (.int ch2)]) (pc' := 37) rfl rfl rfl rfl ?_
    refine gLoadIN 38 X1 hx (H d23_37) rfl rfl ?_
    refine gGetS X1 hx hZ hown (ow hw 93 rfl) Via.refl e1 hU.2.1 (H d23_38) (pc' := 41) rfl (fun T2 X2 e2 => ?_)
    refine gIshr 42 X2 hx (H d23_41) rfl ?_
    refine gI2b 43 X2 hx (H d23_42) rfl ?_
    refine gBastore X2 hx hZ e2 (x := ((ch2 >>> ((0 : Int32) &&& 31)).toInt8.toInt32)) B (j := (4 : Int32)) (by decide) (by decide) 4 (by decide) (by simp) (H d23_43) (pc' := 44) rfl (fun T3 h3 X3 e3 W3 A3 => ?_)
    have f3_0 := hU.1.wr W3
    have f3_1 := hU.2.1.wr W3
    have f3_2 := hU.2.2.wr W3
    have zs3 : h0.size ≤ h3.size := by rw [W3.size]; exact (Nat.le_refl _)
    have N3 := Fr.snoc X3 (Fr.nil n0) gt
    have K3 : Keep h0 h3 [t] := (Keep.refl h0 [t]).wr W3 (Or.inl (by simp))
    have V3 : Arv Z h3 t _ .byte (8 : Int32) [(.int (lo8 ch0)), (.int (hi8 ch0)), (.int (lo8 ch1)), (.int (hi8 ch1)), (.int (lo8 ch2)), (.int (0 : Int32)), (.int (0 : Int32)), (.int (0 : Int32))] (.int 0) := (by have q := A3; rw [own_nb] at q; exact q)
    refine gLoadAN 45 X3 hx (H d23_44) rfl rfl rfl ?_
    refine gLoadIN 46 X3 hx (H d23_45) rfl rfl ?_
    refine gLoadIN 47 X3 hx (H d23_46) rfl rfl ?_
    refine gGetS X3 hx hZ hown (ow hw 94 rfl) Via.refl e3 f3_2 (H d23_47) (pc' := 50) rfl (fun T4 X4 e4 => ?_)
    refine gIshr 51 X4 hx (H d23_50) rfl ?_
    refine gI2b 52 X4 hx (H d23_51) rfl ?_
    refine gBastore X4 hx hZ e4 (x := ((ch2 >>> ((8 : Int32) &&& 31)).toInt8.toInt32)) V3 (j := (5 : Int32)) (by decide) (by decide) 5 (by decide) (by simp) (H d23_52) (pc' := 53) rfl (fun T5 h5 X5 e5 W5 A5 => ?_)
    have f5_0 := f3_0.wr W5
    have f5_1 := f3_1.wr W5
    have f5_2 := f3_2.wr W5
    have zs5 : h0.size ≤ h5.size := by rw [W5.size]; exact zs3
    have N5 := Fr.snoc X5 N3 gt
    have K5 : Keep h0 h5 [t] := K3.wr W5 (Or.inl (by simp))
    have V5 : Arv Z h5 t _ .byte (8 : Int32) [(.int (lo8 ch0)), (.int (hi8 ch0)), (.int (lo8 ch1)), (.int (hi8 ch1)), (.int (lo8 ch2)), (.int (hi8 ch2)), (.int (0 : Int32)), (.int (0 : Int32))] (.int 0) := (by have q := A5; rw [own_nb] at q; exact q)
    exact gRetV X5 hx hlk hret (H d23_53) (by decide) (by decide) (⟨rfl, N5, by rw [e5]; exact K5, by rw [e5]; exact V5⟩)
  · exact absurd c3 (by decide)
theorem c_get_4_2 (l : Launch) (Z : State) (a0 : Array Value) (hw : ∀ d ∈ tables_1, d.before a0 Z = true) (t : Addr) (ct : ClassId) (ch0 ch1 ch2 ch3 : Int32) (h0 : Heap) (hU : U16 Z h0) (B : sA Z h0 t ct 8 [(.int (lo8 ch0)), (.int (hi8 ch0)), (.int (lo8 ch1)), (.int (hi8 ch1)), (.int (lo8 ch2)), (.int (hi8 ch2)), (.int (lo8 ch3)), (.int (hi8 ch3))]) (hch0 : r6 ch0) (hch1 : r6 ch1) (hch2 : r6 ch2) (hch3 : r6 ch3) :
    Ctr l Z mn21 jdk_52_method_5_code 2 (some .char) [] ⟨0, 0, 0, 0⟩ #[(.ref t), (.int (2 : Int32))] h0 (Just h0 (.int ch2)) := by
  refine Ctr.of (plainFor_of_name pn_6) ?_
  intro p e s m below meth c s₁ hx H hml hret hown hnm hZ hlk X0 e0
  refine Goes.cast (show entryFrame m _ _ = mkF m 0 #[.val (.ref t), .val (.int (2 : Int32))] [] from rfl) ?_
  refine gGetS X0 hx hZ hown (ow hw 92 rfl) Via.refl e0 hU.1 (H d24_0) (pc' := 3) rfl (fun T1 X1 e1 => ?_)
  refine gIfNeT X1 hx (H d24_3) (pc' := 28) (by decide) (by decide) (pn := 6) rfl (fun (c3 : ¬ (1 : Int) = (0 : Int)) => ?_) (fun (c3 : (1 : Int) = (0 : Int)) => ?_)
  · refine gLoadIN 29 X1 hx (H d24_28) rfl rfl ?_
    refine gIconst 30 X1 hx (v := (1 : Int32)) (H d24_29) rfl rfl ?_
    refine gIshl 31 X1 hx (H d24_30) rfl ?_
    show Goes p e below _ T1 (mkF m 31 #[.val (.ref t), .val (.int (2 : Int32))] [(.int (4 : Int32))])
    refine gStoreIN 32 X1 hx (H d24_31) (l' := #[.val (.ref t), .val (.int (4 : Int32))]) rfl rfl ?_
    refine gLoadAN 33 X1 hx (H d24_32) rfl rfl rfl ?_
    refine gLoadIN 34 X1 hx (H d24_33) rfl rfl ?_
    refine gIinc X1 hx (v := (1 : Int32)) (H d24_34) (l' := #[.val (.ref t), .val (.int (5 : Int32))]) (pc' := 37) rfl rfl rfl rfl ?_
    refine gBaload X1 hx hZ e1 B (j := (4 : Int32)) (v := (.int (lo8 ch2))) (by decide) (by decide) rfl (H d24_37) (pc' := 38) rfl ?_
    refine gSipush 41 X1 hx (v := (255 : Int32)) (H d24_38) rfl rfl ?_
    refine gIand 42 X1 hx (H d24_41) rfl ?_
    refine gGetS X1 hx hZ hown (ow hw 93 rfl) Via.refl e1 hU.2.1 (H d24_42) (pc' := 45) rfl (fun T2 X2 e2 => ?_)
    refine gIshl 46 X2 hx (H d24_45) rfl ?_
    refine gLoadAN 47 X2 hx (H d24_46) rfl rfl rfl ?_
    refine gLoadIN 48 X2 hx (H d24_47) rfl rfl ?_
    refine gBaload X2 hx hZ e2 B (j := (5 : Int32)) (v := (.int (hi8 ch2))) (by decide) (by decide) rfl (H d24_48) (pc' := 49) rfl ?_
    refine gSipush 52 X2 hx (v := (255 : Int32)) (H d24_49) rfl rfl ?_
    refine gIand 53 X2 hx (H d24_52) rfl ?_
    refine gGetS X2 hx hZ hown (ow hw 94 rfl) Via.refl e2 hU.2.2 (H d24_53) (pc' := 56) rfl (fun T3 X3 e3 => ?_)
    refine gIshl 57 X3 hx (H d24_56) rfl ?_
    refine gIor 58 X3 hx (H d24_57) rfl ?_
    refine gI2c 59 X3 hx (H d24_58) rfl ?_
    rw [own_u16 hch2]
    exact gRetN X3 hx hlk hret (by simp) (H d24_59) (w := ch2) (own_nc hch2) (by decide) (by decide) (⟨rfl, e3, rfl⟩)
  · exact absurd c3 (by decide)
theorem c_put_4_3 (l : Launch) (Z : State) (a0 : Array Value) (hw : ∀ d ∈ tables_1, d.before a0 Z = true) (t : Addr) (ct : ClassId) (n0 : Nat) (ch0 ch1 ch2 ch3 : Int32) (h0 : Heap) (gt : n0 ≤ t) (hU : U16 Z h0) (B : sA Z h0 t ct 8 [(.int (lo8 ch0)), (.int (hi8 ch0)), (.int (lo8 ch1)), (.int (hi8 ch1)), (.int (lo8 ch2)), (.int (hi8 ch2)), (.int (0 : Int32)), (.int (0 : Int32))]) :
    Ctr l Z mn28 jdk_52_method_4_code 3 none [] ⟨0, 0, 0, 0⟩ #[(.ref t), (.int (3 : Int32)), (.int ch3)] h0 (fun v h L => v = none ∧ Fr n0 L ∧ Keep h0 h [t] ∧ sA Z h t ct 8 [(.int (lo8 ch0)), (.int (hi8 ch0)), (.int (lo8 ch1)), (.int (hi8 ch1)), (.int (lo8 ch2)), (.int (hi8 ch2)), (.int (lo8 ch3)), (.int (hi8 ch3))]) := by
  refine Ctr.of (plainFor_of_name pn_6) ?_
  intro p e s m below meth c s₁ hx H hml hret hown hnm hZ hlk X0 e0
  refine Goes.cast (show entryFrame m _ _ = mkF m 0 #[.val (.ref t), .val (.int (3 : Int32)), .val (.int ch3)] [] from rfl) ?_
  refine gGetS X0 hx hZ hown (ow hw 92 rfl) Via.refl e0 hU.1 (H d23_0) (pc' := 3) rfl (fun T1 X1 e1 => ?_)
  refine gIfNeT X1 hx (H d23_3) (pc' := 28) (by decide) (by decide) (pn := 6) rfl (fun (c3 : ¬ (1 : Int) = (0 : Int)) => ?_) (fun (c3 : (1 : Int) = (0 : Int)) => ?_)
  · refine gLoadIN 29 X1 hx (H d23_28) rfl rfl ?_
    refine gIconst 30 X1 hx (v := (1 : Int32)) (H d23_29) rfl rfl ?_
    refine gIshl 31 X1 hx (H d23_30) rfl ?_
    show Goes p e below _ T1 (mkF m 31 #[.val (.ref t), .val (.int (3 : Int32)), .val (.int ch3)] [(.int (6 : Int32))])
    refine gStoreIN 32 X1 hx (H d23_31) (l' := #[.val (.ref t), .val (.int (6 : Int32)), .val (.int ch3)]) rfl rfl ?_
    refine gLoadAN 33 X1 hx (H d23_32) rfl rfl rfl ?_
    refine gLoadIN 34 X1 hx (H d23_33) rfl rfl ?_
    refine gIinc X1 hx (v := (1 : Int32)) (H d23_34) (l' := #[.val (.ref t), .val (.int (7 : Int32)), .val (.int ch3)]) (pc' := 37) rfl rfl rfl rfl ?_
    refine gLoadIN 38 X1 hx (H d23_37) rfl rfl ?_
    refine gGetS X1 hx hZ hown (ow hw 93 rfl) Via.refl e1 hU.2.1 (H d23_38) (pc' := 41) rfl (fun T2 X2 e2 => ?_)
    refine gIshr 42 X2 hx (H d23_41) rfl ?_
    refine gI2b 43 X2 hx (H d23_42) rfl ?_
    refine gBastore X2 hx hZ e2 (x := ((ch3 >>> ((0 : Int32) &&& 31)).toInt8.toInt32)) B (j := (6 : Int32)) (by decide) (by decide) 6 (by decide) (by simp) (H d23_43) (pc' := 44) rfl (fun T3 h3 X3 e3 W3 A3 => ?_)
    have f3_0 := hU.1.wr W3
    have f3_1 := hU.2.1.wr W3
    have f3_2 := hU.2.2.wr W3
    have zs3 : h0.size ≤ h3.size := by rw [W3.size]; exact (Nat.le_refl _)
    have N3 := Fr.snoc X3 (Fr.nil n0) gt
    have K3 : Keep h0 h3 [t] := (Keep.refl h0 [t]).wr W3 (Or.inl (by simp))
    have V3 : Arv Z h3 t _ .byte (8 : Int32) [(.int (lo8 ch0)), (.int (hi8 ch0)), (.int (lo8 ch1)), (.int (hi8 ch1)), (.int (lo8 ch2)), (.int (hi8 ch2)), (.int (lo8 ch3)), (.int (0 : Int32))] (.int 0) := (by have q := A3; rw [own_nb] at q; exact q)
    refine gLoadAN 45 X3 hx (H d23_44) rfl rfl rfl ?_
    refine gLoadIN 46 X3 hx (H d23_45) rfl rfl ?_
    refine gLoadIN 47 X3 hx (H d23_46) rfl rfl ?_
    refine gGetS X3 hx hZ hown (ow hw 94 rfl) Via.refl e3 f3_2 (H d23_47) (pc' := 50) rfl (fun T4 X4 e4 => ?_)
    refine gIshr 51 X4 hx (H d23_50) rfl ?_
    refine gI2b 52 X4 hx (H d23_51) rfl ?_
    refine gBastore X4 hx hZ e4 (x := ((ch3 >>> ((8 : Int32) &&& 31)).toInt8.toInt32)) V3 (j := (7 : Int32)) (by decide) (by decide) 7 (by decide) (by simp) (H d23_52) (pc' := 53) rfl (fun T5 h5 X5 e5 W5 A5 => ?_)
    have f5_0 := f3_0.wr W5
    have f5_1 := f3_1.wr W5
    have f5_2 := f3_2.wr W5
    have zs5 : h0.size ≤ h5.size := by rw [W5.size]; exact zs3
    have N5 := Fr.snoc X5 N3 gt
    have K5 : Keep h0 h5 [t] := K3.wr W5 (Or.inl (by simp))
    have V5 : Arv Z h5 t _ .byte (8 : Int32) [(.int (lo8 ch0)), (.int (hi8 ch0)), (.int (lo8 ch1)), (.int (hi8 ch1)), (.int (lo8 ch2)), (.int (hi8 ch2)), (.int (lo8 ch3)), (.int (hi8 ch3))] (.int 0) := (by have q := A5; rw [own_nb] at q; exact q)
    exact gRetV X5 hx hlk hret (H d23_53) (by decide) (by decide) (⟨rfl, N5, by rw [e5]; exact K5, by rw [e5]; exact V5⟩)
  · exact absurd c3 (by decide)
theorem c_get_4_3 (l : Launch) (Z : State) (a0 : Array Value) (hw : ∀ d ∈ tables_1, d.before a0 Z = true) (t : Addr) (ct : ClassId) (ch0 ch1 ch2 ch3 : Int32) (h0 : Heap) (hU : U16 Z h0) (B : sA Z h0 t ct 8 [(.int (lo8 ch0)), (.int (hi8 ch0)), (.int (lo8 ch1)), (.int (hi8 ch1)), (.int (lo8 ch2)), (.int (hi8 ch2)), (.int (lo8 ch3)), (.int (hi8 ch3))]) (hch0 : r6 ch0) (hch1 : r6 ch1) (hch2 : r6 ch2) (hch3 : r6 ch3) :
    Ctr l Z mn21 jdk_52_method_5_code 2 (some .char) [] ⟨0, 0, 0, 0⟩ #[(.ref t), (.int (3 : Int32))] h0 (Just h0 (.int ch3)) := by
  refine Ctr.of (plainFor_of_name pn_6) ?_
  intro p e s m below meth c s₁ hx H hml hret hown hnm hZ hlk X0 e0
  refine Goes.cast (show entryFrame m _ _ = mkF m 0 #[.val (.ref t), .val (.int (3 : Int32))] [] from rfl) ?_
  refine gGetS X0 hx hZ hown (ow hw 92 rfl) Via.refl e0 hU.1 (H d24_0) (pc' := 3) rfl (fun T1 X1 e1 => ?_)
  refine gIfNeT X1 hx (H d24_3) (pc' := 28) (by decide) (by decide) (pn := 6) rfl (fun (c3 : ¬ (1 : Int) = (0 : Int)) => ?_) (fun (c3 : (1 : Int) = (0 : Int)) => ?_)
  · refine gLoadIN 29 X1 hx (H d24_28) rfl rfl ?_
    refine gIconst 30 X1 hx (v := (1 : Int32)) (H d24_29) rfl rfl ?_
    refine gIshl 31 X1 hx (H d24_30) rfl ?_
    show Goes p e below _ T1 (mkF m 31 #[.val (.ref t), .val (.int (3 : Int32))] [(.int (6 : Int32))])
    refine gStoreIN 32 X1 hx (H d24_31) (l' := #[.val (.ref t), .val (.int (6 : Int32))]) rfl rfl ?_
    refine gLoadAN 33 X1 hx (H d24_32) rfl rfl rfl ?_
    refine gLoadIN 34 X1 hx (H d24_33) rfl rfl ?_
    refine gIinc X1 hx (v := (1 : Int32)) (H d24_34) (l' := #[.val (.ref t), .val (.int (7 : Int32))]) (pc' := 37) rfl rfl rfl rfl ?_
    refine gBaload X1 hx hZ e1 B (j := (6 : Int32)) (v := (.int (lo8 ch3))) (by decide) (by decide) rfl (H d24_37) (pc' := 38) rfl ?_
    refine gSipush 41 X1 hx (v := (255 : Int32)) (H d24_38) rfl rfl ?_
    refine gIand 42 X1 hx (H d24_41) rfl ?_
    refine gGetS X1 hx hZ hown (ow hw 93 rfl) Via.refl e1 hU.2.1 (H d24_42) (pc' := 45) rfl (fun T2 X2 e2 => ?_)
    refine gIshl 46 X2 hx (H d24_45) rfl ?_
    refine gLoadAN 47 X2 hx (H d24_46) rfl rfl rfl ?_
    refine gLoadIN 48 X2 hx (H d24_47) rfl rfl ?_
    refine gBaload X2 hx hZ e2 B (j := (7 : Int32)) (v := (.int (hi8 ch3))) (by decide) (by decide) rfl (H d24_48) (pc' := 49) rfl ?_
    refine gSipush 52 X2 hx (v := (255 : Int32)) (H d24_49) rfl rfl ?_
    refine gIand 53 X2 hx (H d24_52) rfl ?_
    refine gGetS X2 hx hZ hown (ow hw 94 rfl) Via.refl e2 hU.2.2 (H d24_53) (pc' := 56) rfl (fun T3 X3 e3 => ?_)
    refine gIshl 57 X3 hx (H d24_56) rfl ?_
    refine gIor 58 X3 hx (H d24_57) rfl ?_
    refine gI2c 59 X3 hx (H d24_58) rfl ?_
    rw [own_u16 hch3]
    exact gRetN X3 hx hlk hret (by simp) (H d24_59) (w := ch3) (own_nc hch3) (by decide) (by decide) (⟨rfl, e3, rfl⟩)
  · exact absurd c3 (by decide)
theorem c_tob_4 (l : Launch) (Z : State) (a0 : Array Value) (hw : ∀ d ∈ tables_1, d.before a0 Z = true) (x : Addr) (cx : ClassId) (ch0 ch1 ch2 ch3 : Int32) (h0 : Heap) (hU : U16 Z h0) (A : Arv Z h0 x cx .char 4 [.int ch0, .int ch1, .int ch2, .int ch3] (.int 0)) (hch0 : r6 ch0) (hch1 : r6 ch1) (hch2 : r6 ch2) (hch3 : r6 ch3) :
    Ctr l Z mn29 jdk_52_method_14_code 5 (some (.array .byte)) [] ⟨2, 1, 8, 40⟩ #[(.ref x), (.int (0 : Int32)), (.int (4 : Int32))] h0 (fun v h L => ∃ (t : Addr) (ct : ClassId), v = some (.ref t) ∧ h0.size ≤ t ∧ Fr h0.size L ∧ Keep h0 h [] ∧ sA Z h t ct 8 [(.int (lo8 ch0)), (.int (hi8 ch0)), (.int (lo8 ch1)), (.int (hi8 ch1)), (.int (lo8 ch2)), (.int (hi8 ch2)), (.int (lo8 ch3)), (.int (hi8 ch3))]) := by
  refine Ctr.of (plainFor_of_name pn_6) ?_
  intro p e s m below meth c s₁ hx H hml hret hown hnm hZ hlk X0 e0
  refine Goes.cast (show entryFrame m _ _ = mkF m 0 #[.val (.ref x), .val (.int (0 : Int32)), .val (.int (4 : Int32)), .unset, .unset] [] from rfl) ?_
  refine gLoadIN 1 X0 hx (H d14_0) rfl rfl ?_
  refine gCallS X0 hx hZ (y := mn26) hown e0 (by rw [hml]; rfl) (ow hw 82 rfl) (ow hw 83 rfl) (ow hw 67 rfl) (ow hw 84 rfl) (by decide) (argsL := [(.int (4 : Int32))]) (st := []) (c_nbf_4 l Z a0 hw h0) (lenOf pd_8 rfl) (H d14_1) (pc' := 4) rfl rfl (by decide) (W := 0) (Nat.le_of_eq rfl) (by decide) (by decide) (by decide) ?_
  intro T1 v1 L1 X1 hQ1
  obtain ⟨q1, ctq1, rfl, gq1, Nq1, Kq1, Aq1⟩ := hQ1
  have N1 := Fr.app (Fr.nil h0.size) (fun y hy => Nat.le_trans (Nat.le_refl _) (Nq1 y hy))
  have K1 : Keep h0 T1.heap [] := (Keep.refl h0 []).trans Kq1 all0
  have nt1 : x ≠ q1 := Nat.ne_of_lt (Nat.lt_of_lt_of_le A.lt gq1)
  have f1_0 := A.keep Kq1 nin0
  have f1_1 := own_u16_keep hU Kq1 ns0
  refine gStoreAN 5 X1 hx (H d14_4) (l' := #[.val (.ref x), .val (.int (0 : Int32)), .val (.int (4 : Int32)), .val (.ref q1), .unset]) rfl rfl rfl ?_
  refine gIconst 6 X1 hx (v := (0 : Int32)) (H d14_5) rfl rfl ?_
  refine gStoreI 8 X1 hx (H d14_6) (l' := #[.val (.ref x), .val (.int (0 : Int32)), .val (.int (4 : Int32)), .val (.ref q1), .val (.int (0 : Int32))]) rfl rfl ?_
  refine gLoadI 10 X1 hx (H d14_8) rfl rfl ?_
  refine gLoadIN 11 X1 hx (H d14_10) rfl rfl ?_
  refine gIcmpGe X1 hx (H d14_11) (pc' := 32) (by decide) (by decide) (pn := 14) rfl (fun (c11 : (4 : Int) ≤ (0 : Int)) => ?_) (fun (c11 : (0 : Int) < (4 : Int)) => ?_)
  · exact absurd c11 (by decide)
  · refine gLoadAN 15 X1 hx (H d14_14) rfl rfl rfl ?_
    refine gLoadI 17 X1 hx (H d14_15) rfl rfl ?_
    refine gLoadAN 18 X1 hx (H d14_17) rfl rfl rfl ?_
    refine gLoadIN 19 X1 hx (H d14_18) rfl rfl ?_
    refine gCaload X1 hx hZ rfl f1_0 (j := (0 : Int32)) (v := (.int ch0)) (by decide) (by decide) rfl (H d14_19) (pc' := 20) rfl ?_
    refine gCallS X1 hx hZ (y := mn28) hown rfl (by rw [hml]; rfl) (ow hw 89 rfl) (ow hw 90 rfl) (ow hw 67 rfl) (ow hw 91 rfl) (by decide) (argsL := [(.ref q1), (.int (0 : Int32)), (.int ch0)]) (st := []) (c_put_4_0 l Z a0 hw q1 ctq1 h0.size ch0 T1.heap gq1 f1_1 Aq1) (lenOf pd_17 rfl) (H d14_20) (pc' := 23) rfl rfl (by decide) (W := 0) (Nat.le_of_eq rfl) (by decide) (by decide) (by decide) ?_
    intro T2 v2 L2 X2 hQ2
    obtain ⟨rfl, Nq2, Kq2, Aq2⟩ := hQ2
    have N2 := Fr.app N1 Nq2
    have K2 : Keep h0 T2.heap [] := K1.trans Kq2 (allS (Or.inr gq1) all0)
    have f2_0 := f1_0.keep Kq2 (ninS nt1 nin0)
    have f2_1 := own_u16_keep f1_1 Kq2 (nsS (Arv.nostat Aq1) ns0)
    refine gIinc X2 hx (v := (1 : Int32)) (H d14_23) (l' := #[.val (.ref x), .val (.int (1 : Int32)), .val (.int (4 : Int32)), .val (.ref q1), .val (.int (0 : Int32))]) (pc' := 26) rfl rfl rfl rfl ?_
    refine gIinc X2 hx (v := (1 : Int32)) (H d14_26) (l' := #[.val (.ref x), .val (.int (1 : Int32)), .val (.int (4 : Int32)), .val (.ref q1), .val (.int (1 : Int32))]) (pc' := 29) rfl rfl rfl rfl ?_
    refine gGoto X2 hx (H d14_29) (pc' := 8) (by decide) (by decide) ?_
    refine gLoadI 10 X2 hx (H d14_8) rfl rfl ?_
    refine gLoadIN 11 X2 hx (H d14_10) rfl rfl ?_
    refine gIcmpGe X2 hx (H d14_11) (pc' := 32) (by decide) (by decide) (pn := 14) rfl (fun (c11' : (4 : Int) ≤ (1 : Int)) => ?_) (fun (c11' : (1 : Int) < (4 : Int)) => ?_)
    · exact absurd c11' (by decide)
    · refine gLoadAN 15 X2 hx (H d14_14) rfl rfl rfl ?_
      refine gLoadI 17 X2 hx (H d14_15) rfl rfl ?_
      refine gLoadAN 18 X2 hx (H d14_17) rfl rfl rfl ?_
      refine gLoadIN 19 X2 hx (H d14_18) rfl rfl ?_
      refine gCaload X2 hx hZ rfl f2_0 (j := (1 : Int32)) (v := (.int ch1)) (by decide) (by decide) rfl (H d14_19) (pc' := 20) rfl ?_
      refine gCallS X2 hx hZ (y := mn28) hown rfl (by rw [hml]; rfl) (ow hw 89 rfl) (ow hw 90 rfl) (ow hw 67 rfl) (ow hw 91 rfl) (by decide) (argsL := [(.ref q1), (.int (1 : Int32)), (.int ch1)]) (st := []) (c_put_4_1 l Z a0 hw q1 ctq1 h0.size ch0 ch1 T2.heap gq1 f2_1 Aq2) (lenOf pd_17 rfl) (H d14_20) (pc' := 23) rfl rfl (by decide) (W := 0) (Nat.le_of_eq rfl) (by decide) (by decide) (by decide) ?_
      intro T3 v3 L3 X3 hQ3
      obtain ⟨rfl, Nq3, Kq3, Aq3⟩ := hQ3
      have N3 := Fr.app N2 Nq3
      have K3 : Keep h0 T3.heap [] := K2.trans Kq3 (allS (Or.inr gq1) all0)
      have f3_0 := f2_0.keep Kq3 (ninS nt1 nin0)
      have f3_1 := own_u16_keep f2_1 Kq3 (nsS (Arv.nostat Aq2) ns0)
      refine gIinc X3 hx (v := (1 : Int32)) (H d14_23) (l' := #[.val (.ref x), .val (.int (2 : Int32)), .val (.int (4 : Int32)), .val (.ref q1), .val (.int (1 : Int32))]) (pc' := 26) rfl rfl rfl rfl ?_
      refine gIinc X3 hx (v := (1 : Int32)) (H d14_26) (l' := #[.val (.ref x), .val (.int (2 : Int32)), .val (.int (4 : Int32)), .val (.ref q1), .val (.int (2 : Int32))]) (pc' := 29) rfl rfl rfl rfl ?_
      refine gGoto X3 hx (H d14_29) (pc' := 8) (by decide) (by decide) ?_
      refine gLoadI 10 X3 hx (H d14_8) rfl rfl ?_
      refine gLoadIN 11 X3 hx (H d14_10) rfl rfl ?_
      refine gIcmpGe X3 hx (H d14_11) (pc' := 32) (by decide) (by decide) (pn := 14) rfl (fun (c11'' : (4 : Int) ≤ (2 : Int)) => ?_) (fun (c11'' : (2 : Int) < (4 : Int)) => ?_)
      · exact absurd c11'' (by decide)
      · refine gLoadAN 15 X3 hx (H d14_14) rfl rfl rfl ?_
        refine gLoadI 17 X3 hx (H d14_15) rfl rfl ?_
        refine gLoadAN 18 X3 hx (H d14_17) rfl rfl rfl ?_
        refine gLoadIN 19 X3 hx (H d14_18) rfl rfl ?_
        refine gCaload X3 hx hZ rfl f3_0 (j := (2 : Int32)) (v := (.int ch2)) (by decide) (by decide) rfl (H d14_19) (pc' := 20) rfl ?_
        refine gCallS X3 hx hZ (y := mn28) hown rfl (by rw [hml]; rfl) (ow hw 89 rfl) (ow hw 90 rfl) (ow hw 67 rfl) (ow hw 91 rfl) (by decide) (argsL := [(.ref q1), (.int (2 : Int32)), (.int ch2)]) (st := []) (c_put_4_2 l Z a0 hw q1 ctq1 h0.size ch0 ch1 ch2 T3.heap gq1 f3_1 Aq3) (lenOf pd_17 rfl) (H d14_20) (pc' := 23) rfl rfl (by decide) (W := 0) (Nat.le_of_eq rfl) (by decide) (by decide) (by decide) ?_
        intro T4 v4 L4 X4 hQ4
        obtain ⟨rfl, Nq4, Kq4, Aq4⟩ := hQ4
        have N4 := Fr.app N3 Nq4
        have K4 : Keep h0 T4.heap [] := K3.trans Kq4 (allS (Or.inr gq1) all0)
        have f4_0 := f3_0.keep Kq4 (ninS nt1 nin0)
        have f4_1 := own_u16_keep f3_1 Kq4 (nsS (Arv.nostat Aq3) ns0)
        refine gIinc X4 hx (v := (1 : Int32)) (H d14_23) (l' := #[.val (.ref x), .val (.int (3 : Int32)), .val (.int (4 : Int32)), .val (.ref q1), .val (.int (2 : Int32))]) (pc' := 26) rfl rfl rfl rfl ?_
        refine gIinc X4 hx (v := (1 : Int32)) (H d14_26) (l' := #[.val (.ref x), .val (.int (3 : Int32)), .val (.int (4 : Int32)), .val (.ref q1), .val (.int (3 : Int32))]) (pc' := 29) rfl rfl rfl rfl ?_
        refine gGoto X4 hx (H d14_29) (pc' := 8) (by decide) (by decide) ?_
        refine gLoadI 10 X4 hx (H d14_8) rfl rfl ?_
        refine gLoadIN 11 X4 hx (H d14_10) rfl rfl ?_
        refine gIcmpGe X4 hx (H d14_11) (pc' := 32) (by decide) (by decide) (pn := 14) rfl (fun (c11''' : (4 : Int) ≤ (3 : Int)) => ?_) (fun (c11''' : (3 : Int) < (4 : Int)) => ?_)
        · exact absurd c11''' (by decide)
        · refine gLoadAN 15 X4 hx (H d14_14) rfl rfl rfl ?_
          refine gLoadI 17 X4 hx (H d14_15) rfl rfl ?_
          refine gLoadAN 18 X4 hx (H d14_17) rfl rfl rfl ?_
          refine gLoadIN 19 X4 hx (H d14_18) rfl rfl ?_
          refine gCaload X4 hx hZ rfl f4_0 (j := (3 : Int32)) (v := (.int ch3)) (by decide) (by decide) rfl (H d14_19) (pc' := 20) rfl ?_
          refine gCallS X4 hx hZ (y := mn28) hown rfl (by rw [hml]; rfl) (ow hw 89 rfl) (ow hw 90 rfl) (ow hw 67 rfl) (ow hw 91 rfl) (by decide) (argsL := [(.ref q1), (.int (3 : Int32)), (.int ch3)]) (st := []) (c_put_4_3 l Z a0 hw q1 ctq1 h0.size ch0 ch1 ch2 ch3 T4.heap gq1 f4_1 Aq4) (lenOf pd_17 rfl) (H d14_20) (pc' := 23) rfl rfl (by decide) (W := 0) (Nat.le_of_eq rfl) (by decide) (by decide) (by decide) ?_
          intro T5 v5 L5 X5 hQ5
          obtain ⟨rfl, Nq5, Kq5, Aq5⟩ := hQ5
          have N5 := Fr.app N4 Nq5
          have K5 : Keep h0 T5.heap [] := K4.trans Kq5 (allS (Or.inr gq1) all0)
          have f5_0 := f4_0.keep Kq5 (ninS nt1 nin0)
          have f5_1 := own_u16_keep f4_1 Kq5 (nsS (Arv.nostat Aq4) ns0)
          refine gIinc X5 hx (v := (1 : Int32)) (H d14_23) (l' := #[.val (.ref x), .val (.int (4 : Int32)), .val (.int (4 : Int32)), .val (.ref q1), .val (.int (3 : Int32))]) (pc' := 26) rfl rfl rfl rfl ?_
          refine gIinc X5 hx (v := (1 : Int32)) (H d14_26) (l' := #[.val (.ref x), .val (.int (4 : Int32)), .val (.int (4 : Int32)), .val (.ref q1), .val (.int (4 : Int32))]) (pc' := 29) rfl rfl rfl rfl ?_
          refine gGoto X5 hx (H d14_29) (pc' := 8) (by decide) (by decide) ?_
          refine gLoadI 10 X5 hx (H d14_8) rfl rfl ?_
          refine gLoadIN 11 X5 hx (H d14_10) rfl rfl ?_
          refine gIcmpGe X5 hx (H d14_11) (pc' := 32) (by decide) (by decide) (pn := 14) rfl (fun (c11'''' : (4 : Int) ≤ (4 : Int)) => ?_) (fun (c11'''' : (4 : Int) < (4 : Int)) => ?_)
          · refine gLoadAN 33 X5 hx (H d14_32) rfl rfl rfl ?_
            exact gRetA X5 hx hlk hret rfl rfl (H d14_33) (by decide) (by decide) (⟨q1, ctq1, rfl, gq1, N5, K5, Aq5⟩)
          · exact absurd c11'''' (by decide)
theorem c_cui_4 (l : Launch) (Z : State) (a0 : Array Value) (hw : ∀ d ∈ tables_1, d.before a0 Z = true) (x t : Addr) (cx ct : ClassId) (n0 : Nat) (ch0 ch1 ch2 ch3 : Int32) (h0 : Heap) (gt : n0 ≤ t) (hne : x ≠ t) (A : Arv Z h0 x cx .char 4 [.int ch0, .int ch1, .int ch2, .int ch3] (.int 0)) (B : Arv Z h0 t ct .byte 4 [.int 0, .int 0, .int 0, .int 0] (.int 0)) (hbig : 255 < ch0.toInt ∨ 255 < ch1.toInt ∨ 255 < ch2.toInt ∨ 255 < ch3.toInt) :
    Ctr l Z mn20 jdk_52_method_21_code 7 (some .int) [] ⟨0, 0, 0, 0⟩ #[(.ref x), (.int (0 : Int32)), (.ref t), (.int (0 : Int32)), (.int (4 : Int32))] h0 (fun v h L => ∃ k : Int32, v = some (.int k) ∧ Fr n0 L ∧ Keep h0 h [t] ∧ ((k = 0 ∧ 255 < ch0.toInt) ∨ (k = 1 ∧ 255 < ch1.toInt) ∨ (k = 2 ∧ 255 < ch2.toInt) ∨ (k = 3 ∧ 255 < ch3.toInt))) := by
  refine Ctr.of (plainFor_of_name pn_6) ?_
  intro p e s m below meth c s₁ hx H hml hret hown hnm hZ hlk X0 e0
  refine Goes.cast (show entryFrame m _ _ = mkF m 0 #[.val (.ref x), .val (.int (0 : Int32)), .val (.ref t), .val (.int (0 : Int32)), .val (.int (4 : Int32)), .unset, .unset] [] from rfl) ?_
  refine gIconst 1 X0 hx (v := (0 : Int32)) (H d17_0) rfl rfl ?_
  refine gStoreI 3 X0 hx (H d17_1) (l' := #[.val (.ref x), .val (.int (0 : Int32)), .val (.ref t), .val (.int (0 : Int32)), .val (.int (4 : Int32)), .val (.int (0 : Int32)), .unset]) rfl rfl ?_
  refine gLoadI 5 X0 hx (H d17_3) rfl rfl ?_
  refine gLoadI 7 X0 hx (H d17_5) rfl rfl ?_
  refine gIcmpGe X0 hx (H d17_7) (pc' := 44) (by decide) (by decide) (pn := 10) rfl (fun (c7 : (4 : Int) ≤ (0 : Int)) => ?_) (fun (c7 : (0 : Int) < (4 : Int)) => ?_)
  · exact absurd c7 (by decide)
  · refine gLoadAN 11 X0 hx (H d17_10) rfl rfl rfl ?_
    refine gLoadIN 12 X0 hx (H d17_11) rfl rfl ?_
    refine gCaload X0 hx hZ e0 A (j := (0 : Int32)) (v := (.int ch0)) (by decide) (by decide) rfl (H d17_12) (pc' := 13) rfl ?_
    refine gStoreI 15 X0 hx (H d17_13) (l' := #[.val (.ref x), .val (.int (0 : Int32)), .val (.ref t), .val (.int (0 : Int32)), .val (.int (4 : Int32)), .val (.int (0 : Int32)), .val (.int ch0)]) rfl rfl ?_
    refine gLoadI 17 X0 hx (H d17_15) rfl rfl ?_
    refine gSipush 20 X0 hx (v := (255 : Int32)) (H d17_17) rfl rfl ?_
    refine gIcmpLe X0 hx (H d17_20) (pc' := 26) (by decide) (by decide) (pn := 23) rfl (fun (c20 : ch0.toInt ≤ (255 : Int)) => ?_) (fun (c20 : (255 : Int) < ch0.toInt) => ?_)
    · refine gLoadAN 27 X0 hx (H d17_26) rfl rfl rfl ?_
      refine gLoadIN 28 X0 hx (H d17_27) rfl rfl ?_
      refine gLoadI 30 X0 hx (H d17_28) rfl rfl ?_
      refine gI2b 31 X0 hx (H d17_30) rfl ?_
      refine gBastore X0 hx hZ e0 (x := (ch0.toInt8.toInt32)) B (j := (0 : Int32)) (by decide) (by decide) 0 (by decide) (by simp) (H d17_31) (pc' := 32) rfl (fun T1 h1 X1 e1 W1 A1 => ?_)
      have f1_0 := A.other W1 hne
      have zs1 : h0.size ≤ h1.size := by rw [W1.size]; exact (Nat.le_refl _)
      have N1 := Fr.snoc X1 (Fr.nil n0) gt
      have K1 : Keep h0 h1 [t] := (Keep.refl h0 [t]).wr W1 (Or.inl (by simp))
      have V1 : Arv Z h1 t _ .byte (4 : Int32) [(.int (ch0.toInt8.toInt32)), (.int (0 : Int32)), (.int (0 : Int32)), (.int (0 : Int32))] (.int 0) := (by have q := A1; rw [own_nb] at q; exact q)
      refine gIinc X1 hx (v := (1 : Int32)) (H d17_32) (l' := #[.val (.ref x), .val (.int (1 : Int32)), .val (.ref t), .val (.int (0 : Int32)), .val (.int (4 : Int32)), .val (.int (0 : Int32)), .val (.int ch0)]) (pc' := 35) rfl rfl rfl rfl ?_
      refine gIinc X1 hx (v := (1 : Int32)) (H d17_35) (l' := #[.val (.ref x), .val (.int (1 : Int32)), .val (.ref t), .val (.int (1 : Int32)), .val (.int (4 : Int32)), .val (.int (0 : Int32)), .val (.int ch0)]) (pc' := 38) rfl rfl rfl rfl ?_
      refine gIinc X1 hx (v := (1 : Int32)) (H d17_38) (l' := #[.val (.ref x), .val (.int (1 : Int32)), .val (.ref t), .val (.int (1 : Int32)), .val (.int (4 : Int32)), .val (.int (1 : Int32)), .val (.int ch0)]) (pc' := 41) rfl rfl rfl rfl ?_
      refine gGoto X1 hx (H d17_41) (pc' := 3) (by decide) (by decide) ?_
      refine gLoadI 5 X1 hx (H d17_3) rfl rfl ?_
      refine gLoadI 7 X1 hx (H d17_5) rfl rfl ?_
      refine gIcmpGe X1 hx (H d17_7) (pc' := 44) (by decide) (by decide) (pn := 10) rfl (fun (c7' : (4 : Int) ≤ (1 : Int)) => ?_) (fun (c7' : (1 : Int) < (4 : Int)) => ?_)
      · exact absurd c7' (by decide)
      · refine gLoadAN 11 X1 hx (H d17_10) rfl rfl rfl ?_
        refine gLoadIN 12 X1 hx (H d17_11) rfl rfl ?_
        refine gCaload X1 hx hZ e1 f1_0 (j := (1 : Int32)) (v := (.int ch1)) (by decide) (by decide) rfl (H d17_12) (pc' := 13) rfl ?_
        refine gStoreI 15 X1 hx (H d17_13) (l' := #[.val (.ref x), .val (.int (1 : Int32)), .val (.ref t), .val (.int (1 : Int32)), .val (.int (4 : Int32)), .val (.int (1 : Int32)), .val (.int ch1)]) rfl rfl ?_
        refine gLoadI 17 X1 hx (H d17_15) rfl rfl ?_
        refine gSipush 20 X1 hx (v := (255 : Int32)) (H d17_17) rfl rfl ?_
        refine gIcmpLe X1 hx (H d17_20) (pc' := 26) (by decide) (by decide) (pn := 23) rfl (fun (c20' : ch1.toInt ≤ (255 : Int)) => ?_) (fun (c20' : (255 : Int) < ch1.toInt) => ?_)
        · refine gLoadAN 27 X1 hx (H d17_26) rfl rfl rfl ?_
          refine gLoadIN 28 X1 hx (H d17_27) rfl rfl ?_
          refine gLoadI 30 X1 hx (H d17_28) rfl rfl ?_
          refine gI2b 31 X1 hx (H d17_30) rfl ?_
          refine gBastore X1 hx hZ e1 (x := (ch1.toInt8.toInt32)) V1 (j := (1 : Int32)) (by decide) (by decide) 1 (by decide) (by simp) (H d17_31) (pc' := 32) rfl (fun T2 h2 X2 e2 W2 A2 => ?_)
          have f2_0 := f1_0.other W2 hne
          have zs2 : h0.size ≤ h2.size := by rw [W2.size]; exact zs1
          have N2 := Fr.snoc X2 N1 gt
          have K2 : Keep h0 h2 [t] := K1.wr W2 (Or.inl (by simp))
          have V2 : Arv Z h2 t _ .byte (4 : Int32) [(.int (ch0.toInt8.toInt32)), (.int (ch1.toInt8.toInt32)), (.int (0 : Int32)), (.int (0 : Int32))] (.int 0) := (by have q := A2; rw [own_nb] at q; exact q)
          refine gIinc X2 hx (v := (1 : Int32)) (H d17_32) (l' := #[.val (.ref x), .val (.int (2 : Int32)), .val (.ref t), .val (.int (1 : Int32)), .val (.int (4 : Int32)), .val (.int (1 : Int32)), .val (.int ch1)]) (pc' := 35) rfl rfl rfl rfl ?_
          refine gIinc X2 hx (v := (1 : Int32)) (H d17_35) (l' := #[.val (.ref x), .val (.int (2 : Int32)), .val (.ref t), .val (.int (2 : Int32)), .val (.int (4 : Int32)), .val (.int (1 : Int32)), .val (.int ch1)]) (pc' := 38) rfl rfl rfl rfl ?_
          refine gIinc X2 hx (v := (1 : Int32)) (H d17_38) (l' := #[.val (.ref x), .val (.int (2 : Int32)), .val (.ref t), .val (.int (2 : Int32)), .val (.int (4 : Int32)), .val (.int (2 : Int32)), .val (.int ch1)]) (pc' := 41) rfl rfl rfl rfl ?_
          refine gGoto X2 hx (H d17_41) (pc' := 3) (by decide) (by decide) ?_
          refine gLoadI 5 X2 hx (H d17_3) rfl rfl ?_
          refine gLoadI 7 X2 hx (H d17_5) rfl rfl ?_
          refine gIcmpGe X2 hx (H d17_7) (pc' := 44) (by decide) (by decide) (pn := 10) rfl (fun (c7'' : (4 : Int) ≤ (2 : Int)) => ?_) (fun (c7'' : (2 : Int) < (4 : Int)) => ?_)
          · exact absurd c7'' (by decide)
          · refine gLoadAN 11 X2 hx (H d17_10) rfl rfl rfl ?_
            refine gLoadIN 12 X2 hx (H d17_11) rfl rfl ?_
            refine gCaload X2 hx hZ e2 f2_0 (j := (2 : Int32)) (v := (.int ch2)) (by decide) (by decide) rfl (H d17_12) (pc' := 13) rfl ?_
            refine gStoreI 15 X2 hx (H d17_13) (l' := #[.val (.ref x), .val (.int (2 : Int32)), .val (.ref t), .val (.int (2 : Int32)), .val (.int (4 : Int32)), .val (.int (2 : Int32)), .val (.int ch2)]) rfl rfl ?_
            refine gLoadI 17 X2 hx (H d17_15) rfl rfl ?_
            refine gSipush 20 X2 hx (v := (255 : Int32)) (H d17_17) rfl rfl ?_
            refine gIcmpLe X2 hx (H d17_20) (pc' := 26) (by decide) (by decide) (pn := 23) rfl (fun (c20'' : ch2.toInt ≤ (255 : Int)) => ?_) (fun (c20'' : (255 : Int) < ch2.toInt) => ?_)
            · refine gLoadAN 27 X2 hx (H d17_26) rfl rfl rfl ?_
              refine gLoadIN 28 X2 hx (H d17_27) rfl rfl ?_
              refine gLoadI 30 X2 hx (H d17_28) rfl rfl ?_
              refine gI2b 31 X2 hx (H d17_30) rfl ?_
              refine gBastore X2 hx hZ e2 (x := (ch2.toInt8.toInt32)) V2 (j := (2 : Int32)) (by decide) (by decide) 2 (by decide) (by simp) (H d17_31) (pc' := 32) rfl (fun T3 h3 X3 e3 W3 A3 => ?_)
              have f3_0 := f2_0.other W3 hne
              have zs3 : h0.size ≤ h3.size := by rw [W3.size]; exact zs2
              have N3 := Fr.snoc X3 N2 gt
              have K3 : Keep h0 h3 [t] := K2.wr W3 (Or.inl (by simp))
              have V3 : Arv Z h3 t _ .byte (4 : Int32) [(.int (ch0.toInt8.toInt32)), (.int (ch1.toInt8.toInt32)), (.int (ch2.toInt8.toInt32)), (.int (0 : Int32))] (.int 0) := (by have q := A3; rw [own_nb] at q; exact q)
              refine gIinc X3 hx (v := (1 : Int32)) (H d17_32) (l' := #[.val (.ref x), .val (.int (3 : Int32)), .val (.ref t), .val (.int (2 : Int32)), .val (.int (4 : Int32)), .val (.int (2 : Int32)), .val (.int ch2)]) (pc' := 35) rfl rfl rfl rfl ?_
              refine gIinc X3 hx (v := (1 : Int32)) (H d17_35) (l' := #[.val (.ref x), .val (.int (3 : Int32)), .val (.ref t), .val (.int (3 : Int32)), .val (.int (4 : Int32)), .val (.int (2 : Int32)), .val (.int ch2)]) (pc' := 38) rfl rfl rfl rfl ?_
              refine gIinc X3 hx (v := (1 : Int32)) (H d17_38) (l' := #[.val (.ref x), .val (.int (3 : Int32)), .val (.ref t), .val (.int (3 : Int32)), .val (.int (4 : Int32)), .val (.int (3 : Int32)), .val (.int ch2)]) (pc' := 41) rfl rfl rfl rfl ?_
              refine gGoto X3 hx (H d17_41) (pc' := 3) (by decide) (by decide) ?_
              refine gLoadI 5 X3 hx (H d17_3) rfl rfl ?_
              refine gLoadI 7 X3 hx (H d17_5) rfl rfl ?_
              refine gIcmpGe X3 hx (H d17_7) (pc' := 44) (by decide) (by decide) (pn := 10) rfl (fun (c7''' : (4 : Int) ≤ (3 : Int)) => ?_) (fun (c7''' : (3 : Int) < (4 : Int)) => ?_)
              · exact absurd c7''' (by decide)
              · refine gLoadAN 11 X3 hx (H d17_10) rfl rfl rfl ?_
                refine gLoadIN 12 X3 hx (H d17_11) rfl rfl ?_
                refine gCaload X3 hx hZ e3 f3_0 (j := (3 : Int32)) (v := (.int ch3)) (by decide) (by decide) rfl (H d17_12) (pc' := 13) rfl ?_
                refine gStoreI 15 X3 hx (H d17_13) (l' := #[.val (.ref x), .val (.int (3 : Int32)), .val (.ref t), .val (.int (3 : Int32)), .val (.int (4 : Int32)), .val (.int (3 : Int32)), .val (.int ch3)]) rfl rfl ?_
                refine gLoadI 17 X3 hx (H d17_15) rfl rfl ?_
                refine gSipush 20 X3 hx (v := (255 : Int32)) (H d17_17) rfl rfl ?_
                refine gIcmpLe X3 hx (H d17_20) (pc' := 26) (by decide) (by decide) (pn := 23) rfl (fun (c20''' : ch3.toInt ≤ (255 : Int)) => ?_) (fun (c20''' : (255 : Int) < ch3.toInt) => ?_)
                · exact absurd hbig (by omega)
                · refine gLoadI 25 X3 hx (H d17_23) rfl rfl ?_
                  exact gRetI X3 hx hlk hret (H d17_25) (by decide) (by decide) (⟨(3 : Int32), rfl, N3, by rw [e3]; exact K3, Or.inr (Or.inr (Or.inr (⟨rfl, c20'''⟩)))⟩)
            · refine gLoadI 25 X2 hx (H d17_23) rfl rfl ?_
              exact gRetI X2 hx hlk hret (H d17_25) (by decide) (by decide) (⟨(2 : Int32), rfl, N2, by rw [e2]; exact K2, Or.inr (Or.inr (Or.inl (⟨rfl, c20''⟩)))⟩)
        · refine gLoadI 25 X1 hx (H d17_23) rfl rfl ?_
          exact gRetI X1 hx hlk hret (H d17_25) (by decide) (by decide) (⟨(1 : Int32), rfl, N1, by rw [e1]; exact K1, Or.inr (Or.inl (⟨rfl, c20'⟩))⟩)
    · refine gLoadI 25 X0 hx (H d17_23) rfl rfl ?_
      exact gRetI X0 hx hlk hret (H d17_25) (by decide) (by decide) (⟨(0 : Int32), rfl, (Fr.nil n0), by rw [e0]; exact (Keep.refl h0 [t]), Or.inl (⟨rfl, c20⟩)⟩)
theorem c_cuo_4 (l : Launch) (Z : State) (a0 : Array Value) (hw : ∀ d ∈ tables_1, d.before a0 Z = true) (x : Addr) (cx : ClassId) (ch0 ch1 ch2 ch3 : Int32) (h0 : Heap) (hU : U16 Z h0) (A : Arv Z h0 x cx .char 4 [.int ch0, .int ch1, .int ch2, .int ch3] (.int 0)) (hch0 : r6 ch0) (hch1 : r6 ch1) (hch2 : r6 ch2) (hch3 : r6 ch3) (hbig : 255 < ch0.toInt ∨ 255 < ch1.toInt ∨ 255 < ch2.toInt ∨ 255 < ch3.toInt) :
    Ctr l Z mn19 jdk_52_method_16_code 6 (some (.array .byte)) [] ⟨3, 2, 12, 60⟩ #[(.ref x), (.int (0 : Int32)), (.int (4 : Int32))] h0 (fun v h L => ∃ (t : Addr) (ct : ClassId), v = some (.ref t) ∧ h0.size ≤ t ∧ Fr h0.size L ∧ Keep h0 h [] ∧ sA Z h t ct 8 [(.int (lo8 ch0)), (.int (hi8 ch0)), (.int (lo8 ch1)), (.int (hi8 ch1)), (.int (lo8 ch2)), (.int (hi8 ch2)), (.int (lo8 ch3)), (.int (hi8 ch3))]) := by
  refine Ctr.of (plainFor_of_name pn_6) ?_
  intro p e s m below meth c s₁ hx H hml hret hown hnm hZ hlk X0 e0
  refine Goes.cast (show entryFrame m _ _ = mkF m 0 #[.val (.ref x), .val (.int (0 : Int32)), .val (.int (4 : Int32)), .unset, .unset, .unset] [] from rfl) ?_
  refine gLoadIN 1 X0 hx (H d16_0) rfl rfl ?_
  refine gNewP X0 hx hZ (ow hw 20 rfl) e0 (n := (4 : Int32)) (H d16_1) (by decide) (cap := 4) (by decide) (by decide) (by decide) (by decide) 4 (pc' := 3) rfl (fun T1 h1 b1 ck1 X1 e1 g1 E1 A1 => ?_)
  have ne_x_b1 : x ≠ b1 := Nat.ne_of_lt (Nat.lt_of_lt_of_eq A.lt g1.symm)
  have f1_0 := A.ext E1
  have f1_1 := hU.ext E1
  have sz_b1 : h0.size ≤ b1 := Nat.le_trans (Nat.le_refl _) (Nat.le_of_eq g1.symm)
  have zs1 : h0.size ≤ h1.size := Nat.le_trans (Nat.le_refl _) E1.1
  have K1 : Keep h0 h1 [] := (Keep.refl h0 []).ext E1
  have V1 : Arv Z h1 b1 ck1 .byte (4 : Int32) [(.int (0 : Int32)), (.int (0 : Int32)), (.int (0 : Int32)), (.int (0 : Int32))] (.int (0 : Int32)) := A1
  refine gStoreAN 4 X1 hx (H d16_3) (l' := #[.val (.ref x), .val (.int (0 : Int32)), .val (.int (4 : Int32)), .val (.ref b1), .unset, .unset]) rfl rfl rfl ?_
  refine gLoadAN 5 X1 hx (H d16_4) rfl rfl rfl ?_
  refine gLoadIN 6 X1 hx (H d16_5) rfl rfl ?_
  refine gLoadAN 7 X1 hx (H d16_6) rfl rfl rfl ?_
  refine gIconst 8 X1 hx (v := (0 : Int32)) (H d16_7) rfl rfl ?_
  refine gLoadIN 9 X1 hx (H d16_8) rfl rfl ?_
  refine gCallS X1 hx hZ (y := mn20) hown e1 (by rw [hml]; rfl) (ow hw 69 rfl) (ow hw 70 rfl) (ow hw 67 rfl) (ow hw 71 rfl) (by decide) (argsL := [(.ref x), (.int (0 : Int32)), (.ref b1), (.int (0 : Int32)), (.int (4 : Int32))]) (st := []) (c_cui_4 l Z a0 hw x b1 cx ck1 h0.size ch0 ch1 ch2 ch3 h1 sz_b1 ne_x_b1 f1_0 V1 hbig) (lenOf pd_22 rfl) (H d16_9) (pc' := 12) rfl rfl (by decide) (W := 0) (Nat.le_of_eq rfl) (by decide) (by decide) (by decide) ?_
  intro T2 v2 L2 X2 hQ2
  obtain ⟨kk, rfl, Nq2, Kq2, hkk⟩ := hQ2
  have N2 := Fr.app (Fr.nil h0.size) Nq2
  have K2 : Keep h0 T2.heap [] := K1.trans Kq2 (allS (Or.inr sz_b1) all0)
  have f2_0 := f1_0.keep Kq2 (ninS ne_x_b1 nin0)
  have f2_1 := own_u16_keep f1_1 Kq2 (nsS (Arv.nostat V1) ns0)
  have zs2 := Nat.le_trans zs1 Kq2.1
  rcases hkk with ⟨rfl, hk⟩ | ⟨rfl, hk⟩ | ⟨rfl, hk⟩ | ⟨rfl, hk⟩
  · refine gStoreI 14 X2 hx (H d16_12) (l' := #[.val (.ref x), .val (.int (0 : Int32)), .val (.int (4 : Int32)), .val (.ref b1), .val (.int (0 : Int32)), .unset]) rfl rfl ?_
    refine gLoadI 16 X2 hx (H d16_14) rfl rfl ?_
    refine gLoadIN 17 X2 hx (H d16_16) rfl rfl ?_
    refine gIcmpEqT X2 hx (H d16_17) (pc' := 57) (by decide) (by decide) (pn := 20) rfl (fun (c17 : (0 : Int) = (4 : Int)) => ?_) (fun (c17 : ¬ (0 : Int) = (4 : Int)) => ?_)
    · exact absurd c17 (by decide)
    · refine gLoadAN 21 X2 hx (H d16_20) rfl rfl rfl ?_
      refine gLoadIN 22 X2 hx (H d16_21) rfl rfl ?_
      refine gLoadIN 23 X2 hx (H d16_22) rfl rfl ?_
      refine gCallS X2 hx hZ (y := mn29) hown rfl (by rw [hml]; rfl) (ow hw 79 rfl) (ow hw 80 rfl) (ow hw 67 rfl) (ow hw 81 rfl) (by decide) (argsL := [(.ref x), (.int (0 : Int32)), (.int (4 : Int32))]) (st := []) (c_tob_4 l Z a0 hw x cx ch0 ch1 ch2 ch3 T2.heap f2_1 f2_0 hch0 hch1 hch2 hch3) (lenOf pd_20 rfl) (H d16_23) (pc' := 26) rfl rfl (by decide) (W := 0) (Nat.le_of_eq rfl) (by decide) (by decide) (by decide) ?_
      intro T3 v3 L3 X3 hQ3
      obtain ⟨q3, ctq3, rfl, gq3, Nq3, Kq3, Aq3⟩ := hQ3
      have N3 := Fr.app N2 (fun y hy => Nat.le_trans zs2 (Nq3 y hy))
      have K3 : Keep h0 T3.heap [] := K2.trans Kq3 all0
      have f3_0 := f2_0.keep Kq3 nin0
      have f3_1 := own_u16_keep f2_1 Kq3 ns0
      have gz3 := Nat.le_trans zs2 gq3
      refine gStoreA 28 X3 hx (H d16_26) (l' := #[.val (.ref x), .val (.int (0 : Int32)), .val (.int (4 : Int32)), .val (.ref b1), .val (.int (0 : Int32)), .val (.ref q3)]) rfl rfl rfl ?_
      refine gLoadA 30 X3 hx (H d16_28) rfl rfl rfl ?_
      refine gLoadI 32 X3 hx (H d16_30) rfl rfl ?_
      refine gCallSJ X3 hx hZ (y := mn21) hown rfl (by rw [hml]; rfl) (ow hw 95 rfl) (ow hw 96 rfl) (ow hw 67 rfl) (ow hw 97 rfl) (by decide) (argsL := [(.ref q3), (.int (0 : Int32))]) (st := []) (c_get_4_0 l Z a0 hw q3 ctq3 ch0 ch1 ch2 ch3 T3.heap f3_1 Aq3 hch0 hch1 hch2 hch3) (lenOf pd_16 rfl) (H d16_32) (pc' := 35) rfl rfl rfl rfl (by decide) (W := 0) (Nat.le_of_eq rfl) (by decide) (by decide) (by decide) ?_
      intro T4 X4 e4
      refine gSipush 38 X4 hx (v := (255 : Int32)) (H d16_35) rfl rfl ?_
      refine gIcmpGt X4 hx (H d16_38) (pc' := 54) (by decide) (by decide) (pn := 41) rfl (fun (c38 : (255 : Int) < ch0.toInt) => ?_) (fun (c38 : ch0.toInt ≤ (255 : Int)) => ?_)
      · refine gLoadA 56 X4 hx (H d16_54) rfl rfl rfl ?_
        exact gRetA X4 hx hlk hret rfl rfl (H d16_56) (by decide) (by decide) (⟨q3, ctq3, rfl, gz3, N3, by rw [e4]; exact K3, by rw [e4]; exact Aq3⟩)
      · exact absurd c38 (by omega)
  · refine gStoreI 14 X2 hx (H d16_12) (l' := #[.val (.ref x), .val (.int (0 : Int32)), .val (.int (4 : Int32)), .val (.ref b1), .val (.int (1 : Int32)), .unset]) rfl rfl ?_
    refine gLoadI 16 X2 hx (H d16_14) rfl rfl ?_
    refine gLoadIN 17 X2 hx (H d16_16) rfl rfl ?_
    refine gIcmpEqT X2 hx (H d16_17) (pc' := 57) (by decide) (by decide) (pn := 20) rfl (fun (c17 : (1 : Int) = (4 : Int)) => ?_) (fun (c17 : ¬ (1 : Int) = (4 : Int)) => ?_)
    · exact absurd c17 (by decide)
    · refine gLoadAN 21 X2 hx (H d16_20) rfl rfl rfl ?_
      refine gLoadIN 22 X2 hx (H d16_21) rfl rfl ?_
      refine gLoadIN 23 X2 hx (H d16_22) rfl rfl ?_
      refine gCallS X2 hx hZ (y := mn29) hown rfl (by rw [hml]; rfl) (ow hw 79 rfl) (ow hw 80 rfl) (ow hw 67 rfl) (ow hw 81 rfl) (by decide) (argsL := [(.ref x), (.int (0 : Int32)), (.int (4 : Int32))]) (st := []) (c_tob_4 l Z a0 hw x cx ch0 ch1 ch2 ch3 T2.heap f2_1 f2_0 hch0 hch1 hch2 hch3) (lenOf pd_20 rfl) (H d16_23) (pc' := 26) rfl rfl (by decide) (W := 0) (Nat.le_of_eq rfl) (by decide) (by decide) (by decide) ?_
      intro T5 v5 L5 X5 hQ5
      obtain ⟨q5, ctq5, rfl, gq5, Nq5, Kq5, Aq5⟩ := hQ5
      have N5 := Fr.app N2 (fun y hy => Nat.le_trans zs2 (Nq5 y hy))
      have K5 : Keep h0 T5.heap [] := K2.trans Kq5 all0
      have f5_0 := f2_0.keep Kq5 nin0
      have f5_1 := own_u16_keep f2_1 Kq5 ns0
      have gz5 := Nat.le_trans zs2 gq5
      refine gStoreA 28 X5 hx (H d16_26) (l' := #[.val (.ref x), .val (.int (0 : Int32)), .val (.int (4 : Int32)), .val (.ref b1), .val (.int (1 : Int32)), .val (.ref q5)]) rfl rfl rfl ?_
      refine gLoadA 30 X5 hx (H d16_28) rfl rfl rfl ?_
      refine gLoadI 32 X5 hx (H d16_30) rfl rfl ?_
      refine gCallSJ X5 hx hZ (y := mn21) hown rfl (by rw [hml]; rfl) (ow hw 95 rfl) (ow hw 96 rfl) (ow hw 67 rfl) (ow hw 97 rfl) (by decide) (argsL := [(.ref q5), (.int (1 : Int32))]) (st := []) (c_get_4_1 l Z a0 hw q5 ctq5 ch0 ch1 ch2 ch3 T5.heap f5_1 Aq5 hch0 hch1 hch2 hch3) (lenOf pd_16 rfl) (H d16_32) (pc' := 35) rfl rfl rfl rfl (by decide) (W := 0) (Nat.le_of_eq rfl) (by decide) (by decide) (by decide) ?_
      intro T6 X6 e6
      refine gSipush 38 X6 hx (v := (255 : Int32)) (H d16_35) rfl rfl ?_
      refine gIcmpGt X6 hx (H d16_38) (pc' := 54) (by decide) (by decide) (pn := 41) rfl (fun (c38 : (255 : Int) < ch1.toInt) => ?_) (fun (c38 : ch1.toInt ≤ (255 : Int)) => ?_)
      · refine gLoadA 56 X6 hx (H d16_54) rfl rfl rfl ?_
        exact gRetA X6 hx hlk hret rfl rfl (H d16_56) (by decide) (by decide) (⟨q5, ctq5, rfl, gz5, N5, by rw [e6]; exact K5, by rw [e6]; exact Aq5⟩)
      · exact absurd c38 (by omega)
  · refine gStoreI 14 X2 hx (H d16_12) (l' := #[.val (.ref x), .val (.int (0 : Int32)), .val (.int (4 : Int32)), .val (.ref b1), .val (.int (2 : Int32)), .unset]) rfl rfl ?_
    refine gLoadI 16 X2 hx (H d16_14) rfl rfl ?_
    refine gLoadIN 17 X2 hx (H d16_16) rfl rfl ?_
    refine gIcmpEqT X2 hx (H d16_17) (pc' := 57) (by decide) (by decide) (pn := 20) rfl (fun (c17 : (2 : Int) = (4 : Int)) => ?_) (fun (c17 : ¬ (2 : Int) = (4 : Int)) => ?_)
    · exact absurd c17 (by decide)
    · refine gLoadAN 21 X2 hx (H d16_20) rfl rfl rfl ?_
      refine gLoadIN 22 X2 hx (H d16_21) rfl rfl ?_
      refine gLoadIN 23 X2 hx (H d16_22) rfl rfl ?_
      refine gCallS X2 hx hZ (y := mn29) hown rfl (by rw [hml]; rfl) (ow hw 79 rfl) (ow hw 80 rfl) (ow hw 67 rfl) (ow hw 81 rfl) (by decide) (argsL := [(.ref x), (.int (0 : Int32)), (.int (4 : Int32))]) (st := []) (c_tob_4 l Z a0 hw x cx ch0 ch1 ch2 ch3 T2.heap f2_1 f2_0 hch0 hch1 hch2 hch3) (lenOf pd_20 rfl) (H d16_23) (pc' := 26) rfl rfl (by decide) (W := 0) (Nat.le_of_eq rfl) (by decide) (by decide) (by decide) ?_
      intro T7 v7 L7 X7 hQ7
      obtain ⟨q7, ctq7, rfl, gq7, Nq7, Kq7, Aq7⟩ := hQ7
      have N7 := Fr.app N2 (fun y hy => Nat.le_trans zs2 (Nq7 y hy))
      have K7 : Keep h0 T7.heap [] := K2.trans Kq7 all0
      have f7_0 := f2_0.keep Kq7 nin0
      have f7_1 := own_u16_keep f2_1 Kq7 ns0
      have gz7 := Nat.le_trans zs2 gq7
      refine gStoreA 28 X7 hx (H d16_26) (l' := #[.val (.ref x), .val (.int (0 : Int32)), .val (.int (4 : Int32)), .val (.ref b1), .val (.int (2 : Int32)), .val (.ref q7)]) rfl rfl rfl ?_
      refine gLoadA 30 X7 hx (H d16_28) rfl rfl rfl ?_
      refine gLoadI 32 X7 hx (H d16_30) rfl rfl ?_
      refine gCallSJ X7 hx hZ (y := mn21) hown rfl (by rw [hml]; rfl) (ow hw 95 rfl) (ow hw 96 rfl) (ow hw 67 rfl) (ow hw 97 rfl) (by decide) (argsL := [(.ref q7), (.int (2 : Int32))]) (st := []) (c_get_4_2 l Z a0 hw q7 ctq7 ch0 ch1 ch2 ch3 T7.heap f7_1 Aq7 hch0 hch1 hch2 hch3) (lenOf pd_16 rfl) (H d16_32) (pc' := 35) rfl rfl rfl rfl (by decide) (W := 0) (Nat.le_of_eq rfl) (by decide) (by decide) (by decide) ?_
      intro T8 X8 e8
      refine gSipush 38 X8 hx (v := (255 : Int32)) (H d16_35) rfl rfl ?_
      refine gIcmpGt X8 hx (H d16_38) (pc' := 54) (by decide) (by decide) (pn := 41) rfl (fun (c38 : (255 : Int) < ch2.toInt) => ?_) (fun (c38 : ch2.toInt ≤ (255 : Int)) => ?_)
      · refine gLoadA 56 X8 hx (H d16_54) rfl rfl rfl ?_
        exact gRetA X8 hx hlk hret rfl rfl (H d16_56) (by decide) (by decide) (⟨q7, ctq7, rfl, gz7, N7, by rw [e8]; exact K7, by rw [e8]; exact Aq7⟩)
      · exact absurd c38 (by omega)
  · refine gStoreI 14 X2 hx (H d16_12) (l' := #[.val (.ref x), .val (.int (0 : Int32)), .val (.int (4 : Int32)), .val (.ref b1), .val (.int (3 : Int32)), .unset]) rfl rfl ?_
    refine gLoadI 16 X2 hx (H d16_14) rfl rfl ?_
    refine gLoadIN 17 X2 hx (H d16_16) rfl rfl ?_
    refine gIcmpEqT X2 hx (H d16_17) (pc' := 57) (by decide) (by decide) (pn := 20) rfl (fun (c17 : (3 : Int) = (4 : Int)) => ?_) (fun (c17 : ¬ (3 : Int) = (4 : Int)) => ?_)
    · exact absurd c17 (by decide)
    · refine gLoadAN 21 X2 hx (H d16_20) rfl rfl rfl ?_
      refine gLoadIN 22 X2 hx (H d16_21) rfl rfl ?_
      refine gLoadIN 23 X2 hx (H d16_22) rfl rfl ?_
      refine gCallS X2 hx hZ (y := mn29) hown rfl (by rw [hml]; rfl) (ow hw 79 rfl) (ow hw 80 rfl) (ow hw 67 rfl) (ow hw 81 rfl) (by decide) (argsL := [(.ref x), (.int (0 : Int32)), (.int (4 : Int32))]) (st := []) (c_tob_4 l Z a0 hw x cx ch0 ch1 ch2 ch3 T2.heap f2_1 f2_0 hch0 hch1 hch2 hch3) (lenOf pd_20 rfl) (H d16_23) (pc' := 26) rfl rfl (by decide) (W := 0) (Nat.le_of_eq rfl) (by decide) (by decide) (by decide) ?_
      intro T9 v9 L9 X9 hQ9
      obtain ⟨q9, ctq9, rfl, gq9, Nq9, Kq9, Aq9⟩ := hQ9
      have N9 := Fr.app N2 (fun y hy => Nat.le_trans zs2 (Nq9 y hy))
      have K9 : Keep h0 T9.heap [] := K2.trans Kq9 all0
      have f9_0 := f2_0.keep Kq9 nin0
      have f9_1 := own_u16_keep f2_1 Kq9 ns0
      have gz9 := Nat.le_trans zs2 gq9
      refine gStoreA 28 X9 hx (H d16_26) (l' := #[.val (.ref x), .val (.int (0 : Int32)), .val (.int (4 : Int32)), .val (.ref b1), .val (.int (3 : Int32)), .val (.ref q9)]) rfl rfl rfl ?_
      refine gLoadA 30 X9 hx (H d16_28) rfl rfl rfl ?_
      refine gLoadI 32 X9 hx (H d16_30) rfl rfl ?_
      refine gCallSJ X9 hx hZ (y := mn21) hown rfl (by rw [hml]; rfl) (ow hw 95 rfl) (ow hw 96 rfl) (ow hw 67 rfl) (ow hw 97 rfl) (by decide) (argsL := [(.ref q9), (.int (3 : Int32))]) (st := []) (c_get_4_3 l Z a0 hw q9 ctq9 ch0 ch1 ch2 ch3 T9.heap f9_1 Aq9 hch0 hch1 hch2 hch3) (lenOf pd_16 rfl) (H d16_32) (pc' := 35) rfl rfl rfl rfl (by decide) (W := 0) (Nat.le_of_eq rfl) (by decide) (by decide) (by decide) ?_
      intro T10 X10 e10
      refine gSipush 38 X10 hx (v := (255 : Int32)) (H d16_35) rfl rfl ?_
      refine gIcmpGt X10 hx (H d16_38) (pc' := 54) (by decide) (by decide) (pn := 41) rfl (fun (c38 : (255 : Int) < ch3.toInt) => ?_) (fun (c38 : ch3.toInt ≤ (255 : Int)) => ?_)
      · refine gLoadA 56 X10 hx (H d16_54) rfl rfl rfl ?_
        exact gRetA X10 hx hlk hret rfl rfl (H d16_56) (by decide) (by decide) (⟨q9, ctq9, rfl, gz9, N9, by rw [e10]; exact K9, by rw [e10]; exact Aq9⟩)
      · exact absurd c38 (by omega)
theorem c_cfu_4 (l : Launch) (Z : State) (a0 : Array Value) (hw : ∀ d ∈ tables_1, d.before a0 Z = true) (t : Addr) (ck : ClassId) (ch0 ch1 ch2 ch3 : Int32) (h0 : Heap) (A : sA Z h0 t ck 8 [(.int (lo8 ch0)), (.int (hi8 ch0)), (.int (lo8 ch1)), (.int (hi8 ch1)), (.int (lo8 ch2)), (.int (hi8 ch2)), (.int (lo8 ch3)), (.int (hi8 ch3))]) :
    Ctr l Z mn18 jdk_52_method_15_code 2 (some .byte) [] ⟨0, 0, 0, 0⟩ #[(.ref t), (.int (4 : Int32))] h0 (Just h0 (.int 1)) := by
  refine Ctr.of (plainFor_of_name pn_6) ?_
  intro p e s m below meth c s₁ hx H hml hret hown hnm hZ hlk X0 e0
  refine Goes.cast (show entryFrame m _ _ = mkF m 0 #[.val (.ref t), .val (.int (4 : Int32))] [] from rfl) ?_
  refine gLoadIN 1 X0 hx (H d15_0) rfl rfl ?_
  refine gLoadAN 2 X0 hx (H d15_1) rfl rfl rfl ?_
  refine gArrLen X0 hx hZ e0 A (H d15_2) (pc' := 3) rfl ?_
  refine gIsub 4 X0 hx (H d15_3) rfl ?_
  show Goes p e below _ s₁ (mkF m 4 #[.val (.ref t), .val (.int (4 : Int32))] [(.int (-4 : Int32))])
  refine gBipush 6 X0 hx (v := (31 : Int32)) (H d15_4) rfl rfl ?_
  refine gIushr 7 X0 hx (H d15_6) rfl ?_
  show Goes p e below _ s₁ (mkF m 7 #[.val (.ref t), .val (.int (4 : Int32))] [(.int (1 : Int32))])
  refine gI2b 8 X0 hx (H d15_7) rfl ?_
  show Goes p e below _ s₁ (mkF m 8 #[.val (.ref t), .val (.int (4 : Int32))] [(.int (1 : Int32))])
  exact gRetN X0 hx hlk hret (by simp) (H d15_8) (w := (1 : Int32)) rfl (by decide) (by decide) (⟨rfl, e0, rfl⟩)
theorem c_siu_4v (l : Launch) (Z : State) (a0 : Array Value) (hw : ∀ d ∈ tables_1, d.before a0 Z = true) (a x : Addr) (cx : ClassId) (n0 : Nat) (ch0 ch1 ch2 ch3 : Int32) (h0 : Heap) (hCpt : Cpt Z h0) (hU : U16 Z h0) (ga : n0 ≤ a) (gz : n0 ≤ h0.size) (hax : x ≠ a) (E : sE Z h0 a) (C : sC Z h0 a) (V : Fld Z h0 a "java/lang/String" "value" "[B" .null) (A : Arv Z h0 x cx .char 4 [.int ch0, .int ch1, .int ch2, .int ch3] (.int 0)) (hch0 : r6 ch0) (hch1 : r6 ch1) (hch2 : r6 ch2) (hch3 : r6 ch3) (hbig : 255 < ch0.toInt ∨ 255 < ch1.toInt ∨ 255 < ch2.toInt ∨ 255 < ch3.toInt) :
    Ctr l Z mn8 jdk_42_method_149_code 6 none [] ⟨4, 2, 12, 80⟩ #[(.ref a), (.ref x), (.int (0 : Int32)), (.int (4 : Int32)), .null] h0 (fun v h L => ∃ (t : Addr) (ct : ClassId), v = none ∧ Fr n0 L ∧ Keep h0 h [a] ∧ h0.size ≤ t ∧ sE Z h a ∧ uC Z h a ∧ sV Z h a t ∧ sA Z h t ct 8 [(.int (lo8 ch0)), (.int (hi8 ch0)), (.int (lo8 ch1)), (.int (hi8 ch1)), (.int (lo8 ch2)), (.int (hi8 ch2)), (.int (lo8 ch3)), (.int (hi8 ch3))]) := by
  refine Ctr.of (plainFor_of_name pn_4) ?_
  intro p e s m below meth c s₁ hx H hml hret hown hnm hZ hlk X0 e0
  refine Goes.cast (show entryFrame m _ _ = mkF m 0 #[.val (.ref a), .val (.ref x), .val (.int (0 : Int32)), .val (.int (4 : Int32)), .val .null, .unset] [] from rfl) ?_
  obtain ⟨cz, SC, hcz⟩ := hCpt
  refine gLoadAN 1 X0 hx (H d4_0) rfl rfl rfl ?_
  refine gInitO X0 hx hZ hown (ow hw 16 rfl) (ow hw 17 rfl) (ow hw 18 rfl) e0 (by rw [hml]; rfl) (H d4_1) (pc' := 4) rfl (by decide) (W := 0) (Nat.le_of_eq rfl) (by decide) (fun T1 X1 e1 => ?_)
  refine gLoadIN 5 X1 hx (H d4_4) rfl rfl ?_
  refine gIfNeT X1 hx (H d4_5) (pc' := 27) (by decide) (by decide) (pn := 8) rfl (fun (c5 : ¬ (4 : Int) = (0 : Int)) => ?_) (fun (c5 : (4 : Int) = (0 : Int)) => ?_)
  · refine gGetS X1 hx hZ hown (ow hw 47 rfl) Via.refl e1 SC (H d4_27) (pc' := 30) rfl (fun T2 X2 e2 => ?_)
    refine gIfEqT X2 hx (H d4_30) (pc' := 58) (by decide) (by decide) (pn := 33) rfl (fun (c30 : cz.toInt = (0 : Int)) => ?_) (fun (c30 : ¬ cz.toInt = (0 : Int)) => ?_)
    · exact absurd c30 hcz
    · refine gLoadAN 34 X2 hx (H d4_33) rfl rfl rfl ?_
      refine gLoadIN 35 X2 hx (H d4_34) rfl rfl ?_
      refine gLoadIN 36 X2 hx (H d4_35) rfl rfl ?_
      refine gCallS X2 hx hZ (y := mn19) hown e2 (by rw [hml]; rfl) (ow hw 65 rfl) (ow hw 66 rfl) (ow hw 67 rfl) (ow hw 68 rfl) (by decide) (argsL := [(.ref x), (.int (0 : Int32)), (.int (4 : Int32))]) (st := []) (c_cuo_4 l Z a0 hw x cx ch0 ch1 ch2 ch3 h0 hU A hch0 hch1 hch2 hch3 hbig) (lenOf pd_20 rfl) (H d4_36) (pc' := 39) rfl rfl (by decide) (W := 0) (Nat.le_of_eq rfl) (by decide) (by decide) (by decide) ?_
      intro T3 v3 L3 X3 hQ3
      obtain ⟨t3, ct3, rfl, gt3, Nq3, Kq3, Aq3⟩ := hQ3
      have N3 := Fr.app (Fr.nil n0) (fun y hy => Nat.le_trans gz (Nq3 y hy))
      have K3 : Keep h0 T3.heap [a] := (Keep.refl h0 [a]).trans Kq3 all0
      have f3_0 := own_sta_keep SC Kq3 ns0
      have f3_1 := own_u16_keep hU Kq3 ns0
      have f3_2 := E.keep Kq3
      have f3_3 := C.keep Kq3 nin0
      have f3_4 := V.keep Kq3 nin0
      have nt3 : t3 ≠ a := Ne.symm (Nat.ne_of_lt (Nat.lt_of_lt_of_le E.lt gt3))
      refine gStoreA 41 X3 hx (H d4_39) (l' := #[.val (.ref a), .val (.ref x), .val (.int (0 : Int32)), .val (.int (4 : Int32)), .val .null, .val (.ref t3)]) rfl rfl rfl ?_
      refine gLoadAN 42 X3 hx (H d4_41) rfl rfl rfl ?_
      refine gLoadA 44 X3 hx (H d4_42) rfl rfl rfl ?_
      refine gLoadIN 45 X3 hx (H d4_44) rfl rfl ?_
      refine gCallSJ X3 hx hZ (y := mn18) hown rfl (by rw [hml]; rfl) (ow hw 72 rfl) (ow hw 73 rfl) (ow hw 67 rfl) (ow hw 74 rfl) (by decide) (argsL := [(.ref t3), (.int (4 : Int32))]) (st := [(.ref a)]) (c_cfu_4 l Z a0 hw t3 ct3 ch0 ch1 ch2 ch3 _ Aq3) (lenOf pd_15 rfl) (H d4_45) (pc' := 48) rfl rfl rfl rfl (by decide) (W := 1) (Nat.le_of_eq rfl) (by decide) (by decide) (by decide) ?_
      intro T4 X4 e4
      refine gPutF X4 hx hZ hown (ow hw 26 rfl) Via.refl e4 f3_3 f3_2 (Or.inr ⟨(ow hw 22 rfl), rfl, hnm⟩) (ow hw 6 rfl) (ty := .byte) (by decide) rfl rfl (H d4_48) (pc' := 51) rfl (fun T5 h5 X5 e5 W5 => ?_)
      have f5_0 := f3_0.wr W5
      have f5_1 := f3_1.wr W5
      have f5_2 := f3_2.wr W5
      have f5_3 := f3_3.same W5
      have f5_4 := f3_4.other W5 (Or.inr (slot_ne (Or.inr (ow hw 21 rfl)) (Or.inr (ow hw 22 rfl)) (by decide) (t := (.array .byte)) (t' := .byte) (by decide) (by decide)))
      have f5_5 := Aq3.other W5 nt3
      have zs5 : h0.size ≤ h5.size := by rw [W5.size]; exact Kq3.1
      have N5 := Fr.snoc X5 N3 ga
      have K5 : Keep h0 h5 [a] := K3.wr W5 (Or.inl (by simp))
      refine gLoadAN 52 X5 hx (H d4_51) rfl rfl rfl ?_
      refine gLoadA 54 X5 hx (H d4_52) rfl rfl rfl ?_
      refine gPutF X5 hx hZ hown (ow hw 25 rfl) Via.refl e5 f5_4 f5_2 (Or.inr ⟨(ow hw 21 rfl), rfl, hnm⟩) (ow hw 6 rfl) (ty := (.array .byte)) (by decide) rfl rfl (H d4_54) (pc' := 57) rfl (fun T6 h6 X6 e6 W6 => ?_)
      have f6_0 := f5_0.wr W6
      have f6_1 := f5_1.wr W6
      have f6_2 := f5_2.wr W6
      have f6_3 := f5_3.other W6 (Or.inr (slot_ne (Or.inr (ow hw 22 rfl)) (Or.inr (ow hw 21 rfl)) (by decide) (t := .byte) (t' := (.array .byte)) (by decide) (by decide)))
      have f6_4 := f5_4.same W6
      have f6_5 := f5_5.other W6 nt3
      have zs6 : h0.size ≤ h6.size := by rw [W6.size]; exact zs5
      have N6 := Fr.snoc X6 N5 ga
      have K6 : Keep h0 h6 [a] := K5.wr W6 (Or.inl (by simp))
      exact gRetV X6 hx hlk hret (H d4_57) (by decide) (by decide) (⟨t3, ct3, rfl, N6, by rw [e6]; exact K6, gt3, by rw [e6]; exact f6_2, by rw [e6]; exact f6_3, by rw [e6]; exact f6_4, by rw [e6]; exact f6_5⟩)
  · exact absurd c5 (by decide)
theorem c_siu_4 (l : Launch) (Z : State) (a0 : Array Value) (hw : ∀ d ∈ tables_1, d.before a0 Z = true) (a x : Addr) (cx : ClassId) (n0 : Nat) (ch0 ch1 ch2 ch3 : Int32) (h0 : Heap) (hCpt : Cpt Z h0) (hU : U16 Z h0) (ga : n0 ≤ a) (gz : n0 ≤ h0.size) (hax : x ≠ a) (E : sE Z h0 a) (C : sC Z h0 a) (V : Fld Z h0 a "java/lang/String" "value" "[B" .null) (A : Arv Z h0 x cx .char 4 [.int ch0, .int ch1, .int ch2, .int ch3] (.int 0)) (hch0 : r6 ch0) (hch1 : r6 ch1) (hch2 : r6 ch2) (hch3 : r6 ch3) (hbig : 255 < ch0.toInt ∨ 255 < ch1.toInt ∨ 255 < ch2.toInt ∨ 255 < ch3.toInt) :
    Ctr l Z mn7 jdk_42_method_3_code 2 none [] ⟨5, 2, 12, 100⟩ #[(.ref a), (.ref x)] h0 (fun v h L => ∃ (t : Addr) (ct : ClassId), v = none ∧ Fr n0 L ∧ Keep h0 h [a] ∧ h0.size ≤ t ∧ sE Z h a ∧ uC Z h a ∧ sV Z h a t ∧ sA Z h t ct 8 [(.int (lo8 ch0)), (.int (hi8 ch0)), (.int (lo8 ch1)), (.int (hi8 ch1)), (.int (lo8 ch2)), (.int (hi8 ch2)), (.int (lo8 ch3)), (.int (hi8 ch3))]) := by
  refine Ctr.of (plainFor_of_name pn_4) ?_
  intro p e s m below meth c s₁ hx H hml hret hown hnm hZ hlk X0 e0
  refine Goes.cast (show entryFrame m _ _ = mkF m 0 #[.val (.ref a), .val (.ref x)] [] from rfl) ?_
  refine gLoadAN 1 X0 hx (H d8_0) rfl rfl rfl ?_
  refine gLoadAN 2 X0 hx (H d8_1) rfl rfl rfl ?_
  refine gIconst 3 X0 hx (v := (0 : Int32)) (H d8_2) rfl rfl ?_
  refine gLoadAN 4 X0 hx (H d8_3) rfl rfl rfl ?_
  refine gArrLen X0 hx hZ e0 A (H d8_4) (pc' := 5) rfl ?_
  refine gNull 6 X0 hx (H d8_5) rfl ?_
  refine gCallI X0 hx hZ (y := mn8) rfl hown e0 (by rw [hml]; rfl) (ow hw 12 rfl) (ow hw 13 rfl) (ow hw 7 rfl) (ow hw 15 rfl) (by decide) (argsL := [(.ref x), (.int (0 : Int32)), (.int (4 : Int32)), .null]) (st := []) (c_siu_4v l Z a0 hw a x cx n0 ch0 ch1 ch2 ch3 h0 hCpt hU ga gz hax E C V A hch0 hch1 hch2 hch3 hbig) (lenOf pd_21 rfl) (H d8_6) (pc' := 9) rfl rfl (by decide) (W := 0) (Nat.le_of_eq rfl) (by decide) (by decide) (by decide) ?_
  intro T1 v1 L1 X1 hQ1
  obtain ⟨t, ct, rfl, Nq, Kq, gt, Eq, Cq, Vq, Aq⟩ := hQ1
  exact gRetV X1 hx hlk hret (H d8_9) (by decide) (by decide) (⟨t, ct, rfl, Nq, Kq, gt, Eq, Cq, Vq, Aq⟩)
theorem d5_0 : decode jdk_42_method_152_code 0 = .ok (.getstatic 38, 3) := by decide +kernel
theorem d5_3 : decode jdk_42_method_152_code 3 = .ok (.ifCond .eq 10, 3) := by decide +kernel
theorem d5_6 : decode jdk_42_method_152_code 6 = .ok (.aload_n 0, 1) := by decide +kernel
theorem d5_7 : decode jdk_42_method_152_code 7 = .ok (.getfield 15, 3) := by decide +kernel
theorem d5_10 : decode jdk_42_method_152_code 10 = .ok (.goto 4, 3) := by decide +kernel
theorem d5_14 : decode jdk_42_method_152_code 14 = .ok (.ireturn, 1) := by decide +kernel
abbrev mn10 : MethodName := ⟨"java/lang/String", "coder", "()B"⟩
theorem c_coderU (l : Launch) (Z : State) (a0 : Array Value) (hw : ∀ d ∈ tables_1, d.before a0 Z = true) (a : Addr) (h0 : Heap) (hCpt : Cpt Z h0) (C : uC Z h0 a) :
    Ctr l Z mn10 jdk_42_method_152_code 1 (some .byte) [] ⟨0, 0, 0, 0⟩ #[(.ref a)] h0 (Just h0 (.int 1)) := by
  refine Ctr.of (plainFor_of_name pn_4) ?_
  intro p e s m below meth c s₁ hx H hml hret hown hnm hZ hlk X0 e0
  refine Goes.cast (show entryFrame m _ _ = mkF m 0 #[.val (.ref a)] [] from rfl) ?_
  obtain ⟨cz, SC, hcz⟩ := hCpt
  refine gGetS X0 hx hZ hown (ow hw 47 rfl) Via.refl e0 SC (H d5_0) (pc' := 3) rfl (fun T1 X1 e1 => ?_)
  refine gIfEqT X1 hx (H d5_3) (pc' := 13) (by decide) (by decide) (pn := 6) rfl (fun (c3 : cz.toInt = (0 : Int)) => ?_) (fun (c3 : ¬ cz.toInt = (0 : Int)) => ?_)
  · exact absurd c3 hcz
  · refine gLoadAN 7 X1 hx (H d5_6) rfl rfl rfl ?_
    refine gGetF X1 hx hZ hown (ow hw 26 rfl) Via.refl e1 C (H d5_7) (pc' := 10) rfl (fun T2 X2 e2 => ?_)
    refine gGoto X2 hx (H d5_10) (pc' := 14) (by decide) (by decide) ?_
    exact gRetN X2 hx hlk hret (by simp) (H d5_14) (w := (1 : Int32)) rfl (by decide) (by decide) (⟨rfl, e2, rfl⟩)
theorem d6_0 : decode jdk_42_method_154_code 0 = .ok (.getstatic 38, 3) := by decide +kernel
theorem d6_3 : decode jdk_42_method_154_code 3 = .ok (.ifCond .eq 14, 3) := by decide +kernel
theorem d6_6 : decode jdk_42_method_154_code 6 = .ok (.aload_n 0, 1) := by decide +kernel
theorem d6_7 : decode jdk_42_method_154_code 7 = .ok (.getfield 15, 3) := by decide +kernel
theorem d6_10 : decode jdk_42_method_154_code 10 = .ok (.ifCond .ne 7, 3) := by decide +kernel
theorem d6_17 : decode jdk_42_method_154_code 17 = .ok (.iconst 0, 1) := by decide +kernel
theorem d6_18 : decode jdk_42_method_154_code 18 = .ok (.ireturn, 1) := by decide +kernel
abbrev mn13 : MethodName := ⟨"java/lang/String", "isLatin1", "()Z"⟩
theorem c_isLatin1U (l : Launch) (Z : State) (a0 : Array Value) (hw : ∀ d ∈ tables_1, d.before a0 Z = true) (a : Addr) (h0 : Heap) (hCpt : Cpt Z h0) (C : uC Z h0 a) :
    Ctr l Z mn13 jdk_42_method_154_code 1 (some .boolean) [] ⟨0, 0, 0, 0⟩ #[(.ref a)] h0 (Just h0 (.int 0)) := by
  refine Ctr.of (plainFor_of_name pn_4) ?_
  intro p e s m below meth c s₁ hx H hml hret hown hnm hZ hlk X0 e0
  refine Goes.cast (show entryFrame m _ _ = mkF m 0 #[.val (.ref a)] [] from rfl) ?_
  obtain ⟨cz, SC, hcz⟩ := hCpt
  refine gGetS X0 hx hZ hown (ow hw 47 rfl) Via.refl e0 SC (H d6_0) (pc' := 3) rfl (fun T1 X1 e1 => ?_)
  refine gIfEqT X1 hx (H d6_3) (pc' := 17) (by decide) (by decide) (pn := 6) rfl (fun (c3 : cz.toInt = (0 : Int)) => ?_) (fun (c3 : ¬ cz.toInt = (0 : Int)) => ?_)
  · exact absurd c3 hcz
  · refine gLoadAN 7 X1 hx (H d6_6) rfl rfl rfl ?_
    refine gGetF X1 hx hZ hown (ow hw 26 rfl) Via.refl e1 C (H d6_7) (pc' := 10) rfl (fun T2 X2 e2 => ?_)
    refine gIfNeT X2 hx (H d6_10) (pc' := 17) (by decide) (by decide) (pn := 13) rfl (fun (c10 : ¬ (1 : Int) = (0 : Int)) => ?_) (fun (c10 : (1 : Int) = (0 : Int)) => ?_)
    · refine gIconst 18 X2 hx (v := (0 : Int32)) (H d6_17) rfl rfl ?_
      exact gRetN X2 hx hlk hret (by simp) (H d6_18) (w := (0 : Int32)) rfl (by decide) (by decide) (⟨rfl, e2, rfl⟩)
    · exact absurd c10 (by decide)
theorem d13_0 : decode jdk_43_method_4_code 0 = .ok (.iload_n 0, 1) := by decide +kernel
theorem d13_1 : decode jdk_43_method_4_code 1 = .ok (.ifCond .lt 14, 3) := by decide +kernel
theorem d13_4 : decode jdk_43_method_4_code 4 = .ok (.iload_n 0, 1) := by decide +kernel
theorem d13_5 : decode jdk_43_method_4_code 5 = .ok (.sipush 255, 3) := by decide +kernel
theorem d13_8 : decode jdk_43_method_4_code 8 = .ok (.if_icmp .gt 7, 3) := by decide +kernel
theorem d13_15 : decode jdk_43_method_4_code 15 = .ok (.iconst 0, 1) := by decide +kernel
theorem d13_16 : decode jdk_43_method_4_code 16 = .ok (.ireturn, 1) := by decide +kernel
abbrev mn15 : MethodName := ⟨"java/lang/StringLatin1", "canEncode", "(I)Z"⟩
theorem pn_5 : plainName "java/lang/StringLatin1" = true := by first | (simp [plainName, overriddenIn]; done) | decide +kernel
theorem c_can (l : Launch) (Z : State) (a0 : Array Value) (hw : ∀ d ∈ tables_1, d.before a0 Z = true)  (h0 : Heap)  :
    Ctr l Z mn15 jdk_43_method_4_code 1 (some .boolean) [] ⟨0, 0, 0, 0⟩ #[(.int (65533 : Int32))] h0 (Just h0 (.int 0)) := by
  refine Ctr.of (plainFor_of_name pn_5) ?_
  intro p e s m below meth c s₁ hx H hml hret hown hnm hZ hlk X0 e0
  refine Goes.cast (show entryFrame m _ _ = mkF m 0 #[.val (.int (65533 : Int32))] [] from rfl) ?_
  refine gLoadIN 1 X0 hx (H d13_0) rfl rfl ?_
  refine gIfLt X0 hx (H d13_1) (pc' := 15) (by decide) (by decide) (pn := 4) rfl (fun (c1 : (65533 : Int) < (0 : Int)) => ?_) (fun (c1 : (0 : Int) ≤ (65533 : Int)) => ?_)
  · exact absurd c1 (by decide)
  · refine gLoadIN 5 X0 hx (H d13_4) rfl rfl ?_
    refine gSipush 8 X0 hx (v := (255 : Int32)) (H d13_5) rfl rfl ?_
    refine gIcmpGt X0 hx (H d13_8) (pc' := 15) (by decide) (by decide) (pn := 11) rfl (fun (c8 : (255 : Int) < (65533 : Int)) => ?_) (fun (c8 : (65533 : Int) ≤ (255 : Int)) => ?_)
    · refine gIconst 16 X0 hx (v := (0 : Int32)) (H d13_15) rfl rfl ?_
      exact gRetN X0 hx hlk hret (by simp) (H d13_16) (w := (0 : Int32)) rfl (by decide) (by decide) (⟨rfl, e0, rfl⟩)
    · exact absurd c8 (by decide)
theorem d12_0 : decode jdk_43_method_22_code 0 = .ok (.iload_n 1, 1) := by decide +kernel
theorem d12_1 : decode jdk_43_method_22_code 1 = .ok (.invokestatic 88, 3) := by decide +kernel
theorem pd_7 : parseMethodDescriptor "(I)Z" = some ⟨[.int], some .boolean⟩ := by decide +kernel
theorem d12_4 : decode jdk_43_method_22_code 4 = .ok (.ifCond .ne 5, 3) := by decide +kernel
theorem d12_7 : decode jdk_43_method_22_code 7 = .ok (.iconst (-1), 1) := by decide +kernel
theorem d12_8 : decode jdk_43_method_22_code 8 = .ok (.ireturn, 1) := by decide +kernel
abbrev mn16 : MethodName := ⟨"java/lang/StringLatin1", "indexOf", "([BIII)I"⟩
theorem c_ixL (l : Launch) (Z : State) (a0 : Array Value) (hw : ∀ d ∈ tables_1, d.before a0 Z = true) (t : Addr) (k' : Int32) (h0 : Heap)  :
    Ctr l Z mn16 jdk_43_method_22_code 4 (some .int) [] ⟨1, 0, 0, 16⟩ #[(.ref t), (.int (65533 : Int32)), (.int (0 : Int32)), (.int k')] h0 (Just h0 (.int (-1))) := by
  refine Ctr.of (plainFor_of_name pn_5) ?_
  intro p e s m below meth c s₁ hx H hml hret hown hnm hZ hlk X0 e0
  refine Goes.cast (show entryFrame m _ _ = mkF m 0 #[.val (.ref t), .val (.int (65533 : Int32)), .val (.int (0 : Int32)), .val (.int k')] [] from rfl) ?_
  refine gLoadIN 1 X0 hx (H d12_0) rfl rfl ?_
  refine gCallSJ X0 hx hZ (y := mn15) hown e0 (by rw [hml]; rfl) (ow hw 62 rfl) (ow hw 63 rfl) (ow hw 60 rfl) (ow hw 64 rfl) (by decide) (argsL := [(.int (65533 : Int32))]) (st := []) (c_can l Z a0 hw h0) (lenOf pd_7 rfl) (H d12_1) (pc' := 4) rfl rfl rfl rfl (by decide) (W := 0) (Nat.le_of_eq rfl) (by decide) (by decide) (by decide) ?_
  intro T1 X1 e1
  refine gIfNeT X1 hx (H d12_4) (pc' := 9) (by decide) (by decide) (pn := 7) rfl (fun (c4 : ¬ (0 : Int) = (0 : Int)) => ?_) (fun (c4 : (0 : Int) = (0 : Int)) => ?_)
  · exact absurd c4 (by decide)
  · refine gIconst 8 X1 hx (v := (-1 : Int32)) (H d12_7) rfl rfl ?_
    exact gRetI X1 hx hlk hret (H d12_8) (by decide) (by decide) (⟨rfl, e1, rfl⟩)
theorem d6_13 : decode jdk_42_method_154_code 13 = .ok (.iconst 1, 1) := by decide +kernel
theorem d6_14 : decode jdk_42_method_154_code 14 = .ok (.goto 4, 3) := by decide +kernel
theorem c_isLatin1 (l : Launch) (Z : State) (a0 : Array Value) (hw : ∀ d ∈ tables_1, d.before a0 Z = true) (a : Addr) (h0 : Heap) (hCpt : Cpt Z h0) (C : sC Z h0 a) :
    Ctr l Z mn13 jdk_42_method_154_code 1 (some .boolean) [] ⟨0, 0, 0, 0⟩ #[(.ref a)] h0 (Just h0 (.int 1)) := by
  refine Ctr.of (plainFor_of_name pn_4) ?_
  intro p e s m below meth c s₁ hx H hml hret hown hnm hZ hlk X0 e0
  refine Goes.cast (show entryFrame m _ _ = mkF m 0 #[.val (.ref a)] [] from rfl) ?_
  obtain ⟨cz, SC, hcz⟩ := hCpt
  refine gGetS X0 hx hZ hown (ow hw 47 rfl) Via.refl e0 SC (H d6_0) (pc' := 3) rfl (fun T1 X1 e1 => ?_)
  refine gIfEqT X1 hx (H d6_3) (pc' := 17) (by decide) (by decide) (pn := 6) rfl (fun (c3 : cz.toInt = (0 : Int)) => ?_) (fun (c3 : ¬ cz.toInt = (0 : Int)) => ?_)
  · exact absurd c3 hcz
  · refine gLoadAN 7 X1 hx (H d6_6) rfl rfl rfl ?_
    refine gGetF X1 hx hZ hown (ow hw 26 rfl) Via.refl e1 C (H d6_7) (pc' := 10) rfl (fun T2 X2 e2 => ?_)
    refine gIfNeT X2 hx (H d6_10) (pc' := 17) (by decide) (by decide) (pn := 13) rfl (fun (c10 : ¬ (0 : Int) = (0 : Int)) => ?_) (fun (c10 : (0 : Int) = (0 : Int)) => ?_)
    · exact absurd c10 (by decide)
    · refine gIconst 14 X2 hx (v := (1 : Int32)) (H d6_13) rfl rfl ?_
      refine gGoto X2 hx (H d6_14) (pc' := 18) (by decide) (by decide) ?_
      exact gRetN X2 hx hlk hret (by simp) (H d6_18) (w := (1 : Int32)) rfl (by decide) (by decide) (⟨rfl, e2, rfl⟩)
theorem c_coder (l : Launch) (Z : State) (a0 : Array Value) (hw : ∀ d ∈ tables_1, d.before a0 Z = true) (a : Addr) (h0 : Heap) (hCpt : Cpt Z h0) (C : sC Z h0 a) :
    Ctr l Z mn10 jdk_42_method_152_code 1 (some .byte) [] ⟨0, 0, 0, 0⟩ #[(.ref a)] h0 (Just h0 (.int 0)) := by
  refine Ctr.of (plainFor_of_name pn_4) ?_
  intro p e s m below meth c s₁ hx H hml hret hown hnm hZ hlk X0 e0
  refine Goes.cast (show entryFrame m _ _ = mkF m 0 #[.val (.ref a)] [] from rfl) ?_
  obtain ⟨cz, SC, hcz⟩ := hCpt
  refine gGetS X0 hx hZ hown (ow hw 47 rfl) Via.refl e0 SC (H d5_0) (pc' := 3) rfl (fun T1 X1 e1 => ?_)
  refine gIfEqT X1 hx (H d5_3) (pc' := 13) (by decide) (by decide) (pn := 6) rfl (fun (c3 : cz.toInt = (0 : Int)) => ?_) (fun (c3 : ¬ cz.toInt = (0 : Int)) => ?_)
  · exact absurd c3 hcz
  · refine gLoadAN 7 X1 hx (H d5_6) rfl rfl rfl ?_
    refine gGetF X1 hx hZ hown (ow hw 26 rfl) Via.refl e1 C (H d5_7) (pc' := 10) rfl (fun T2 X2 e2 => ?_)
    refine gGoto X2 hx (H d5_10) (pc' := 14) (by decide) (by decide) ?_
    exact gRetN X2 hx hlk hret (by simp) (H d5_14) (w := (0 : Int32)) rfl (by decide) (by decide) (⟨rfl, e2, rfl⟩)
theorem d9_0 : decode jdk_42_method_54_code 0 = .ok (.aload_n 0, 1) := by decide +kernel
theorem d9_1 : decode jdk_42_method_54_code 1 = .ok (.getfield 9, 3) := by decide +kernel
theorem d9_4 : decode jdk_42_method_54_code 4 = .ok (.arraylength, 1) := by decide +kernel
theorem d9_5 : decode jdk_42_method_54_code 5 = .ok (.aload_n 0, 1) := by decide +kernel
theorem d9_6 : decode jdk_42_method_54_code 6 = .ok (.invokevirtual 335, 3) := by decide +kernel
theorem pd_0 : parseMethodDescriptor "()B" = some ⟨[], some .byte⟩ := by decide +kernel
theorem d9_9 : decode jdk_42_method_54_code 9 = .ok (.ishr, 1) := by decide +kernel
theorem d9_10 : decode jdk_42_method_54_code 10 = .ok (.ireturn, 1) := by decide +kernel
abbrev mn14 : MethodName := ⟨"java/lang/String", "length", "()I"⟩
theorem c_length_0 (l : Launch) (Z : State) (a0 : Array Value) (hw : ∀ d ∈ tables_1, d.before a0 Z = true) (a t : Addr) (ck : ClassId)  (h0 : Heap) (hCpt : Cpt Z h0) (E : sE Z h0 a) (C : sC Z h0 a) (V : sV Z h0 a t) (A : sA Z h0 t ck 0 [])  :
    Ctr l Z mn14 jdk_42_method_54_code 1 (some .int) [] ⟨1, 0, 0, 13⟩ #[(.ref a)] h0 (Just h0 (.int 0)) := by
  refine Ctr.of (plainFor_of_name pn_4) ?_
  intro p e s m below meth c s₁ hx H hml hret hown hnm hZ hlk X0 e0
  refine Goes.cast (show entryFrame m _ _ = mkF m 0 #[.val (.ref a)] [] from rfl) ?_
  refine gLoadAN 1 X0 hx (H d9_0) rfl rfl rfl ?_
  refine gGetF X0 hx hZ hown (ow hw 25 rfl) Via.refl e0 V (H d9_1) (pc' := 4) rfl (fun T1 X1 e1 => ?_)
  refine gArrLen X1 hx hZ e1 A (H d9_4) (pc' := 5) rfl ?_
  refine gLoadAN 6 X1 hx (H d9_5) rfl rfl rfl ?_
  refine gCallVJ X1 hx hZ (y := mn10) hown e1 (by rw [hml]; rfl) E (ow hw 53 rfl) (ow hw 54 rfl) (ow hw 56 rfl) (ow hw 55 rfl) (ow hw 7 rfl) (ow hw 57 rfl) (by decide) (argsL := []) (st := [(.int (0 : Int32))]) (c_coder l Z a0 hw a h0 hCpt C) (lenOf pd_0 rfl) (H d9_6) (pc' := 9) rfl rfl rfl rfl (by decide) (W := 1) (Nat.le_of_eq rfl) (by decide) (by decide) (by decide) ?_
  intro T2 X2 e2
  refine gIshr 10 X2 hx (H d9_9) rfl ?_
  show Goes p e below _ T2 (mkF m 10 #[.val (.ref a)] [(.int (0 : Int32))])
  exact gRetI X2 hx hlk hret (H d9_10) (by decide) (by decide) (⟨rfl, e2, rfl⟩)
theorem d11_0 : decode jdk_42_method_80_code 0 = .ok (.aload_n 0, 1) := by decide +kernel
theorem d11_1 : decode jdk_42_method_80_code 1 = .ok (.invokevirtual 492, 3) := by decide +kernel
theorem pd_3 : parseMethodDescriptor "()Z" = some ⟨[], some .boolean⟩ := by decide +kernel
theorem d11_4 : decode jdk_42_method_80_code 4 = .ok (.ifCond .eq 19, 3) := by decide +kernel
theorem d11_7 : decode jdk_42_method_80_code 7 = .ok (.aload_n 0, 1) := by decide +kernel
theorem d11_8 : decode jdk_42_method_80_code 8 = .ok (.getfield 9, 3) := by decide +kernel
theorem d11_11 : decode jdk_42_method_80_code 11 = .ok (.iload_n 1, 1) := by decide +kernel
theorem d11_12 : decode jdk_42_method_80_code 12 = .ok (.iload_n 2, 1) := by decide +kernel
theorem d11_13 : decode jdk_42_method_80_code 13 = .ok (.aload_n 0, 1) := by decide +kernel
theorem d11_14 : decode jdk_42_method_80_code 14 = .ok (.invokevirtual 505, 3) := by decide +kernel
theorem pd_1 : parseMethodDescriptor "()I" = some ⟨[], some .int⟩ := by decide +kernel
theorem d11_17 : decode jdk_42_method_80_code 17 = .ok (.invokestatic 637, 3) := by decide +kernel
theorem pd_18 : parseMethodDescriptor "([BIII)I" = some ⟨[(.array .byte), .int, .int, .int], some .int⟩ := by decide +kernel
theorem d11_20 : decode jdk_42_method_80_code 20 = .ok (.goto 16, 3) := by decide +kernel
theorem d11_36 : decode jdk_42_method_80_code 36 = .ok (.ireturn, 1) := by decide +kernel
abbrev mn12 : MethodName := ⟨"java/lang/String", "indexOf", "(II)I"⟩
theorem c_ix2L_0 (l : Launch) (Z : State) (a0 : Array Value) (hw : ∀ d ∈ tables_1, d.before a0 Z = true) (a t : Addr) (ck : ClassId)  (h0 : Heap) (hCpt : Cpt Z h0) (E : sE Z h0 a) (C : sC Z h0 a) (V : sV Z h0 a t) (A : sA Z h0 t ck 0 [])  :
    Ctr l Z mn12 jdk_42_method_80_code 3 (some .int) [] ⟨2, 0, 0, 42⟩ #[(.ref a), (.int (65533 : Int32)), (.int (0 : Int32))] h0 (Just h0 (.int (-1))) := by
  refine Ctr.of (plainFor_of_name pn_4) ?_
  intro p e s m below meth c s₁ hx H hml hret hown hnm hZ hlk X0 e0
  refine Goes.cast (show entryFrame m _ _ = mkF m 0 #[.val (.ref a), .val (.int (65533 : Int32)), .val (.int (0 : Int32))] [] from rfl) ?_
  refine gLoadAN 1 X0 hx (H d11_0) rfl rfl rfl ?_
  refine gCallVJ X0 hx hZ (y := mn13) hown e0 (by rw [hml]; rfl) E (ow hw 42 rfl) (ow hw 43 rfl) (ow hw 45 rfl) (ow hw 44 rfl) (ow hw 7 rfl) (ow hw 46 rfl) (by decide) (argsL := []) (st := []) (c_isLatin1 l Z a0 hw a h0 hCpt C) (lenOf pd_3 rfl) (H d11_1) (pc' := 4) rfl rfl rfl rfl (by decide) (W := 0) (Nat.le_of_eq rfl) (by decide) (by decide) (by decide) ?_
  intro T1 X1 e1
  refine gIfEqT X1 hx (H d11_4) (pc' := 23) (by decide) (by decide) (pn := 7) rfl (fun (c4 : (1 : Int) = (0 : Int)) => ?_) (fun (c4 : ¬ (1 : Int) = (0 : Int)) => ?_)
  · exact absurd c4 (by decide)
  · refine gLoadAN 8 X1 hx (H d11_7) rfl rfl rfl ?_
    refine gGetF X1 hx hZ hown (ow hw 25 rfl) Via.refl e1 V (H d11_8) (pc' := 11) rfl (fun T2 X2 e2 => ?_)
    refine gLoadIN 12 X2 hx (H d11_11) rfl rfl ?_
    refine gLoadIN 13 X2 hx (H d11_12) rfl rfl ?_
    refine gLoadAN 14 X2 hx (H d11_13) rfl rfl rfl ?_
    refine gCallVJ X2 hx hZ (y := mn14) hown e2 (by rw [hml]; rfl) E (ow hw 48 rfl) (ow hw 49 rfl) (ow hw 51 rfl) (ow hw 50 rfl) (ow hw 7 rfl) (ow hw 52 rfl) (by decide) (argsL := []) (st := [(.int (0 : Int32)), (.int (65533 : Int32)), (.ref t)]) (c_length_0 l Z a0 hw a t ck  h0 hCpt E C V A ) (lenOf pd_1 rfl) (H d11_14) (pc' := 17) rfl rfl rfl rfl (by decide) (W := 3) (Nat.le_of_eq rfl) (by decide) (by decide) (by decide) ?_
    intro T3 X3 e3
    refine gCallSJ X3 hx hZ (y := mn16) hown e3 (by rw [hml]; rfl) (ow hw 58 rfl) (ow hw 59 rfl) (ow hw 60 rfl) (ow hw 61 rfl) (by decide) (argsL := [(.ref t), (.int (65533 : Int32)), (.int (0 : Int32)), (.int (0 : Int32))]) (st := []) (c_ixL l Z a0 hw t (0 : Int32) h0) (lenOf pd_18 rfl) (H d11_17) (pc' := 20) rfl rfl rfl rfl (by decide) (W := 0) (Nat.le_of_eq rfl) (by decide) (by decide) (by decide) ?_
    intro T4 X4 e4
    refine gGoto X4 hx (H d11_20) (pc' := 36) (by decide) (by decide) ?_
    exact gRetI X4 hx hlk hret (H d11_36) (by decide) (by decide) (⟨rfl, e4, rfl⟩)
theorem d10_0 : decode jdk_42_method_79_code 0 = .ok (.aload_n 0, 1) := by decide +kernel
theorem d10_1 : decode jdk_42_method_79_code 1 = .ok (.iload_n 1, 1) := by decide +kernel
theorem d10_2 : decode jdk_42_method_79_code 2 = .ok (.iconst 0, 1) := by decide +kernel
theorem d10_3 : decode jdk_42_method_79_code 3 = .ok (.invokevirtual 633, 3) := by decide +kernel
theorem pd_9 : parseMethodDescriptor "(II)I" = some ⟨[.int, .int], some .int⟩ := by decide +kernel
theorem d10_6 : decode jdk_42_method_79_code 6 = .ok (.ireturn, 1) := by decide +kernel
abbrev mn11 : MethodName := ⟨"java/lang/String", "indexOf", "(I)I"⟩
theorem c_ix1L_0 (l : Launch) (Z : State) (a0 : Array Value) (hw : ∀ d ∈ tables_1, d.before a0 Z = true) (a t : Addr) (ck : ClassId)  (h0 : Heap) (hCpt : Cpt Z h0) (E : sE Z h0 a) (C : sC Z h0 a) (V : sV Z h0 a t) (A : sA Z h0 t ck 0 [])  :
    Ctr l Z mn11 jdk_42_method_79_code 2 (some .int) [] ⟨3, 0, 0, 56⟩ #[(.ref a), (.int (65533 : Int32))] h0 (Just h0 (.int (-1))) := by
  refine Ctr.of (plainFor_of_name pn_4) ?_
  intro p e s m below meth c s₁ hx H hml hret hown hnm hZ hlk X0 e0
  refine Goes.cast (show entryFrame m _ _ = mkF m 0 #[.val (.ref a), .val (.int (65533 : Int32))] [] from rfl) ?_
  refine gLoadAN 1 X0 hx (H d10_0) rfl rfl rfl ?_
  refine gLoadIN 2 X0 hx (H d10_1) rfl rfl ?_
  refine gIconst 3 X0 hx (v := (0 : Int32)) (H d10_2) rfl rfl ?_
  refine gCallVJ X0 hx hZ (y := mn12) hown e0 (by rw [hml]; rfl) E (ow hw 37 rfl) (ow hw 38 rfl) (ow hw 40 rfl) (ow hw 39 rfl) (ow hw 7 rfl) (ow hw 41 rfl) (by decide) (argsL := [(.int (65533 : Int32)), (.int (0 : Int32))]) (st := []) (c_ix2L_0 l Z a0 hw a t ck  h0 hCpt E C V A ) (lenOf pd_9 rfl) (H d10_3) (pc' := 6) rfl rfl rfl rfl (by decide) (W := 0) (Nat.le_of_eq rfl) (by decide) (by decide) (by decide) ?_
  intro T1 X1 e1
  exact gRetI X1 hx hlk hret (H d10_6) (by decide) (by decide) (⟨rfl, e1, rfl⟩)
theorem d30_0 : decode prog_1_method_4_code 0 = .ok (.aload_n 0, 1) := by decide +kernel
theorem d30_1 : decode prog_1_method_4_code 1 = .ok (.ldc 90, 2) := by decide +kernel
theorem d30_3 : decode prog_1_method_4_code 3 = .ok (.invokevirtual 91, 3) := by decide +kernel
theorem d30_6 : decode prog_1_method_4_code 6 = .ok (.ifCond .lt 7, 3) := by decide +kernel
theorem d30_13 : decode prog_1_method_4_code 13 = .ok (.iconst 0, 1) := by decide +kernel
theorem d30_14 : decode prog_1_method_4_code 14 = .ok (.ireturn, 1) := by decide +kernel
abbrev mn0 : MethodName := ⟨"com/example/estival/estival/cli/Arguments", "undecodable", "(Ljava/lang/String;)Z"⟩
theorem pn_0 : plainName "com/example/estival/estival/cli/Arguments" = true := by first | (simp [plainName, overriddenIn]; done) | decide +kernel
theorem c_unL_0 (l : Launch) (Z : State) (a0 : Array Value) (hw : ∀ d ∈ tables_1, d.before a0 Z = true) (a t : Addr) (ck : ClassId)  (h0 : Heap) (hCpt : Cpt Z h0) (E : sE Z h0 a) (C : sC Z h0 a) (V : sV Z h0 a t) (A : sA Z h0 t ck 0 [])  :
    Ctr l Z mn0 prog_1_method_4_code 1 (some .boolean) [] ⟨4, 0, 0, 70⟩ #[(.ref a)] h0 (Just h0 (.int 0)) := by
  refine Ctr.of (plainFor_of_name pn_0) ?_
  intro p e s m below meth c s₁ hx H hml hret hown hnm hZ hlk X0 e0
  refine Goes.cast (show entryFrame m _ _ = mkF m 0 #[.val (.ref a)] [] from rfl) ?_
  refine gLoadAN 1 X0 hx (H d30_0) rfl rfl rfl ?_
  refine gLdc 3 X0 hx hZ hown (ow hw 31 rfl) (H d30_1) rfl ?_
  refine gCallVJ X0 hx hZ (y := mn11) hown e0 (by rw [hml]; rfl) E (ow hw 32 rfl) (ow hw 33 rfl) (ow hw 35 rfl) (ow hw 34 rfl) (ow hw 7 rfl) (ow hw 36 rfl) (by decide) (argsL := [(.int (65533 : Int32))]) (st := []) (c_ix1L_0 l Z a0 hw a t ck  h0 hCpt E C V A ) (lenOf pd_6 rfl) (H d30_3) (pc' := 6) rfl rfl rfl rfl (by decide) (W := 0) (Nat.le_of_eq rfl) (by decide) (by decide) (by decide) ?_
  intro T1 X1 e1
  refine gIfLt X1 hx (H d30_6) (pc' := 13) (by decide) (by decide) (pn := 9) rfl (fun (c6 : (-1 : Int) < (0 : Int)) => ?_) (fun (c6 : (0 : Int) ≤ (-1 : Int)) => ?_)
  · refine gIconst 14 X1 hx (v := (0 : Int32)) (H d30_13) rfl rfl ?_
    exact gRetN X1 hx hlk hret (by simp) (H d30_14) (w := (0 : Int32)) rfl (by decide) (by decide) (⟨rfl, e1, rfl⟩)
  · exact absurd c6 (by decide)
theorem c_length_1 (l : Launch) (Z : State) (a0 : Array Value) (hw : ∀ d ∈ tables_1, d.before a0 Z = true) (a t : Addr) (ck : ClassId) (ch0 : Int32) (h0 : Heap) (hCpt : Cpt Z h0) (E : sE Z h0 a) (C : sC Z h0 a) (V : sV Z h0 a t) (A : sA Z h0 t ck 1 [by8 ch0]) (hch0 : rg ch0) :
    Ctr l Z mn14 jdk_42_method_54_code 1 (some .int) [] ⟨1, 0, 0, 13⟩ #[(.ref a)] h0 (Just h0 (.int 1)) := by
  refine Ctr.of (plainFor_of_name pn_4) ?_
  intro p e s m below meth c s₁ hx H hml hret hown hnm hZ hlk X0 e0
  refine Goes.cast (show entryFrame m _ _ = mkF m 0 #[.val (.ref a)] [] from rfl) ?_
  refine gLoadAN 1 X0 hx (H d9_0) rfl rfl rfl ?_
  refine gGetF X0 hx hZ hown (ow hw 25 rfl) Via.refl e0 V (H d9_1) (pc' := 4) rfl (fun T1 X1 e1 => ?_)
  refine gArrLen X1 hx hZ e1 A (H d9_4) (pc' := 5) rfl ?_
  refine gLoadAN 6 X1 hx (H d9_5) rfl rfl rfl ?_
  refine gCallVJ X1 hx hZ (y := mn10) hown e1 (by rw [hml]; rfl) E (ow hw 53 rfl) (ow hw 54 rfl) (ow hw 56 rfl) (ow hw 55 rfl) (ow hw 7 rfl) (ow hw 57 rfl) (by decide) (argsL := []) (st := [(.int (1 : Int32))]) (c_coder l Z a0 hw a h0 hCpt C) (lenOf pd_0 rfl) (H d9_6) (pc' := 9) rfl rfl rfl rfl (by decide) (W := 1) (Nat.le_of_eq rfl) (by decide) (by decide) (by decide) ?_
  intro T2 X2 e2
  refine gIshr 10 X2 hx (H d9_9) rfl ?_
  show Goes p e below _ T2 (mkF m 10 #[.val (.ref a)] [(.int (1 : Int32))])
  exact gRetI X2 hx hlk hret (H d9_10) (by decide) (by decide) (⟨rfl, e2, rfl⟩)
theorem c_ix2L_1 (l : Launch) (Z : State) (a0 : Array Value) (hw : ∀ d ∈ tables_1, d.before a0 Z = true) (a t : Addr) (ck : ClassId) (ch0 : Int32) (h0 : Heap) (hCpt : Cpt Z h0) (E : sE Z h0 a) (C : sC Z h0 a) (V : sV Z h0 a t) (A : sA Z h0 t ck 1 [by8 ch0]) (hch0 : rg ch0) :
    Ctr l Z mn12 jdk_42_method_80_code 3 (some .int) [] ⟨2, 0, 0, 42⟩ #[(.ref a), (.int (65533 : Int32)), (.int (0 : Int32))] h0 (Just h0 (.int (-1))) := by
  refine Ctr.of (plainFor_of_name pn_4) ?_
  intro p e s m below meth c s₁ hx H hml hret hown hnm hZ hlk X0 e0
  refine Goes.cast (show entryFrame m _ _ = mkF m 0 #[.val (.ref a), .val (.int (65533 : Int32)), .val (.int (0 : Int32))] [] from rfl) ?_
  refine gLoadAN 1 X0 hx (H d11_0) rfl rfl rfl ?_
  refine gCallVJ X0 hx hZ (y := mn13) hown e0 (by rw [hml]; rfl) E (ow hw 42 rfl) (ow hw 43 rfl) (ow hw 45 rfl) (ow hw 44 rfl) (ow hw 7 rfl) (ow hw 46 rfl) (by decide) (argsL := []) (st := []) (c_isLatin1 l Z a0 hw a h0 hCpt C) (lenOf pd_3 rfl) (H d11_1) (pc' := 4) rfl rfl rfl rfl (by decide) (W := 0) (Nat.le_of_eq rfl) (by decide) (by decide) (by decide) ?_
  intro T1 X1 e1
  refine gIfEqT X1 hx (H d11_4) (pc' := 23) (by decide) (by decide) (pn := 7) rfl (fun (c4 : (1 : Int) = (0 : Int)) => ?_) (fun (c4 : ¬ (1 : Int) = (0 : Int)) => ?_)
  · exact absurd c4 (by decide)
  · refine gLoadAN 8 X1 hx (H d11_7) rfl rfl rfl ?_
    refine gGetF X1 hx hZ hown (ow hw 25 rfl) Via.refl e1 V (H d11_8) (pc' := 11) rfl (fun T2 X2 e2 => ?_)
    refine gLoadIN 12 X2 hx (H d11_11) rfl rfl ?_
    refine gLoadIN 13 X2 hx (H d11_12) rfl rfl ?_
    refine gLoadAN 14 X2 hx (H d11_13) rfl rfl rfl ?_
    refine gCallVJ X2 hx hZ (y := mn14) hown e2 (by rw [hml]; rfl) E (ow hw 48 rfl) (ow hw 49 rfl) (ow hw 51 rfl) (ow hw 50 rfl) (ow hw 7 rfl) (ow hw 52 rfl) (by decide) (argsL := []) (st := [(.int (0 : Int32)), (.int (65533 : Int32)), (.ref t)]) (c_length_1 l Z a0 hw a t ck ch0 h0 hCpt E C V A hch0) (lenOf pd_1 rfl) (H d11_14) (pc' := 17) rfl rfl rfl rfl (by decide) (W := 3) (Nat.le_of_eq rfl) (by decide) (by decide) (by decide) ?_
    intro T3 X3 e3
    refine gCallSJ X3 hx hZ (y := mn16) hown e3 (by rw [hml]; rfl) (ow hw 58 rfl) (ow hw 59 rfl) (ow hw 60 rfl) (ow hw 61 rfl) (by decide) (argsL := [(.ref t), (.int (65533 : Int32)), (.int (0 : Int32)), (.int (1 : Int32))]) (st := []) (c_ixL l Z a0 hw t (1 : Int32) h0) (lenOf pd_18 rfl) (H d11_17) (pc' := 20) rfl rfl rfl rfl (by decide) (W := 0) (Nat.le_of_eq rfl) (by decide) (by decide) (by decide) ?_
    intro T4 X4 e4
    refine gGoto X4 hx (H d11_20) (pc' := 36) (by decide) (by decide) ?_
    exact gRetI X4 hx hlk hret (H d11_36) (by decide) (by decide) (⟨rfl, e4, rfl⟩)
theorem c_ix1L_1 (l : Launch) (Z : State) (a0 : Array Value) (hw : ∀ d ∈ tables_1, d.before a0 Z = true) (a t : Addr) (ck : ClassId) (ch0 : Int32) (h0 : Heap) (hCpt : Cpt Z h0) (E : sE Z h0 a) (C : sC Z h0 a) (V : sV Z h0 a t) (A : sA Z h0 t ck 1 [by8 ch0]) (hch0 : rg ch0) :
    Ctr l Z mn11 jdk_42_method_79_code 2 (some .int) [] ⟨3, 0, 0, 56⟩ #[(.ref a), (.int (65533 : Int32))] h0 (Just h0 (.int (-1))) := by
  refine Ctr.of (plainFor_of_name pn_4) ?_
  intro p e s m below meth c s₁ hx H hml hret hown hnm hZ hlk X0 e0
  refine Goes.cast (show entryFrame m _ _ = mkF m 0 #[.val (.ref a), .val (.int (65533 : Int32))] [] from rfl) ?_
  refine gLoadAN 1 X0 hx (H d10_0) rfl rfl rfl ?_
  refine gLoadIN 2 X0 hx (H d10_1) rfl rfl ?_
  refine gIconst 3 X0 hx (v := (0 : Int32)) (H d10_2) rfl rfl ?_
  refine gCallVJ X0 hx hZ (y := mn12) hown e0 (by rw [hml]; rfl) E (ow hw 37 rfl) (ow hw 38 rfl) (ow hw 40 rfl) (ow hw 39 rfl) (ow hw 7 rfl) (ow hw 41 rfl) (by decide) (argsL := [(.int (65533 : Int32)), (.int (0 : Int32))]) (st := []) (c_ix2L_1 l Z a0 hw a t ck ch0 h0 hCpt E C V A hch0) (lenOf pd_9 rfl) (H d10_3) (pc' := 6) rfl rfl rfl rfl (by decide) (W := 0) (Nat.le_of_eq rfl) (by decide) (by decide) (by decide) ?_
  intro T1 X1 e1
  exact gRetI X1 hx hlk hret (H d10_6) (by decide) (by decide) (⟨rfl, e1, rfl⟩)
theorem c_unL_1 (l : Launch) (Z : State) (a0 : Array Value) (hw : ∀ d ∈ tables_1, d.before a0 Z = true) (a t : Addr) (ck : ClassId) (ch0 : Int32) (h0 : Heap) (hCpt : Cpt Z h0) (E : sE Z h0 a) (C : sC Z h0 a) (V : sV Z h0 a t) (A : sA Z h0 t ck 1 [by8 ch0]) (hch0 : rg ch0) :
    Ctr l Z mn0 prog_1_method_4_code 1 (some .boolean) [] ⟨4, 0, 0, 70⟩ #[(.ref a)] h0 (Just h0 (.int 0)) := by
  refine Ctr.of (plainFor_of_name pn_0) ?_
  intro p e s m below meth c s₁ hx H hml hret hown hnm hZ hlk X0 e0
  refine Goes.cast (show entryFrame m _ _ = mkF m 0 #[.val (.ref a)] [] from rfl) ?_
  refine gLoadAN 1 X0 hx (H d30_0) rfl rfl rfl ?_
  refine gLdc 3 X0 hx hZ hown (ow hw 31 rfl) (H d30_1) rfl ?_
  refine gCallVJ X0 hx hZ (y := mn11) hown e0 (by rw [hml]; rfl) E (ow hw 32 rfl) (ow hw 33 rfl) (ow hw 35 rfl) (ow hw 34 rfl) (ow hw 7 rfl) (ow hw 36 rfl) (by decide) (argsL := [(.int (65533 : Int32))]) (st := []) (c_ix1L_1 l Z a0 hw a t ck ch0 h0 hCpt E C V A hch0) (lenOf pd_6 rfl) (H d30_3) (pc' := 6) rfl rfl rfl rfl (by decide) (W := 0) (Nat.le_of_eq rfl) (by decide) (by decide) (by decide) ?_
  intro T1 X1 e1
  refine gIfLt X1 hx (H d30_6) (pc' := 13) (by decide) (by decide) (pn := 9) rfl (fun (c6 : (-1 : Int) < (0 : Int)) => ?_) (fun (c6 : (0 : Int) ≤ (-1 : Int)) => ?_)
  · refine gIconst 14 X1 hx (v := (0 : Int32)) (H d30_13) rfl rfl ?_
    exact gRetN X1 hx hlk hret (by simp) (H d30_14) (w := (0 : Int32)) rfl (by decide) (by decide) (⟨rfl, e1, rfl⟩)
  · exact absurd c6 (by decide)
theorem c_length_2 (l : Launch) (Z : State) (a0 : Array Value) (hw : ∀ d ∈ tables_1, d.before a0 Z = true) (a t : Addr) (ck : ClassId) (ch0 ch1 : Int32) (h0 : Heap) (hCpt : Cpt Z h0) (E : sE Z h0 a) (C : sC Z h0 a) (V : sV Z h0 a t) (A : sA Z h0 t ck 2 [by8 ch0, by8 ch1]) (hch0 : rg ch0) (hch1 : rg ch1) :
    Ctr l Z mn14 jdk_42_method_54_code 1 (some .int) [] ⟨1, 0, 0, 13⟩ #[(.ref a)] h0 (Just h0 (.int 2)) := by
  refine Ctr.of (plainFor_of_name pn_4) ?_
  intro p e s m below meth c s₁ hx H hml hret hown hnm hZ hlk X0 e0
  refine Goes.cast (show entryFrame m _ _ = mkF m 0 #[.val (.ref a)] [] from rfl) ?_
  refine gLoadAN 1 X0 hx (H d9_0) rfl rfl rfl ?_
  refine gGetF X0 hx hZ hown (ow hw 25 rfl) Via.refl e0 V (H d9_1) (pc' := 4) rfl (fun T1 X1 e1 => ?_)
  refine gArrLen X1 hx hZ e1 A (H d9_4) (pc' := 5) rfl ?_
  refine gLoadAN 6 X1 hx (H d9_5) rfl rfl rfl ?_
  refine gCallVJ X1 hx hZ (y := mn10) hown e1 (by rw [hml]; rfl) E (ow hw 53 rfl) (ow hw 54 rfl) (ow hw 56 rfl) (ow hw 55 rfl) (ow hw 7 rfl) (ow hw 57 rfl) (by decide) (argsL := []) (st := [(.int (2 : Int32))]) (c_coder l Z a0 hw a h0 hCpt C) (lenOf pd_0 rfl) (H d9_6) (pc' := 9) rfl rfl rfl rfl (by decide) (W := 1) (Nat.le_of_eq rfl) (by decide) (by decide) (by decide) ?_
  intro T2 X2 e2
  refine gIshr 10 X2 hx (H d9_9) rfl ?_
  show Goes p e below _ T2 (mkF m 10 #[.val (.ref a)] [(.int (2 : Int32))])
  exact gRetI X2 hx hlk hret (H d9_10) (by decide) (by decide) (⟨rfl, e2, rfl⟩)
theorem c_ix2L_2 (l : Launch) (Z : State) (a0 : Array Value) (hw : ∀ d ∈ tables_1, d.before a0 Z = true) (a t : Addr) (ck : ClassId) (ch0 ch1 : Int32) (h0 : Heap) (hCpt : Cpt Z h0) (E : sE Z h0 a) (C : sC Z h0 a) (V : sV Z h0 a t) (A : sA Z h0 t ck 2 [by8 ch0, by8 ch1]) (hch0 : rg ch0) (hch1 : rg ch1) :
    Ctr l Z mn12 jdk_42_method_80_code 3 (some .int) [] ⟨2, 0, 0, 42⟩ #[(.ref a), (.int (65533 : Int32)), (.int (0 : Int32))] h0 (Just h0 (.int (-1))) := by
  refine Ctr.of (plainFor_of_name pn_4) ?_
  intro p e s m below meth c s₁ hx H hml hret hown hnm hZ hlk X0 e0
  refine Goes.cast (show entryFrame m _ _ = mkF m 0 #[.val (.ref a), .val (.int (65533 : Int32)), .val (.int (0 : Int32))] [] from rfl) ?_
  refine gLoadAN 1 X0 hx (H d11_0) rfl rfl rfl ?_
  refine gCallVJ X0 hx hZ (y := mn13) hown e0 (by rw [hml]; rfl) E (ow hw 42 rfl) (ow hw 43 rfl) (ow hw 45 rfl) (ow hw 44 rfl) (ow hw 7 rfl) (ow hw 46 rfl) (by decide) (argsL := []) (st := []) (c_isLatin1 l Z a0 hw a h0 hCpt C) (lenOf pd_3 rfl) (H d11_1) (pc' := 4) rfl rfl rfl rfl (by decide) (W := 0) (Nat.le_of_eq rfl) (by decide) (by decide) (by decide) ?_
  intro T1 X1 e1
  refine gIfEqT X1 hx (H d11_4) (pc' := 23) (by decide) (by decide) (pn := 7) rfl (fun (c4 : (1 : Int) = (0 : Int)) => ?_) (fun (c4 : ¬ (1 : Int) = (0 : Int)) => ?_)
  · exact absurd c4 (by decide)
  · refine gLoadAN 8 X1 hx (H d11_7) rfl rfl rfl ?_
    refine gGetF X1 hx hZ hown (ow hw 25 rfl) Via.refl e1 V (H d11_8) (pc' := 11) rfl (fun T2 X2 e2 => ?_)
    refine gLoadIN 12 X2 hx (H d11_11) rfl rfl ?_
    refine gLoadIN 13 X2 hx (H d11_12) rfl rfl ?_
    refine gLoadAN 14 X2 hx (H d11_13) rfl rfl rfl ?_
    refine gCallVJ X2 hx hZ (y := mn14) hown e2 (by rw [hml]; rfl) E (ow hw 48 rfl) (ow hw 49 rfl) (ow hw 51 rfl) (ow hw 50 rfl) (ow hw 7 rfl) (ow hw 52 rfl) (by decide) (argsL := []) (st := [(.int (0 : Int32)), (.int (65533 : Int32)), (.ref t)]) (c_length_2 l Z a0 hw a t ck ch0 ch1 h0 hCpt E C V A hch0 hch1) (lenOf pd_1 rfl) (H d11_14) (pc' := 17) rfl rfl rfl rfl (by decide) (W := 3) (Nat.le_of_eq rfl) (by decide) (by decide) (by decide) ?_
    intro T3 X3 e3
    refine gCallSJ X3 hx hZ (y := mn16) hown e3 (by rw [hml]; rfl) (ow hw 58 rfl) (ow hw 59 rfl) (ow hw 60 rfl) (ow hw 61 rfl) (by decide) (argsL := [(.ref t), (.int (65533 : Int32)), (.int (0 : Int32)), (.int (2 : Int32))]) (st := []) (c_ixL l Z a0 hw t (2 : Int32) h0) (lenOf pd_18 rfl) (H d11_17) (pc' := 20) rfl rfl rfl rfl (by decide) (W := 0) (Nat.le_of_eq rfl) (by decide) (by decide) (by decide) ?_
    intro T4 X4 e4
    refine gGoto X4 hx (H d11_20) (pc' := 36) (by decide) (by decide) ?_
    exact gRetI X4 hx hlk hret (H d11_36) (by decide) (by decide) (⟨rfl, e4, rfl⟩)
theorem c_ix1L_2 (l : Launch) (Z : State) (a0 : Array Value) (hw : ∀ d ∈ tables_1, d.before a0 Z = true) (a t : Addr) (ck : ClassId) (ch0 ch1 : Int32) (h0 : Heap) (hCpt : Cpt Z h0) (E : sE Z h0 a) (C : sC Z h0 a) (V : sV Z h0 a t) (A : sA Z h0 t ck 2 [by8 ch0, by8 ch1]) (hch0 : rg ch0) (hch1 : rg ch1) :
    Ctr l Z mn11 jdk_42_method_79_code 2 (some .int) [] ⟨3, 0, 0, 56⟩ #[(.ref a), (.int (65533 : Int32))] h0 (Just h0 (.int (-1))) := by
  refine Ctr.of (plainFor_of_name pn_4) ?_
  intro p e s m below meth c s₁ hx H hml hret hown hnm hZ hlk X0 e0
  refine Goes.cast (show entryFrame m _ _ = mkF m 0 #[.val (.ref a), .val (.int (65533 : Int32))] [] from rfl) ?_
  refine gLoadAN 1 X0 hx (H d10_0) rfl rfl rfl ?_
  refine gLoadIN 2 X0 hx (H d10_1) rfl rfl ?_
  refine gIconst 3 X0 hx (v := (0 : Int32)) (H d10_2) rfl rfl ?_
  refine gCallVJ X0 hx hZ (y := mn12) hown e0 (by rw [hml]; rfl) E (ow hw 37 rfl) (ow hw 38 rfl) (ow hw 40 rfl) (ow hw 39 rfl) (ow hw 7 rfl) (ow hw 41 rfl) (by decide) (argsL := [(.int (65533 : Int32)), (.int (0 : Int32))]) (st := []) (c_ix2L_2 l Z a0 hw a t ck ch0 ch1 h0 hCpt E C V A hch0 hch1) (lenOf pd_9 rfl) (H d10_3) (pc' := 6) rfl rfl rfl rfl (by decide) (W := 0) (Nat.le_of_eq rfl) (by decide) (by decide) (by decide) ?_
  intro T1 X1 e1
  exact gRetI X1 hx hlk hret (H d10_6) (by decide) (by decide) (⟨rfl, e1, rfl⟩)
theorem c_unL_2 (l : Launch) (Z : State) (a0 : Array Value) (hw : ∀ d ∈ tables_1, d.before a0 Z = true) (a t : Addr) (ck : ClassId) (ch0 ch1 : Int32) (h0 : Heap) (hCpt : Cpt Z h0) (E : sE Z h0 a) (C : sC Z h0 a) (V : sV Z h0 a t) (A : sA Z h0 t ck 2 [by8 ch0, by8 ch1]) (hch0 : rg ch0) (hch1 : rg ch1) :
    Ctr l Z mn0 prog_1_method_4_code 1 (some .boolean) [] ⟨4, 0, 0, 70⟩ #[(.ref a)] h0 (Just h0 (.int 0)) := by
  refine Ctr.of (plainFor_of_name pn_0) ?_
  intro p e s m below meth c s₁ hx H hml hret hown hnm hZ hlk X0 e0
  refine Goes.cast (show entryFrame m _ _ = mkF m 0 #[.val (.ref a)] [] from rfl) ?_
  refine gLoadAN 1 X0 hx (H d30_0) rfl rfl rfl ?_
  refine gLdc 3 X0 hx hZ hown (ow hw 31 rfl) (H d30_1) rfl ?_
  refine gCallVJ X0 hx hZ (y := mn11) hown e0 (by rw [hml]; rfl) E (ow hw 32 rfl) (ow hw 33 rfl) (ow hw 35 rfl) (ow hw 34 rfl) (ow hw 7 rfl) (ow hw 36 rfl) (by decide) (argsL := [(.int (65533 : Int32))]) (st := []) (c_ix1L_2 l Z a0 hw a t ck ch0 ch1 h0 hCpt E C V A hch0 hch1) (lenOf pd_6 rfl) (H d30_3) (pc' := 6) rfl rfl rfl rfl (by decide) (W := 0) (Nat.le_of_eq rfl) (by decide) (by decide) (by decide) ?_
  intro T1 X1 e1
  refine gIfLt X1 hx (H d30_6) (pc' := 13) (by decide) (by decide) (pn := 9) rfl (fun (c6 : (-1 : Int) < (0 : Int)) => ?_) (fun (c6 : (0 : Int) ≤ (-1 : Int)) => ?_)
  · refine gIconst 14 X1 hx (v := (0 : Int32)) (H d30_13) rfl rfl ?_
    exact gRetN X1 hx hlk hret (by simp) (H d30_14) (w := (0 : Int32)) rfl (by decide) (by decide) (⟨rfl, e1, rfl⟩)
  · exact absurd c6 (by decide)
theorem c_length_3 (l : Launch) (Z : State) (a0 : Array Value) (hw : ∀ d ∈ tables_1, d.before a0 Z = true) (a t : Addr) (ck : ClassId) (ch0 ch1 ch2 : Int32) (h0 : Heap) (hCpt : Cpt Z h0) (E : sE Z h0 a) (C : sC Z h0 a) (V : sV Z h0 a t) (A : sA Z h0 t ck 3 [by8 ch0, by8 ch1, by8 ch2]) (hch0 : rg ch0) (hch1 : rg ch1) (hch2 : rg ch2) :
    Ctr l Z mn14 jdk_42_method_54_code 1 (some .int) [] ⟨1, 0, 0, 13⟩ #[(.ref a)] h0 (Just h0 (.int 3)) := by
  refine Ctr.of (plainFor_of_name pn_4) ?_
  intro p e s m below meth c s₁ hx H hml hret hown hnm hZ hlk X0 e0
  refine Goes.cast (show entryFrame m _ _ = mkF m 0 #[.val (.ref a)] [] from rfl) ?_
  refine gLoadAN 1 X0 hx (H d9_0) rfl rfl rfl ?_
  refine gGetF X0 hx hZ hown (ow hw 25 rfl) Via.refl e0 V (H d9_1) (pc' := 4) rfl (fun T1 X1 e1 => ?_)
  refine gArrLen X1 hx hZ e1 A (H d9_4) (pc' := 5) rfl ?_
  refine gLoadAN 6 X1 hx (H d9_5) rfl rfl rfl ?_
  refine gCallVJ X1 hx hZ (y := mn10) hown e1 (by rw [hml]; rfl) E (ow hw 53 rfl) (ow hw 54 rfl) (ow hw 56 rfl) (ow hw 55 rfl) (ow hw 7 rfl) (ow hw 57 rfl) (by decide) (argsL := []) (st := [(.int (3 : Int32))]) (c_coder l Z a0 hw a h0 hCpt C) (lenOf pd_0 rfl) (H d9_6) (pc' := 9) rfl rfl rfl rfl (by decide) (W := 1) (Nat.le_of_eq rfl) (by decide) (by decide) (by decide) ?_
  intro T2 X2 e2
  refine gIshr 10 X2 hx (H d9_9) rfl ?_
  show Goes p e below _ T2 (mkF m 10 #[.val (.ref a)] [(.int (3 : Int32))])
  exact gRetI X2 hx hlk hret (H d9_10) (by decide) (by decide) (⟨rfl, e2, rfl⟩)
theorem c_ix2L_3 (l : Launch) (Z : State) (a0 : Array Value) (hw : ∀ d ∈ tables_1, d.before a0 Z = true) (a t : Addr) (ck : ClassId) (ch0 ch1 ch2 : Int32) (h0 : Heap) (hCpt : Cpt Z h0) (E : sE Z h0 a) (C : sC Z h0 a) (V : sV Z h0 a t) (A : sA Z h0 t ck 3 [by8 ch0, by8 ch1, by8 ch2]) (hch0 : rg ch0) (hch1 : rg ch1) (hch2 : rg ch2) :
    Ctr l Z mn12 jdk_42_method_80_code 3 (some .int) [] ⟨2, 0, 0, 42⟩ #[(.ref a), (.int (65533 : Int32)), (.int (0 : Int32))] h0 (Just h0 (.int (-1))) := by
  refine Ctr.of (plainFor_of_name pn_4) ?_
  intro p e s m below meth c s₁ hx H hml hret hown hnm hZ hlk X0 e0
  refine Goes.cast (show entryFrame m _ _ = mkF m 0 #[.val (.ref a), .val (.int (65533 : Int32)), .val (.int (0 : Int32))] [] from rfl) ?_
  refine gLoadAN 1 X0 hx (H d11_0) rfl rfl rfl ?_
  refine gCallVJ X0 hx hZ (y := mn13) hown e0 (by rw [hml]; rfl) E (ow hw 42 rfl) (ow hw 43 rfl) (ow hw 45 rfl) (ow hw 44 rfl) (ow hw 7 rfl) (ow hw 46 rfl) (by decide) (argsL := []) (st := []) (c_isLatin1 l Z a0 hw a h0 hCpt C) (lenOf pd_3 rfl) (H d11_1) (pc' := 4) rfl rfl rfl rfl (by decide) (W := 0) (Nat.le_of_eq rfl) (by decide) (by decide) (by decide) ?_
  intro T1 X1 e1
  refine gIfEqT X1 hx (H d11_4) (pc' := 23) (by decide) (by decide) (pn := 7) rfl (fun (c4 : (1 : Int) = (0 : Int)) => ?_) (fun (c4 : ¬ (1 : Int) = (0 : Int)) => ?_)
  · exact absurd c4 (by decide)
  · refine gLoadAN 8 X1 hx (H d11_7) rfl rfl rfl ?_
    refine gGetF X1 hx hZ hown (ow hw 25 rfl) Via.refl e1 V (H d11_8) (pc' := 11) rfl (fun T2 X2 e2 => ?_)
    refine gLoadIN 12 X2 hx (H d11_11) rfl rfl ?_
    refine gLoadIN 13 X2 hx (H d11_12) rfl rfl ?_
    refine gLoadAN 14 X2 hx (H d11_13) rfl rfl rfl ?_
    refine gCallVJ X2 hx hZ (y := mn14) hown e2 (by rw [hml]; rfl) E (ow hw 48 rfl) (ow hw 49 rfl) (ow hw 51 rfl) (ow hw 50 rfl) (ow hw 7 rfl) (ow hw 52 rfl) (by decide) (argsL := []) (st := [(.int (0 : Int32)), (.int (65533 : Int32)), (.ref t)]) (c_length_3 l Z a0 hw a t ck ch0 ch1 ch2 h0 hCpt E C V A hch0 hch1 hch2) (lenOf pd_1 rfl) (H d11_14) (pc' := 17) rfl rfl rfl rfl (by decide) (W := 3) (Nat.le_of_eq rfl) (by decide) (by decide) (by decide) ?_
    intro T3 X3 e3
    refine gCallSJ X3 hx hZ (y := mn16) hown e3 (by rw [hml]; rfl) (ow hw 58 rfl) (ow hw 59 rfl) (ow hw 60 rfl) (ow hw 61 rfl) (by decide) (argsL := [(.ref t), (.int (65533 : Int32)), (.int (0 : Int32)), (.int (3 : Int32))]) (st := []) (c_ixL l Z a0 hw t (3 : Int32) h0) (lenOf pd_18 rfl) (H d11_17) (pc' := 20) rfl rfl rfl rfl (by decide) (W := 0) (Nat.le_of_eq rfl) (by decide) (by decide) (by decide) ?_
    intro T4 X4 e4
    refine gGoto X4 hx (H d11_20) (pc' := 36) (by decide) (by decide) ?_
    exact gRetI X4 hx hlk hret (H d11_36) (by decide) (by decide) (⟨rfl, e4, rfl⟩)
theorem c_ix1L_3 (l : Launch) (Z : State) (a0 : Array Value) (hw : ∀ d ∈ tables_1, d.before a0 Z = true) (a t : Addr) (ck : ClassId) (ch0 ch1 ch2 : Int32) (h0 : Heap) (hCpt : Cpt Z h0) (E : sE Z h0 a) (C : sC Z h0 a) (V : sV Z h0 a t) (A : sA Z h0 t ck 3 [by8 ch0, by8 ch1, by8 ch2]) (hch0 : rg ch0) (hch1 : rg ch1) (hch2 : rg ch2) :
    Ctr l Z mn11 jdk_42_method_79_code 2 (some .int) [] ⟨3, 0, 0, 56⟩ #[(.ref a), (.int (65533 : Int32))] h0 (Just h0 (.int (-1))) := by
  refine Ctr.of (plainFor_of_name pn_4) ?_
  intro p e s m below meth c s₁ hx H hml hret hown hnm hZ hlk X0 e0
  refine Goes.cast (show entryFrame m _ _ = mkF m 0 #[.val (.ref a), .val (.int (65533 : Int32))] [] from rfl) ?_
  refine gLoadAN 1 X0 hx (H d10_0) rfl rfl rfl ?_
  refine gLoadIN 2 X0 hx (H d10_1) rfl rfl ?_
  refine gIconst 3 X0 hx (v := (0 : Int32)) (H d10_2) rfl rfl ?_
  refine gCallVJ X0 hx hZ (y := mn12) hown e0 (by rw [hml]; rfl) E (ow hw 37 rfl) (ow hw 38 rfl) (ow hw 40 rfl) (ow hw 39 rfl) (ow hw 7 rfl) (ow hw 41 rfl) (by decide) (argsL := [(.int (65533 : Int32)), (.int (0 : Int32))]) (st := []) (c_ix2L_3 l Z a0 hw a t ck ch0 ch1 ch2 h0 hCpt E C V A hch0 hch1 hch2) (lenOf pd_9 rfl) (H d10_3) (pc' := 6) rfl rfl rfl rfl (by decide) (W := 0) (Nat.le_of_eq rfl) (by decide) (by decide) (by decide) ?_
  intro T1 X1 e1
  exact gRetI X1 hx hlk hret (H d10_6) (by decide) (by decide) (⟨rfl, e1, rfl⟩)
theorem c_unL_3 (l : Launch) (Z : State) (a0 : Array Value) (hw : ∀ d ∈ tables_1, d.before a0 Z = true) (a t : Addr) (ck : ClassId) (ch0 ch1 ch2 : Int32) (h0 : Heap) (hCpt : Cpt Z h0) (E : sE Z h0 a) (C : sC Z h0 a) (V : sV Z h0 a t) (A : sA Z h0 t ck 3 [by8 ch0, by8 ch1, by8 ch2]) (hch0 : rg ch0) (hch1 : rg ch1) (hch2 : rg ch2) :
    Ctr l Z mn0 prog_1_method_4_code 1 (some .boolean) [] ⟨4, 0, 0, 70⟩ #[(.ref a)] h0 (Just h0 (.int 0)) := by
  refine Ctr.of (plainFor_of_name pn_0) ?_
  intro p e s m below meth c s₁ hx H hml hret hown hnm hZ hlk X0 e0
  refine Goes.cast (show entryFrame m _ _ = mkF m 0 #[.val (.ref a)] [] from rfl) ?_
  refine gLoadAN 1 X0 hx (H d30_0) rfl rfl rfl ?_
  refine gLdc 3 X0 hx hZ hown (ow hw 31 rfl) (H d30_1) rfl ?_
  refine gCallVJ X0 hx hZ (y := mn11) hown e0 (by rw [hml]; rfl) E (ow hw 32 rfl) (ow hw 33 rfl) (ow hw 35 rfl) (ow hw 34 rfl) (ow hw 7 rfl) (ow hw 36 rfl) (by decide) (argsL := [(.int (65533 : Int32))]) (st := []) (c_ix1L_3 l Z a0 hw a t ck ch0 ch1 ch2 h0 hCpt E C V A hch0 hch1 hch2) (lenOf pd_6 rfl) (H d30_3) (pc' := 6) rfl rfl rfl rfl (by decide) (W := 0) (Nat.le_of_eq rfl) (by decide) (by decide) (by decide) ?_
  intro T1 X1 e1
  refine gIfLt X1 hx (H d30_6) (pc' := 13) (by decide) (by decide) (pn := 9) rfl (fun (c6 : (-1 : Int) < (0 : Int)) => ?_) (fun (c6 : (0 : Int) ≤ (-1 : Int)) => ?_)
  · refine gIconst 14 X1 hx (v := (0 : Int32)) (H d30_13) rfl rfl ?_
    exact gRetN X1 hx hlk hret (by simp) (H d30_14) (w := (0 : Int32)) rfl (by decide) (by decide) (⟨rfl, e1, rfl⟩)
  · exact absurd c6 (by decide)
theorem c_length_4 (l : Launch) (Z : State) (a0 : Array Value) (hw : ∀ d ∈ tables_1, d.before a0 Z = true) (a t : Addr) (ck : ClassId) (ch0 ch1 ch2 ch3 : Int32) (h0 : Heap) (hCpt : Cpt Z h0) (E : sE Z h0 a) (C : sC Z h0 a) (V : sV Z h0 a t) (A : sA Z h0 t ck 4 [by8 ch0, by8 ch1, by8 ch2, by8 ch3]) (hch0 : rg ch0) (hch1 : rg ch1) (hch2 : rg ch2) (hch3 : rg ch3) :
    Ctr l Z mn14 jdk_42_method_54_code 1 (some .int) [] ⟨1, 0, 0, 13⟩ #[(.ref a)] h0 (Just h0 (.int 4)) := by
  refine Ctr.of (plainFor_of_name pn_4) ?_
  intro p e s m below meth c s₁ hx H hml hret hown hnm hZ hlk X0 e0
  refine Goes.cast (show entryFrame m _ _ = mkF m 0 #[.val (.ref a)] [] from rfl) ?_
  refine gLoadAN 1 X0 hx (H d9_0) rfl rfl rfl ?_
  refine gGetF X0 hx hZ hown (ow hw 25 rfl) Via.refl e0 V (H d9_1) (pc' := 4) rfl (fun T1 X1 e1 => ?_)
  refine gArrLen X1 hx hZ e1 A (H d9_4) (pc' := 5) rfl ?_
  refine gLoadAN 6 X1 hx (H d9_5) rfl rfl rfl ?_
  refine gCallVJ X1 hx hZ (y := mn10) hown e1 (by rw [hml]; rfl) E (ow hw 53 rfl) (ow hw 54 rfl) (ow hw 56 rfl) (ow hw 55 rfl) (ow hw 7 rfl) (ow hw 57 rfl) (by decide) (argsL := []) (st := [(.int (4 : Int32))]) (c_coder l Z a0 hw a h0 hCpt C) (lenOf pd_0 rfl) (H d9_6) (pc' := 9) rfl rfl rfl rfl (by decide) (W := 1) (Nat.le_of_eq rfl) (by decide) (by decide) (by decide) ?_
  intro T2 X2 e2
  refine gIshr 10 X2 hx (H d9_9) rfl ?_
  show Goes p e below _ T2 (mkF m 10 #[.val (.ref a)] [(.int (4 : Int32))])
  exact gRetI X2 hx hlk hret (H d9_10) (by decide) (by decide) (⟨rfl, e2, rfl⟩)
theorem c_ix2L_4 (l : Launch) (Z : State) (a0 : Array Value) (hw : ∀ d ∈ tables_1, d.before a0 Z = true) (a t : Addr) (ck : ClassId) (ch0 ch1 ch2 ch3 : Int32) (h0 : Heap) (hCpt : Cpt Z h0) (E : sE Z h0 a) (C : sC Z h0 a) (V : sV Z h0 a t) (A : sA Z h0 t ck 4 [by8 ch0, by8 ch1, by8 ch2, by8 ch3]) (hch0 : rg ch0) (hch1 : rg ch1) (hch2 : rg ch2) (hch3 : rg ch3) :
    Ctr l Z mn12 jdk_42_method_80_code 3 (some .int) [] ⟨2, 0, 0, 42⟩ #[(.ref a), (.int (65533 : Int32)), (.int (0 : Int32))] h0 (Just h0 (.int (-1))) := by
  refine Ctr.of (plainFor_of_name pn_4) ?_
  intro p e s m below meth c s₁ hx H hml hret hown hnm hZ hlk X0 e0
  refine Goes.cast (show entryFrame m _ _ = mkF m 0 #[.val (.ref a), .val (.int (65533 : Int32)), .val (.int (0 : Int32))] [] from rfl) ?_
  refine gLoadAN 1 X0 hx (H d11_0) rfl rfl rfl ?_
  refine gCallVJ X0 hx hZ (y := mn13) hown e0 (by rw [hml]; rfl) E (ow hw 42 rfl) (ow hw 43 rfl) (ow hw 45 rfl) (ow hw 44 rfl) (ow hw 7 rfl) (ow hw 46 rfl) (by decide) (argsL := []) (st := []) (c_isLatin1 l Z a0 hw a h0 hCpt C) (lenOf pd_3 rfl) (H d11_1) (pc' := 4) rfl rfl rfl rfl (by decide) (W := 0) (Nat.le_of_eq rfl) (by decide) (by decide) (by decide) ?_
  intro T1 X1 e1
  refine gIfEqT X1 hx (H d11_4) (pc' := 23) (by decide) (by decide) (pn := 7) rfl (fun (c4 : (1 : Int) = (0 : Int)) => ?_) (fun (c4 : ¬ (1 : Int) = (0 : Int)) => ?_)
  · exact absurd c4 (by decide)
  · refine gLoadAN 8 X1 hx (H d11_7) rfl rfl rfl ?_
    refine gGetF X1 hx hZ hown (ow hw 25 rfl) Via.refl e1 V (H d11_8) (pc' := 11) rfl (fun T2 X2 e2 => ?_)
    refine gLoadIN 12 X2 hx (H d11_11) rfl rfl ?_
    refine gLoadIN 13 X2 hx (H d11_12) rfl rfl ?_
    refine gLoadAN 14 X2 hx (H d11_13) rfl rfl rfl ?_
    refine gCallVJ X2 hx hZ (y := mn14) hown e2 (by rw [hml]; rfl) E (ow hw 48 rfl) (ow hw 49 rfl) (ow hw 51 rfl) (ow hw 50 rfl) (ow hw 7 rfl) (ow hw 52 rfl) (by decide) (argsL := []) (st := [(.int (0 : Int32)), (.int (65533 : Int32)), (.ref t)]) (c_length_4 l Z a0 hw a t ck ch0 ch1 ch2 ch3 h0 hCpt E C V A hch0 hch1 hch2 hch3) (lenOf pd_1 rfl) (H d11_14) (pc' := 17) rfl rfl rfl rfl (by decide) (W := 3) (Nat.le_of_eq rfl) (by decide) (by decide) (by decide) ?_
    intro T3 X3 e3
    refine gCallSJ X3 hx hZ (y := mn16) hown e3 (by rw [hml]; rfl) (ow hw 58 rfl) (ow hw 59 rfl) (ow hw 60 rfl) (ow hw 61 rfl) (by decide) (argsL := [(.ref t), (.int (65533 : Int32)), (.int (0 : Int32)), (.int (4 : Int32))]) (st := []) (c_ixL l Z a0 hw t (4 : Int32) h0) (lenOf pd_18 rfl) (H d11_17) (pc' := 20) rfl rfl rfl rfl (by decide) (W := 0) (Nat.le_of_eq rfl) (by decide) (by decide) (by decide) ?_
    intro T4 X4 e4
    refine gGoto X4 hx (H d11_20) (pc' := 36) (by decide) (by decide) ?_
    exact gRetI X4 hx hlk hret (H d11_36) (by decide) (by decide) (⟨rfl, e4, rfl⟩)
theorem c_ix1L_4 (l : Launch) (Z : State) (a0 : Array Value) (hw : ∀ d ∈ tables_1, d.before a0 Z = true) (a t : Addr) (ck : ClassId) (ch0 ch1 ch2 ch3 : Int32) (h0 : Heap) (hCpt : Cpt Z h0) (E : sE Z h0 a) (C : sC Z h0 a) (V : sV Z h0 a t) (A : sA Z h0 t ck 4 [by8 ch0, by8 ch1, by8 ch2, by8 ch3]) (hch0 : rg ch0) (hch1 : rg ch1) (hch2 : rg ch2) (hch3 : rg ch3) :
    Ctr l Z mn11 jdk_42_method_79_code 2 (some .int) [] ⟨3, 0, 0, 56⟩ #[(.ref a), (.int (65533 : Int32))] h0 (Just h0 (.int (-1))) := by
  refine Ctr.of (plainFor_of_name pn_4) ?_
  intro p e s m below meth c s₁ hx H hml hret hown hnm hZ hlk X0 e0
  refine Goes.cast (show entryFrame m _ _ = mkF m 0 #[.val (.ref a), .val (.int (65533 : Int32))] [] from rfl) ?_
  refine gLoadAN 1 X0 hx (H d10_0) rfl rfl rfl ?_
  refine gLoadIN 2 X0 hx (H d10_1) rfl rfl ?_
  refine gIconst 3 X0 hx (v := (0 : Int32)) (H d10_2) rfl rfl ?_
  refine gCallVJ X0 hx hZ (y := mn12) hown e0 (by rw [hml]; rfl) E (ow hw 37 rfl) (ow hw 38 rfl) (ow hw 40 rfl) (ow hw 39 rfl) (ow hw 7 rfl) (ow hw 41 rfl) (by decide) (argsL := [(.int (65533 : Int32)), (.int (0 : Int32))]) (st := []) (c_ix2L_4 l Z a0 hw a t ck ch0 ch1 ch2 ch3 h0 hCpt E C V A hch0 hch1 hch2 hch3) (lenOf pd_9 rfl) (H d10_3) (pc' := 6) rfl rfl rfl rfl (by decide) (W := 0) (Nat.le_of_eq rfl) (by decide) (by decide) (by decide) ?_
  intro T1 X1 e1
  exact gRetI X1 hx hlk hret (H d10_6) (by decide) (by decide) (⟨rfl, e1, rfl⟩)
theorem c_unL_4 (l : Launch) (Z : State) (a0 : Array Value) (hw : ∀ d ∈ tables_1, d.before a0 Z = true) (a t : Addr) (ck : ClassId) (ch0 ch1 ch2 ch3 : Int32) (h0 : Heap) (hCpt : Cpt Z h0) (E : sE Z h0 a) (C : sC Z h0 a) (V : sV Z h0 a t) (A : sA Z h0 t ck 4 [by8 ch0, by8 ch1, by8 ch2, by8 ch3]) (hch0 : rg ch0) (hch1 : rg ch1) (hch2 : rg ch2) (hch3 : rg ch3) :
    Ctr l Z mn0 prog_1_method_4_code 1 (some .boolean) [] ⟨4, 0, 0, 70⟩ #[(.ref a)] h0 (Just h0 (.int 0)) := by
  refine Ctr.of (plainFor_of_name pn_0) ?_
  intro p e s m below meth c s₁ hx H hml hret hown hnm hZ hlk X0 e0
  refine Goes.cast (show entryFrame m _ _ = mkF m 0 #[.val (.ref a)] [] from rfl) ?_
  refine gLoadAN 1 X0 hx (H d30_0) rfl rfl rfl ?_
  refine gLdc 3 X0 hx hZ hown (ow hw 31 rfl) (H d30_1) rfl ?_
  refine gCallVJ X0 hx hZ (y := mn11) hown e0 (by rw [hml]; rfl) E (ow hw 32 rfl) (ow hw 33 rfl) (ow hw 35 rfl) (ow hw 34 rfl) (ow hw 7 rfl) (ow hw 36 rfl) (by decide) (argsL := [(.int (65533 : Int32))]) (st := []) (c_ix1L_4 l Z a0 hw a t ck ch0 ch1 ch2 ch3 h0 hCpt E C V A hch0 hch1 hch2 hch3) (lenOf pd_6 rfl) (H d30_3) (pc' := 6) rfl rfl rfl rfl (by decide) (W := 0) (Nat.le_of_eq rfl) (by decide) (by decide) (by decide) ?_
  intro T1 X1 e1
  refine gIfLt X1 hx (H d30_6) (pc' := 13) (by decide) (by decide) (pn := 9) rfl (fun (c6 : (-1 : Int) < (0 : Int)) => ?_) (fun (c6 : (0 : Int) ≤ (-1 : Int)) => ?_)
  · refine gIconst 14 X1 hx (v := (0 : Int32)) (H d30_13) rfl rfl ?_
    exact gRetN X1 hx hlk hret (by simp) (H d30_14) (w := (0 : Int32)) rfl (by decide) (by decide) (⟨rfl, e1, rfl⟩)
  · exact absurd c6 (by decide)
theorem d1_0 : decode jdk_29_method_65_code 0 = .ok (.iload_n 0, 1) := by decide +kernel
theorem d1_1 : decode jdk_29_method_65_code 1 = .ok (.iload_n 1, 1) := by decide +kernel
theorem d1_2 : decode jdk_29_method_65_code 2 = .ok (.if_icmp .lt 7, 3) := by decide +kernel
theorem d1_5 : decode jdk_29_method_65_code 5 = .ok (.iload_n 0, 1) := by decide +kernel
theorem d1_6 : decode jdk_29_method_65_code 6 = .ok (.goto 4, 3) := by decide +kernel
theorem d1_10 : decode jdk_29_method_65_code 10 = .ok (.ireturn, 1) := by decide +kernel
abbrev mn4 : MethodName := ⟨"java/lang/Math", "max", "(II)I"⟩
theorem c_max_0_0 (l : Launch) (Z : State) (a0 : Array Value) (hw : ∀ d ∈ tables_1, d.before a0 Z = true)  (h0 : Heap)  :
    Ctr l Z mn4 jdk_29_method_65_code 2 (some .int) [] ⟨0, 0, 0, 0⟩ #[(.int (0 : Int32)), (.int (0 : Int32))] h0 (Just h0 (.int (0))) := by
  refine Ctr.of (Jvm.Free.JP.mathPlain rfl (by decide +kernel)) ?_
  intro p e s m below meth c s₁ hx H hml hret hown hnm hZ hlk X0 e0
  refine Goes.cast (show entryFrame m _ _ = mkF m 0 #[.val (.int (0 : Int32)), .val (.int (0 : Int32))] [] from rfl) ?_
  refine gLoadIN 1 X0 hx (H d1_0) rfl rfl ?_
  refine gLoadIN 2 X0 hx (H d1_1) rfl rfl ?_
  refine gIcmpLt X0 hx (H d1_2) (pc' := 9) (by decide) (by decide) (pn := 5) rfl (fun (c2 : (0 : Int) < (0 : Int)) => ?_) (fun (c2 : (0 : Int) ≤ (0 : Int)) => ?_)
  · exact absurd c2 (by decide)
  · refine gLoadIN 6 X0 hx (H d1_5) rfl rfl ?_
    refine gGoto X0 hx (H d1_6) (pc' := 10) (by decide) (by decide) ?_
    exact gRetI X0 hx hlk hret (H d1_10) (by decide) (by decide) (⟨rfl, e0, rfl⟩)
theorem d2_0 : decode jdk_29_method_69_code 0 = .ok (.iload_n 0, 1) := by decide +kernel
theorem d2_1 : decode jdk_29_method_69_code 1 = .ok (.iload_n 1, 1) := by decide +kernel
theorem d2_2 : decode jdk_29_method_69_code 2 = .ok (.if_icmp .gt 7, 3) := by decide +kernel
theorem d2_5 : decode jdk_29_method_69_code 5 = .ok (.iload_n 0, 1) := by decide +kernel
theorem d2_6 : decode jdk_29_method_69_code 6 = .ok (.goto 4, 3) := by decide +kernel
theorem d2_10 : decode jdk_29_method_69_code 10 = .ok (.ireturn, 1) := by decide +kernel
abbrev mn5 : MethodName := ⟨"java/lang/Math", "min", "(II)I"⟩
theorem c_min_1_1 (l : Launch) (Z : State) (a0 : Array Value) (hw : ∀ d ∈ tables_1, d.before a0 Z = true)  (h0 : Heap)  :
    Ctr l Z mn5 jdk_29_method_69_code 2 (some .int) [] ⟨0, 0, 0, 0⟩ #[(.int (1 : Int32)), (.int (1 : Int32))] h0 (Just h0 (.int (1))) := by
  refine Ctr.of (Jvm.Free.JP.mathPlain rfl (by decide +kernel)) ?_
  intro p e s m below meth c s₁ hx H hml hret hown hnm hZ hlk X0 e0
  refine Goes.cast (show entryFrame m _ _ = mkF m 0 #[.val (.int (1 : Int32)), .val (.int (1 : Int32))] [] from rfl) ?_
  refine gLoadIN 1 X0 hx (H d2_0) rfl rfl ?_
  refine gLoadIN 2 X0 hx (H d2_1) rfl rfl ?_
  refine gIcmpGt X0 hx (H d2_2) (pc' := 9) (by decide) (by decide) (pn := 5) rfl (fun (c2 : (1 : Int) < (1 : Int)) => ?_) (fun (c2 : (1 : Int) ≤ (1 : Int)) => ?_)
  · exact absurd c2 (by decide)
  · refine gLoadIN 6 X0 hx (H d2_5) rfl rfl ?_
    refine gGoto X0 hx (H d2_6) (pc' := 10) (by decide) (by decide) ?_
    exact gRetI X0 hx hlk hret (H d2_10) (by decide) (by decide) (⟨rfl, e0, rfl⟩)
def ix1 (ch0 : Int32) : Int32 := if ch0.toInt = 65533 then 0 else (-1)
theorem ix1_y {ch0 : Int32} (h : (ix1 ch0).toInt < 0) : ¬ (ch0.toInt = 65533) := by
  unfold ix1 at h
  repeat' split at h
  all_goals first | exact absurd h (by decide) | (clear h; simp_all)
theorem ix1_n {ch0 : Int32} (h : 0 ≤ (ix1 ch0).toInt) : ch0.toInt = 65533 := by
  unfold ix1 at h
  repeat' split at h
  all_goals first | exact absurd h (by decide) | (clear h; simp_all)
theorem d25_0 : decode jdk_52_method_6_code 0 = .ok (.aload_n 0, 1) := by decide +kernel
theorem d25_1 : decode jdk_52_method_6_code 1 = .ok (.arraylength, 1) := by decide +kernel
theorem d25_2 : decode jdk_52_method_6_code 2 = .ok (.iconst 1, 1) := by decide +kernel
theorem d25_3 : decode jdk_52_method_6_code 3 = .ok (.ishr, 1) := by decide +kernel
theorem d25_4 : decode jdk_52_method_6_code 4 = .ok (.ireturn, 1) := by decide +kernel
abbrev mn25 : MethodName := ⟨"java/lang/StringUTF16", "length", "([B)I"⟩
theorem c_ul_1 (l : Launch) (Z : State) (a0 : Array Value) (hw : ∀ d ∈ tables_1, d.before a0 Z = true) (t : Addr) (ck : ClassId) (ch0 : Int32) (h0 : Heap) (A : sA Z h0 t ck 2 [(.int (lo8 ch0)), (.int (hi8 ch0))]) :
    Ctr l Z mn25 jdk_52_method_6_code 1 (some .int) [] ⟨0, 0, 0, 0⟩ #[(.ref t)] h0 (Just h0 (.int 1)) := by
  refine Ctr.of (plainFor_of_name pn_6) ?_
  intro p e s m below meth c s₁ hx H hml hret hown hnm hZ hlk X0 e0
  refine Goes.cast (show entryFrame m _ _ = mkF m 0 #[.val (.ref t)] [] from rfl) ?_
  refine gLoadAN 1 X0 hx (H d25_0) rfl rfl rfl ?_
  refine gArrLen X0 hx hZ e0 A (H d25_1) (pc' := 2) rfl ?_
  refine gIconst 3 X0 hx (v := (1 : Int32)) (H d25_2) rfl rfl ?_
  refine gIshr 4 X0 hx (H d25_3) rfl ?_
  show Goes p e below _ s₁ (mkF m 4 #[.val (.ref t)] [(.int (1 : Int32))])
  exact gRetI X0 hx hlk hret (H d25_4) (by decide) (by decide) (⟨rfl, e0, rfl⟩)
theorem d3_0 : decode jdk_41_method_12_code 0 = .ok (.iload_n 0, 1) := by decide +kernel
theorem d3_1 : decode jdk_41_method_12_code 1 = .ok (.ifCond .lt 13, 3) := by decide +kernel
theorem d3_4 : decode jdk_41_method_12_code 4 = .ok (.iload_n 0, 1) := by decide +kernel
theorem d3_5 : decode jdk_41_method_12_code 5 = .ok (.iload_n 1, 1) := by decide +kernel
theorem d3_6 : decode jdk_41_method_12_code 6 = .ok (.if_icmp .gt 8, 3) := by decide +kernel
theorem d3_9 : decode jdk_41_method_12_code 9 = .ok (.iload_n 1, 1) := by decide +kernel
theorem d3_10 : decode jdk_41_method_12_code 10 = .ok (.iload_n 2, 1) := by decide +kernel
theorem d3_11 : decode jdk_41_method_12_code 11 = .ok (.if_icmp .le 11, 3) := by decide +kernel
theorem d3_22 : decode jdk_41_method_12_code 22 = .ok (.iload_n 0, 1) := by decide +kernel
theorem d3_23 : decode jdk_41_method_12_code 23 = .ok (.ireturn, 1) := by decide +kernel
abbrev mn30 : MethodName := ⟨"jdk/internal/util/Preconditions", "checkFromToIndex", "(IIILjava/util/function/BiFunction;)I"⟩
theorem pn_7 : plainName "jdk/internal/util/Preconditions" = true := by first | (simp [plainName, overriddenIn]; done) | decide +kernel
theorem ef_c_chkftp (m : MethodId) (p0 : Int32) (p1 : Int32) (p2 : Int32) (sf : Value) (hsf : sf.isRef = true) : entryFrame m #[(.int p0), (.int p1), (.int p2), sf] 4 = mkF m 0 #[.val (.int p0), .val (.int p1), .val (.int p2), .val sf] [] := by rcases ref_cases hsf with rfl | ⟨_, rfl⟩ <;> (first | (simp [entryFrame, mkF, argsToLocals, Value.category]; done) | rfl)
theorem c_chkftp (l : Launch) (Z : State) (a0 : Array Value) (hw : ∀ d ∈ tables_1, d.before a0 Z = true) (p0 p1 p2 : Int32) (sf : Value) (hsf : sf.isRef = true) (h0 : Heap) (h1 : 0 ≤ p0.toInt) (h2 : p0.toInt ≤ p1.toInt) (h3 : p1.toInt ≤ p2.toInt) :
    Ctr l Z mn30 jdk_41_method_12_code 4 (some .int) [] ⟨0, 0, 0, 0⟩ #[(.int p0), (.int p1), (.int p2), sf] h0 (Just h0 (.int p0)) := by
  refine Ctr.of (plainFor_of_name pn_7) ?_
  intro p e s m below meth c s₁ hx H hml hret hown hnm hZ hlk X0 e0
  refine Goes.cast (ef_c_chkftp m p0 p1 p2 sf hsf) ?_
  refine gLoadIN 1 X0 hx (H d3_0) rfl rfl ?_
  refine gIfLt X0 hx (H d3_1) (pc' := 14) (by decide) (by decide) (pn := 4) rfl (fun (c1 : p0.toInt < (0 : Int)) => ?_) (fun (c1 : (0 : Int) ≤ p0.toInt) => ?_)
  · exact absurd c1 (by omega)
  · refine gLoadIN 5 X0 hx (H d3_4) rfl rfl ?_
    refine gLoadIN 6 X0 hx (H d3_5) rfl rfl ?_
    refine gIcmpGt X0 hx (H d3_6) (pc' := 14) (by decide) (by decide) (pn := 9) rfl (fun (c6 : p1.toInt < p0.toInt) => ?_) (fun (c6 : p0.toInt ≤ p1.toInt) => ?_)
    · exact absurd c6 (by omega)
    · refine gLoadIN 10 X0 hx (H d3_9) rfl rfl ?_
      refine gLoadIN 11 X0 hx (H d3_10) rfl rfl ?_
      refine gIcmpLe X0 hx (H d3_11) (pc' := 22) (by decide) (by decide) (pn := 14) rfl (fun (c11 : p1.toInt ≤ p2.toInt) => ?_) (fun (c11 : p2.toInt < p1.toInt) => ?_)
      · refine gLoadIN 23 X0 hx (H d3_22) rfl rfl ?_
        exact gRetI X0 hx hlk hret (H d3_23) (by decide) (by decide) (⟨rfl, e0, rfl⟩)
      · exact absurd c11 (by omega)
theorem d7_0 : decode jdk_42_method_158_code 0 = .ok (.iload_n 0, 1) := by decide +kernel
theorem d7_1 : decode jdk_42_method_158_code 1 = .ok (.iload_n 1, 1) := by decide +kernel
theorem d7_2 : decode jdk_42_method_158_code 2 = .ok (.iload_n 2, 1) := by decide +kernel
theorem d7_3 : decode jdk_42_method_158_code 3 = .ok (.getstatic 1053, 3) := by decide +kernel
theorem d7_6 : decode jdk_42_method_158_code 6 = .ok (.invokestatic 1062, 3) := by decide +kernel
theorem pd_11 : parseMethodDescriptor "(IIILjava/util/function/BiFunction;)I" = some ⟨[.int, .int, .int, (.object "java/util/function/BiFunction")], some .int⟩ := by decide +kernel
theorem d7_9 : decode jdk_42_method_158_code 9 = .ok (.pop, 1) := by decide +kernel
theorem d7_10 : decode jdk_42_method_158_code 10 = .ok (.return_, 1) := by decide +kernel
abbrev mn9 : MethodName := ⟨"java/lang/String", "checkBoundsBeginEnd", "(III)V"⟩
theorem c_chkft (l : Launch) (Z : State) (a0 : Array Value) (hw : ∀ d ∈ tables_1, d.before a0 Z = true) (p0 p1 p2 : Int32) (h0 : Heap) (h1 : 0 ≤ p0.toInt) (h2 : p0.toInt ≤ p1.toInt) (h3 : p1.toInt ≤ p2.toInt) (hSio : Sio Z h0) :
    Ctr l Z mn9 jdk_42_method_158_code 3 none [] ⟨1, 0, 0, 15⟩ #[(.int p0), (.int p1), (.int p2)] h0 (fun v h L => v = none ∧ h = h0 ∧ L = []) := by
  refine Ctr.of (plainFor_of_name pn_4) ?_
  intro p e s m below meth c s₁ hx H hml hret hown hnm hZ hlk X0 e0
  refine Goes.cast (show entryFrame m _ _ = mkF m 0 #[.val (.int p0), .val (.int p1), .val (.int p2)] [] from rfl) ?_
  obtain ⟨sf, SF, hsf⟩ := hSio
  refine gLoadIN 1 X0 hx (H d7_0) rfl rfl ?_
  refine gLoadIN 2 X0 hx (H d7_1) rfl rfl ?_
  refine gLoadIN 3 X0 hx (H d7_2) rfl rfl ?_
  refine gGetS X0 hx hZ hown (ow hw 121 rfl) Via.refl e0 SF (H d7_3) (pc' := 6) rfl (fun T1 X1 e1 => ?_)
  refine gCallSJ X1 hx hZ (y := mn30) hown e1 (by rw [hml]; rfl) (ow hw 123 rfl) (ow hw 124 rfl) (ow hw 122 rfl) (ow hw 125 rfl) (by decide) (argsL := [(.int p0), (.int p1), (.int p2), sf]) (st := []) (c_chkftp l Z a0 hw p0 p1 p2 sf hsf h0 h1 h2 h3) (lenOf pd_11 rfl) (H d7_6) (pc' := 9) rfl rfl rfl rfl (by decide) (W := 0) (Nat.le_of_eq rfl) (by decide) (by decide) (by decide) ?_
  intro T2 X2 e2
  refine gPop 10 X2 hx (H d7_9) rfl rfl ?_
  exact gRetV X2 hx hlk hret (H d7_10) (by decide) (by decide) (⟨rfl, e2, rfl⟩)
theorem d26_0 : decode jdk_52_method_93_code 0 = .ok (.iload_n 0, 1) := by decide +kernel
theorem d26_1 : decode jdk_52_method_93_code 1 = .ok (.iload_n 1, 1) := by decide +kernel
theorem d26_2 : decode jdk_52_method_93_code 2 = .ok (.aload_n 2, 1) := by decide +kernel
theorem d26_3 : decode jdk_52_method_93_code 3 = .ok (.invokestatic 48, 3) := by decide +kernel
theorem pd_14 : parseMethodDescriptor "([B)I" = some ⟨[(.array .byte)], some .int⟩ := by decide +kernel
theorem d26_6 : decode jdk_52_method_93_code 6 = .ok (.invokestatic 241, 3) := by decide +kernel
theorem pd_10 : parseMethodDescriptor "(III)V" = some ⟨[.int, .int, .int], none⟩ := by decide +kernel
theorem d26_9 : decode jdk_52_method_93_code 9 = .ok (.return_, 1) := by decide +kernel
abbrev mn17 : MethodName := ⟨"java/lang/StringUTF16", "checkBoundsBeginEnd", "(II[B)V"⟩
theorem c_cb_1 (l : Launch) (Z : State) (a0 : Array Value) (hw : ∀ d ∈ tables_1, d.before a0 Z = true) (t : Addr) (ck : ClassId) (ch0 : Int32) (h0 : Heap) (hSio : Sio Z h0) (A : sA Z h0 t ck 2 [(.int (lo8 ch0)), (.int (hi8 ch0))]) :
    Ctr l Z mn17 jdk_52_method_93_code 3 none [] ⟨2, 0, 0, 30⟩ #[(.int (0 : Int32)), (.int (1 : Int32)), (.ref t)] h0 (fun v h L => v = none ∧ h = h0 ∧ L = []) := by
  refine Ctr.of (plainFor_of_name pn_6) ?_
  intro p e s m below meth c s₁ hx H hml hret hown hnm hZ hlk X0 e0
  refine Goes.cast (show entryFrame m _ _ = mkF m 0 #[.val (.int (0 : Int32)), .val (.int (1 : Int32)), .val (.ref t)] [] from rfl) ?_
  refine gLoadIN 1 X0 hx (H d26_0) rfl rfl ?_
  refine gLoadIN 2 X0 hx (H d26_1) rfl rfl ?_
  refine gLoadAN 3 X0 hx (H d26_2) rfl rfl rfl ?_
  refine gCallSJ X0 hx hZ (y := mn25) hown e0 (by rw [hml]; rfl) (ow hw 115 rfl) (ow hw 116 rfl) (ow hw 67 rfl) (ow hw 117 rfl) (by decide) (argsL := [(.ref t)]) (st := [(.int (1 : Int32)), (.int (0 : Int32))]) (c_ul_1 l Z a0 hw t ck ch0 h0 A) (lenOf pd_14 rfl) (H d26_3) (pc' := 6) rfl rfl rfl rfl (by decide) (W := 2) (Nat.le_of_eq rfl) (by decide) (by decide) (by decide) ?_
  intro T1 X1 e1
  refine gCallS X1 hx hZ (y := mn9) hown e1 (by rw [hml]; rfl) (ow hw 118 rfl) (ow hw 119 rfl) (ow hw 7 rfl) (ow hw 120 rfl) (by decide) (argsL := [(.int (0 : Int32)), (.int (1 : Int32)), (.int (1 : Int32))]) (st := []) (c_chkft l Z a0 hw (0 : Int32) (1 : Int32) (1 : Int32) h0 (by decide) (by decide) (by decide) hSio) (lenOf pd_10 rfl) (H d26_6) (pc' := 9) rfl rfl (by decide) (W := 0) (Nat.le_of_eq rfl) (by decide) (by decide) (by decide) ?_
  intro T2 v2 L2 X2 hQ2
  obtain ⟨rfl, eq2, rfl⟩ := hQ2
  rw [List.append_nil] at X2
  exact gRetV X2 hx hlk hret (H d26_9) (by decide) (by decide) (⟨rfl, eq2, rfl⟩)
theorem d22_0 : decode jdk_52_method_48_code 0 = .ok (.iload_n 2, 1) := by decide +kernel
theorem d22_1 : decode jdk_52_method_48_code 1 = .ok (.istore 4, 2) := by decide +kernel
theorem d22_3 : decode jdk_52_method_48_code 3 = .ok (.iload 4, 2) := by decide +kernel
theorem d22_5 : decode jdk_52_method_48_code 5 = .ok (.iload_n 3, 1) := by decide +kernel
theorem d22_6 : decode jdk_52_method_48_code 6 = .ok (.if_icmp .ge 22, 3) := by decide +kernel
theorem d22_9 : decode jdk_52_method_48_code 9 = .ok (.aload_n 0, 1) := by decide +kernel
theorem d22_10 : decode jdk_52_method_48_code 10 = .ok (.iload 4, 2) := by decide +kernel
theorem d22_12 : decode jdk_52_method_48_code 12 = .ok (.invokestatic 71, 3) := by decide +kernel
theorem d22_15 : decode jdk_52_method_48_code 15 = .ok (.iload_n 1, 1) := by decide +kernel
theorem d22_16 : decode jdk_52_method_48_code 16 = .ok (.if_icmp .ne 6, 3) := by decide +kernel
theorem d22_22 : decode jdk_52_method_48_code 22 = .ok (.iinc 4 1, 3) := by decide +kernel
theorem d22_25 : decode jdk_52_method_48_code 25 = .ok (.goto (-22), 3) := by decide +kernel
theorem d22_28 : decode jdk_52_method_48_code 28 = .ok (.iconst (-1), 1) := by decide +kernel
theorem d22_29 : decode jdk_52_method_48_code 29 = .ok (.ireturn, 1) := by decide +kernel
theorem d22_19 : decode jdk_52_method_48_code 19 = .ok (.iload 4, 2) := by decide +kernel
theorem d22_21 : decode jdk_52_method_48_code 21 = .ok (.ireturn, 1) := by decide +kernel
abbrev mn24 : MethodName := ⟨"java/lang/StringUTF16", "indexOfCharUnsafe", "([BIII)I"⟩
theorem c_iu_1 (l : Launch) (Z : State) (a0 : Array Value) (hw : ∀ d ∈ tables_1, d.before a0 Z = true) (t : Addr) (ck : ClassId) (ch0 : Int32) (h0 : Heap) (hU : U16 Z h0) (hSio : Sio Z h0) (A : sA Z h0 t ck 2 [(.int (lo8 ch0)), (.int (hi8 ch0))]) (hch0 : r6 ch0) :
    Ctr l Z mn24 jdk_52_method_48_code 5 (some .int) [] ⟨1, 0, 0, 20⟩ #[(.ref t), (.int (65533 : Int32)), (.int (0 : Int32)), (.int (1 : Int32))] h0 (Just h0 (.int (ix1 ch0))) := by
  refine Ctr.of (plainFor_of_name pn_6) ?_
  intro p e s m below meth c s₁ hx H hml hret hown hnm hZ hlk X0 e0
  refine Goes.cast (show entryFrame m _ _ = mkF m 0 #[.val (.ref t), .val (.int (65533 : Int32)), .val (.int (0 : Int32)), .val (.int (1 : Int32)), .unset] [] from rfl) ?_
  refine gLoadIN 1 X0 hx (H d22_0) rfl rfl ?_
  refine gStoreI 3 X0 hx (H d22_1) (l' := #[.val (.ref t), .val (.int (65533 : Int32)), .val (.int (0 : Int32)), .val (.int (1 : Int32)), .val (.int (0 : Int32))]) rfl rfl ?_
  refine gLoadI 5 X0 hx (H d22_3) rfl rfl ?_
  refine gLoadIN 6 X0 hx (H d22_5) rfl rfl ?_
  refine gIcmpGe X0 hx (H d22_6) (pc' := 28) (by decide) (by decide) (pn := 9) rfl (fun (c6 : (1 : Int) ≤ (0 : Int)) => ?_) (fun (c6 : (0 : Int) < (1 : Int)) => ?_)
  · exact absurd c6 (by decide)
  · refine gLoadAN 10 X0 hx (H d22_9) rfl rfl rfl ?_
    refine gLoadI 12 X0 hx (H d22_10) rfl rfl ?_
    refine gCallSJ X0 hx hZ (y := mn21) hown e0 (by rw [hml]; rfl) (ow hw 95 rfl) (ow hw 96 rfl) (ow hw 67 rfl) (ow hw 97 rfl) (by decide) (argsL := [(.ref t), (.int (0 : Int32))]) (st := []) (c_get_1_0 l Z a0 hw t ck ch0 h0 hU A hch0) (lenOf pd_16 rfl) (H d22_12) (pc' := 15) rfl rfl rfl rfl (by decide) (W := 0) (Nat.le_of_eq rfl) (by decide) (by decide) (by decide) ?_
    intro T1 X1 e1
    refine gLoadIN 16 X1 hx (H d22_15) rfl rfl ?_
    refine gIcmpNeT X1 hx (H d22_16) (pc' := 22) (by decide) (by decide) (pn := 19) rfl (fun (c16 : ¬ ch0.toInt = (65533 : Int)) => ?_) (fun (c16 : ch0.toInt = (65533 : Int)) => ?_)
    · refine gIinc X1 hx (v := (1 : Int32)) (H d22_22) (l' := #[.val (.ref t), .val (.int (65533 : Int32)), .val (.int (0 : Int32)), .val (.int (1 : Int32)), .val (.int (1 : Int32))]) (pc' := 25) rfl rfl rfl rfl ?_
      refine gGoto X1 hx (H d22_25) (pc' := 3) (by decide) (by decide) ?_
      refine gLoadI 5 X1 hx (H d22_3) rfl rfl ?_
      refine gLoadIN 6 X1 hx (H d22_5) rfl rfl ?_
      refine gIcmpGe X1 hx (H d22_6) (pc' := 28) (by decide) (by decide) (pn := 9) rfl (fun (c6' : (1 : Int) ≤ (1 : Int)) => ?_) (fun (c6' : (1 : Int) < (1 : Int)) => ?_)
      · refine gIconst 29 X1 hx (v := (-1 : Int32)) (H d22_28) rfl rfl ?_
        exact gRetI X1 hx hlk hret (H d22_29) (by decide) (by decide) (⟨by rw [ix1, if_neg c16], e1, rfl⟩)
      · exact absurd c6' (by decide)
    · refine gLoadI 21 X1 hx (H d22_19) rfl rfl ?_
      exact gRetI X1 hx hlk hret (H d22_21) (by decide) (by decide) (⟨by rw [ix1, if_pos c16], e1, rfl⟩)
theorem d21_0 : decode jdk_52_method_47_code 0 = .ok (.iload_n 2, 1) := by decide +kernel
theorem d21_1 : decode jdk_52_method_47_code 1 = .ok (.iload_n 3, 1) := by decide +kernel
theorem d21_2 : decode jdk_52_method_47_code 2 = .ok (.aload_n 0, 1) := by decide +kernel
theorem d21_3 : decode jdk_52_method_47_code 3 = .ok (.invokestatic 96, 3) := by decide +kernel
theorem pd_12 : parseMethodDescriptor "(II[B)V" = some ⟨[.int, .int, (.array .byte)], none⟩ := by decide +kernel
theorem d21_6 : decode jdk_52_method_47_code 6 = .ok (.aload_n 0, 1) := by decide +kernel
theorem d21_7 : decode jdk_52_method_47_code 7 = .ok (.iload_n 1, 1) := by decide +kernel
theorem d21_8 : decode jdk_52_method_47_code 8 = .ok (.iload_n 2, 1) := by decide +kernel
theorem d21_9 : decode jdk_52_method_47_code 9 = .ok (.iload_n 3, 1) := by decide +kernel
theorem d21_10 : decode jdk_52_method_47_code 10 = .ok (.invokestatic 244, 3) := by decide +kernel
theorem d21_13 : decode jdk_52_method_47_code 13 = .ok (.ireturn, 1) := by decide +kernel
abbrev mn23 : MethodName := ⟨"java/lang/StringUTF16", "indexOfChar", "([BIII)I"⟩
theorem c_ic_1 (l : Launch) (Z : State) (a0 : Array Value) (hw : ∀ d ∈ tables_1, d.before a0 Z = true) (t : Addr) (ck : ClassId) (ch0 : Int32) (h0 : Heap) (hU : U16 Z h0) (hSio : Sio Z h0) (A : sA Z h0 t ck 2 [(.int (lo8 ch0)), (.int (hi8 ch0))]) (hch0 : r6 ch0) :
    Ctr l Z mn23 jdk_52_method_47_code 4 (some .int) [] ⟨3, 0, 0, 50⟩ #[(.ref t), (.int (65533 : Int32)), (.int (0 : Int32)), (.int (1 : Int32))] h0 (Just h0 (.int (ix1 ch0))) := by
  refine Ctr.of (plainFor_of_name pn_6) ?_
  intro p e s m below meth c s₁ hx H hml hret hown hnm hZ hlk X0 e0
  refine Goes.cast (show entryFrame m _ _ = mkF m 0 #[.val (.ref t), .val (.int (65533 : Int32)), .val (.int (0 : Int32)), .val (.int (1 : Int32))] [] from rfl) ?_
  refine gLoadIN 1 X0 hx (H d21_0) rfl rfl ?_
  refine gLoadIN 2 X0 hx (H d21_1) rfl rfl ?_
  refine gLoadAN 3 X0 hx (H d21_2) rfl rfl rfl ?_
  refine gCallS X0 hx hZ (y := mn17) hown e0 (by rw [hml]; rfl) (ow hw 112 rfl) (ow hw 113 rfl) (ow hw 67 rfl) (ow hw 114 rfl) (by decide) (argsL := [(.int (0 : Int32)), (.int (1 : Int32)), (.ref t)]) (st := []) (c_cb_1 l Z a0 hw t ck ch0 h0 hSio A) (lenOf pd_12 rfl) (H d21_3) (pc' := 6) rfl rfl (by decide) (W := 0) (Nat.le_of_eq rfl) (by decide) (by decide) (by decide) ?_
  intro T1 v1 L1 X1 hQ1
  obtain ⟨rfl, eq1, rfl⟩ := hQ1
  rw [List.append_nil] at X1
  refine gLoadAN 7 X1 hx (H d21_6) rfl rfl rfl ?_
  refine gLoadIN 8 X1 hx (H d21_7) rfl rfl ?_
  refine gLoadIN 9 X1 hx (H d21_8) rfl rfl ?_
  refine gLoadIN 10 X1 hx (H d21_9) rfl rfl ?_
  refine gCallSJ X1 hx hZ (y := mn24) hown eq1 (by rw [hml]; rfl) (ow hw 126 rfl) (ow hw 127 rfl) (ow hw 67 rfl) (ow hw 128 rfl) (by decide) (argsL := [(.ref t), (.int (65533 : Int32)), (.int (0 : Int32)), (.int (1 : Int32))]) (st := []) (c_iu_1 l Z a0 hw t ck ch0 h0 hU hSio A hch0) (lenOf pd_18 rfl) (H d21_10) (pc' := 13) rfl rfl rfl rfl (by decide) (W := 0) (Nat.le_of_eq rfl) (by decide) (by decide) (by decide) ?_
  intro T2 X2 e2
  exact gRetI X2 hx hlk hret (H d21_13) (by decide) (by decide) (⟨rfl, e2, rfl⟩)
theorem d20_0 : decode jdk_52_method_40_code 0 = .ok (.iload_n 2, 1) := by decide +kernel
theorem d20_1 : decode jdk_52_method_40_code 1 = .ok (.iconst 0, 1) := by decide +kernel
theorem d20_2 : decode jdk_52_method_40_code 2 = .ok (.invokestatic 224, 3) := by decide +kernel
theorem d20_5 : decode jdk_52_method_40_code 5 = .ok (.istore_n 2, 1) := by decide +kernel
theorem d20_6 : decode jdk_52_method_40_code 6 = .ok (.iload_n 3, 1) := by decide +kernel
theorem d20_7 : decode jdk_52_method_40_code 7 = .ok (.aload_n 0, 1) := by decide +kernel
theorem d20_8 : decode jdk_52_method_40_code 8 = .ok (.arraylength, 1) := by decide +kernel
theorem d20_9 : decode jdk_52_method_40_code 9 = .ok (.iconst 1, 1) := by decide +kernel
theorem d20_10 : decode jdk_52_method_40_code 10 = .ok (.ishr, 1) := by decide +kernel
theorem d20_11 : decode jdk_52_method_40_code 11 = .ok (.invokestatic 183, 3) := by decide +kernel
theorem d20_14 : decode jdk_52_method_40_code 14 = .ok (.istore_n 3, 1) := by decide +kernel
theorem d20_15 : decode jdk_52_method_40_code 15 = .ok (.iload_n 2, 1) := by decide +kernel
theorem d20_16 : decode jdk_52_method_40_code 16 = .ok (.iload_n 3, 1) := by decide +kernel
theorem d20_17 : decode jdk_52_method_40_code 17 = .ok (.if_icmp .lt 5, 3) := by decide +kernel
theorem d20_22 : decode jdk_52_method_40_code 22 = .ok (.iload_n 1, 1) := by decide +kernel
theorem d20_23 : decode jdk_52_method_40_code 23 = .ok (.ldc 227, 2) := by decide +kernel
theorem d20_25 : decode jdk_52_method_40_code 25 = .ok (.if_icmp .ge 11, 3) := by decide +kernel
theorem d20_28 : decode jdk_52_method_40_code 28 = .ok (.aload_n 0, 1) := by decide +kernel
theorem d20_29 : decode jdk_52_method_40_code 29 = .ok (.iload_n 1, 1) := by decide +kernel
theorem d20_30 : decode jdk_52_method_40_code 30 = .ok (.iload_n 2, 1) := by decide +kernel
theorem d20_31 : decode jdk_52_method_40_code 31 = .ok (.iload_n 3, 1) := by decide +kernel
theorem d20_32 : decode jdk_52_method_40_code 32 = .ok (.invokestatic 228, 3) := by decide +kernel
theorem d20_35 : decode jdk_52_method_40_code 35 = .ok (.ireturn, 1) := by decide +kernel
abbrev mn22 : MethodName := ⟨"java/lang/StringUTF16", "indexOf", "([BIII)I"⟩
theorem c_ixU_1 (l : Launch) (Z : State) (a0 : Array Value) (hw : ∀ d ∈ tables_1, d.before a0 Z = true) (t : Addr) (ck : ClassId) (ch0 : Int32) (h0 : Heap) (hU : U16 Z h0) (hSio : Sio Z h0) (A : sA Z h0 t ck 2 [(.int (lo8 ch0)), (.int (hi8 ch0))]) (hch0 : r6 ch0) :
    Ctr l Z mn22 jdk_52_method_40_code 4 (some .int) [] ⟨4, 0, 0, 70⟩ #[(.ref t), (.int (65533 : Int32)), (.int (0 : Int32)), (.int (1 : Int32))] h0 (Just h0 (.int (ix1 ch0))) := by
  refine Ctr.of (plainFor_of_name pn_6) ?_
  intro p e s m below meth c s₁ hx H hml hret hown hnm hZ hlk X0 e0
  refine Goes.cast (show entryFrame m _ _ = mkF m 0 #[.val (.ref t), .val (.int (65533 : Int32)), .val (.int (0 : Int32)), .val (.int (1 : Int32))] [] from rfl) ?_
  refine gLoadIN 1 X0 hx (H d20_0) rfl rfl ?_
  refine gIconst 2 X0 hx (v := (0 : Int32)) (H d20_1) rfl rfl ?_
  refine gCallSJ X0 hx hZ (y := mn4) hown e0 (by rw [hml]; rfl) (ow hw 101 rfl) (ow hw 102 rfl) (ow hw 103 rfl) (ow hw 104 rfl) (by decide) (argsL := [(.int (0 : Int32)), (.int (0 : Int32))]) (st := []) (c_max_0_0 l Z a0 hw h0) (lenOf pd_9 rfl) (H d20_2) (pc' := 5) rfl rfl rfl rfl (by decide) (W := 0) (Nat.le_of_eq rfl) (by decide) (by decide) (by decide) ?_
  intro T1 X1 e1
  refine gStoreIN 6 X1 hx (H d20_5) (l' := #[.val (.ref t), .val (.int (65533 : Int32)), .val (.int (0 : Int32)), .val (.int (1 : Int32))]) rfl rfl ?_
  refine gLoadIN 7 X1 hx (H d20_6) rfl rfl ?_
  refine gLoadAN 8 X1 hx (H d20_7) rfl rfl rfl ?_
  refine gArrLen X1 hx hZ e1 A (H d20_8) (pc' := 9) rfl ?_
  refine gIconst 10 X1 hx (v := (1 : Int32)) (H d20_9) rfl rfl ?_
  refine gIshr 11 X1 hx (H d20_10) rfl ?_
  show Goes p e below _ T1 (mkF m 11 #[.val (.ref t), .val (.int (65533 : Int32)), .val (.int (0 : Int32)), .val (.int (1 : Int32))] [(.int (1 : Int32)), (.int (1 : Int32))])
  refine gCallSJ X1 hx hZ (y := mn5) hown e1 (by rw [hml]; rfl) (ow hw 105 rfl) (ow hw 106 rfl) (ow hw 103 rfl) (ow hw 107 rfl) (by decide) (argsL := [(.int (1 : Int32)), (.int (1 : Int32))]) (st := []) (c_min_1_1 l Z a0 hw h0) (lenOf pd_9 rfl) (H d20_11) (pc' := 14) rfl rfl rfl rfl (by decide) (W := 0) (Nat.le_of_eq rfl) (by decide) (by decide) (by decide) ?_
  intro T2 X2 e2
  refine gStoreIN 15 X2 hx (H d20_14) (l' := #[.val (.ref t), .val (.int (65533 : Int32)), .val (.int (0 : Int32)), .val (.int (1 : Int32))]) rfl rfl ?_
  refine gLoadIN 16 X2 hx (H d20_15) rfl rfl ?_
  refine gLoadIN 17 X2 hx (H d20_16) rfl rfl ?_
  refine gIcmpLt X2 hx (H d20_17) (pc' := 22) (by decide) (by decide) (pn := 20) rfl (fun (c17 : (0 : Int) < (1 : Int)) => ?_) (fun (c17 : (1 : Int) ≤ (0 : Int)) => ?_)
  · refine gLoadIN 23 X2 hx (H d20_22) rfl rfl ?_
    refine gLdc 25 X2 hx hZ hown (ow hw 108 rfl) (H d20_23) rfl ?_
    refine gIcmpGe X2 hx (H d20_25) (pc' := 36) (by decide) (by decide) (pn := 28) rfl (fun (c25 : (65536 : Int) ≤ (65533 : Int)) => ?_) (fun (c25 : (65533 : Int) < (65536 : Int)) => ?_)
    · exact absurd c25 (by decide)
    · refine gLoadAN 29 X2 hx (H d20_28) rfl rfl rfl ?_
      refine gLoadIN 30 X2 hx (H d20_29) rfl rfl ?_
      refine gLoadIN 31 X2 hx (H d20_30) rfl rfl ?_
      refine gLoadIN 32 X2 hx (H d20_31) rfl rfl ?_
      refine gCallSJ X2 hx hZ (y := mn23) hown e2 (by rw [hml]; rfl) (ow hw 109 rfl) (ow hw 110 rfl) (ow hw 67 rfl) (ow hw 111 rfl) (by decide) (argsL := [(.ref t), (.int (65533 : Int32)), (.int (0 : Int32)), (.int (1 : Int32))]) (st := []) (c_ic_1 l Z a0 hw t ck ch0 h0 hU hSio A hch0) (lenOf pd_18 rfl) (H d20_32) (pc' := 35) rfl rfl rfl rfl (by decide) (W := 0) (Nat.le_of_eq rfl) (by decide) (by decide) (by decide) ?_
      intro T3 X3 e3
      exact gRetI X3 hx hlk hret (H d20_35) (by decide) (by decide) (⟨rfl, e3, rfl⟩)
  · exact absurd c17 (by decide)
theorem c_lnU_1 (l : Launch) (Z : State) (a0 : Array Value) (hw : ∀ d ∈ tables_1, d.before a0 Z = true) (a t : Addr) (ck : ClassId) (ch0 : Int32) (h0 : Heap) (hCpt : Cpt Z h0) (E : sE Z h0 a) (C : uC Z h0 a) (V : sV Z h0 a t) (A : sA Z h0 t ck 2 [(.int (lo8 ch0)), (.int (hi8 ch0))]) :
    Ctr l Z mn14 jdk_42_method_54_code 1 (some .int) [] ⟨1, 0, 0, 13⟩ #[(.ref a)] h0 (Just h0 (.int 1)) := by
  refine Ctr.of (plainFor_of_name pn_4) ?_
  intro p e s m below meth c s₁ hx H hml hret hown hnm hZ hlk X0 e0
  refine Goes.cast (show entryFrame m _ _ = mkF m 0 #[.val (.ref a)] [] from rfl) ?_
  refine gLoadAN 1 X0 hx (H d9_0) rfl rfl rfl ?_
  refine gGetF X0 hx hZ hown (ow hw 25 rfl) Via.refl e0 V (H d9_1) (pc' := 4) rfl (fun T1 X1 e1 => ?_)
  refine gArrLen X1 hx hZ e1 A (H d9_4) (pc' := 5) rfl ?_
  refine gLoadAN 6 X1 hx (H d9_5) rfl rfl rfl ?_
  refine gCallVJ X1 hx hZ (y := mn10) hown e1 (by rw [hml]; rfl) E (ow hw 53 rfl) (ow hw 54 rfl) (ow hw 56 rfl) (ow hw 55 rfl) (ow hw 7 rfl) (ow hw 57 rfl) (by decide) (argsL := []) (st := [(.int (2 : Int32))]) (c_coderU l Z a0 hw a h0 hCpt C) (lenOf pd_0 rfl) (H d9_6) (pc' := 9) rfl rfl rfl rfl (by decide) (W := 1) (Nat.le_of_eq rfl) (by decide) (by decide) (by decide) ?_
  intro T2 X2 e2
  refine gIshr 10 X2 hx (H d9_9) rfl ?_
  show Goes p e below _ T2 (mkF m 10 #[.val (.ref a)] [(.int (1 : Int32))])
  exact gRetI X2 hx hlk hret (H d9_10) (by decide) (by decide) (⟨rfl, e2, rfl⟩)
theorem d11_23 : decode jdk_42_method_80_code 23 = .ok (.aload_n 0, 1) := by decide +kernel
theorem d11_24 : decode jdk_42_method_80_code 24 = .ok (.getfield 9, 3) := by decide +kernel
theorem d11_27 : decode jdk_42_method_80_code 27 = .ok (.iload_n 1, 1) := by decide +kernel
theorem d11_28 : decode jdk_42_method_80_code 28 = .ok (.iload_n 2, 1) := by decide +kernel
theorem d11_29 : decode jdk_42_method_80_code 29 = .ok (.aload_n 0, 1) := by decide +kernel
theorem d11_30 : decode jdk_42_method_80_code 30 = .ok (.invokevirtual 505, 3) := by decide +kernel
theorem d11_33 : decode jdk_42_method_80_code 33 = .ok (.invokestatic 640, 3) := by decide +kernel
theorem c_ix2U_1 (l : Launch) (Z : State) (a0 : Array Value) (hw : ∀ d ∈ tables_1, d.before a0 Z = true) (a t : Addr) (ck : ClassId) (ch0 : Int32) (h0 : Heap) (hCpt : Cpt Z h0) (E : sE Z h0 a) (C : uC Z h0 a) (V : sV Z h0 a t) (hU : U16 Z h0) (hSio : Sio Z h0) (A : sA Z h0 t ck 2 [(.int (lo8 ch0)), (.int (hi8 ch0))]) (hch0 : r6 ch0) :
    Ctr l Z mn12 jdk_42_method_80_code 3 (some .int) [] ⟨5, 0, 0, 90⟩ #[(.ref a), (.int (65533 : Int32)), (.int (0 : Int32))] h0 (Just h0 (.int (ix1 ch0))) := by
  refine Ctr.of (plainFor_of_name pn_4) ?_
  intro p e s m below meth c s₁ hx H hml hret hown hnm hZ hlk X0 e0
  refine Goes.cast (show entryFrame m _ _ = mkF m 0 #[.val (.ref a), .val (.int (65533 : Int32)), .val (.int (0 : Int32))] [] from rfl) ?_
  refine gLoadAN 1 X0 hx (H d11_0) rfl rfl rfl ?_
  refine gCallVJ X0 hx hZ (y := mn13) hown e0 (by rw [hml]; rfl) E (ow hw 42 rfl) (ow hw 43 rfl) (ow hw 45 rfl) (ow hw 44 rfl) (ow hw 7 rfl) (ow hw 46 rfl) (by decide) (argsL := []) (st := []) (c_isLatin1U l Z a0 hw a h0 hCpt C) (lenOf pd_3 rfl) (H d11_1) (pc' := 4) rfl rfl rfl rfl (by decide) (W := 0) (Nat.le_of_eq rfl) (by decide) (by decide) (by decide) ?_
  intro T1 X1 e1
  refine gIfEqT X1 hx (H d11_4) (pc' := 23) (by decide) (by decide) (pn := 7) rfl (fun (c4 : (0 : Int) = (0 : Int)) => ?_) (fun (c4 : ¬ (0 : Int) = (0 : Int)) => ?_)
  · refine gLoadAN 24 X1 hx (H d11_23) rfl rfl rfl ?_
    refine gGetF X1 hx hZ hown (ow hw 25 rfl) Via.refl e1 V (H d11_24) (pc' := 27) rfl (fun T2 X2 e2 => ?_)
    refine gLoadIN 28 X2 hx (H d11_27) rfl rfl ?_
    refine gLoadIN 29 X2 hx (H d11_28) rfl rfl ?_
    refine gLoadAN 30 X2 hx (H d11_29) rfl rfl rfl ?_
    refine gCallVJ X2 hx hZ (y := mn14) hown e2 (by rw [hml]; rfl) E (ow hw 48 rfl) (ow hw 49 rfl) (ow hw 51 rfl) (ow hw 50 rfl) (ow hw 7 rfl) (ow hw 52 rfl) (by decide) (argsL := []) (st := [(.int (0 : Int32)), (.int (65533 : Int32)), (.ref t)]) (c_lnU_1 l Z a0 hw a t ck ch0 h0 hCpt E C V A) (lenOf pd_1 rfl) (H d11_30) (pc' := 33) rfl rfl rfl rfl (by decide) (W := 3) (Nat.le_of_eq rfl) (by decide) (by decide) (by decide) ?_
    intro T3 X3 e3
    refine gCallSJ X3 hx hZ (y := mn22) hown e3 (by rw [hml]; rfl) (ow hw 98 rfl) (ow hw 99 rfl) (ow hw 67 rfl) (ow hw 100 rfl) (by decide) (argsL := [(.ref t), (.int (65533 : Int32)), (.int (0 : Int32)), (.int (1 : Int32))]) (st := []) (c_ixU_1 l Z a0 hw t ck ch0 h0 hU hSio A hch0) (lenOf pd_18 rfl) (H d11_33) (pc' := 36) rfl rfl rfl rfl (by decide) (W := 0) (Nat.le_of_eq rfl) (by decide) (by decide) (by decide) ?_
    intro T4 X4 e4
    exact gRetI X4 hx hlk hret (H d11_36) (by decide) (by decide) (⟨rfl, e4, rfl⟩)
  · exact absurd c4 (by decide)
theorem c_ix1U_1 (l : Launch) (Z : State) (a0 : Array Value) (hw : ∀ d ∈ tables_1, d.before a0 Z = true) (a t : Addr) (ck : ClassId) (ch0 : Int32) (h0 : Heap) (hCpt : Cpt Z h0) (E : sE Z h0 a) (C : uC Z h0 a) (V : sV Z h0 a t) (hU : U16 Z h0) (hSio : Sio Z h0) (A : sA Z h0 t ck 2 [(.int (lo8 ch0)), (.int (hi8 ch0))]) (hch0 : r6 ch0) :
    Ctr l Z mn11 jdk_42_method_79_code 2 (some .int) [] ⟨6, 0, 0, 105⟩ #[(.ref a), (.int (65533 : Int32))] h0 (Just h0 (.int (ix1 ch0))) := by
  refine Ctr.of (plainFor_of_name pn_4) ?_
  intro p e s m below meth c s₁ hx H hml hret hown hnm hZ hlk X0 e0
  refine Goes.cast (show entryFrame m _ _ = mkF m 0 #[.val (.ref a), .val (.int (65533 : Int32))] [] from rfl) ?_
  refine gLoadAN 1 X0 hx (H d10_0) rfl rfl rfl ?_
  refine gLoadIN 2 X0 hx (H d10_1) rfl rfl ?_
  refine gIconst 3 X0 hx (v := (0 : Int32)) (H d10_2) rfl rfl ?_
  refine gCallVJ X0 hx hZ (y := mn12) hown e0 (by rw [hml]; rfl) E (ow hw 37 rfl) (ow hw 38 rfl) (ow hw 40 rfl) (ow hw 39 rfl) (ow hw 7 rfl) (ow hw 41 rfl) (by decide) (argsL := [(.int (65533 : Int32)), (.int (0 : Int32))]) (st := []) (c_ix2U_1 l Z a0 hw a t ck ch0 h0 hCpt E C V hU hSio A hch0) (lenOf pd_9 rfl) (H d10_3) (pc' := 6) rfl rfl rfl rfl (by decide) (W := 0) (Nat.le_of_eq rfl) (by decide) (by decide) (by decide) ?_
  intro T1 X1 e1
  exact gRetI X1 hx hlk hret (H d10_6) (by decide) (by decide) (⟨rfl, e1, rfl⟩)
theorem d30_9 : decode prog_1_method_4_code 9 = .ok (.iconst 1, 1) := by decide +kernel
theorem d30_10 : decode prog_1_method_4_code 10 = .ok (.goto 4, 3) := by decide +kernel
theorem c_unU_1 (l : Launch) (Z : State) (a0 : Array Value) (hw : ∀ d ∈ tables_1, d.before a0 Z = true) (a t : Addr) (ck : ClassId) (ch0 : Int32) (h0 : Heap) (hCpt : Cpt Z h0) (E : sE Z h0 a) (C : uC Z h0 a) (V : sV Z h0 a t) (hU : U16 Z h0) (hSio : Sio Z h0) (A : sA Z h0 t ck 2 [(.int (lo8 ch0)), (.int (hi8 ch0))]) (hch0 : r6 ch0) :
    Ctr l Z mn0 prog_1_method_4_code 1 (some .boolean) [] ⟨7, 0, 0, 120⟩ #[(.ref a)] h0 (Just h0 (.int (b2i (decide (ch0.toInt = 65533))))) := by
  refine Ctr.of (plainFor_of_name pn_0) ?_
  intro p e s m below meth c s₁ hx H hml hret hown hnm hZ hlk X0 e0
  refine Goes.cast (show entryFrame m _ _ = mkF m 0 #[.val (.ref a)] [] from rfl) ?_
  refine gLoadAN 1 X0 hx (H d30_0) rfl rfl rfl ?_
  refine gLdc 3 X0 hx hZ hown (ow hw 31 rfl) (H d30_1) rfl ?_
  refine gCallVJ X0 hx hZ (y := mn11) hown e0 (by rw [hml]; rfl) E (ow hw 32 rfl) (ow hw 33 rfl) (ow hw 35 rfl) (ow hw 34 rfl) (ow hw 7 rfl) (ow hw 36 rfl) (by decide) (argsL := [(.int (65533 : Int32))]) (st := []) (c_ix1U_1 l Z a0 hw a t ck ch0 h0 hCpt E C V hU hSio A hch0) (lenOf pd_6 rfl) (H d30_3) (pc' := 6) rfl rfl rfl rfl (by decide) (W := 0) (Nat.le_of_eq rfl) (by decide) (by decide) (by decide) ?_
  intro T1 X1 e1
  refine gIfLt X1 hx (H d30_6) (pc' := 13) (by decide) (by decide) (pn := 9) rfl (fun (c6 : (ix1 ch0).toInt < (0 : Int)) => ?_) (fun (c6 : (0 : Int) ≤ (ix1 ch0).toInt) => ?_)
  · refine gIconst 14 X1 hx (v := (0 : Int32)) (H d30_13) rfl rfl ?_
    exact gRetN X1 hx hlk hret (by simp) (H d30_14) (w := (0 : Int32)) rfl (by decide) (by decide) (just_f (ix1_y c6) e1)
  · refine gIconst 10 X1 hx (v := (1 : Int32)) (H d30_9) rfl rfl ?_
    refine gGoto X1 hx (H d30_10) (pc' := 14) (by decide) (by decide) ?_
    exact gRetN X1 hx hlk hret (by simp) (H d30_14) (w := (1 : Int32)) rfl (by decide) (by decide) (just_t (ix1_n c6) e1)
theorem c_min_2_2 (l : Launch) (Z : State) (a0 : Array Value) (hw : ∀ d ∈ tables_1, d.before a0 Z = true)  (h0 : Heap)  :
    Ctr l Z mn5 jdk_29_method_69_code 2 (some .int) [] ⟨0, 0, 0, 0⟩ #[(.int (2 : Int32)), (.int (2 : Int32))] h0 (Just h0 (.int (2))) := by
  refine Ctr.of (Jvm.Free.JP.mathPlain rfl (by decide +kernel)) ?_
  intro p e s m below meth c s₁ hx H hml hret hown hnm hZ hlk X0 e0
  refine Goes.cast (show entryFrame m _ _ = mkF m 0 #[.val (.int (2 : Int32)), .val (.int (2 : Int32))] [] from rfl) ?_
  refine gLoadIN 1 X0 hx (H d2_0) rfl rfl ?_
  refine gLoadIN 2 X0 hx (H d2_1) rfl rfl ?_
  refine gIcmpGt X0 hx (H d2_2) (pc' := 9) (by decide) (by decide) (pn := 5) rfl (fun (c2 : (2 : Int) < (2 : Int)) => ?_) (fun (c2 : (2 : Int) ≤ (2 : Int)) => ?_)
  · exact absurd c2 (by decide)
  · refine gLoadIN 6 X0 hx (H d2_5) rfl rfl ?_
    refine gGoto X0 hx (H d2_6) (pc' := 10) (by decide) (by decide) ?_
    exact gRetI X0 hx hlk hret (H d2_10) (by decide) (by decide) (⟨rfl, e0, rfl⟩)
def ix2 (ch0 ch1 : Int32) : Int32 := if ch0.toInt = 65533 then 0 else if ch1.toInt = 65533 then 1 else (-1)
theorem ix2_y {ch0 ch1 : Int32} (h : (ix2 ch0 ch1).toInt < 0) : ¬ (ch0.toInt = 65533 ∨ ch1.toInt = 65533) := by
  unfold ix2 at h
  repeat' split at h
  all_goals first | exact absurd h (by decide) | (clear h; simp_all)
theorem ix2_n {ch0 ch1 : Int32} (h : 0 ≤ (ix2 ch0 ch1).toInt) : ch0.toInt = 65533 ∨ ch1.toInt = 65533 := by
  unfold ix2 at h
  repeat' split at h
  all_goals first | exact absurd h (by decide) | (clear h; simp_all)
theorem c_ul_2 (l : Launch) (Z : State) (a0 : Array Value) (hw : ∀ d ∈ tables_1, d.before a0 Z = true) (t : Addr) (ck : ClassId) (ch0 ch1 : Int32) (h0 : Heap) (A : sA Z h0 t ck 4 [(.int (lo8 ch0)), (.int (hi8 ch0)), (.int (lo8 ch1)), (.int (hi8 ch1))]) :
    Ctr l Z mn25 jdk_52_method_6_code 1 (some .int) [] ⟨0, 0, 0, 0⟩ #[(.ref t)] h0 (Just h0 (.int 2)) := by
  refine Ctr.of (plainFor_of_name pn_6) ?_
  intro p e s m below meth c s₁ hx H hml hret hown hnm hZ hlk X0 e0
  refine Goes.cast (show entryFrame m _ _ = mkF m 0 #[.val (.ref t)] [] from rfl) ?_
  refine gLoadAN 1 X0 hx (H d25_0) rfl rfl rfl ?_
  refine gArrLen X0 hx hZ e0 A (H d25_1) (pc' := 2) rfl ?_
  refine gIconst 3 X0 hx (v := (1 : Int32)) (H d25_2) rfl rfl ?_
  refine gIshr 4 X0 hx (H d25_3) rfl ?_
  show Goes p e below _ s₁ (mkF m 4 #[.val (.ref t)] [(.int (2 : Int32))])
  exact gRetI X0 hx hlk hret (H d25_4) (by decide) (by decide) (⟨rfl, e0, rfl⟩)
theorem c_cb_2 (l : Launch) (Z : State) (a0 : Array Value) (hw : ∀ d ∈ tables_1, d.before a0 Z = true) (t : Addr) (ck : ClassId) (ch0 ch1 : Int32) (h0 : Heap) (hSio : Sio Z h0) (A : sA Z h0 t ck 4 [(.int (lo8 ch0)), (.int (hi8 ch0)), (.int (lo8 ch1)), (.int (hi8 ch1))]) :
    Ctr l Z mn17 jdk_52_method_93_code 3 none [] ⟨2, 0, 0, 30⟩ #[(.int (0 : Int32)), (.int (2 : Int32)), (.ref t)] h0 (fun v h L => v = none ∧ h = h0 ∧ L = []) := by
  refine Ctr.of (plainFor_of_name pn_6) ?_
  intro p e s m below meth c s₁ hx H hml hret hown hnm hZ hlk X0 e0
  refine Goes.cast (show entryFrame m _ _ = mkF m 0 #[.val (.int (0 : Int32)), .val (.int (2 : Int32)), .val (.ref t)] [] from rfl) ?_
  refine gLoadIN 1 X0 hx (H d26_0) rfl rfl ?_
  refine gLoadIN 2 X0 hx (H d26_1) rfl rfl ?_
  refine gLoadAN 3 X0 hx (H d26_2) rfl rfl rfl ?_
  refine gCallSJ X0 hx hZ (y := mn25) hown e0 (by rw [hml]; rfl) (ow hw 115 rfl) (ow hw 116 rfl) (ow hw 67 rfl) (ow hw 117 rfl) (by decide) (argsL := [(.ref t)]) (st := [(.int (2 : Int32)), (.int (0 : Int32))]) (c_ul_2 l Z a0 hw t ck ch0 ch1 h0 A) (lenOf pd_14 rfl) (H d26_3) (pc' := 6) rfl rfl rfl rfl (by decide) (W := 2) (Nat.le_of_eq rfl) (by decide) (by decide) (by decide) ?_
  intro T1 X1 e1
  refine gCallS X1 hx hZ (y := mn9) hown e1 (by rw [hml]; rfl) (ow hw 118 rfl) (ow hw 119 rfl) (ow hw 7 rfl) (ow hw 120 rfl) (by decide) (argsL := [(.int (0 : Int32)), (.int (2 : Int32)), (.int (2 : Int32))]) (st := []) (c_chkft l Z a0 hw (0 : Int32) (2 : Int32) (2 : Int32) h0 (by decide) (by decide) (by decide) hSio) (lenOf pd_10 rfl) (H d26_6) (pc' := 9) rfl rfl (by decide) (W := 0) (Nat.le_of_eq rfl) (by decide) (by decide) (by decide) ?_
  intro T2 v2 L2 X2 hQ2
  obtain ⟨rfl, eq2, rfl⟩ := hQ2
  rw [List.append_nil] at X2
  exact gRetV X2 hx hlk hret (H d26_9) (by decide) (by decide) (⟨rfl, eq2, rfl⟩)
theorem c_iu_2 (l : Launch) (Z : State) (a0 : Array Value) (hw : ∀ d ∈ tables_1, d.before a0 Z = true) (t : Addr) (ck : ClassId) (ch0 ch1 : Int32) (h0 : Heap) (hU : U16 Z h0) (hSio : Sio Z h0) (A : sA Z h0 t ck 4 [(.int (lo8 ch0)), (.int (hi8 ch0)), (.int (lo8 ch1)), (.int (hi8 ch1))]) (hch0 : r6 ch0) (hch1 : r6 ch1) :
    Ctr l Z mn24 jdk_52_method_48_code 5 (some .int) [] ⟨1, 0, 0, 20⟩ #[(.ref t), (.int (65533 : Int32)), (.int (0 : Int32)), (.int (2 : Int32))] h0 (Just h0 (.int (ix2 ch0 ch1))) := by
  refine Ctr.of (plainFor_of_name pn_6) ?_
  intro p e s m below meth c s₁ hx H hml hret hown hnm hZ hlk X0 e0
  refine Goes.cast (show entryFrame m _ _ = mkF m 0 #[.val (.ref t), .val (.int (65533 : Int32)), .val (.int (0 : Int32)), .val (.int (2 : Int32)), .unset] [] from rfl) ?_
  refine gLoadIN 1 X0 hx (H d22_0) rfl rfl ?_
  refine gStoreI 3 X0 hx (H d22_1) (l' := #[.val (.ref t), .val (.int (65533 : Int32)), .val (.int (0 : Int32)), .val (.int (2 : Int32)), .val (.int (0 : Int32))]) rfl rfl ?_
  refine gLoadI 5 X0 hx (H d22_3) rfl rfl ?_
  refine gLoadIN 6 X0 hx (H d22_5) rfl rfl ?_
  refine gIcmpGe X0 hx (H d22_6) (pc' := 28) (by decide) (by decide) (pn := 9) rfl (fun (c6 : (2 : Int) ≤ (0 : Int)) => ?_) (fun (c6 : (0 : Int) < (2 : Int)) => ?_)
  · exact absurd c6 (by decide)
  · refine gLoadAN 10 X0 hx (H d22_9) rfl rfl rfl ?_
    refine gLoadI 12 X0 hx (H d22_10) rfl rfl ?_
    refine gCallSJ X0 hx hZ (y := mn21) hown e0 (by rw [hml]; rfl) (ow hw 95 rfl) (ow hw 96 rfl) (ow hw 67 rfl) (ow hw 97 rfl) (by decide) (argsL := [(.ref t), (.int (0 : Int32))]) (st := []) (c_get_2_0 l Z a0 hw t ck ch0 ch1 h0 hU A hch0 hch1) (lenOf pd_16 rfl) (H d22_12) (pc' := 15) rfl rfl rfl rfl (by decide) (W := 0) (Nat.le_of_eq rfl) (by decide) (by decide) (by decide) ?_
    intro T1 X1 e1
    refine gLoadIN 16 X1 hx (H d22_15) rfl rfl ?_
    refine gIcmpNeT X1 hx (H d22_16) (pc' := 22) (by decide) (by decide) (pn := 19) rfl (fun (c16 : ¬ ch0.toInt = (65533 : Int)) => ?_) (fun (c16 : ch0.toInt = (65533 : Int)) => ?_)
    · refine gIinc X1 hx (v := (1 : Int32)) (H d22_22) (l' := #[.val (.ref t), .val (.int (65533 : Int32)), .val (.int (0 : Int32)), .val (.int (2 : Int32)), .val (.int (1 : Int32))]) (pc' := 25) rfl rfl rfl rfl ?_
      refine gGoto X1 hx (H d22_25) (pc' := 3) (by decide) (by decide) ?_
      refine gLoadI 5 X1 hx (H d22_3) rfl rfl ?_
      refine gLoadIN 6 X1 hx (H d22_5) rfl rfl ?_
      refine gIcmpGe X1 hx (H d22_6) (pc' := 28) (by decide) (by decide) (pn := 9) rfl (fun (c6' : (2 : Int) ≤ (1 : Int)) => ?_) (fun (c6' : (1 : Int) < (2 : Int)) => ?_)
      · exact absurd c6' (by decide)
      · refine gLoadAN 10 X1 hx (H d22_9) rfl rfl rfl ?_
        refine gLoadI 12 X1 hx (H d22_10) rfl rfl ?_
        refine gCallSJ X1 hx hZ (y := mn21) hown e1 (by rw [hml]; rfl) (ow hw 95 rfl) (ow hw 96 rfl) (ow hw 67 rfl) (ow hw 97 rfl) (by decide) (argsL := [(.ref t), (.int (1 : Int32))]) (st := []) (c_get_2_1 l Z a0 hw t ck ch0 ch1 h0 hU A hch0 hch1) (lenOf pd_16 rfl) (H d22_12) (pc' := 15) rfl rfl rfl rfl (by decide) (W := 0) (Nat.le_of_eq rfl) (by decide) (by decide) (by decide) ?_
        intro T2 X2 e2
        refine gLoadIN 16 X2 hx (H d22_15) rfl rfl ?_
        refine gIcmpNeT X2 hx (H d22_16) (pc' := 22) (by decide) (by decide) (pn := 19) rfl (fun (c16' : ¬ ch1.toInt = (65533 : Int)) => ?_) (fun (c16' : ch1.toInt = (65533 : Int)) => ?_)
        · refine gIinc X2 hx (v := (1 : Int32)) (H d22_22) (l' := #[.val (.ref t), .val (.int (65533 : Int32)), .val (.int (0 : Int32)), .val (.int (2 : Int32)), .val (.int (2 : Int32))]) (pc' := 25) rfl rfl rfl rfl ?_
          refine gGoto X2 hx (H d22_25) (pc' := 3) (by decide) (by decide) ?_
          refine gLoadI 5 X2 hx (H d22_3) rfl rfl ?_
          refine gLoadIN 6 X2 hx (H d22_5) rfl rfl ?_
          refine gIcmpGe X2 hx (H d22_6) (pc' := 28) (by decide) (by decide) (pn := 9) rfl (fun (c6'' : (2 : Int) ≤ (2 : Int)) => ?_) (fun (c6'' : (2 : Int) < (2 : Int)) => ?_)
          · refine gIconst 29 X2 hx (v := (-1 : Int32)) (H d22_28) rfl rfl ?_
            exact gRetI X2 hx hlk hret (H d22_29) (by decide) (by decide) (⟨by rw [ix2, if_neg c16, if_neg c16'], e2, rfl⟩)
          · exact absurd c6'' (by decide)
        · refine gLoadI 21 X2 hx (H d22_19) rfl rfl ?_
          exact gRetI X2 hx hlk hret (H d22_21) (by decide) (by decide) (⟨by rw [ix2, if_neg c16, if_pos c16'], e2, rfl⟩)
    · refine gLoadI 21 X1 hx (H d22_19) rfl rfl ?_
      exact gRetI X1 hx hlk hret (H d22_21) (by decide) (by decide) (⟨by rw [ix2, if_pos c16], e1, rfl⟩)
theorem c_ic_2 (l : Launch) (Z : State) (a0 : Array Value) (hw : ∀ d ∈ tables_1, d.before a0 Z = true) (t : Addr) (ck : ClassId) (ch0 ch1 : Int32) (h0 : Heap) (hU : U16 Z h0) (hSio : Sio Z h0) (A : sA Z h0 t ck 4 [(.int (lo8 ch0)), (.int (hi8 ch0)), (.int (lo8 ch1)), (.int (hi8 ch1))]) (hch0 : r6 ch0) (hch1 : r6 ch1) :
    Ctr l Z mn23 jdk_52_method_47_code 4 (some .int) [] ⟨3, 0, 0, 50⟩ #[(.ref t), (.int (65533 : Int32)), (.int (0 : Int32)), (.int (2 : Int32))] h0 (Just h0 (.int (ix2 ch0 ch1))) := by
  refine Ctr.of (plainFor_of_name pn_6) ?_
  intro p e s m below meth c s₁ hx H hml hret hown hnm hZ hlk X0 e0
  refine Goes.cast (show entryFrame m _ _ = mkF m 0 #[.val (.ref t), .val (.int (65533 : Int32)), .val (.int (0 : Int32)), .val (.int (2 : Int32))] [] from rfl) ?_
  refine gLoadIN 1 X0 hx (H d21_0) rfl rfl ?_
  refine gLoadIN 2 X0 hx (H d21_1) rfl rfl ?_
  refine gLoadAN 3 X0 hx (H d21_2) rfl rfl rfl ?_
  refine gCallS X0 hx hZ (y := mn17) hown e0 (by rw [hml]; rfl) (ow hw 112 rfl) (ow hw 113 rfl) (ow hw 67 rfl) (ow hw 114 rfl) (by decide) (argsL := [(.int (0 : Int32)), (.int (2 : Int32)), (.ref t)]) (st := []) (c_cb_2 l Z a0 hw t ck ch0 ch1 h0 hSio A) (lenOf pd_12 rfl) (H d21_3) (pc' := 6) rfl rfl (by decide) (W := 0) (Nat.le_of_eq rfl) (by decide) (by decide) (by decide) ?_
  intro T1 v1 L1 X1 hQ1
  obtain ⟨rfl, eq1, rfl⟩ := hQ1
  rw [List.append_nil] at X1
  refine gLoadAN 7 X1 hx (H d21_6) rfl rfl rfl ?_
  refine gLoadIN 8 X1 hx (H d21_7) rfl rfl ?_
  refine gLoadIN 9 X1 hx (H d21_8) rfl rfl ?_
  refine gLoadIN 10 X1 hx (H d21_9) rfl rfl ?_
  refine gCallSJ X1 hx hZ (y := mn24) hown eq1 (by rw [hml]; rfl) (ow hw 126 rfl) (ow hw 127 rfl) (ow hw 67 rfl) (ow hw 128 rfl) (by decide) (argsL := [(.ref t), (.int (65533 : Int32)), (.int (0 : Int32)), (.int (2 : Int32))]) (st := []) (c_iu_2 l Z a0 hw t ck ch0 ch1 h0 hU hSio A hch0 hch1) (lenOf pd_18 rfl) (H d21_10) (pc' := 13) rfl rfl rfl rfl (by decide) (W := 0) (Nat.le_of_eq rfl) (by decide) (by decide) (by decide) ?_
  intro T2 X2 e2
  exact gRetI X2 hx hlk hret (H d21_13) (by decide) (by decide) (⟨rfl, e2, rfl⟩)
theorem c_ixU_2 (l : Launch) (Z : State) (a0 : Array Value) (hw : ∀ d ∈ tables_1, d.before a0 Z = true) (t : Addr) (ck : ClassId) (ch0 ch1 : Int32) (h0 : Heap) (hU : U16 Z h0) (hSio : Sio Z h0) (A : sA Z h0 t ck 4 [(.int (lo8 ch0)), (.int (hi8 ch0)), (.int (lo8 ch1)), (.int (hi8 ch1))]) (hch0 : r6 ch0) (hch1 : r6 ch1) :
    Ctr l Z mn22 jdk_52_method_40_code 4 (some .int) [] ⟨4, 0, 0, 70⟩ #[(.ref t), (.int (65533 : Int32)), (.int (0 : Int32)), (.int (2 : Int32))] h0 (Just h0 (.int (ix2 ch0 ch1))) := by
  refine Ctr.of (plainFor_of_name pn_6) ?_
  intro p e s m below meth c s₁ hx H hml hret hown hnm hZ hlk X0 e0
  refine Goes.cast (show entryFrame m _ _ = mkF m 0 #[.val (.ref t), .val (.int (65533 : Int32)), .val (.int (0 : Int32)), .val (.int (2 : Int32))] [] from rfl) ?_
  refine gLoadIN 1 X0 hx (H d20_0) rfl rfl ?_
  refine gIconst 2 X0 hx (v := (0 : Int32)) (H d20_1) rfl rfl ?_
  refine gCallSJ X0 hx hZ (y := mn4) hown e0 (by rw [hml]; rfl) (ow hw 101 rfl) (ow hw 102 rfl) (ow hw 103 rfl) (ow hw 104 rfl) (by decide) (argsL := [(.int (0 : Int32)), (.int (0 : Int32))]) (st := []) (c_max_0_0 l Z a0 hw h0) (lenOf pd_9 rfl) (H d20_2) (pc' := 5) rfl rfl rfl rfl (by decide) (W := 0) (Nat.le_of_eq rfl) (by decide) (by decide) (by decide) ?_
  intro T1 X1 e1
  refine gStoreIN 6 X1 hx (H d20_5) (l' := #[.val (.ref t), .val (.int (65533 : Int32)), .val (.int (0 : Int32)), .val (.int (2 : Int32))]) rfl rfl ?_
  refine gLoadIN 7 X1 hx (H d20_6) rfl rfl ?_
  refine gLoadAN 8 X1 hx (H d20_7) rfl rfl rfl ?_
  refine gArrLen X1 hx hZ e1 A (H d20_8) (pc' := 9) rfl ?_
  refine gIconst 10 X1 hx (v := (1 : Int32)) (H d20_9) rfl rfl ?_
  refine gIshr 11 X1 hx (H d20_10) rfl ?_
  show Goes p e below _ T1 (mkF m 11 #[.val (.ref t), .val (.int (65533 : Int32)), .val (.int (0 : Int32)), .val (.int (2 : Int32))] [(.int (2 : Int32)), (.int (2 : Int32))])
  refine gCallSJ X1 hx hZ (y := mn5) hown e1 (by rw [hml]; rfl) (ow hw 105 rfl) (ow hw 106 rfl) (ow hw 103 rfl) (ow hw 107 rfl) (by decide) (argsL := [(.int (2 : Int32)), (.int (2 : Int32))]) (st := []) (c_min_2_2 l Z a0 hw h0) (lenOf pd_9 rfl) (H d20_11) (pc' := 14) rfl rfl rfl rfl (by decide) (W := 0) (Nat.le_of_eq rfl) (by decide) (by decide) (by decide) ?_
  intro T2 X2 e2
  refine gStoreIN 15 X2 hx (H d20_14) (l' := #[.val (.ref t), .val (.int (65533 : Int32)), .val (.int (0 : Int32)), .val (.int (2 : Int32))]) rfl rfl ?_
  refine gLoadIN 16 X2 hx (H d20_15) rfl rfl ?_
  refine gLoadIN 17 X2 hx (H d20_16) rfl rfl ?_
  refine gIcmpLt X2 hx (H d20_17) (pc' := 22) (by decide) (by decide) (pn := 20) rfl (fun (c17 : (0 : Int) < (2 : Int)) => ?_) (fun (c17 : (2 : Int) ≤ (0 : Int)) => ?_)
  · refine gLoadIN 23 X2 hx (H d20_22) rfl rfl ?_
    refine gLdc 25 X2 hx hZ hown (ow hw 108 rfl) (H d20_23) rfl ?_
    refine gIcmpGe X2 hx (H d20_25) (pc' := 36) (by decide) (by decide) (pn := 28) rfl (fun (c25 : (65536 : Int) ≤ (65533 : Int)) => ?_) (fun (c25 : (65533 : Int) < (65536 : Int)) => ?_)
    · exact absurd c25 (by decide)
    · refine gLoadAN 29 X2 hx (H d20_28) rfl rfl rfl ?_
      refine gLoadIN 30 X2 hx (H d20_29) rfl rfl ?_
      refine gLoadIN 31 X2 hx (H d20_30) rfl rfl ?_
      refine gLoadIN 32 X2 hx (H d20_31) rfl rfl ?_
      refine gCallSJ X2 hx hZ (y := mn23) hown e2 (by rw [hml]; rfl) (ow hw 109 rfl) (ow hw 110 rfl) (ow hw 67 rfl) (ow hw 111 rfl) (by decide) (argsL := [(.ref t), (.int (65533 : Int32)), (.int (0 : Int32)), (.int (2 : Int32))]) (st := []) (c_ic_2 l Z a0 hw t ck ch0 ch1 h0 hU hSio A hch0 hch1) (lenOf pd_18 rfl) (H d20_32) (pc' := 35) rfl rfl rfl rfl (by decide) (W := 0) (Nat.le_of_eq rfl) (by decide) (by decide) (by decide) ?_
      intro T3 X3 e3
      exact gRetI X3 hx hlk hret (H d20_35) (by decide) (by decide) (⟨rfl, e3, rfl⟩)
  · exact absurd c17 (by decide)
theorem c_lnU_2 (l : Launch) (Z : State) (a0 : Array Value) (hw : ∀ d ∈ tables_1, d.before a0 Z = true) (a t : Addr) (ck : ClassId) (ch0 ch1 : Int32) (h0 : Heap) (hCpt : Cpt Z h0) (E : sE Z h0 a) (C : uC Z h0 a) (V : sV Z h0 a t) (A : sA Z h0 t ck 4 [(.int (lo8 ch0)), (.int (hi8 ch0)), (.int (lo8 ch1)), (.int (hi8 ch1))]) :
    Ctr l Z mn14 jdk_42_method_54_code 1 (some .int) [] ⟨1, 0, 0, 13⟩ #[(.ref a)] h0 (Just h0 (.int 2)) := by
  refine Ctr.of (plainFor_of_name pn_4) ?_
  intro p e s m below meth c s₁ hx H hml hret hown hnm hZ hlk X0 e0
  refine Goes.cast (show entryFrame m _ _ = mkF m 0 #[.val (.ref a)] [] from rfl) ?_
  refine gLoadAN 1 X0 hx (H d9_0) rfl rfl rfl ?_
  refine gGetF X0 hx hZ hown (ow hw 25 rfl) Via.refl e0 V (H d9_1) (pc' := 4) rfl (fun T1 X1 e1 => ?_)
  refine gArrLen X1 hx hZ e1 A (H d9_4) (pc' := 5) rfl ?_
  refine gLoadAN 6 X1 hx (H d9_5) rfl rfl rfl ?_
  refine gCallVJ X1 hx hZ (y := mn10) hown e1 (by rw [hml]; rfl) E (ow hw 53 rfl) (ow hw 54 rfl) (ow hw 56 rfl) (ow hw 55 rfl) (ow hw 7 rfl) (ow hw 57 rfl) (by decide) (argsL := []) (st := [(.int (4 : Int32))]) (c_coderU l Z a0 hw a h0 hCpt C) (lenOf pd_0 rfl) (H d9_6) (pc' := 9) rfl rfl rfl rfl (by decide) (W := 1) (Nat.le_of_eq rfl) (by decide) (by decide) (by decide) ?_
  intro T2 X2 e2
  refine gIshr 10 X2 hx (H d9_9) rfl ?_
  show Goes p e below _ T2 (mkF m 10 #[.val (.ref a)] [(.int (2 : Int32))])
  exact gRetI X2 hx hlk hret (H d9_10) (by decide) (by decide) (⟨rfl, e2, rfl⟩)
theorem c_ix2U_2 (l : Launch) (Z : State) (a0 : Array Value) (hw : ∀ d ∈ tables_1, d.before a0 Z = true) (a t : Addr) (ck : ClassId) (ch0 ch1 : Int32) (h0 : Heap) (hCpt : Cpt Z h0) (E : sE Z h0 a) (C : uC Z h0 a) (V : sV Z h0 a t) (hU : U16 Z h0) (hSio : Sio Z h0) (A : sA Z h0 t ck 4 [(.int (lo8 ch0)), (.int (hi8 ch0)), (.int (lo8 ch1)), (.int (hi8 ch1))]) (hch0 : r6 ch0) (hch1 : r6 ch1) :
    Ctr l Z mn12 jdk_42_method_80_code 3 (some .int) [] ⟨5, 0, 0, 90⟩ #[(.ref a), (.int (65533 : Int32)), (.int (0 : Int32))] h0 (Just h0 (.int (ix2 ch0 ch1))) := by
  refine Ctr.of (plainFor_of_name pn_4) ?_
  intro p e s m below meth c s₁ hx H hml hret hown hnm hZ hlk X0 e0
  refine Goes.cast (show entryFrame m _ _ = mkF m 0 #[.val (.ref a), .val (.int (65533 : Int32)), .val (.int (0 : Int32))] [] from rfl) ?_
  refine gLoadAN 1 X0 hx (H d11_0) rfl rfl rfl ?_
  refine gCallVJ X0 hx hZ (y := mn13) hown e0 (by rw [hml]; rfl) E (ow hw 42 rfl) (ow hw 43 rfl) (ow hw 45 rfl) (ow hw 44 rfl) (ow hw 7 rfl) (ow hw 46 rfl) (by decide) (argsL := []) (st := []) (c_isLatin1U l Z a0 hw a h0 hCpt C) (lenOf pd_3 rfl) (H d11_1) (pc' := 4) rfl rfl rfl rfl (by decide) (W := 0) (Nat.le_of_eq rfl) (by decide) (by decide) (by decide) ?_
  intro T1 X1 e1
  refine gIfEqT X1 hx (H d11_4) (pc' := 23) (by decide) (by decide) (pn := 7) rfl (fun (c4 : (0 : Int) = (0 : Int)) => ?_) (fun (c4 : ¬ (0 : Int) = (0 : Int)) => ?_)
  · refine gLoadAN 24 X1 hx (H d11_23) rfl rfl rfl ?_
    refine gGetF X1 hx hZ hown (ow hw 25 rfl) Via.refl e1 V (H d11_24) (pc' := 27) rfl (fun T2 X2 e2 => ?_)
    refine gLoadIN 28 X2 hx (H d11_27) rfl rfl ?_
    refine gLoadIN 29 X2 hx (H d11_28) rfl rfl ?_
    refine gLoadAN 30 X2 hx (H d11_29) rfl rfl rfl ?_
    refine gCallVJ X2 hx hZ (y := mn14) hown e2 (by rw [hml]; rfl) E (ow hw 48 rfl) (ow hw 49 rfl) (ow hw 51 rfl) (ow hw 50 rfl) (ow hw 7 rfl) (ow hw 52 rfl) (by decide) (argsL := []) (st := [(.int (0 : Int32)), (.int (65533 : Int32)), (.ref t)]) (c_lnU_2 l Z a0 hw a t ck ch0 ch1 h0 hCpt E C V A) (lenOf pd_1 rfl) (H d11_30) (pc' := 33) rfl rfl rfl rfl (by decide) (W := 3) (Nat.le_of_eq rfl) (by decide) (by decide) (by decide) ?_
    intro T3 X3 e3
    refine gCallSJ X3 hx hZ (y := mn22) hown e3 (by rw [hml]; rfl) (ow hw 98 rfl) (ow hw 99 rfl) (ow hw 67 rfl) (ow hw 100 rfl) (by decide) (argsL := [(.ref t), (.int (65533 : Int32)), (.int (0 : Int32)), (.int (2 : Int32))]) (st := []) (c_ixU_2 l Z a0 hw t ck ch0 ch1 h0 hU hSio A hch0 hch1) (lenOf pd_18 rfl) (H d11_33) (pc' := 36) rfl rfl rfl rfl (by decide) (W := 0) (Nat.le_of_eq rfl) (by decide) (by decide) (by decide) ?_
    intro T4 X4 e4
    exact gRetI X4 hx hlk hret (H d11_36) (by decide) (by decide) (⟨rfl, e4, rfl⟩)
  · exact absurd c4 (by decide)
theorem c_ix1U_2 (l : Launch) (Z : State) (a0 : Array Value) (hw : ∀ d ∈ tables_1, d.before a0 Z = true) (a t : Addr) (ck : ClassId) (ch0 ch1 : Int32) (h0 : Heap) (hCpt : Cpt Z h0) (E : sE Z h0 a) (C : uC Z h0 a) (V : sV Z h0 a t) (hU : U16 Z h0) (hSio : Sio Z h0) (A : sA Z h0 t ck 4 [(.int (lo8 ch0)), (.int (hi8 ch0)), (.int (lo8 ch1)), (.int (hi8 ch1))]) (hch0 : r6 ch0) (hch1 : r6 ch1) :
    Ctr l Z mn11 jdk_42_method_79_code 2 (some .int) [] ⟨6, 0, 0, 105⟩ #[(.ref a), (.int (65533 : Int32))] h0 (Just h0 (.int (ix2 ch0 ch1))) := by
  refine Ctr.of (plainFor_of_name pn_4) ?_
  intro p e s m below meth c s₁ hx H hml hret hown hnm hZ hlk X0 e0
  refine Goes.cast (show entryFrame m _ _ = mkF m 0 #[.val (.ref a), .val (.int (65533 : Int32))] [] from rfl) ?_
  refine gLoadAN 1 X0 hx (H d10_0) rfl rfl rfl ?_
  refine gLoadIN 2 X0 hx (H d10_1) rfl rfl ?_
  refine gIconst 3 X0 hx (v := (0 : Int32)) (H d10_2) rfl rfl ?_
  refine gCallVJ X0 hx hZ (y := mn12) hown e0 (by rw [hml]; rfl) E (ow hw 37 rfl) (ow hw 38 rfl) (ow hw 40 rfl) (ow hw 39 rfl) (ow hw 7 rfl) (ow hw 41 rfl) (by decide) (argsL := [(.int (65533 : Int32)), (.int (0 : Int32))]) (st := []) (c_ix2U_2 l Z a0 hw a t ck ch0 ch1 h0 hCpt E C V hU hSio A hch0 hch1) (lenOf pd_9 rfl) (H d10_3) (pc' := 6) rfl rfl rfl rfl (by decide) (W := 0) (Nat.le_of_eq rfl) (by decide) (by decide) (by decide) ?_
  intro T1 X1 e1
  exact gRetI X1 hx hlk hret (H d10_6) (by decide) (by decide) (⟨rfl, e1, rfl⟩)
theorem c_unU_2 (l : Launch) (Z : State) (a0 : Array Value) (hw : ∀ d ∈ tables_1, d.before a0 Z = true) (a t : Addr) (ck : ClassId) (ch0 ch1 : Int32) (h0 : Heap) (hCpt : Cpt Z h0) (E : sE Z h0 a) (C : uC Z h0 a) (V : sV Z h0 a t) (hU : U16 Z h0) (hSio : Sio Z h0) (A : sA Z h0 t ck 4 [(.int (lo8 ch0)), (.int (hi8 ch0)), (.int (lo8 ch1)), (.int (hi8 ch1))]) (hch0 : r6 ch0) (hch1 : r6 ch1) :
    Ctr l Z mn0 prog_1_method_4_code 1 (some .boolean) [] ⟨7, 0, 0, 120⟩ #[(.ref a)] h0 (Just h0 (.int (b2i (decide (ch0.toInt = 65533 ∨ ch1.toInt = 65533))))) := by
  refine Ctr.of (plainFor_of_name pn_0) ?_
  intro p e s m below meth c s₁ hx H hml hret hown hnm hZ hlk X0 e0
  refine Goes.cast (show entryFrame m _ _ = mkF m 0 #[.val (.ref a)] [] from rfl) ?_
  refine gLoadAN 1 X0 hx (H d30_0) rfl rfl rfl ?_
  refine gLdc 3 X0 hx hZ hown (ow hw 31 rfl) (H d30_1) rfl ?_
  refine gCallVJ X0 hx hZ (y := mn11) hown e0 (by rw [hml]; rfl) E (ow hw 32 rfl) (ow hw 33 rfl) (ow hw 35 rfl) (ow hw 34 rfl) (ow hw 7 rfl) (ow hw 36 rfl) (by decide) (argsL := [(.int (65533 : Int32))]) (st := []) (c_ix1U_2 l Z a0 hw a t ck ch0 ch1 h0 hCpt E C V hU hSio A hch0 hch1) (lenOf pd_6 rfl) (H d30_3) (pc' := 6) rfl rfl rfl rfl (by decide) (W := 0) (Nat.le_of_eq rfl) (by decide) (by decide) (by decide) ?_
  intro T1 X1 e1
  refine gIfLt X1 hx (H d30_6) (pc' := 13) (by decide) (by decide) (pn := 9) rfl (fun (c6 : (ix2 ch0 ch1).toInt < (0 : Int)) => ?_) (fun (c6 : (0 : Int) ≤ (ix2 ch0 ch1).toInt) => ?_)
  · refine gIconst 14 X1 hx (v := (0 : Int32)) (H d30_13) rfl rfl ?_
    exact gRetN X1 hx hlk hret (by simp) (H d30_14) (w := (0 : Int32)) rfl (by decide) (by decide) (just_f (ix2_y c6) e1)
  · refine gIconst 10 X1 hx (v := (1 : Int32)) (H d30_9) rfl rfl ?_
    refine gGoto X1 hx (H d30_10) (pc' := 14) (by decide) (by decide) ?_
    exact gRetN X1 hx hlk hret (by simp) (H d30_14) (w := (1 : Int32)) rfl (by decide) (by decide) (just_t (ix2_n c6) e1)
theorem c_min_3_3 (l : Launch) (Z : State) (a0 : Array Value) (hw : ∀ d ∈ tables_1, d.before a0 Z = true)  (h0 : Heap)  :
    Ctr l Z mn5 jdk_29_method_69_code 2 (some .int) [] ⟨0, 0, 0, 0⟩ #[(.int (3 : Int32)), (.int (3 : Int32))] h0 (Just h0 (.int (3))) := by
  refine Ctr.of (Jvm.Free.JP.mathPlain rfl (by decide +kernel)) ?_
  intro p e s m below meth c s₁ hx H hml hret hown hnm hZ hlk X0 e0
  refine Goes.cast (show entryFrame m _ _ = mkF m 0 #[.val (.int (3 : Int32)), .val (.int (3 : Int32))] [] from rfl) ?_
  refine gLoadIN 1 X0 hx (H d2_0) rfl rfl ?_
  refine gLoadIN 2 X0 hx (H d2_1) rfl rfl ?_
  refine gIcmpGt X0 hx (H d2_2) (pc' := 9) (by decide) (by decide) (pn := 5) rfl (fun (c2 : (3 : Int) < (3 : Int)) => ?_) (fun (c2 : (3 : Int) ≤ (3 : Int)) => ?_)
  · exact absurd c2 (by decide)
  · refine gLoadIN 6 X0 hx (H d2_5) rfl rfl ?_
    refine gGoto X0 hx (H d2_6) (pc' := 10) (by decide) (by decide) ?_
    exact gRetI X0 hx hlk hret (H d2_10) (by decide) (by decide) (⟨rfl, e0, rfl⟩)
def ix3 (ch0 ch1 ch2 : Int32) : Int32 := if ch0.toInt = 65533 then 0 else if ch1.toInt = 65533 then 1 else if ch2.toInt = 65533 then 2 else (-1)
theorem ix3_y {ch0 ch1 ch2 : Int32} (h : (ix3 ch0 ch1 ch2).toInt < 0) : ¬ (ch0.toInt = 65533 ∨ ch1.toInt = 65533 ∨ ch2.toInt = 65533) := by
  unfold ix3 at h
  repeat' split at h
  all_goals first | exact absurd h (by decide) | (clear h; simp_all)
theorem ix3_n {ch0 ch1 ch2 : Int32} (h : 0 ≤ (ix3 ch0 ch1 ch2).toInt) : ch0.toInt = 65533 ∨ ch1.toInt = 65533 ∨ ch2.toInt = 65533 := by
  unfold ix3 at h
  repeat' split at h
  all_goals first | exact absurd h (by decide) | (clear h; simp_all)
theorem c_ul_3 (l : Launch) (Z : State) (a0 : Array Value) (hw : ∀ d ∈ tables_1, d.before a0 Z = true) (t : Addr) (ck : ClassId) (ch0 ch1 ch2 : Int32) (h0 : Heap) (A : sA Z h0 t ck 6 [(.int (lo8 ch0)), (.int (hi8 ch0)), (.int (lo8 ch1)), (.int (hi8 ch1)), (.int (lo8 ch2)), (.int (hi8 ch2))]) :
    Ctr l Z mn25 jdk_52_method_6_code 1 (some .int) [] ⟨0, 0, 0, 0⟩ #[(.ref t)] h0 (Just h0 (.int 3)) := by
  refine Ctr.of (plainFor_of_name pn_6) ?_
  intro p e s m below meth c s₁ hx H hml hret hown hnm hZ hlk X0 e0
  refine Goes.cast (show entryFrame m _ _ = mkF m 0 #[.val (.ref t)] [] from rfl) ?_
  refine gLoadAN 1 X0 hx (H d25_0) rfl rfl rfl ?_
  refine gArrLen X0 hx hZ e0 A (H d25_1) (pc' := 2) rfl ?_
  refine gIconst 3 X0 hx (v := (1 : Int32)) (H d25_2) rfl rfl ?_
  refine gIshr 4 X0 hx (H d25_3) rfl ?_
  show Goes p e below _ s₁ (mkF m 4 #[.val (.ref t)] [(.int (3 : Int32))])
  exact gRetI X0 hx hlk hret (H d25_4) (by decide) (by decide) (⟨rfl, e0, rfl⟩)
theorem c_cb_3 (l : Launch) (Z : State) (a0 : Array Value) (hw : ∀ d ∈ tables_1, d.before a0 Z = true) (t : Addr) (ck : ClassId) (ch0 ch1 ch2 : Int32) (h0 : Heap) (hSio : Sio Z h0) (A : sA Z h0 t ck 6 [(.int (lo8 ch0)), (.int (hi8 ch0)), (.int (lo8 ch1)), (.int (hi8 ch1)), (.int (lo8 ch2)), (.int (hi8 ch2))]) :
    Ctr l Z mn17 jdk_52_method_93_code 3 none [] ⟨2, 0, 0, 30⟩ #[(.int (0 : Int32)), (.int (3 : Int32)), (.ref t)] h0 (fun v h L => v = none ∧ h = h0 ∧ L = []) := by
  refine Ctr.of (plainFor_of_name pn_6) ?_
  intro p e s m below meth c s₁ hx H hml hret hown hnm hZ hlk X0 e0
  refine Goes.cast (show entryFrame m _ _ = mkF m 0 #[.val (.int (0 : Int32)), .val (.int (3 : Int32)), .val (.ref t)] [] from rfl) ?_
  refine gLoadIN 1 X0 hx (H d26_0) rfl rfl ?_
  refine gLoadIN 2 X0 hx (H d26_1) rfl rfl ?_
  refine gLoadAN 3 X0 hx (H d26_2) rfl rfl rfl ?_
  refine gCallSJ X0 hx hZ (y := mn25) hown e0 (by rw [hml]; rfl) (ow hw 115 rfl) (ow hw 116 rfl) (ow hw 67 rfl) (ow hw 117 rfl) (by decide) (argsL := [(.ref t)]) (st := [(.int (3 : Int32)), (.int (0 : Int32))]) (c_ul_3 l Z a0 hw t ck ch0 ch1 ch2 h0 A) (lenOf pd_14 rfl) (H d26_3) (pc' := 6) rfl rfl rfl rfl (by decide) (W := 2) (Nat.le_of_eq rfl) (by decide) (by decide) (by decide) ?_
  intro T1 X1 e1
  refine gCallS X1 hx hZ (y := mn9) hown e1 (by rw [hml]; rfl) (ow hw 118 rfl) (ow hw 119 rfl) (ow hw 7 rfl) (ow hw 120 rfl) (by decide) (argsL := [(.int (0 : Int32)), (.int (3 : Int32)), (.int (3 : Int32))]) (st := []) (c_chkft l Z a0 hw (0 : Int32) (3 : Int32) (3 : Int32) h0 (by decide) (by decide) (by decide) hSio) (lenOf pd_10 rfl) (H d26_6) (pc' := 9) rfl rfl (by decide) (W := 0) (Nat.le_of_eq rfl) (by decide) (by decide) (by decide) ?_
  intro T2 v2 L2 X2 hQ2
  obtain ⟨rfl, eq2, rfl⟩ := hQ2
  rw [List.append_nil] at X2
  exact gRetV X2 hx hlk hret (H d26_9) (by decide) (by decide) (⟨rfl, eq2, rfl⟩)
theorem c_iu_3 (l : Launch) (Z : State) (a0 : Array Value) (hw : ∀ d ∈ tables_1, d.before a0 Z = true) (t : Addr) (ck : ClassId) (ch0 ch1 ch2 : Int32) (h0 : Heap) (hU : U16 Z h0) (hSio : Sio Z h0) (A : sA Z h0 t ck 6 [(.int (lo8 ch0)), (.int (hi8 ch0)), (.int (lo8 ch1)), (.int (hi8 ch1)), (.int (lo8 ch2)), (.int (hi8 ch2))]) (hch0 : r6 ch0) (hch1 : r6 ch1) (hch2 : r6 ch2) :
    Ctr l Z mn24 jdk_52_method_48_code 5 (some .int) [] ⟨1, 0, 0, 20⟩ #[(.ref t), (.int (65533 : Int32)), (.int (0 : Int32)), (.int (3 : Int32))] h0 (Just h0 (.int (ix3 ch0 ch1 ch2))) := by
  refine Ctr.of (plainFor_of_name pn_6) ?_
  intro p e s m below meth c s₁ hx H hml hret hown hnm hZ hlk X0 e0
  refine Goes.cast (show entryFrame m _ _ = mkF m 0 #[.val (.ref t), .val (.int (65533 : Int32)), .val (.int (0 : Int32)), .val (.int (3 : Int32)), .unset] [] from rfl) ?_
  refine gLoadIN 1 X0 hx (H d22_0) rfl rfl ?_
  refine gStoreI 3 X0 hx (H d22_1) (l' := #[.val (.ref t), .val (.int (65533 : Int32)), .val (.int (0 : Int32)), .val (.int (3 : Int32)), .val (.int (0 : Int32))]) rfl rfl ?_
  refine gLoadI 5 X0 hx (H d22_3) rfl rfl ?_
  refine gLoadIN 6 X0 hx (H d22_5) rfl rfl ?_
  refine gIcmpGe X0 hx (H d22_6) (pc' := 28) (by decide) (by decide) (pn := 9) rfl (fun (c6 : (3 : Int) ≤ (0 : Int)) => ?_) (fun (c6 : (0 : Int) < (3 : Int)) => ?_)
  · exact absurd c6 (by decide)
  · refine gLoadAN 10 X0 hx (H d22_9) rfl rfl rfl ?_
    refine gLoadI 12 X0 hx (H d22_10) rfl rfl ?_
    refine gCallSJ X0 hx hZ (y := mn21) hown e0 (by rw [hml]; rfl) (ow hw 95 rfl) (ow hw 96 rfl) (ow hw 67 rfl) (ow hw 97 rfl) (by decide) (argsL := [(.ref t), (.int (0 : Int32))]) (st := []) (c_get_3_0 l Z a0 hw t ck ch0 ch1 ch2 h0 hU A hch0 hch1 hch2) (lenOf pd_16 rfl) (H d22_12) (pc' := 15) rfl rfl rfl rfl (by decide) (W := 0) (Nat.le_of_eq rfl) (by decide) (by decide) (by decide) ?_
    intro T1 X1 e1
    refine gLoadIN 16 X1 hx (H d22_15) rfl rfl ?_
    refine gIcmpNeT X1 hx (H d22_16) (pc' := 22) (by decide) (by decide) (pn := 19) rfl (fun (c16 : ¬ ch0.toInt = (65533 : Int)) => ?_) (fun (c16 : ch0.toInt = (65533 : Int)) => ?_)
    · refine gIinc X1 hx (v := (1 : Int32)) (H d22_22) (l' := #[.val (.ref t), .val (.int (65533 : Int32)), .val (.int (0 : Int32)), .val (.int (3 : Int32)), .val (.int (1 : Int32))]) (pc' := 25) rfl rfl rfl rfl ?_
      refine gGoto X1 hx (H d22_25) (pc' := 3) (by decide) (by decide) ?_
      refine gLoadI 5 X1 hx (H d22_3) rfl rfl ?_
      refine gLoadIN 6 X1 hx (H d22_5) rfl rfl ?_
      refine gIcmpGe X1 hx (H d22_6) (pc' := 28) (by decide) (by decide) (pn := 9) rfl (fun (c6' : (3 : Int) ≤ (1 : Int)) => ?_) (fun (c6' : (1 : Int) < (3 : Int)) => ?_)
      · exact absurd c6' (by decide)
      · refine gLoadAN 10 X1 hx (H d22_9) rfl rfl rfl ?_
        refine gLoadI 12 X1 hx (H d22_10) rfl rfl ?_
        refine gCallSJ X1 hx hZ (y := mn21) hown e1 (by rw [hml]; rfl) (ow hw 95 rfl) (ow hw 96 rfl) (ow hw 67 rfl) (ow hw 97 rfl) (by decide) (argsL := [(.ref t), (.int (1 : Int32))]) (st := []) (c_get_3_1 l Z a0 hw t ck ch0 ch1 ch2 h0 hU A hch0 hch1 hch2) (lenOf pd_16 rfl) (H d22_12) (pc' := 15) rfl rfl rfl rfl (by decide) (W := 0) (Nat.le_of_eq rfl) (by decide) (by decide) (by decide) ?_
        intro T2 X2 e2
        refine gLoadIN 16 X2 hx (H d22_15) rfl rfl ?_
        refine gIcmpNeT X2 hx (H d22_16) (pc' := 22) (by decide) (by decide) (pn := 19) rfl (fun (c16' : ¬ ch1.toInt = (65533 : Int)) => ?_) (fun (c16' : ch1.toInt = (65533 : Int)) => ?_)
        · refine gIinc X2 hx (v := (1 : Int32)) (H d22_22) (l' := #[.val (.ref t), .val (.int (65533 : Int32)), .val (.int (0 : Int32)), .val (.int (3 : Int32)), .val (.int (2 : Int32))]) (pc' := 25) rfl rfl rfl rfl ?_
          refine gGoto X2 hx (H d22_25) (pc' := 3) (by decide) (by decide) ?_
          refine gLoadI 5 X2 hx (H d22_3) rfl rfl ?_
          refine gLoadIN 6 X2 hx (H d22_5) rfl rfl ?_
          refine gIcmpGe X2 hx (H d22_6) (pc' := 28) (by decide) (by decide) (pn := 9) rfl (fun (c6'' : (3 : Int) ≤ (2 : Int)) => ?_) (fun (c6'' : (2 : Int) < (3 : Int)) => ?_)
          · exact absurd c6'' (by decide)
          · refine gLoadAN 10 X2 hx (H d22_9) rfl rfl rfl ?_
            refine gLoadI 12 X2 hx (H d22_10) rfl rfl ?_
            refine gCallSJ X2 hx hZ (y := mn21) hown e2 (by rw [hml]; rfl) (ow hw 95 rfl) (ow hw 96 rfl) (ow hw 67 rfl) (ow hw 97 rfl) (by decide) (argsL := [(.ref t), (.int (2 : Int32))]) (st := []) (c_get_3_2 l Z a0 hw t ck ch0 ch1 ch2 h0 hU A hch0 hch1 hch2) (lenOf pd_16 rfl) (H d22_12) (pc' := 15) rfl rfl rfl rfl (by decide) (W := 0) (Nat.le_of_eq rfl) (by decide) (by decide) (by decide) ?_
            intro T3 X3 e3
            refine gLoadIN 16 X3 hx (H d22_15) rfl rfl ?_
            refine gIcmpNeT X3 hx (H d22_16) (pc' := 22) (by decide) (by decide) (pn := 19) rfl (fun (c16'' : ¬ ch2.toInt = (65533 : Int)) => ?_) (fun (c16'' : ch2.toInt = (65533 : Int)) => ?_)
            · refine gIinc X3 hx (v := (1 : Int32)) (H d22_22) (l' := #[.val (.ref t), .val (.int (65533 : Int32)), .val (.int (0 : Int32)), .val (.int (3 : Int32)), .val (.int (3 : Int32))]) (pc' := 25) rfl rfl rfl rfl ?_
              refine gGoto X3 hx (H d22_25) (pc' := 3) (by decide) (by decide) ?_
              refine gLoadI 5 X3 hx (H d22_3) rfl rfl ?_
              refine gLoadIN 6 X3 hx (H d22_5) rfl rfl ?_
              refine gIcmpGe X3 hx (H d22_6) (pc' := 28) (by decide) (by decide) (pn := 9) rfl (fun (c6''' : (3 : Int) ≤ (3 : Int)) => ?_) (fun (c6''' : (3 : Int) < (3 : Int)) => ?_)
              · refine gIconst 29 X3 hx (v := (-1 : Int32)) (H d22_28) rfl rfl ?_
                exact gRetI X3 hx hlk hret (H d22_29) (by decide) (by decide) (⟨by rw [ix3, if_neg c16, if_neg c16', if_neg c16''], e3, rfl⟩)
              · exact absurd c6''' (by decide)
            · refine gLoadI 21 X3 hx (H d22_19) rfl rfl ?_
              exact gRetI X3 hx hlk hret (H d22_21) (by decide) (by decide) (⟨by rw [ix3, if_neg c16, if_neg c16', if_pos c16''], e3, rfl⟩)
        · refine gLoadI 21 X2 hx (H d22_19) rfl rfl ?_
          exact gRetI X2 hx hlk hret (H d22_21) (by decide) (by decide) (⟨by rw [ix3, if_neg c16, if_pos c16'], e2, rfl⟩)
    · refine gLoadI 21 X1 hx (H d22_19) rfl rfl ?_
      exact gRetI X1 hx hlk hret (H d22_21) (by decide) (by decide) (⟨by rw [ix3, if_pos c16], e1, rfl⟩)
theorem c_ic_3 (l : Launch) (Z : State) (a0 : Array Value) (hw : ∀ d ∈ tables_1, d.before a0 Z = true) (t : Addr) (ck : ClassId) (ch0 ch1 ch2 : Int32) (h0 : Heap) (hU : U16 Z h0) (hSio : Sio Z h0) (A : sA Z h0 t ck 6 [(.int (lo8 ch0)), (.int (hi8 ch0)), (.int (lo8 ch1)), (.int (hi8 ch1)), (.int (lo8 ch2)), (.int (hi8 ch2))]) (hch0 : r6 ch0) (hch1 : r6 ch1) (hch2 : r6 ch2) :
    Ctr l Z mn23 jdk_52_method_47_code 4 (some .int) [] ⟨3, 0, 0, 50⟩ #[(.ref t), (.int (65533 : Int32)), (.int (0 : Int32)), (.int (3 : Int32))] h0 (Just h0 (.int (ix3 ch0 ch1 ch2))) := by
  refine Ctr.of (plainFor_of_name pn_6) ?_
  intro p e s m below meth c s₁ hx H hml hret hown hnm hZ hlk X0 e0
  refine Goes.cast (show entryFrame m _ _ = mkF m 0 #[.val (.ref t), .val (.int (65533 : Int32)), .val (.int (0 : Int32)), .val (.int (3 : Int32))] [] from rfl) ?_
  refine gLoadIN 1 X0 hx (H d21_0) rfl rfl ?_
  refine gLoadIN 2 X0 hx (H d21_1) rfl rfl ?_
  refine gLoadAN 3 X0 hx (H d21_2) rfl rfl rfl ?_
  refine gCallS X0 hx hZ (y := mn17) hown e0 (by rw [hml]; rfl) (ow hw 112 rfl) (ow hw 113 rfl) (ow hw 67 rfl) (ow hw 114 rfl) (by decide) (argsL := [(.int (0 : Int32)), (.int (3 : Int32)), (.ref t)]) (st := []) (c_cb_3 l Z a0 hw t ck ch0 ch1 ch2 h0 hSio A) (lenOf pd_12 rfl) (H d21_3) (pc' := 6) rfl rfl (by decide) (W := 0) (Nat.le_of_eq rfl) (by decide) (by decide) (by decide) ?_
  intro T1 v1 L1 X1 hQ1
  obtain ⟨rfl, eq1, rfl⟩ := hQ1
  rw [List.append_nil] at X1
  refine gLoadAN 7 X1 hx (H d21_6) rfl rfl rfl ?_
  refine gLoadIN 8 X1 hx (H d21_7) rfl rfl ?_
  refine gLoadIN 9 X1 hx (H d21_8) rfl rfl ?_
  refine gLoadIN 10 X1 hx (H d21_9) rfl rfl ?_
  refine gCallSJ X1 hx hZ (y := mn24) hown eq1 (by rw [hml]; rfl) (ow hw 126 rfl) (ow hw 127 rfl) (ow hw 67 rfl) (ow hw 128 rfl) (by decide) (argsL := [(.ref t), (.int (65533 : Int32)), (.int (0 : Int32)), (.int (3 : Int32))]) (st := []) (c_iu_3 l Z a0 hw t ck ch0 ch1 ch2 h0 hU hSio A hch0 hch1 hch2) (lenOf pd_18 rfl) (H d21_10) (pc' := 13) rfl rfl rfl rfl (by decide) (W := 0) (Nat.le_of_eq rfl) (by decide) (by decide) (by decide) ?_
  intro T2 X2 e2
  exact gRetI X2 hx hlk hret (H d21_13) (by decide) (by decide) (⟨rfl, e2, rfl⟩)
theorem c_ixU_3 (l : Launch) (Z : State) (a0 : Array Value) (hw : ∀ d ∈ tables_1, d.before a0 Z = true) (t : Addr) (ck : ClassId) (ch0 ch1 ch2 : Int32) (h0 : Heap) (hU : U16 Z h0) (hSio : Sio Z h0) (A : sA Z h0 t ck 6 [(.int (lo8 ch0)), (.int (hi8 ch0)), (.int (lo8 ch1)), (.int (hi8 ch1)), (.int (lo8 ch2)), (.int (hi8 ch2))]) (hch0 : r6 ch0) (hch1 : r6 ch1) (hch2 : r6 ch2) :
    Ctr l Z mn22 jdk_52_method_40_code 4 (some .int) [] ⟨4, 0, 0, 70⟩ #[(.ref t), (.int (65533 : Int32)), (.int (0 : Int32)), (.int (3 : Int32))] h0 (Just h0 (.int (ix3 ch0 ch1 ch2))) := by
  refine Ctr.of (plainFor_of_name pn_6) ?_
  intro p e s m below meth c s₁ hx H hml hret hown hnm hZ hlk X0 e0
  refine Goes.cast (show entryFrame m _ _ = mkF m 0 #[.val (.ref t), .val (.int (65533 : Int32)), .val (.int (0 : Int32)), .val (.int (3 : Int32))] [] from rfl) ?_
  refine gLoadIN 1 X0 hx (H d20_0) rfl rfl ?_
  refine gIconst 2 X0 hx (v := (0 : Int32)) (H d20_1) rfl rfl ?_
  refine gCallSJ X0 hx hZ (y := mn4) hown e0 (by rw [hml]; rfl) (ow hw 101 rfl) (ow hw 102 rfl) (ow hw 103 rfl) (ow hw 104 rfl) (by decide) (argsL := [(.int (0 : Int32)), (.int (0 : Int32))]) (st := []) (c_max_0_0 l Z a0 hw h0) (lenOf pd_9 rfl) (H d20_2) (pc' := 5) rfl rfl rfl rfl (by decide) (W := 0) (Nat.le_of_eq rfl) (by decide) (by decide) (by decide) ?_
  intro T1 X1 e1
  refine gStoreIN 6 X1 hx (H d20_5) (l' := #[.val (.ref t), .val (.int (65533 : Int32)), .val (.int (0 : Int32)), .val (.int (3 : Int32))]) rfl rfl ?_
  refine gLoadIN 7 X1 hx (H d20_6) rfl rfl ?_
  refine gLoadAN 8 X1 hx (H d20_7) rfl rfl rfl ?_
  refine gArrLen X1 hx hZ e1 A (H d20_8) (pc' := 9) rfl ?_
  refine gIconst 10 X1 hx (v := (1 : Int32)) (H d20_9) rfl rfl ?_
  refine gIshr 11 X1 hx (H d20_10) rfl ?_
  show Goes p e below _ T1 (mkF m 11 #[.val (.ref t), .val (.int (65533 : Int32)), .val (.int (0 : Int32)), .val (.int (3 : Int32))] [(.int (3 : Int32)), (.int (3 : Int32))])
  refine gCallSJ X1 hx hZ (y := mn5) hown e1 (by rw [hml]; rfl) (ow hw 105 rfl) (ow hw 106 rfl) (ow hw 103 rfl) (ow hw 107 rfl) (by decide) (argsL := [(.int (3 : Int32)), (.int (3 : Int32))]) (st := []) (c_min_3_3 l Z a0 hw h0) (lenOf pd_9 rfl) (H d20_11) (pc' := 14) rfl rfl rfl rfl (by decide) (W := 0) (Nat.le_of_eq rfl) (by decide) (by decide) (by decide) ?_
  intro T2 X2 e2
  refine gStoreIN 15 X2 hx (H d20_14) (l' := #[.val (.ref t), .val (.int (65533 : Int32)), .val (.int (0 : Int32)), .val (.int (3 : Int32))]) rfl rfl ?_
  refine gLoadIN 16 X2 hx (H d20_15) rfl rfl ?_
  refine gLoadIN 17 X2 hx (H d20_16) rfl rfl ?_
  refine gIcmpLt X2 hx (H d20_17) (pc' := 22) (by decide) (by decide) (pn := 20) rfl (fun (c17 : (0 : Int) < (3 : Int)) => ?_) (fun (c17 : (3 : Int) ≤ (0 : Int)) => ?_)
  · refine gLoadIN 23 X2 hx (H d20_22) rfl rfl ?_
    refine gLdc 25 X2 hx hZ hown (ow hw 108 rfl) (H d20_23) rfl ?_
    refine gIcmpGe X2 hx (H d20_25) (pc' := 36) (by decide) (by decide) (pn := 28) rfl (fun (c25 : (65536 : Int) ≤ (65533 : Int)) => ?_) (fun (c25 : (65533 : Int) < (65536 : Int)) => ?_)
    · exact absurd c25 (by decide)
    · refine gLoadAN 29 X2 hx (H d20_28) rfl rfl rfl ?_
      refine gLoadIN 30 X2 hx (H d20_29) rfl rfl ?_
      refine gLoadIN 31 X2 hx (H d20_30) rfl rfl ?_
      refine gLoadIN 32 X2 hx (H d20_31) rfl rfl ?_
      refine gCallSJ X2 hx hZ (y := mn23) hown e2 (by rw [hml]; rfl) (ow hw 109 rfl) (ow hw 110 rfl) (ow hw 67 rfl) (ow hw 111 rfl) (by decide) (argsL := [(.ref t), (.int (65533 : Int32)), (.int (0 : Int32)), (.int (3 : Int32))]) (st := []) (c_ic_3 l Z a0 hw t ck ch0 ch1 ch2 h0 hU hSio A hch0 hch1 hch2) (lenOf pd_18 rfl) (H d20_32) (pc' := 35) rfl rfl rfl rfl (by decide) (W := 0) (Nat.le_of_eq rfl) (by decide) (by decide) (by decide) ?_
      intro T3 X3 e3
      exact gRetI X3 hx hlk hret (H d20_35) (by decide) (by decide) (⟨rfl, e3, rfl⟩)
  · exact absurd c17 (by decide)
theorem c_lnU_3 (l : Launch) (Z : State) (a0 : Array Value) (hw : ∀ d ∈ tables_1, d.before a0 Z = true) (a t : Addr) (ck : ClassId) (ch0 ch1 ch2 : Int32) (h0 : Heap) (hCpt : Cpt Z h0) (E : sE Z h0 a) (C : uC Z h0 a) (V : sV Z h0 a t) (A : sA Z h0 t ck 6 [(.int (lo8 ch0)), (.int (hi8 ch0)), (.int (lo8 ch1)), (.int (hi8 ch1)), (.int (lo8 ch2)), (.int (hi8 ch2))]) :
    Ctr l Z mn14 jdk_42_method_54_code 1 (some .int) [] ⟨1, 0, 0, 13⟩ #[(.ref a)] h0 (Just h0 (.int 3)) := by
  refine Ctr.of (plainFor_of_name pn_4) ?_
  intro p e s m below meth c s₁ hx H hml hret hown hnm hZ hlk X0 e0
  refine Goes.cast (show entryFrame m _ _ = mkF m 0 #[.val (.ref a)] [] from rfl) ?_
  refine gLoadAN 1 X0 hx (H d9_0) rfl rfl rfl ?_
  refine gGetF X0 hx hZ hown (ow hw 25 rfl) Via.refl e0 V (H d9_1) (pc' := 4) rfl (fun T1 X1 e1 => ?_)
  refine gArrLen X1 hx hZ e1 A (H d9_4) (pc' := 5) rfl ?_
  refine gLoadAN 6 X1 hx (H d9_5) rfl rfl rfl ?_
  refine gCallVJ X1 hx hZ (y := mn10) hown e1 (by rw [hml]; rfl) E (ow hw 53 rfl) (ow hw 54 rfl) (ow hw 56 rfl) (ow hw 55 rfl) (ow hw 7 rfl) (ow hw 57 rfl) (by decide) (argsL := []) (st := [(.int (6 : Int32))]) (c_coderU l Z a0 hw a h0 hCpt C) (lenOf pd_0 rfl) (H d9_6) (pc' := 9) rfl rfl rfl rfl (by decide) (W := 1) (Nat.le_of_eq rfl) (by decide) (by decide) (by decide) ?_
  intro T2 X2 e2
  refine gIshr 10 X2 hx (H d9_9) rfl ?_
  show Goes p e below _ T2 (mkF m 10 #[.val (.ref a)] [(.int (3 : Int32))])
  exact gRetI X2 hx hlk hret (H d9_10) (by decide) (by decide) (⟨rfl, e2, rfl⟩)
theorem c_ix2U_3 (l : Launch) (Z : State) (a0 : Array Value) (hw : ∀ d ∈ tables_1, d.before a0 Z = true) (a t : Addr) (ck : ClassId) (ch0 ch1 ch2 : Int32) (h0 : Heap) (hCpt : Cpt Z h0) (E : sE Z h0 a) (C : uC Z h0 a) (V : sV Z h0 a t) (hU : U16 Z h0) (hSio : Sio Z h0) (A : sA Z h0 t ck 6 [(.int (lo8 ch0)), (.int (hi8 ch0)), (.int (lo8 ch1)), (.int (hi8 ch1)), (.int (lo8 ch2)), (.int (hi8 ch2))]) (hch0 : r6 ch0) (hch1 : r6 ch1) (hch2 : r6 ch2) :
    Ctr l Z mn12 jdk_42_method_80_code 3 (some .int) [] ⟨5, 0, 0, 90⟩ #[(.ref a), (.int (65533 : Int32)), (.int (0 : Int32))] h0 (Just h0 (.int (ix3 ch0 ch1 ch2))) := by
  refine Ctr.of (plainFor_of_name pn_4) ?_
  intro p e s m below meth c s₁ hx H hml hret hown hnm hZ hlk X0 e0
  refine Goes.cast (show entryFrame m _ _ = mkF m 0 #[.val (.ref a), .val (.int (65533 : Int32)), .val (.int (0 : Int32))] [] from rfl) ?_
  refine gLoadAN 1 X0 hx (H d11_0) rfl rfl rfl ?_
  refine gCallVJ X0 hx hZ (y := mn13) hown e0 (by rw [hml]; rfl) E (ow hw 42 rfl) (ow hw 43 rfl) (ow hw 45 rfl) (ow hw 44 rfl) (ow hw 7 rfl) (ow hw 46 rfl) (by decide) (argsL := []) (st := []) (c_isLatin1U l Z a0 hw a h0 hCpt C) (lenOf pd_3 rfl) (H d11_1) (pc' := 4) rfl rfl rfl rfl (by decide) (W := 0) (Nat.le_of_eq rfl) (by decide) (by decide) (by decide) ?_
  intro T1 X1 e1
  refine gIfEqT X1 hx (H d11_4) (pc' := 23) (by decide) (by decide) (pn := 7) rfl (fun (c4 : (0 : Int) = (0 : Int)) => ?_) (fun (c4 : ¬ (0 : Int) = (0 : Int)) => ?_)
  · refine gLoadAN 24 X1 hx (H d11_23) rfl rfl rfl ?_
    refine gGetF X1 hx hZ hown (ow hw 25 rfl) Via.refl e1 V (H d11_24) (pc' := 27) rfl (fun T2 X2 e2 => ?_)
    refine gLoadIN 28 X2 hx (H d11_27) rfl rfl ?_
    refine gLoadIN 29 X2 hx (H d11_28) rfl rfl ?_
    refine gLoadAN 30 X2 hx (H d11_29) rfl rfl rfl ?_
    refine gCallVJ X2 hx hZ (y := mn14) hown e2 (by rw [hml]; rfl) E (ow hw 48 rfl) (ow hw 49 rfl) (ow hw 51 rfl) (ow hw 50 rfl) (ow hw 7 rfl) (ow hw 52 rfl) (by decide) (argsL := []) (st := [(.int (0 : Int32)), (.int (65533 : Int32)), (.ref t)]) (c_lnU_3 l Z a0 hw a t ck ch0 ch1 ch2 h0 hCpt E C V A) (lenOf pd_1 rfl) (H d11_30) (pc' := 33) rfl rfl rfl rfl (by decide) (W := 3) (Nat.le_of_eq rfl) (by decide) (by decide) (by decide) ?_
    intro T3 X3 e3
    refine gCallSJ X3 hx hZ (y := mn22) hown e3 (by rw [hml]; rfl) (ow hw 98 rfl) (ow hw 99 rfl) (ow hw 67 rfl) (ow hw 100 rfl) (by decide) (argsL := [(.ref t), (.int (65533 : Int32)), (.int (0 : Int32)), (.int (3 : Int32))]) (st := []) (c_ixU_3 l Z a0 hw t ck ch0 ch1 ch2 h0 hU hSio A hch0 hch1 hch2) (lenOf pd_18 rfl) (H d11_33) (pc' := 36) rfl rfl rfl rfl (by decide) (W := 0) (Nat.le_of_eq rfl) (by decide) (by decide) (by decide) ?_
    intro T4 X4 e4
    exact gRetI X4 hx hlk hret (H d11_36) (by decide) (by decide) (⟨rfl, e4, rfl⟩)
  · exact absurd c4 (by decide)
theorem c_ix1U_3 (l : Launch) (Z : State) (a0 : Array Value) (hw : ∀ d ∈ tables_1, d.before a0 Z = true) (a t : Addr) (ck : ClassId) (ch0 ch1 ch2 : Int32) (h0 : Heap) (hCpt : Cpt Z h0) (E : sE Z h0 a) (C : uC Z h0 a) (V : sV Z h0 a t) (hU : U16 Z h0) (hSio : Sio Z h0) (A : sA Z h0 t ck 6 [(.int (lo8 ch0)), (.int (hi8 ch0)), (.int (lo8 ch1)), (.int (hi8 ch1)), (.int (lo8 ch2)), (.int (hi8 ch2))]) (hch0 : r6 ch0) (hch1 : r6 ch1) (hch2 : r6 ch2) :
    Ctr l Z mn11 jdk_42_method_79_code 2 (some .int) [] ⟨6, 0, 0, 105⟩ #[(.ref a), (.int (65533 : Int32))] h0 (Just h0 (.int (ix3 ch0 ch1 ch2))) := by
  refine Ctr.of (plainFor_of_name pn_4) ?_
  intro p e s m below meth c s₁ hx H hml hret hown hnm hZ hlk X0 e0
  refine Goes.cast (show entryFrame m _ _ = mkF m 0 #[.val (.ref a), .val (.int (65533 : Int32))] [] from rfl) ?_
  refine gLoadAN 1 X0 hx (H d10_0) rfl rfl rfl ?_
  refine gLoadIN 2 X0 hx (H d10_1) rfl rfl ?_
  refine gIconst 3 X0 hx (v := (0 : Int32)) (H d10_2) rfl rfl ?_
  refine gCallVJ X0 hx hZ (y := mn12) hown e0 (by rw [hml]; rfl) E (ow hw 37 rfl) (ow hw 38 rfl) (ow hw 40 rfl) (ow hw 39 rfl) (ow hw 7 rfl) (ow hw 41 rfl) (by decide) (argsL := [(.int (65533 : Int32)), (.int (0 : Int32))]) (st := []) (c_ix2U_3 l Z a0 hw a t ck ch0 ch1 ch2 h0 hCpt E C V hU hSio A hch0 hch1 hch2) (lenOf pd_9 rfl) (H d10_3) (pc' := 6) rfl rfl rfl rfl (by decide) (W := 0) (Nat.le_of_eq rfl) (by decide) (by decide) (by decide) ?_
  intro T1 X1 e1
  exact gRetI X1 hx hlk hret (H d10_6) (by decide) (by decide) (⟨rfl, e1, rfl⟩)
theorem c_unU_3 (l : Launch) (Z : State) (a0 : Array Value) (hw : ∀ d ∈ tables_1, d.before a0 Z = true) (a t : Addr) (ck : ClassId) (ch0 ch1 ch2 : Int32) (h0 : Heap) (hCpt : Cpt Z h0) (E : sE Z h0 a) (C : uC Z h0 a) (V : sV Z h0 a t) (hU : U16 Z h0) (hSio : Sio Z h0) (A : sA Z h0 t ck 6 [(.int (lo8 ch0)), (.int (hi8 ch0)), (.int (lo8 ch1)), (.int (hi8 ch1)), (.int (lo8 ch2)), (.int (hi8 ch2))]) (hch0 : r6 ch0) (hch1 : r6 ch1) (hch2 : r6 ch2) :
    Ctr l Z mn0 prog_1_method_4_code 1 (some .boolean) [] ⟨7, 0, 0, 120⟩ #[(.ref a)] h0 (Just h0 (.int (b2i (decide (ch0.toInt = 65533 ∨ ch1.toInt = 65533 ∨ ch2.toInt = 65533))))) := by
  refine Ctr.of (plainFor_of_name pn_0) ?_
  intro p e s m below meth c s₁ hx H hml hret hown hnm hZ hlk X0 e0
  refine Goes.cast (show entryFrame m _ _ = mkF m 0 #[.val (.ref a)] [] from rfl) ?_
  refine gLoadAN 1 X0 hx (H d30_0) rfl rfl rfl ?_
  refine gLdc 3 X0 hx hZ hown (ow hw 31 rfl) (H d30_1) rfl ?_
  refine gCallVJ X0 hx hZ (y := mn11) hown e0 (by rw [hml]; rfl) E (ow hw 32 rfl) (ow hw 33 rfl) (ow hw 35 rfl) (ow hw 34 rfl) (ow hw 7 rfl) (ow hw 36 rfl) (by decide) (argsL := [(.int (65533 : Int32))]) (st := []) (c_ix1U_3 l Z a0 hw a t ck ch0 ch1 ch2 h0 hCpt E C V hU hSio A hch0 hch1 hch2) (lenOf pd_6 rfl) (H d30_3) (pc' := 6) rfl rfl rfl rfl (by decide) (W := 0) (Nat.le_of_eq rfl) (by decide) (by decide) (by decide) ?_
  intro T1 X1 e1
  refine gIfLt X1 hx (H d30_6) (pc' := 13) (by decide) (by decide) (pn := 9) rfl (fun (c6 : (ix3 ch0 ch1 ch2).toInt < (0 : Int)) => ?_) (fun (c6 : (0 : Int) ≤ (ix3 ch0 ch1 ch2).toInt) => ?_)
  · refine gIconst 14 X1 hx (v := (0 : Int32)) (H d30_13) rfl rfl ?_
    exact gRetN X1 hx hlk hret (by simp) (H d30_14) (w := (0 : Int32)) rfl (by decide) (by decide) (just_f (ix3_y c6) e1)
  · refine gIconst 10 X1 hx (v := (1 : Int32)) (H d30_9) rfl rfl ?_
    refine gGoto X1 hx (H d30_10) (pc' := 14) (by decide) (by decide) ?_
    exact gRetN X1 hx hlk hret (by simp) (H d30_14) (w := (1 : Int32)) rfl (by decide) (by decide) (just_t (ix3_n c6) e1)
theorem c_min_4_4 (l : Launch) (Z : State) (a0 : Array Value) (hw : ∀ d ∈ tables_1, d.before a0 Z = true)  (h0 : Heap)  :
    Ctr l Z mn5 jdk_29_method_69_code 2 (some .int) [] ⟨0, 0, 0, 0⟩ #[(.int (4 : Int32)), (.int (4 : Int32))] h0 (Just h0 (.int (4))) := by
  refine Ctr.of (Jvm.Free.JP.mathPlain rfl (by decide +kernel)) ?_
  intro p e s m below meth c s₁ hx H hml hret hown hnm hZ hlk X0 e0
  refine Goes.cast (show entryFrame m _ _ = mkF m 0 #[.val (.int (4 : Int32)), .val (.int (4 : Int32))] [] from rfl) ?_
  refine gLoadIN 1 X0 hx (H d2_0) rfl rfl ?_
  refine gLoadIN 2 X0 hx (H d2_1) rfl rfl ?_
  refine gIcmpGt X0 hx (H d2_2) (pc' := 9) (by decide) (by decide) (pn := 5) rfl (fun (c2 : (4 : Int) < (4 : Int)) => ?_) (fun (c2 : (4 : Int) ≤ (4 : Int)) => ?_)
  · exact absurd c2 (by decide)
  · refine gLoadIN 6 X0 hx (H d2_5) rfl rfl ?_
    refine gGoto X0 hx (H d2_6) (pc' := 10) (by decide) (by decide) ?_
    exact gRetI X0 hx hlk hret (H d2_10) (by decide) (by decide) (⟨rfl, e0, rfl⟩)
def ix4 (ch0 ch1 ch2 ch3 : Int32) : Int32 := if ch0.toInt = 65533 then 0 else if ch1.toInt = 65533 then 1 else if ch2.toInt = 65533 then 2 else if ch3.toInt = 65533 then 3 else (-1)
theorem ix4_y {ch0 ch1 ch2 ch3 : Int32} (h : (ix4 ch0 ch1 ch2 ch3).toInt < 0) : ¬ (ch0.toInt = 65533 ∨ ch1.toInt = 65533 ∨ ch2.toInt = 65533 ∨ ch3.toInt = 65533) := by
  unfold ix4 at h
  repeat' split at h
  all_goals first | exact absurd h (by decide) | (clear h; simp_all)
theorem ix4_n {ch0 ch1 ch2 ch3 : Int32} (h : 0 ≤ (ix4 ch0 ch1 ch2 ch3).toInt) : ch0.toInt = 65533 ∨ ch1.toInt = 65533 ∨ ch2.toInt = 65533 ∨ ch3.toInt = 65533 := by
  unfold ix4 at h
  repeat' split at h
  all_goals first | exact absurd h (by decide) | (clear h; simp_all)
theorem c_ul_4 (l : Launch) (Z : State) (a0 : Array Value) (hw : ∀ d ∈ tables_1, d.before a0 Z = true) (t : Addr) (ck : ClassId) (ch0 ch1 ch2 ch3 : Int32) (h0 : Heap) (A : sA Z h0 t ck 8 [(.int (lo8 ch0)), (.int (hi8 ch0)), (.int (lo8 ch1)), (.int (hi8 ch1)), (.int (lo8 ch2)), (.int (hi8 ch2)), (.int (lo8 ch3)), (.int (hi8 ch3))]) :
    Ctr l Z mn25 jdk_52_method_6_code 1 (some .int) [] ⟨0, 0, 0, 0⟩ #[(.ref t)] h0 (Just h0 (.int 4)) := by
  refine Ctr.of (plainFor_of_name pn_6) ?_
  intro p e s m below meth c s₁ hx H hml hret hown hnm hZ hlk X0 e0
  refine Goes.cast (show entryFrame m _ _ = mkF m 0 #[.val (.ref t)] [] from rfl) ?_
  refine gLoadAN 1 X0 hx (H d25_0) rfl rfl rfl ?_
  refine gArrLen X0 hx hZ e0 A (H d25_1) (pc' := 2) rfl ?_
  refine gIconst 3 X0 hx (v := (1 : Int32)) (H d25_2) rfl rfl ?_
  refine gIshr 4 X0 hx (H d25_3) rfl ?_
  show Goes p e below _ s₁ (mkF m 4 #[.val (.ref t)] [(.int (4 : Int32))])
  exact gRetI X0 hx hlk hret (H d25_4) (by decide) (by decide) (⟨rfl, e0, rfl⟩)
theorem c_cb_4 (l : Launch) (Z : State) (a0 : Array Value) (hw : ∀ d ∈ tables_1, d.before a0 Z = true) (t : Addr) (ck : ClassId) (ch0 ch1 ch2 ch3 : Int32) (h0 : Heap) (hSio : Sio Z h0) (A : sA Z h0 t ck 8 [(.int (lo8 ch0)), (.int (hi8 ch0)), (.int (lo8 ch1)), (.int (hi8 ch1)), (.int (lo8 ch2)), (.int (hi8 ch2)), (.int (lo8 ch3)), (.int (hi8 ch3))]) :
    Ctr l Z mn17 jdk_52_method_93_code 3 none [] ⟨2, 0, 0, 30⟩ #[(.int (0 : Int32)), (.int (4 : Int32)), (.ref t)] h0 (fun v h L => v = none ∧ h = h0 ∧ L = []) := by
  refine Ctr.of (plainFor_of_name pn_6) ?_
  intro p e s m below meth c s₁ hx H hml hret hown hnm hZ hlk X0 e0
  refine Goes.cast (show entryFrame m _ _ = mkF m 0 #[.val (.int (0 : Int32)), .val (.int (4 : Int32)), .val (.ref t)] [] from rfl) ?_
  refine gLoadIN 1 X0 hx (H d26_0) rfl rfl ?_
  refine gLoadIN 2 X0 hx (H d26_1) rfl rfl ?_
  refine gLoadAN 3 X0 hx (H d26_2) rfl rfl rfl ?_
  refine gCallSJ X0 hx hZ (y := mn25) hown e0 (by rw [hml]; rfl) (ow hw 115 rfl) (ow hw 116 rfl) (ow hw 67 rfl) (ow hw 117 rfl) (by decide) (argsL := [(.ref t)]) (st := [(.int (4 : Int32)), (.int (0 : Int32))]) (c_ul_4 l Z a0 hw t ck ch0 ch1 ch2 ch3 h0 A) (lenOf pd_14 rfl) (H d26_3) (pc' := 6) rfl rfl rfl rfl (by decide) (W := 2) (Nat.le_of_eq rfl) (by decide) (by decide) (by decide) ?_
  intro T1 X1 e1
  refine gCallS X1 hx hZ (y := mn9) hown e1 (by rw [hml]; rfl) (ow hw 118 rfl) (ow hw 119 rfl) (ow hw 7 rfl) (ow hw 120 rfl) (by decide) (argsL := [(.int (0 : Int32)), (.int (4 : Int32)), (.int (4 : Int32))]) (st := []) (c_chkft l Z a0 hw (0 : Int32) (4 : Int32) (4 : Int32) h0 (by decide) (by decide) (by decide) hSio) (lenOf pd_10 rfl) (H d26_6) (pc' := 9) rfl rfl (by decide) (W := 0) (Nat.le_of_eq rfl) (by decide) (by decide) (by decide) ?_
  intro T2 v2 L2 X2 hQ2
  obtain ⟨rfl, eq2, rfl⟩ := hQ2
  rw [List.append_nil] at X2
  exact gRetV X2 hx hlk hret (H d26_9) (by decide) (by decide) (⟨rfl, eq2, rfl⟩)
theorem c_iu_4 (l : Launch) (Z : State) (a0 : Array Value) (hw : ∀ d ∈ tables_1, d.before a0 Z = true) (t : Addr) (ck : ClassId) (ch0 ch1 ch2 ch3 : Int32) (h0 : Heap) (hU : U16 Z h0) (hSio : Sio Z h0) (A : sA Z h0 t ck 8 [(.int (lo8 ch0)), (.int (hi8 ch0)), (.int (lo8 ch1)), (.int (hi8 ch1)), (.int (lo8 ch2)), (.int (hi8 ch2)), (.int (lo8 ch3)), (.int (hi8 ch3))]) (hch0 : r6 ch0) (hch1 : r6 ch1) (hch2 : r6 ch2) (hch3 : r6 ch3) :
    Ctr l Z mn24 jdk_52_method_48_code 5 (some .int) [] ⟨1, 0, 0, 20⟩ #[(.ref t), (.int (65533 : Int32)), (.int (0 : Int32)), (.int (4 : Int32))] h0 (Just h0 (.int (ix4 ch0 ch1 ch2 ch3))) := by
  refine Ctr.of (plainFor_of_name pn_6) ?_
  intro p e s m below meth c s₁ hx H hml hret hown hnm hZ hlk X0 e0
  refine Goes.cast (show entryFrame m _ _ = mkF m 0 #[.val (.ref t), .val (.int (65533 : Int32)), .val (.int (0 : Int32)), .val (.int (4 : Int32)), .unset] [] from rfl) ?_
  refine gLoadIN 1 X0 hx (H d22_0) rfl rfl ?_
  refine gStoreI 3 X0 hx (H d22_1) (l' := #[.val (.ref t), .val (.int (65533 : Int32)), .val (.int (0 : Int32)), .val (.int (4 : Int32)), .val (.int (0 : Int32))]) rfl rfl ?_
  refine gLoadI 5 X0 hx (H d22_3) rfl rfl ?_
  refine gLoadIN 6 X0 hx (H d22_5) rfl rfl ?_
  refine gIcmpGe X0 hx (H d22_6) (pc' := 28) (by decide) (by decide) (pn := 9) rfl (fun (c6 : (4 : Int) ≤ (0 : Int)) => ?_) (fun (c6 : (0 : Int) < (4 : Int)) => ?_)
  · exact absurd c6 (by decide)
  · refine gLoadAN 10 X0 hx (H d22_9) rfl rfl rfl ?_
    refine gLoadI 12 X0 hx (H d22_10) rfl rfl ?_
    refine gCallSJ X0 hx hZ (y := mn21) hown e0 (by rw [hml]; rfl) (ow hw 95 rfl) (ow hw 96 rfl) (ow hw 67 rfl) (ow hw 97 rfl) (by decide) (argsL := [(.ref t), (.int (0 : Int32))]) (st := []) (c_get_4_0 l Z a0 hw t ck ch0 ch1 ch2 ch3 h0 hU A hch0 hch1 hch2 hch3) (lenOf pd_16 rfl) (H d22_12) (pc' := 15) rfl rfl rfl rfl (by decide) (W := 0) (Nat.le_of_eq rfl) (by decide) (by decide) (by decide) ?_
    intro T1 X1 e1
    refine gLoadIN 16 X1 hx (H d22_15) rfl rfl ?_
    refine gIcmpNeT X1 hx (H d22_16) (pc' := 22) (by decide) (by decide) (pn := 19) rfl (fun (c16 : ¬ ch0.toInt = (65533 : Int)) => ?_) (fun (c16 : ch0.toInt = (65533 : Int)) => ?_)
    · refine gIinc X1 hx (v := (1 : Int32)) (H d22_22) (l' := #[.val (.ref t), .val (.int (65533 : Int32)), .val (.int (0 : Int32)), .val (.int (4 : Int32)), .val (.int (1 : Int32))]) (pc' := 25) rfl rfl rfl rfl ?_
      refine gGoto X1 hx (H d22_25) (pc' := 3) (by decide) (by decide) ?_
      refine gLoadI 5 X1 hx (H d22_3) rfl rfl ?_
      refine gLoadIN 6 X1 hx (H d22_5) rfl rfl ?_
      refine gIcmpGe X1 hx (H d22_6) (pc' := 28) (by decide) (by decide) (pn := 9) rfl (fun (c6' : (4 : Int) ≤ (1 : Int)) => ?_) (fun (c6' : (1 : Int) < (4 : Int)) => ?_)
      · exact absurd c6' (by decide)
      · refine gLoadAN 10 X1 hx (H d22_9) rfl rfl rfl ?_
        refine gLoadI 12 X1 hx (H d22_10) rfl rfl ?_
        refine gCallSJ X1 hx hZ (y := mn21) hown e1 (by rw [hml]; rfl) (ow hw 95 rfl) (ow hw 96 rfl) (ow hw 67 rfl) (ow hw 97 rfl) (by decide) (argsL := [(.ref t), (.int (1 : Int32))]) (st := []) (c_get_4_1 l Z a0 hw t ck ch0 ch1 ch2 ch3 h0 hU A hch0 hch1 hch2 hch3) (lenOf pd_16 rfl) (H d22_12) (pc' := 15) rfl rfl rfl rfl (by decide) (W := 0) (Nat.le_of_eq rfl) (by decide) (by decide) (by decide) ?_
        intro T2 X2 e2
        refine gLoadIN 16 X2 hx (H d22_15) rfl rfl ?_
        refine gIcmpNeT X2 hx (H d22_16) (pc' := 22) (by decide) (by decide) (pn := 19) rfl (fun (c16' : ¬ ch1.toInt = (65533 : Int)) => ?_) (fun (c16' : ch1.toInt = (65533 : Int)) => ?_)
        · refine gIinc X2 hx (v := (1 : Int32)) (H d22_22) (l' := #[.val (.ref t), .val (.int (65533 : Int32)), .val (.int (0 : Int32)), .val (.int (4 : Int32)), .val (.int (2 : Int32))]) (pc' := 25) rfl rfl rfl rfl ?_
          refine gGoto X2 hx (H d22_25) (pc' := 3) (by decide) (by decide) ?_
          refine gLoadI 5 X2 hx (H d22_3) rfl rfl ?_
          refine gLoadIN 6 X2 hx (H d22_5) rfl rfl ?_
          refine gIcmpGe X2 hx (H d22_6) (pc' := 28) (by decide) (by decide) (pn := 9) rfl (fun (c6'' : (4 : Int) ≤ (2 : Int)) => ?_) (fun (c6'' : (2 : Int) < (4 : Int)) => ?_)
          · exact absurd c6'' (by decide)
          · refine gLoadAN 10 X2 hx (H d22_9) rfl rfl rfl ?_
            refine gLoadI 12 X2 hx (H d22_10) rfl rfl ?_
            refine gCallSJ X2 hx hZ (y := mn21) hown e2 (by rw [hml]; rfl) (ow hw 95 rfl) (ow hw 96 rfl) (ow hw 67 rfl) (ow hw 97 rfl) (by decide) (argsL := [(.ref t), (.int (2 : Int32))]) (st := []) (c_get_4_2 l Z a0 hw t ck ch0 ch1 ch2 ch3 h0 hU A hch0 hch1 hch2 hch3) (lenOf pd_16 rfl) (H d22_12) (pc' := 15) rfl rfl rfl rfl (by decide) (W := 0) (Nat.le_of_eq rfl) (by decide) (by decide) (by decide) ?_
            intro T3 X3 e3
            refine gLoadIN 16 X3 hx (H d22_15) rfl rfl ?_
            refine gIcmpNeT X3 hx (H d22_16) (pc' := 22) (by decide) (by decide) (pn := 19) rfl (fun (c16'' : ¬ ch2.toInt = (65533 : Int)) => ?_) (fun (c16'' : ch2.toInt = (65533 : Int)) => ?_)
            · refine gIinc X3 hx (v := (1 : Int32)) (H d22_22) (l' := #[.val (.ref t), .val (.int (65533 : Int32)), .val (.int (0 : Int32)), .val (.int (4 : Int32)), .val (.int (3 : Int32))]) (pc' := 25) rfl rfl rfl rfl ?_
              refine gGoto X3 hx (H d22_25) (pc' := 3) (by decide) (by decide) ?_
              refine gLoadI 5 X3 hx (H d22_3) rfl rfl ?_
              refine gLoadIN 6 X3 hx (H d22_5) rfl rfl ?_
              refine gIcmpGe X3 hx (H d22_6) (pc' := 28) (by decide) (by decide) (pn := 9) rfl (fun (c6''' : (4 : Int) ≤ (3 : Int)) => ?_) (fun (c6''' : (3 : Int) < (4 : Int)) => ?_)
              · exact absurd c6''' (by decide)
              · refine gLoadAN 10 X3 hx (H d22_9) rfl rfl rfl ?_
                refine gLoadI 12 X3 hx (H d22_10) rfl rfl ?_
                refine gCallSJ X3 hx hZ (y := mn21) hown e3 (by rw [hml]; rfl) (ow hw 95 rfl) (ow hw 96 rfl) (ow hw 67 rfl) (ow hw 97 rfl) (by decide) (argsL := [(.ref t), (.int (3 : Int32))]) (st := []) (c_get_4_3 l Z a0 hw t ck ch0 ch1 ch2 ch3 h0 hU A hch0 hch1 hch2 hch3) (lenOf pd_16 rfl) (H d22_12) (pc' := 15) rfl rfl rfl rfl (by decide) (W := 0) (Nat.le_of_eq rfl) (by decide) (by decide) (by decide) ?_
                intro T4 X4 e4
                refine gLoadIN 16 X4 hx (H d22_15) rfl rfl ?_
                refine gIcmpNeT X4 hx (H d22_16) (pc' := 22) (by decide) (by decide) (pn := 19) rfl (fun (c16''' : ¬ ch3.toInt = (65533 : Int)) => ?_) (fun (c16''' : ch3.toInt = (65533 : Int)) => ?_)
                · refine gIinc X4 hx (v := (1 : Int32)) (H d22_22) (l' := #[.val (.ref t), .val (.int (65533 : Int32)), .val (.int (0 : Int32)), .val (.int (4 : Int32)), .val (.int (4 : Int32))]) (pc' := 25) rfl rfl rfl rfl ?_
                  refine gGoto X4 hx (H d22_25) (pc' := 3) (by decide) (by decide) ?_
                  refine gLoadI 5 X4 hx (H d22_3) rfl rfl ?_
                  refine gLoadIN 6 X4 hx (H d22_5) rfl rfl ?_
                  refine gIcmpGe X4 hx (H d22_6) (pc' := 28) (by decide) (by decide) (pn := 9) rfl (fun (c6'''' : (4 : Int) ≤ (4 : Int)) => ?_) (fun (c6'''' : (4 : Int) < (4 : Int)) => ?_)
                  · refine gIconst 29 X4 hx (v := (-1 : Int32)) (H d22_28) rfl rfl ?_
                    exact gRetI X4 hx hlk hret (H d22_29) (by decide) (by decide) (⟨by rw [ix4, if_neg c16, if_neg c16', if_neg c16'', if_neg c16'''], e4, rfl⟩)
                  · exact absurd c6'''' (by decide)
                · refine gLoadI 21 X4 hx (H d22_19) rfl rfl ?_
                  exact gRetI X4 hx hlk hret (H d22_21) (by decide) (by decide) (⟨by rw [ix4, if_neg c16, if_neg c16', if_neg c16'', if_pos c16'''], e4, rfl⟩)
            · refine gLoadI 21 X3 hx (H d22_19) rfl rfl ?_
              exact gRetI X3 hx hlk hret (H d22_21) (by decide) (by decide) (⟨by rw [ix4, if_neg c16, if_neg c16', if_pos c16''], e3, rfl⟩)
        · refine gLoadI 21 X2 hx (H d22_19) rfl rfl ?_
          exact gRetI X2 hx hlk hret (H d22_21) (by decide) (by decide) (⟨by rw [ix4, if_neg c16, if_pos c16'], e2, rfl⟩)
    · refine gLoadI 21 X1 hx (H d22_19) rfl rfl ?_
      exact gRetI X1 hx hlk hret (H d22_21) (by decide) (by decide) (⟨by rw [ix4, if_pos c16], e1, rfl⟩)
theorem c_ic_4 (l : Launch) (Z : State) (a0 : Array Value) (hw : ∀ d ∈ tables_1, d.before a0 Z = true) (t : Addr) (ck : ClassId) (ch0 ch1 ch2 ch3 : Int32) (h0 : Heap) (hU : U16 Z h0) (hSio : Sio Z h0) (A : sA Z h0 t ck 8 [(.int (lo8 ch0)), (.int (hi8 ch0)), (.int (lo8 ch1)), (.int (hi8 ch1)), (.int (lo8 ch2)), (.int (hi8 ch2)), (.int (lo8 ch3)), (.int (hi8 ch3))]) (hch0 : r6 ch0) (hch1 : r6 ch1) (hch2 : r6 ch2) (hch3 : r6 ch3) :
    Ctr l Z mn23 jdk_52_method_47_code 4 (some .int) [] ⟨3, 0, 0, 50⟩ #[(.ref t), (.int (65533 : Int32)), (.int (0 : Int32)), (.int (4 : Int32))] h0 (Just h0 (.int (ix4 ch0 ch1 ch2 ch3))) := by
  refine Ctr.of (plainFor_of_name pn_6) ?_
  intro p e s m below meth c s₁ hx H hml hret hown hnm hZ hlk X0 e0
  refine Goes.cast (show entryFrame m _ _ = mkF m 0 #[.val (.ref t), .val (.int (65533 : Int32)), .val (.int (0 : Int32)), .val (.int (4 : Int32))] [] from rfl) ?_
  refine gLoadIN 1 X0 hx (H d21_0) rfl rfl ?_
  refine gLoadIN 2 X0 hx (H d21_1) rfl rfl ?_
  refine gLoadAN 3 X0 hx (H d21_2) rfl rfl rfl ?_
  refine gCallS X0 hx hZ (y := mn17) hown e0 (by rw [hml]; rfl) (ow hw 112 rfl) (ow hw 113 rfl) (ow hw 67 rfl) (ow hw 114 rfl) (by decide) (argsL := [(.int (0 : Int32)), (.int (4 : Int32)), (.ref t)]) (st := []) (c_cb_4 l Z a0 hw t ck ch0 ch1 ch2 ch3 h0 hSio A) (lenOf pd_12 rfl) (H d21_3) (pc' := 6) rfl rfl (by decide) (W := 0) (Nat.le_of_eq rfl) (by decide) (by decide) (by decide) ?_
  intro T1 v1 L1 X1 hQ1
  obtain ⟨rfl, eq1, rfl⟩ := hQ1
  rw [List.append_nil] at X1
  refine gLoadAN 7 X1 hx (H d21_6) rfl rfl rfl ?_
  refine gLoadIN 8 X1 hx (H d21_7) rfl rfl ?_
  refine gLoadIN 9 X1 hx (H d21_8) rfl rfl ?_
  refine gLoadIN 10 X1 hx (H d21_9) rfl rfl ?_
  refine gCallSJ X1 hx hZ (y := mn24) hown eq1 (by rw [hml]; rfl) (ow hw 126 rfl) (ow hw 127 rfl) (ow hw 67 rfl) (ow hw 128 rfl) (by decide) (argsL := [(.ref t), (.int (65533 : Int32)), (.int (0 : Int32)), (.int (4 : Int32))]) (st := []) (c_iu_4 l Z a0 hw t ck ch0 ch1 ch2 ch3 h0 hU hSio A hch0 hch1 hch2 hch3) (lenOf pd_18 rfl) (H d21_10) (pc' := 13) rfl rfl rfl rfl (by decide) (W := 0) (Nat.le_of_eq rfl) (by decide) (by decide) (by decide) ?_
  intro T2 X2 e2
  exact gRetI X2 hx hlk hret (H d21_13) (by decide) (by decide) (⟨rfl, e2, rfl⟩)
theorem c_ixU_4 (l : Launch) (Z : State) (a0 : Array Value) (hw : ∀ d ∈ tables_1, d.before a0 Z = true) (t : Addr) (ck : ClassId) (ch0 ch1 ch2 ch3 : Int32) (h0 : Heap) (hU : U16 Z h0) (hSio : Sio Z h0) (A : sA Z h0 t ck 8 [(.int (lo8 ch0)), (.int (hi8 ch0)), (.int (lo8 ch1)), (.int (hi8 ch1)), (.int (lo8 ch2)), (.int (hi8 ch2)), (.int (lo8 ch3)), (.int (hi8 ch3))]) (hch0 : r6 ch0) (hch1 : r6 ch1) (hch2 : r6 ch2) (hch3 : r6 ch3) :
    Ctr l Z mn22 jdk_52_method_40_code 4 (some .int) [] ⟨4, 0, 0, 70⟩ #[(.ref t), (.int (65533 : Int32)), (.int (0 : Int32)), (.int (4 : Int32))] h0 (Just h0 (.int (ix4 ch0 ch1 ch2 ch3))) := by
  refine Ctr.of (plainFor_of_name pn_6) ?_
  intro p e s m below meth c s₁ hx H hml hret hown hnm hZ hlk X0 e0
  refine Goes.cast (show entryFrame m _ _ = mkF m 0 #[.val (.ref t), .val (.int (65533 : Int32)), .val (.int (0 : Int32)), .val (.int (4 : Int32))] [] from rfl) ?_
  refine gLoadIN 1 X0 hx (H d20_0) rfl rfl ?_
  refine gIconst 2 X0 hx (v := (0 : Int32)) (H d20_1) rfl rfl ?_
  refine gCallSJ X0 hx hZ (y := mn4) hown e0 (by rw [hml]; rfl) (ow hw 101 rfl) (ow hw 102 rfl) (ow hw 103 rfl) (ow hw 104 rfl) (by decide) (argsL := [(.int (0 : Int32)), (.int (0 : Int32))]) (st := []) (c_max_0_0 l Z a0 hw h0) (lenOf pd_9 rfl) (H d20_2) (pc' := 5) rfl rfl rfl rfl (by decide) (W := 0) (Nat.le_of_eq rfl) (by decide) (by decide) (by decide) ?_
  intro T1 X1 e1
  refine gStoreIN 6 X1 hx (H d20_5) (l' := #[.val (.ref t), .val (.int (65533 : Int32)), .val (.int (0 : Int32)), .val (.int (4 : Int32))]) rfl rfl ?_
  refine gLoadIN 7 X1 hx (H d20_6) rfl rfl ?_
  refine gLoadAN 8 X1 hx (H d20_7) rfl rfl rfl ?_
  refine gArrLen X1 hx hZ e1 A (H d20_8) (pc' := 9) rfl ?_
  refine gIconst 10 X1 hx (v := (1 : Int32)) (H d20_9) rfl rfl ?_
  refine gIshr 11 X1 hx (H d20_10) rfl ?_
  show Goes p e below _ T1 (mkF m 11 #[.val (.ref t), .val (.int (65533 : Int32)), .val (.int (0 : Int32)), .val (.int (4 : Int32))] [(.int (4 : Int32)), (.int (4 : Int32))])
  refine gCallSJ X1 hx hZ (y := mn5) hown e1 (by rw [hml]; rfl) (ow hw 105 rfl) (ow hw 106 rfl) (ow hw 103 rfl) (ow hw 107 rfl) (by decide) (argsL := [(.int (4 : Int32)), (.int (4 : Int32))]) (st := []) (c_min_4_4 l Z a0 hw h0) (lenOf pd_9 rfl) (H d20_11) (pc' := 14) rfl rfl rfl rfl (by decide) (W := 0) (Nat.le_of_eq rfl) (by decide) (by decide) (by decide) ?_
  intro T2 X2 e2
  refine gStoreIN 15 X2 hx (H d20_14) (l' := #[.val (.ref t), .val (.int (65533 : Int32)), .val (.int (0 : Int32)), .val (.int (4 : Int32))]) rfl rfl ?_
  refine gLoadIN 16 X2 hx (H d20_15) rfl rfl ?_
  refine gLoadIN 17 X2 hx (H d20_16) rfl rfl ?_
  refine gIcmpLt X2 hx (H d20_17) (pc' := 22) (by decide) (by decide) (pn := 20) rfl (fun (c17 : (0 : Int) < (4 : Int)) => ?_) (fun (c17 : (4 : Int) ≤ (0 : Int)) => ?_)
  · refine gLoadIN 23 X2 hx (H d20_22) rfl rfl ?_
    refine gLdc 25 X2 hx hZ hown (ow hw 108 rfl) (H d20_23) rfl ?_
    refine gIcmpGe X2 hx (H d20_25) (pc' := 36) (by decide) (by decide) (pn := 28) rfl (fun (c25 : (65536 : Int) ≤ (65533 : Int)) => ?_) (fun (c25 : (65533 : Int) < (65536 : Int)) => ?_)
    · exact absurd c25 (by decide)
    · refine gLoadAN 29 X2 hx (H d20_28) rfl rfl rfl ?_
      refine gLoadIN 30 X2 hx (H d20_29) rfl rfl ?_
      refine gLoadIN 31 X2 hx (H d20_30) rfl rfl ?_
      refine gLoadIN 32 X2 hx (H d20_31) rfl rfl ?_
      refine gCallSJ X2 hx hZ (y := mn23) hown e2 (by rw [hml]; rfl) (ow hw 109 rfl) (ow hw 110 rfl) (ow hw 67 rfl) (ow hw 111 rfl) (by decide) (argsL := [(.ref t), (.int (65533 : Int32)), (.int (0 : Int32)), (.int (4 : Int32))]) (st := []) (c_ic_4 l Z a0 hw t ck ch0 ch1 ch2 ch3 h0 hU hSio A hch0 hch1 hch2 hch3) (lenOf pd_18 rfl) (H d20_32) (pc' := 35) rfl rfl rfl rfl (by decide) (W := 0) (Nat.le_of_eq rfl) (by decide) (by decide) (by decide) ?_
      intro T3 X3 e3
      exact gRetI X3 hx hlk hret (H d20_35) (by decide) (by decide) (⟨rfl, e3, rfl⟩)
  · exact absurd c17 (by decide)
theorem c_lnU_4 (l : Launch) (Z : State) (a0 : Array Value) (hw : ∀ d ∈ tables_1, d.before a0 Z = true) (a t : Addr) (ck : ClassId) (ch0 ch1 ch2 ch3 : Int32) (h0 : Heap) (hCpt : Cpt Z h0) (E : sE Z h0 a) (C : uC Z h0 a) (V : sV Z h0 a t) (A : sA Z h0 t ck 8 [(.int (lo8 ch0)), (.int (hi8 ch0)), (.int (lo8 ch1)), (.int (hi8 ch1)), (.int (lo8 ch2)), (.int (hi8 ch2)), (.int (lo8 ch3)), (.int (hi8 ch3))]) :
    Ctr l Z mn14 jdk_42_method_54_code 1 (some .int) [] ⟨1, 0, 0, 13⟩ #[(.ref a)] h0 (Just h0 (.int 4)) := by
  refine Ctr.of (plainFor_of_name pn_4) ?_
  intro p e s m below meth c s₁ hx H hml hret hown hnm hZ hlk X0 e0
  refine Goes.cast (show entryFrame m _ _ = mkF m 0 #[.val (.ref a)] [] from rfl) ?_
  refine gLoadAN 1 X0 hx (H d9_0) rfl rfl rfl ?_
  refine gGetF X0 hx hZ hown (ow hw 25 rfl) Via.refl e0 V (H d9_1) (pc' := 4) rfl (fun T1 X1 e1 => ?_)
  refine gArrLen X1 hx hZ e1 A (H d9_4) (pc' := 5) rfl ?_
  refine gLoadAN 6 X1 hx (H d9_5) rfl rfl rfl ?_
  refine gCallVJ X1 hx hZ (y := mn10) hown e1 (by rw [hml]; rfl) E (ow hw 53 rfl) (ow hw 54 rfl) (ow hw 56 rfl) (ow hw 55 rfl) (ow hw 7 rfl) (ow hw 57 rfl) (by decide) (argsL := []) (st := [(.int (8 : Int32))]) (c_coderU l Z a0 hw a h0 hCpt C) (lenOf pd_0 rfl) (H d9_6) (pc' := 9) rfl rfl rfl rfl (by decide) (W := 1) (Nat.le_of_eq rfl) (by decide) (by decide) (by decide) ?_
  intro T2 X2 e2
  refine gIshr 10 X2 hx (H d9_9) rfl ?_
  show Goes p e below _ T2 (mkF m 10 #[.val (.ref a)] [(.int (4 : Int32))])
  exact gRetI X2 hx hlk hret (H d9_10) (by decide) (by decide) (⟨rfl, e2, rfl⟩)
theorem c_ix2U_4 (l : Launch) (Z : State) (a0 : Array Value) (hw : ∀ d ∈ tables_1, d.before a0 Z = true) (a t : Addr) (ck : ClassId) (ch0 ch1 ch2 ch3 : Int32) (h0 : Heap) (hCpt : Cpt Z h0) (E : sE Z h0 a) (C : uC Z h0 a) (V : sV Z h0 a t) (hU : U16 Z h0) (hSio : Sio Z h0) (A : sA Z h0 t ck 8 [(.int (lo8 ch0)), (.int (hi8 ch0)), (.int (lo8 ch1)), (.int (hi8 ch1)), (.int (lo8 ch2)), (.int (hi8 ch2)), (.int (lo8 ch3)), (.int (hi8 ch3))]) (hch0 : r6 ch0) (hch1 : r6 ch1) (hch2 : r6 ch2) (hch3 : r6 ch3) :
    Ctr l Z mn12 jdk_42_method_80_code 3 (some .int) [] ⟨5, 0, 0, 90⟩ #[(.ref a), (.int (65533 : Int32)), (.int (0 : Int32))] h0 (Just h0 (.int (ix4 ch0 ch1 ch2 ch3))) := by
  refine Ctr.of (plainFor_of_name pn_4) ?_
  intro p e s m below meth c s₁ hx H hml hret hown hnm hZ hlk X0 e0
  refine Goes.cast (show entryFrame m _ _ = mkF m 0 #[.val (.ref a), .val (.int (65533 : Int32)), .val (.int (0 : Int32))] [] from rfl) ?_
  refine gLoadAN 1 X0 hx (H d11_0) rfl rfl rfl ?_
  refine gCallVJ X0 hx hZ (y := mn13) hown e0 (by rw [hml]; rfl) E (ow hw 42 rfl) (ow hw 43 rfl) (ow hw 45 rfl) (ow hw 44 rfl) (ow hw 7 rfl) (ow hw 46 rfl) (by decide) (argsL := []) (st := []) (c_isLatin1U l Z a0 hw a h0 hCpt C) (lenOf pd_3 rfl) (H d11_1) (pc' := 4) rfl rfl rfl rfl (by decide) (W := 0) (Nat.le_of_eq rfl) (by decide) (by decide) (by decide) ?_
  intro T1 X1 e1
  refine gIfEqT X1 hx (H d11_4) (pc' := 23) (by decide) (by decide) (pn := 7) rfl (fun (c4 : (0 : Int) = (0 : Int)) => ?_) (fun (c4 : ¬ (0 : Int) = (0 : Int)) => ?_)
  · refine gLoadAN 24 X1 hx (H d11_23) rfl rfl rfl ?_
    refine gGetF X1 hx hZ hown (ow hw 25 rfl) Via.refl e1 V (H d11_24) (pc' := 27) rfl (fun T2 X2 e2 => ?_)
    refine gLoadIN 28 X2 hx (H d11_27) rfl rfl ?_
    refine gLoadIN 29 X2 hx (H d11_28) rfl rfl ?_
    refine gLoadAN 30 X2 hx (H d11_29) rfl rfl rfl ?_
    refine gCallVJ X2 hx hZ (y := mn14) hown e2 (by rw [hml]; rfl) E (ow hw 48 rfl) (ow hw 49 rfl) (ow hw 51 rfl) (ow hw 50 rfl) (ow hw 7 rfl) (ow hw 52 rfl) (by decide) (argsL := []) (st := [(.int (0 : Int32)), (.int (65533 : Int32)), (.ref t)]) (c_lnU_4 l Z a0 hw a t ck ch0 ch1 ch2 ch3 h0 hCpt E C V A) (lenOf pd_1 rfl) (H d11_30) (pc' := 33) rfl rfl rfl rfl (by decide) (W := 3) (Nat.le_of_eq rfl) (by decide) (by decide) (by decide) ?_
    intro T3 X3 e3
    refine gCallSJ X3 hx hZ (y := mn22) hown e3 (by rw [hml]; rfl) (ow hw 98 rfl) (ow hw 99 rfl) (ow hw 67 rfl) (ow hw 100 rfl) (by decide) (argsL := [(.ref t), (.int (65533 : Int32)), (.int (0 : Int32)), (.int (4 : Int32))]) (st := []) (c_ixU_4 l Z a0 hw t ck ch0 ch1 ch2 ch3 h0 hU hSio A hch0 hch1 hch2 hch3) (lenOf pd_18 rfl) (H d11_33) (pc' := 36) rfl rfl rfl rfl (by decide) (W := 0) (Nat.le_of_eq rfl) (by decide) (by decide) (by decide) ?_
    intro T4 X4 e4
    exact gRetI X4 hx hlk hret (H d11_36) (by decide) (by decide) (⟨rfl, e4, rfl⟩)
  · exact absurd c4 (by decide)
theorem c_ix1U_4 (l : Launch) (Z : State) (a0 : Array Value) (hw : ∀ d ∈ tables_1, d.before a0 Z = true) (a t : Addr) (ck : ClassId) (ch0 ch1 ch2 ch3 : Int32) (h0 : Heap) (hCpt : Cpt Z h0) (E : sE Z h0 a) (C : uC Z h0 a) (V : sV Z h0 a t) (hU : U16 Z h0) (hSio : Sio Z h0) (A : sA Z h0 t ck 8 [(.int (lo8 ch0)), (.int (hi8 ch0)), (.int (lo8 ch1)), (.int (hi8 ch1)), (.int (lo8 ch2)), (.int (hi8 ch2)), (.int (lo8 ch3)), (.int (hi8 ch3))]) (hch0 : r6 ch0) (hch1 : r6 ch1) (hch2 : r6 ch2) (hch3 : r6 ch3) :
    Ctr l Z mn11 jdk_42_method_79_code 2 (some .int) [] ⟨6, 0, 0, 105⟩ #[(.ref a), (.int (65533 : Int32))] h0 (Just h0 (.int (ix4 ch0 ch1 ch2 ch3))) := by
  refine Ctr.of (plainFor_of_name pn_4) ?_
  intro p e s m below meth c s₁ hx H hml hret hown hnm hZ hlk X0 e0
  refine Goes.cast (show entryFrame m _ _ = mkF m 0 #[.val (.ref a), .val (.int (65533 : Int32))] [] from rfl) ?_
  refine gLoadAN 1 X0 hx (H d10_0) rfl rfl rfl ?_
  refine gLoadIN 2 X0 hx (H d10_1) rfl rfl ?_
  refine gIconst 3 X0 hx (v := (0 : Int32)) (H d10_2) rfl rfl ?_
  refine gCallVJ X0 hx hZ (y := mn12) hown e0 (by rw [hml]; rfl) E (ow hw 37 rfl) (ow hw 38 rfl) (ow hw 40 rfl) (ow hw 39 rfl) (ow hw 7 rfl) (ow hw 41 rfl) (by decide) (argsL := [(.int (65533 : Int32)), (.int (0 : Int32))]) (st := []) (c_ix2U_4 l Z a0 hw a t ck ch0 ch1 ch2 ch3 h0 hCpt E C V hU hSio A hch0 hch1 hch2 hch3) (lenOf pd_9 rfl) (H d10_3) (pc' := 6) rfl rfl rfl rfl (by decide) (W := 0) (Nat.le_of_eq rfl) (by decide) (by decide) (by decide) ?_
  intro T1 X1 e1
  exact gRetI X1 hx hlk hret (H d10_6) (by decide) (by decide) (⟨rfl, e1, rfl⟩)
theorem c_unU_4 (l : Launch) (Z : State) (a0 : Array Value) (hw : ∀ d ∈ tables_1, d.before a0 Z = true) (a t : Addr) (ck : ClassId) (ch0 ch1 ch2 ch3 : Int32) (h0 : Heap) (hCpt : Cpt Z h0) (E : sE Z h0 a) (C : uC Z h0 a) (V : sV Z h0 a t) (hU : U16 Z h0) (hSio : Sio Z h0) (A : sA Z h0 t ck 8 [(.int (lo8 ch0)), (.int (hi8 ch0)), (.int (lo8 ch1)), (.int (hi8 ch1)), (.int (lo8 ch2)), (.int (hi8 ch2)), (.int (lo8 ch3)), (.int (hi8 ch3))]) (hch0 : r6 ch0) (hch1 : r6 ch1) (hch2 : r6 ch2) (hch3 : r6 ch3) :
    Ctr l Z mn0 prog_1_method_4_code 1 (some .boolean) [] ⟨7, 0, 0, 120⟩ #[(.ref a)] h0 (Just h0 (.int (b2i (decide (ch0.toInt = 65533 ∨ ch1.toInt = 65533 ∨ ch2.toInt = 65533 ∨ ch3.toInt = 65533))))) := by
  refine Ctr.of (plainFor_of_name pn_0) ?_
  intro p e s m below meth c s₁ hx H hml hret hown hnm hZ hlk X0 e0
  refine Goes.cast (show entryFrame m _ _ = mkF m 0 #[.val (.ref a)] [] from rfl) ?_
  refine gLoadAN 1 X0 hx (H d30_0) rfl rfl rfl ?_
  refine gLdc 3 X0 hx hZ hown (ow hw 31 rfl) (H d30_1) rfl ?_
  refine gCallVJ X0 hx hZ (y := mn11) hown e0 (by rw [hml]; rfl) E (ow hw 32 rfl) (ow hw 33 rfl) (ow hw 35 rfl) (ow hw 34 rfl) (ow hw 7 rfl) (ow hw 36 rfl) (by decide) (argsL := [(.int (65533 : Int32))]) (st := []) (c_ix1U_4 l Z a0 hw a t ck ch0 ch1 ch2 ch3 h0 hCpt E C V hU hSio A hch0 hch1 hch2 hch3) (lenOf pd_6 rfl) (H d30_3) (pc' := 6) rfl rfl rfl rfl (by decide) (W := 0) (Nat.le_of_eq rfl) (by decide) (by decide) (by decide) ?_
  intro T1 X1 e1
  refine gIfLt X1 hx (H d30_6) (pc' := 13) (by decide) (by decide) (pn := 9) rfl (fun (c6 : (ix4 ch0 ch1 ch2 ch3).toInt < (0 : Int)) => ?_) (fun (c6 : (0 : Int) ≤ (ix4 ch0 ch1 ch2 ch3).toInt) => ?_)
  · refine gIconst 14 X1 hx (v := (0 : Int32)) (H d30_13) rfl rfl ?_
    exact gRetN X1 hx hlk hret (by simp) (H d30_14) (w := (0 : Int32)) rfl (by decide) (by decide) (just_f (ix4_y c6) e1)
  · refine gIconst 10 X1 hx (v := (1 : Int32)) (H d30_9) rfl rfl ?_
    refine gGoto X1 hx (H d30_10) (pc' := 14) (by decide) (by decide) ?_
    exact gRetN X1 hx hlk hret (by simp) (H d30_14) (w := (1 : Int32)) rfl (by decide) (by decide) (just_t (ix4_n c6) e1)
theorem d4_8 : decode jdk_42_method_149_code 8 = .ok (.aload_n 0, 1) := by decide +kernel
theorem d4_9 : decode jdk_42_method_149_code 9 = .ok (.ldc 7, 2) := by decide +kernel
theorem d4_11 : decode jdk_42_method_149_code 11 = .ok (.getfield 9, 3) := by decide +kernel
theorem d4_14 : decode jdk_42_method_149_code 14 = .ok (.putfield 9, 3) := by decide +kernel
theorem d4_17 : decode jdk_42_method_149_code 17 = .ok (.aload_n 0, 1) := by decide +kernel
theorem d4_18 : decode jdk_42_method_149_code 18 = .ok (.ldc 7, 2) := by decide +kernel
theorem d4_20 : decode jdk_42_method_149_code 20 = .ok (.getfield 15, 3) := by decide +kernel
theorem d4_23 : decode jdk_42_method_149_code 23 = .ok (.putfield 15, 3) := by decide +kernel
theorem d4_26 : decode jdk_42_method_149_code 26 = .ok (.return_, 1) := by decide +kernel
theorem c_sinit_0v (l : Launch) (Z : State) (a0 : Array Value) (hw : ∀ d ∈ tables_1, d.before a0 Z = true) (a x : Addr) (cx : ClassId) (n0 : Nat) (h0 : Heap) (hEL : EW Z a0 [("java/lang/String", 7)]) (ga : n0 ≤ a) (E : sE Z h0 a) (C : sC Z h0 a) (V : Fld Z h0 a "java/lang/String" "value" "[B" .null) (A : Arv Z h0 x cx .char 0 [] (.int 0)) :
    CtrH l Z [("java/lang/String", 7)] [a] mn8 jdk_42_method_149_code 6 none [] ⟨2, 4, 8, 37⟩ #[(.ref a), (.ref x), (.int (0 : Int32)), (.int (0 : Int32)), .null] h0 (fun v h L => ∃ (t : Addr) (ct : ClassId), v = none ∧ Fr n0 L ∧ Keep h0 h [a] ∧ sE Z h a ∧ sC Z h a ∧ sV Z h a t ∧ sA Z h t ct 0 []) := by
  refine CtrH.of (plainFor_of_name pn_4) ?_
  intro p e s m below meth c s₁ hx H hml hret hown hnm hZ hlk X0 e0 hS H0 hSafe
  have wS : ∀ a ∈ Bundle.stringAtoms, a.before a0 Z = true := by
    intro d hd
    simp only [Bundle.stringAtoms, Bundle.sN, List.mem_cons, List.not_mem_nil, or_false] at hd
    rcases hd with rfl | rfl | rfl | rfl | rfl | rfl | rfl
    · exact (ow hw 7 rfl)
    · exact (ow hw 6 rfl)
    · exact (ow hw 20 rfl)
    · exact (ow hw 21 rfl)
    · exact (ow hw 22 rfl)
    · exact (ow hw 23 rfl)
    · exact (ow hw 24 rfl)
  refine Goes.cast (show entryFrame m _ _ = mkF m 0 #[.val (.ref a), .val (.ref x), .val (.int (0 : Int32)), .val (.int (0 : Int32)), .val .null, .unset] [] from rfl) ?_
  refine gLoadAN 1 X0 hx (H d4_0) rfl rfl rfl ?_
  refine gInitO X0 hx hZ hown (ow hw 16 rfl) (ow hw 17 rfl) (ow hw 18 rfl) e0 (by rw [hml]; rfl) (H d4_1) (pc' := 4) rfl (by decide) (W := 0) (Nat.le_of_eq rfl) (by decide) (fun T1 X1 e1 => ?_)
  refine gLoadIN 5 X1 hx (H d4_4) rfl rfl ?_
  refine gIfNeT X1 hx (H d4_5) (pc' := 27) (by decide) (by decide) (pn := 8) rfl (fun (c5 : ¬ (0 : Int) = (0 : Int)) => ?_) (fun (c5 : (0 : Int) = (0 : Int)) => ?_)
  · exact absurd c5 (by decide)
  · refine gLoadAN 9 X1 hx (H d4_8) rfl rfl rfl ?_
    refine gLdcC X1 hx hZ hown (ow hw 19 rfl) wS e1 hS (Nat.zero_le _) hEL (by simp) H0 (vs := []) (z := 0) ⟨by decide, by decide⟩ (by decide) (by decide) (H d4_9) (pc' := 11) rfl (n := 0) (by decide) (by decide) (by decide) (by decide) (fun a2 T2 h2 k2 b2 ck2 X2 e2 E2 hS hk2 hZ hown C2 H2 Ex2 Fc2 Fv2 A2 sf2 => ?_)
    have s2_0 := C2.safe E.lt (hSafe _ (by simp))
    have f2_0 := E.ext E2
    have f2_1 := C.ext E2
    have f2_2 := V.ext E2
    have zs2 : h0.size ≤ h2.size := Nat.le_trans (Nat.le_refl _) E2.1
    have K2 : Keep h0 h2 [a] := (Keep.refl h0 [a]).ext E2
    refine gGetF X2 hx hZ hown (ow hw 25 rfl) Via.refl e2 Fv2 (H d4_11) (pc' := 14) rfl (fun T3 X3 e3 => ?_)
    refine gPutF X3 hx hZ hown (ow hw 25 rfl) Via.refl e3 f2_2 f2_0 (Or.inr ⟨(ow hw 21 rfl), rfl, hnm⟩) (ow hw 6 rfl) (ty := (.array .byte)) (by decide) rfl rfl (H d4_14) (pc' := 17) rfl (fun T4 h4 X4 e4 W4 => ?_)
    have S4 := s2_0
    have H4 := H2.trans (CHr.wr W4 S4 H2.1)
    have hk4 := Nat.le_trans hk2 (Nat.le_of_eq W4.size.symm)
    have s4_0 := Safe.wr W4 S4 H2.1 s2_0
    have f4_0 := f2_0.wr W4
    have f4_1 := f2_1.other W4 (Or.inr (slot_ne (Or.inr (ow hw 22 rfl)) (Or.inr (ow hw 21 rfl)) (by decide) (t := .byte) (t' := (.array .byte)) (by decide) (by decide)))
    have f4_2 := f2_2.same W4
    have f4_3 := Ex2.wr W4
    have f4_4 := Fc2.other W4 (Or.inl (Ne.symm (sf2 _ s2_0).1))
    have f4_5 := Fv2.other W4 (Or.inl (Ne.symm (sf2 _ s2_0).1))
    have f4_6 := A2.other W4 (Ne.symm (sf2 _ s2_0).2)
    have zs4 : h0.size ≤ h4.size := by rw [W4.size]; exact zs2
    have N4 := Fr.snoc X4 (Fr.nil n0) ga
    have K4 : Keep h0 h4 [a] := K2.wr W4 (Or.inl (by simp))
    refine gLoadAN 18 X4 hx (H d4_17) rfl rfl rfl ?_
    refine gLdcC X4 hx hZ hown (ow hw 19 rfl) wS e4 hS hk4 hEL (by simp) H4 (vs := []) (z := 0) ⟨by decide, by decide⟩ (by decide) (by decide) (H d4_18) (pc' := 20) rfl (n := 0) (by decide) (by decide) (by decide) (by decide) (fun a5 T5 h5 k5 b5 ck5 X5 e5 E5 hS hk5 hZ hown C5 H5 Ex5 Fc5 Fv5 A5 sf5 => ?_)
    have s5_0 := C5.safe f4_0.lt s4_0
    have f5_0 := f4_0.ext E5
    have f5_1 := f4_1.ext E5
    have f5_2 := f4_2.ext E5
    have f5_3 := f4_3.ext E5
    have f5_4 := f4_4.ext E5
    have f5_5 := f4_5.ext E5
    have f5_6 := f4_6.ext E5
    have zs5 : h0.size ≤ h5.size := Nat.le_trans zs4 E5.1
    have K5 : Keep h0 h5 [a] := K4.ext E5
    refine gGetF X5 hx hZ hown (ow hw 26 rfl) Via.refl e5 Fc5 (H d4_20) (pc' := 23) rfl (fun T6 X6 e6 => ?_)
    refine gPutF X6 hx hZ hown (ow hw 26 rfl) Via.refl e6 f5_1 f5_0 (Or.inr ⟨(ow hw 22 rfl), rfl, hnm⟩) (ow hw 6 rfl) (ty := .byte) (by decide) rfl rfl (H d4_23) (pc' := 26) rfl (fun T7 h7 X7 e7 W7 => ?_)
    have S7 := s5_0
    have H7 := H5.trans (CHr.wr W7 S7 H5.1)
    have hk7 := Nat.le_trans hk5 (Nat.le_of_eq W7.size.symm)
    have s7_0 := Safe.wr W7 S7 H5.1 s5_0
    have f7_0 := f5_0.wr W7
    have f7_1 := f5_1.same W7
    have f7_2 := f5_2.other W7 (Or.inr (slot_ne (Or.inr (ow hw 21 rfl)) (Or.inr (ow hw 22 rfl)) (by decide) (t := (.array .byte)) (t' := .byte) (by decide) (by decide)))
    have f7_3 := f5_3.wr W7
    have f7_4 := f5_4.other W7 (Or.inl (Ne.symm (sf2 _ s2_0).1))
    have f7_5 := f5_5.other W7 (Or.inl (Ne.symm (sf2 _ s2_0).1))
    have f7_6 := f5_6.other W7 (Ne.symm (sf2 _ s2_0).2)
    have f7_7 := Ex5.wr W7
    have f7_8 := Fc5.other W7 (Or.inl (Ne.symm (sf5 _ s5_0).1))
    have f7_9 := Fv5.other W7 (Or.inl (Ne.symm (sf5 _ s5_0).1))
    have f7_10 := A5.other W7 (Ne.symm (sf5 _ s5_0).2)
    have zs7 : h0.size ≤ h7.size := by rw [W7.size]; exact zs5
    have N7 := Fr.snoc X7 N4 ga
    have K7 : Keep h0 h7 [a] := K5.wr W7 (Or.inl (by simp))
    exact gRetHV X7 hx hlk hret (H d4_26) e7 hS hk7 hZ hEL H7 (by decide) (by decide) (⟨b2, _, rfl, N7, by rw [e7]; exact K7, by rw [e7]; exact f7_0, by rw [e7]; exact f7_1, by rw [e7]; exact f7_2, by rw [e7]; exact f7_6⟩)
theorem c_sinit_0 (l : Launch) (Z : State) (a0 : Array Value) (hw : ∀ d ∈ tables_1, d.before a0 Z = true) (a x : Addr) (cx : ClassId) (n0 : Nat) (h0 : Heap) (hEL : EW Z a0 [("java/lang/String", 7)]) (ga : n0 ≤ a) (E : sE Z h0 a) (C : sC Z h0 a) (V : Fld Z h0 a "java/lang/String" "value" "[B" .null) (A : Arv Z h0 x cx .char 0 [] (.int 0)) :
    CtrH l Z [("java/lang/String", 7)] [a] mn7 jdk_42_method_3_code 2 none [] ⟨3, 4, 8, 54⟩ #[(.ref a), (.ref x)] h0 (fun v h L => ∃ (t : Addr) (ct : ClassId), v = none ∧ Fr n0 L ∧ Keep h0 h [a] ∧ sE Z h a ∧ sC Z h a ∧ sV Z h a t ∧ sA Z h t ct 0 []) := by
  refine CtrH.of (plainFor_of_name pn_4) ?_
  intro p e s m below meth c s₁ hx H hml hret hown hnm hZ hlk X0 e0 hS H0 hSafe
  refine Goes.cast (show entryFrame m _ _ = mkF m 0 #[.val (.ref a), .val (.ref x)] [] from rfl) ?_
  refine gLoadAN 1 X0 hx (H d8_0) rfl rfl rfl ?_
  refine gLoadAN 2 X0 hx (H d8_1) rfl rfl rfl ?_
  refine gIconst 3 X0 hx (v := (0 : Int32)) (H d8_2) rfl rfl ?_
  refine gLoadAN 4 X0 hx (H d8_3) rfl rfl rfl ?_
  refine gArrLen X0 hx hZ e0 A (H d8_4) (pc' := 5) rfl ?_
  refine gNull 6 X0 hx (H d8_5) rfl ?_
  refine gCallIH X0 hx hZ (y := mn8) rfl hown e0 (by rw [hml]; rfl) hS (Nat.zero_le _) hEL H0 (ow hw 12 rfl) (ow hw 13 rfl) (ow hw 7 rfl) (ow hw 15 rfl) (by decide) (sl1 E.lt (hSafe _ (by simp))) (argsL := [(.ref x), (.int (0 : Int32)), (.int (0 : Int32)), .null]) (st := []) (c_sinit_0v l Z a0 hw a x cx n0 h0 hEL ga E C V A) (lenOf pd_21 rfl) (H d8_6) (pc' := 9) rfl rfl (by decide) (W := 0) (Nat.le_of_eq rfl) (by decide) (by decide) (by decide) ?_
  intro T1 v1 L1 X1 hS hZ hown C1 H1 hQ1
  have s1_0 := C1.safe E.lt (hSafe _ (by simp))
  obtain ⟨t, ct, rfl, Nq, Kq, Eq, Cq, Vq, Aq⟩ := hQ1
  exact gRetHV X1 hx hlk hret (H d8_9) rfl hS (Nat.le_refl _) hZ hEL H1 (by decide) (by decide) (⟨t, ct, rfl, Nq, Kq, Eq, Cq, Vq, Aq⟩)
theorem d17_44 : decode jdk_52_method_21_code 44 = .ok (.iload 4, 2) := by decide +kernel
theorem d17_46 : decode jdk_52_method_21_code 46 = .ok (.ireturn, 1) := by decide +kernel
theorem c_compress_1i (l : Launch) (Z : State) (a0 : Array Value) (hw : ∀ d ∈ tables_1, d.before a0 Z = true) (x t : Addr) (cx ct : ClassId) (n0 : Nat) (ch0 : Int32) (h0 : Heap) (gt : n0 ≤ t) (hne : x ≠ t) (A : Arv Z h0 x cx .char 1 [.int ch0] (.int 0)) (B : Arv Z h0 t ct .byte 1 [.int 0] (.int 0)) (hch0 : rg ch0) :
    Ctr l Z mn20 jdk_52_method_21_code 7 (some .int) [] ⟨0, 0, 0, 0⟩ #[(.ref x), (.int (0 : Int32)), (.ref t), (.int (0 : Int32)), (.int (1 : Int32))] h0 (fun v h L => v = some (.int 1) ∧ Fr n0 L ∧ Keep h0 h [t] ∧ sA Z h t ct 1 [by8 ch0]) := by
  refine Ctr.of (plainFor_of_name pn_6) ?_
  intro p e s m below meth c s₁ hx H hml hret hown hnm hZ hlk X0 e0
  refine Goes.cast (show entryFrame m _ _ = mkF m 0 #[.val (.ref x), .val (.int (0 : Int32)), .val (.ref t), .val (.int (0 : Int32)), .val (.int (1 : Int32)), .unset, .unset] [] from rfl) ?_
  refine gIconst 1 X0 hx (v := (0 : Int32)) (H d17_0) rfl rfl ?_
  refine gStoreI 3 X0 hx (H d17_1) (l' := #[.val (.ref x), .val (.int (0 : Int32)), .val (.ref t), .val (.int (0 : Int32)), .val (.int (1 : Int32)), .val (.int (0 : Int32)), .unset]) rfl rfl ?_
  refine gLoadI 5 X0 hx (H d17_3) rfl rfl ?_
  refine gLoadI 7 X0 hx (H d17_5) rfl rfl ?_
  refine gIcmpGe X0 hx (H d17_7) (pc' := 44) (by decide) (by decide) (pn := 10) rfl (fun (c7 : (1 : Int) ≤ (0 : Int)) => ?_) (fun (c7 : (0 : Int) < (1 : Int)) => ?_)
  · exact absurd c7 (by decide)
  · refine gLoadAN 11 X0 hx (H d17_10) rfl rfl rfl ?_
    refine gLoadIN 12 X0 hx (H d17_11) rfl rfl ?_
    refine gCaload X0 hx hZ e0 A (j := (0 : Int32)) (v := (.int ch0)) (by decide) (by decide) rfl (H d17_12) (pc' := 13) rfl ?_
    refine gStoreI 15 X0 hx (H d17_13) (l' := #[.val (.ref x), .val (.int (0 : Int32)), .val (.ref t), .val (.int (0 : Int32)), .val (.int (1 : Int32)), .val (.int (0 : Int32)), .val (.int ch0)]) rfl rfl ?_
    refine gLoadI 17 X0 hx (H d17_15) rfl rfl ?_
    refine gSipush 20 X0 hx (v := (255 : Int32)) (H d17_17) rfl rfl ?_
    refine gIcmpLe X0 hx (H d17_20) (pc' := 26) (by decide) (by decide) (pn := 23) rfl (fun (c20 : ch0.toInt ≤ (255 : Int)) => ?_) (fun (c20 : (255 : Int) < ch0.toInt) => ?_)
    · refine gLoadAN 27 X0 hx (H d17_26) rfl rfl rfl ?_
      refine gLoadIN 28 X0 hx (H d17_27) rfl rfl ?_
      refine gLoadI 30 X0 hx (H d17_28) rfl rfl ?_
      refine gI2b 31 X0 hx (H d17_30) rfl ?_
      refine gBastore X0 hx hZ e0 (x := (ch0.toInt8.toInt32)) B (j := (0 : Int32)) (by decide) (by decide) 0 (by decide) (by simp) (H d17_31) (pc' := 32) rfl (fun T1 h1 X1 e1 W1 A1 => ?_)
      have f1_0 := A.other W1 hne
      have zs1 : h0.size ≤ h1.size := by rw [W1.size]; exact (Nat.le_refl _)
      have N1 := Fr.snoc X1 (Fr.nil n0) gt
      have K1 : Keep h0 h1 [t] := (Keep.refl h0 [t]).wr W1 (Or.inl (by simp))
      have V1 : Arv Z h1 t _ .byte (1 : Int32) [(.int (ch0.toInt8.toInt32))] (.int 0) := (by have q := A1; rw [own_nb] at q; exact q)
      refine gIinc X1 hx (v := (1 : Int32)) (H d17_32) (l' := #[.val (.ref x), .val (.int (1 : Int32)), .val (.ref t), .val (.int (0 : Int32)), .val (.int (1 : Int32)), .val (.int (0 : Int32)), .val (.int ch0)]) (pc' := 35) rfl rfl rfl rfl ?_
      refine gIinc X1 hx (v := (1 : Int32)) (H d17_35) (l' := #[.val (.ref x), .val (.int (1 : Int32)), .val (.ref t), .val (.int (1 : Int32)), .val (.int (1 : Int32)), .val (.int (0 : Int32)), .val (.int ch0)]) (pc' := 38) rfl rfl rfl rfl ?_
      refine gIinc X1 hx (v := (1 : Int32)) (H d17_38) (l' := #[.val (.ref x), .val (.int (1 : Int32)), .val (.ref t), .val (.int (1 : Int32)), .val (.int (1 : Int32)), .val (.int (1 : Int32)), .val (.int ch0)]) (pc' := 41) rfl rfl rfl rfl ?_
      refine gGoto X1 hx (H d17_41) (pc' := 3) (by decide) (by decide) ?_
      refine gLoadI 5 X1 hx (H d17_3) rfl rfl ?_
      refine gLoadI 7 X1 hx (H d17_5) rfl rfl ?_
      refine gIcmpGe X1 hx (H d17_7) (pc' := 44) (by decide) (by decide) (pn := 10) rfl (fun (c7' : (1 : Int) ≤ (1 : Int)) => ?_) (fun (c7' : (1 : Int) < (1 : Int)) => ?_)
      · refine gLoadI 46 X1 hx (H d17_44) rfl rfl ?_
        exact gRetI X1 hx hlk hret (H d17_46) (by decide) (by decide) (⟨rfl, N1, by rw [e1]; exact K1, by rw [e1]; exact V1⟩)
      · exact absurd c7' (by decide)
    · exact absurd c20 (by omega)
theorem d16_57 : decode jdk_52_method_16_code 57 = .ok (.aload_n 3, 1) := by decide +kernel
theorem d16_58 : decode jdk_52_method_16_code 58 = .ok (.areturn, 1) := by decide +kernel
theorem c_compress_1 (l : Launch) (Z : State) (a0 : Array Value) (hw : ∀ d ∈ tables_1, d.before a0 Z = true) (x : Addr) (cx : ClassId) (ch0 : Int32) (h0 : Heap) (A : Arv Z h0 x cx .char 1 [.int ch0] (.int 0)) (hch0 : rg ch0) :
    Ctr l Z mn19 jdk_52_method_16_code 6 (some (.array .byte)) [] ⟨1, 1, 1, 18⟩ #[(.ref x), (.int (0 : Int32)), (.int (1 : Int32))] h0 (fun v h L => ∃ (t : Addr) (ct : ClassId), v = some (.ref t) ∧ h0.size ≤ t ∧ Fr h0.size L ∧ Keep h0 h [] ∧ sA Z h t ct 1 [by8 ch0]) := by
  refine Ctr.of (plainFor_of_name pn_6) ?_
  intro p e s m below meth c s₁ hx H hml hret hown hnm hZ hlk X0 e0
  refine Goes.cast (show entryFrame m _ _ = mkF m 0 #[.val (.ref x), .val (.int (0 : Int32)), .val (.int (1 : Int32)), .unset, .unset, .unset] [] from rfl) ?_
  refine gLoadIN 1 X0 hx (H d16_0) rfl rfl ?_
  refine gNewP X0 hx hZ (ow hw 20 rfl) e0 (n := (1 : Int32)) (H d16_1) (by decide) (cap := 1) (by decide) (by decide) (by decide) (by decide) 1 (pc' := 3) rfl (fun T1 h1 b1 ck1 X1 e1 g1 E1 A1 => ?_)
  have ne_x_b1 : x ≠ b1 := Nat.ne_of_lt (Nat.lt_of_lt_of_eq A.lt g1.symm)
  have f1_0 := A.ext E1
  have sz_b1 : h0.size ≤ b1 := Nat.le_trans (Nat.le_refl _) (Nat.le_of_eq g1.symm)
  have zs1 : h0.size ≤ h1.size := Nat.le_trans (Nat.le_refl _) E1.1
  have K1 : Keep h0 h1 [] := (Keep.refl h0 []).ext E1
  have V1 : Arv Z h1 b1 ck1 .byte (1 : Int32) [(.int (0 : Int32))] (.int (0 : Int32)) := A1
  refine gStoreAN 4 X1 hx (H d16_3) (l' := #[.val (.ref x), .val (.int (0 : Int32)), .val (.int (1 : Int32)), .val (.ref b1), .unset, .unset]) rfl rfl rfl ?_
  refine gLoadAN 5 X1 hx (H d16_4) rfl rfl rfl ?_
  refine gLoadIN 6 X1 hx (H d16_5) rfl rfl ?_
  refine gLoadAN 7 X1 hx (H d16_6) rfl rfl rfl ?_
  refine gIconst 8 X1 hx (v := (0 : Int32)) (H d16_7) rfl rfl ?_
  refine gLoadIN 9 X1 hx (H d16_8) rfl rfl ?_
  refine gCallS X1 hx hZ (y := mn20) hown e1 (by rw [hml]; rfl) (ow hw 69 rfl) (ow hw 70 rfl) (ow hw 67 rfl) (ow hw 71 rfl) (by decide) (argsL := [(.ref x), (.int (0 : Int32)), (.ref b1), (.int (0 : Int32)), (.int (1 : Int32))]) (st := []) (c_compress_1i l Z a0 hw x b1 cx ck1 h0.size ch0 h1 sz_b1 ne_x_b1 f1_0 V1 hch0) (lenOf pd_22 rfl) (H d16_9) (pc' := 12) rfl rfl (by decide) (W := 0) (Nat.le_of_eq rfl) (by decide) (by decide) (by decide) ?_
  intro T2 v2 L2 X2 hQ2
  obtain ⟨rfl, Nq2, Kq2, Aq2⟩ := hQ2
  have N2 := Fr.app (Fr.nil h0.size) Nq2
  have K2 : Keep h0 T2.heap [] := K1.trans Kq2 (allS (Or.inr sz_b1) all0)
  refine gStoreI 14 X2 hx (H d16_12) (l' := #[.val (.ref x), .val (.int (0 : Int32)), .val (.int (1 : Int32)), .val (.ref b1), .val (.int (1 : Int32)), .unset]) rfl rfl ?_
  refine gLoadI 16 X2 hx (H d16_14) rfl rfl ?_
  refine gLoadIN 17 X2 hx (H d16_16) rfl rfl ?_
  refine gIcmpEqT X2 hx (H d16_17) (pc' := 57) (by decide) (by decide) (pn := 20) rfl (fun (c17 : (1 : Int) = (1 : Int)) => ?_) (fun (c17 : ¬ (1 : Int) = (1 : Int)) => ?_)
  · refine gLoadAN 58 X2 hx (H d16_57) rfl rfl rfl ?_
    exact gRetA X2 hx hlk hret rfl rfl (H d16_58) (by decide) (by decide) (⟨b1, _, rfl, sz_b1, N2, K2, Aq2⟩)
  · exact absurd c17 (by decide)
theorem c_cfal_1 (l : Launch) (Z : State) (a0 : Array Value) (hw : ∀ d ∈ tables_1, d.before a0 Z = true) (t : Addr) (ck : ClassId) (ch0 : Int32) (h0 : Heap) (A : sA Z h0 t ck 1 [by8 ch0]) :
    Ctr l Z mn18 jdk_52_method_15_code 2 (some .byte) [] ⟨0, 0, 0, 0⟩ #[(.ref t), (.int (1 : Int32))] h0 (Just h0 (.int 0)) := by
  refine Ctr.of (plainFor_of_name pn_6) ?_
  intro p e s m below meth c s₁ hx H hml hret hown hnm hZ hlk X0 e0
  refine Goes.cast (show entryFrame m _ _ = mkF m 0 #[.val (.ref t), .val (.int (1 : Int32))] [] from rfl) ?_
  refine gLoadIN 1 X0 hx (H d15_0) rfl rfl ?_
  refine gLoadAN 2 X0 hx (H d15_1) rfl rfl rfl ?_
  refine gArrLen X0 hx hZ e0 A (H d15_2) (pc' := 3) rfl ?_
  refine gIsub 4 X0 hx (H d15_3) rfl ?_
  show Goes p e below _ s₁ (mkF m 4 #[.val (.ref t), .val (.int (1 : Int32))] [(.int (0 : Int32))])
  refine gBipush 6 X0 hx (v := (31 : Int32)) (H d15_4) rfl rfl ?_
  refine gIushr 7 X0 hx (H d15_6) rfl ?_
  show Goes p e below _ s₁ (mkF m 7 #[.val (.ref t), .val (.int (1 : Int32))] [(.int (0 : Int32))])
  refine gI2b 8 X0 hx (H d15_7) rfl ?_
  show Goes p e below _ s₁ (mkF m 8 #[.val (.ref t), .val (.int (1 : Int32))] [(.int (0 : Int32))])
  exact gRetN X0 hx hlk hret (by simp) (H d15_8) (w := (0 : Int32)) rfl (by decide) (by decide) (⟨rfl, e0, rfl⟩)
theorem c_sinit_1v (l : Launch) (Z : State) (a0 : Array Value) (hw : ∀ d ∈ tables_1, d.before a0 Z = true) (a x : Addr) (cx : ClassId) (n0 : Nat) (ch0 : Int32) (h0 : Heap) (hCpt : Cpt Z h0) (ga : n0 ≤ a) (gz : n0 ≤ h0.size) (hax : x ≠ a) (E : sE Z h0 a) (C : sC Z h0 a) (V : Fld Z h0 a "java/lang/String" "value" "[B" .null) (A : Arv Z h0 x cx .char 1 [.int ch0] (.int 0)) (hch0 : rg ch0) :
    Ctr l Z mn8 jdk_42_method_149_code 6 none [] ⟨2, 1, 1, 37⟩ #[(.ref a), (.ref x), (.int (0 : Int32)), (.int (1 : Int32)), .null] h0 (fun v h L => ∃ (t : Addr) (ct : ClassId), v = none ∧ Fr n0 L ∧ Keep h0 h [a] ∧ h0.size ≤ t ∧ sE Z h a ∧ sC Z h a ∧ sV Z h a t ∧ sA Z h t ct 1 [by8 ch0]) := by
  refine Ctr.of (plainFor_of_name pn_4) ?_
  intro p e s m below meth c s₁ hx H hml hret hown hnm hZ hlk X0 e0
  refine Goes.cast (show entryFrame m _ _ = mkF m 0 #[.val (.ref a), .val (.ref x), .val (.int (0 : Int32)), .val (.int (1 : Int32)), .val .null, .unset] [] from rfl) ?_
  have hCpt0 := hCpt
  obtain ⟨cz, SC, hcz⟩ := hCpt0
  refine gLoadAN 1 X0 hx (H d4_0) rfl rfl rfl ?_
  refine gInitO X0 hx hZ hown (ow hw 16 rfl) (ow hw 17 rfl) (ow hw 18 rfl) e0 (by rw [hml]; rfl) (H d4_1) (pc' := 4) rfl (by decide) (W := 0) (Nat.le_of_eq rfl) (by decide) (fun T1 X1 e1 => ?_)
  refine gLoadIN 5 X1 hx (H d4_4) rfl rfl ?_
  refine gIfNeT X1 hx (H d4_5) (pc' := 27) (by decide) (by decide) (pn := 8) rfl (fun (c5 : ¬ (1 : Int) = (0 : Int)) => ?_) (fun (c5 : (1 : Int) = (0 : Int)) => ?_)
  · refine gGetS X1 hx hZ hown (ow hw 47 rfl) Via.refl e1 SC (H d4_27) (pc' := 30) rfl (fun T2 X2 e2 => ?_)
    refine gIfEqT X2 hx (H d4_30) (pc' := 58) (by decide) (by decide) (pn := 33) rfl (fun (c30 : cz.toInt = (0 : Int)) => ?_) (fun (c30 : ¬ cz.toInt = (0 : Int)) => ?_)
    · exact absurd c30 hcz
    · refine gLoadAN 34 X2 hx (H d4_33) rfl rfl rfl ?_
      refine gLoadIN 35 X2 hx (H d4_34) rfl rfl ?_
      refine gLoadIN 36 X2 hx (H d4_35) rfl rfl ?_
      refine gCallS X2 hx hZ (y := mn19) hown e2 (by rw [hml]; rfl) (ow hw 65 rfl) (ow hw 66 rfl) (ow hw 67 rfl) (ow hw 68 rfl) (by decide) (argsL := [(.ref x), (.int (0 : Int32)), (.int (1 : Int32))]) (st := []) (c_compress_1 l Z a0 hw x cx ch0 h0 A hch0) (lenOf pd_20 rfl) (H d4_36) (pc' := 39) rfl rfl (by decide) (W := 0) (Nat.le_of_eq rfl) (by decide) (by decide) (by decide) ?_
      intro T3 v3 L3 X3 hQ3
      obtain ⟨t3, ct3, rfl, gt3, Nq3, Kq3, Aq3⟩ := hQ3
      have N3 := Fr.app (Fr.nil n0) (fun y hy => Nat.le_trans gz (Nq3 y hy))
      have K3 : Keep h0 T3.heap [a] := (Keep.refl h0 [a]).trans Kq3 all0
      have f3_0 := own_sta_keep SC Kq3 ns0
      have f3_1 := E.keep Kq3
      have f3_2 := C.keep Kq3 nin0
      have f3_3 := V.keep Kq3 nin0
      have nt3 : t3 ≠ a := Ne.symm (Nat.ne_of_lt (Nat.lt_of_lt_of_le E.lt gt3))
      refine gStoreA 41 X3 hx (H d4_39) (l' := #[.val (.ref a), .val (.ref x), .val (.int (0 : Int32)), .val (.int (1 : Int32)), .val .null, .val (.ref t3)]) rfl rfl rfl ?_
      refine gLoadAN 42 X3 hx (H d4_41) rfl rfl rfl ?_
      refine gLoadA 44 X3 hx (H d4_42) rfl rfl rfl ?_
      refine gLoadIN 45 X3 hx (H d4_44) rfl rfl ?_
      refine gCallSJ X3 hx hZ (y := mn18) hown rfl (by rw [hml]; rfl) (ow hw 72 rfl) (ow hw 73 rfl) (ow hw 67 rfl) (ow hw 74 rfl) (by decide) (argsL := [(.ref t3), (.int (1 : Int32))]) (st := [(.ref a)]) (c_cfal_1 l Z a0 hw t3 ct3 ch0 _ Aq3) (lenOf pd_15 rfl) (H d4_45) (pc' := 48) rfl rfl rfl rfl (by decide) (W := 1) (Nat.le_of_eq rfl) (by decide) (by decide) (by decide) ?_
      intro T4 X4 e4
      refine gPutF X4 hx hZ hown (ow hw 26 rfl) Via.refl e4 f3_2 f3_1 (Or.inr ⟨(ow hw 22 rfl), rfl, hnm⟩) (ow hw 6 rfl) (ty := .byte) (by decide) rfl rfl (H d4_48) (pc' := 51) rfl (fun T5 h5 X5 e5 W5 => ?_)
      have f5_0 := f3_0.wr W5
      have f5_1 := f3_1.wr W5
      have f5_2 := f3_2.same W5
      have f5_3 := f3_3.other W5 (Or.inr (slot_ne (Or.inr (ow hw 21 rfl)) (Or.inr (ow hw 22 rfl)) (by decide) (t := (.array .byte)) (t' := .byte) (by decide) (by decide)))
      have f5_4 := Aq3.other W5 nt3
      have zs5 : h0.size ≤ h5.size := by rw [W5.size]; exact Kq3.1
      have N5 := Fr.snoc X5 N3 ga
      have K5 : Keep h0 h5 [a] := K3.wr W5 (Or.inl (by simp))
      refine gLoadAN 52 X5 hx (H d4_51) rfl rfl rfl ?_
      refine gLoadA 54 X5 hx (H d4_52) rfl rfl rfl ?_
      refine gPutF X5 hx hZ hown (ow hw 25 rfl) Via.refl e5 f5_3 f5_1 (Or.inr ⟨(ow hw 21 rfl), rfl, hnm⟩) (ow hw 6 rfl) (ty := (.array .byte)) (by decide) rfl rfl (H d4_54) (pc' := 57) rfl (fun T6 h6 X6 e6 W6 => ?_)
      have f6_0 := f5_0.wr W6
      have f6_1 := f5_1.wr W6
      have f6_2 := f5_2.other W6 (Or.inr (slot_ne (Or.inr (ow hw 22 rfl)) (Or.inr (ow hw 21 rfl)) (by decide) (t := .byte) (t' := (.array .byte)) (by decide) (by decide)))
      have f6_3 := f5_3.same W6
      have f6_4 := f5_4.other W6 nt3
      have zs6 : h0.size ≤ h6.size := by rw [W6.size]; exact zs5
      have N6 := Fr.snoc X6 N5 ga
      have K6 : Keep h0 h6 [a] := K5.wr W6 (Or.inl (by simp))
      exact gRetV X6 hx hlk hret (H d4_57) (by decide) (by decide) (⟨t3, ct3, rfl, N6, by rw [e6]; exact K6, gt3, by rw [e6]; exact f6_1, by rw [e6]; exact f6_2, by rw [e6]; exact f6_3, by rw [e6]; exact f6_4⟩)
  · exact absurd c5 (by decide)
theorem c_sinit_1 (l : Launch) (Z : State) (a0 : Array Value) (hw : ∀ d ∈ tables_1, d.before a0 Z = true) (a x : Addr) (cx : ClassId) (n0 : Nat) (ch0 : Int32) (h0 : Heap) (hCpt : Cpt Z h0) (ga : n0 ≤ a) (gz : n0 ≤ h0.size) (hax : x ≠ a) (E : sE Z h0 a) (C : sC Z h0 a) (V : Fld Z h0 a "java/lang/String" "value" "[B" .null) (A : Arv Z h0 x cx .char 1 [.int ch0] (.int 0)) (hch0 : rg ch0) :
    Ctr l Z mn7 jdk_42_method_3_code 2 none [] ⟨3, 1, 1, 54⟩ #[(.ref a), (.ref x)] h0 (fun v h L => ∃ (t : Addr) (ct : ClassId), v = none ∧ Fr n0 L ∧ Keep h0 h [a] ∧ h0.size ≤ t ∧ sE Z h a ∧ sC Z h a ∧ sV Z h a t ∧ sA Z h t ct 1 [by8 ch0]) := by
  refine Ctr.of (plainFor_of_name pn_4) ?_
  intro p e s m below meth c s₁ hx H hml hret hown hnm hZ hlk X0 e0
  refine Goes.cast (show entryFrame m _ _ = mkF m 0 #[.val (.ref a), .val (.ref x)] [] from rfl) ?_
  refine gLoadAN 1 X0 hx (H d8_0) rfl rfl rfl ?_
  refine gLoadAN 2 X0 hx (H d8_1) rfl rfl rfl ?_
  refine gIconst 3 X0 hx (v := (0 : Int32)) (H d8_2) rfl rfl ?_
  refine gLoadAN 4 X0 hx (H d8_3) rfl rfl rfl ?_
  refine gArrLen X0 hx hZ e0 A (H d8_4) (pc' := 5) rfl ?_
  refine gNull 6 X0 hx (H d8_5) rfl ?_
  refine gCallI X0 hx hZ (y := mn8) rfl hown e0 (by rw [hml]; rfl) (ow hw 12 rfl) (ow hw 13 rfl) (ow hw 7 rfl) (ow hw 15 rfl) (by decide) (argsL := [(.ref x), (.int (0 : Int32)), (.int (1 : Int32)), .null]) (st := []) (c_sinit_1v l Z a0 hw a x cx n0 ch0 h0 hCpt ga gz hax E C V A hch0) (lenOf pd_21 rfl) (H d8_6) (pc' := 9) rfl rfl (by decide) (W := 0) (Nat.le_of_eq rfl) (by decide) (by decide) (by decide) ?_
  intro T1 v1 L1 X1 hQ1
  obtain ⟨t, ct, rfl, Nq, Kq, gt, Eq, Cq, Vq, Aq⟩ := hQ1
  exact gRetV X1 hx hlk hret (H d8_9) (by decide) (by decide) (⟨t, ct, rfl, Nq, Kq, gt, Eq, Cq, Vq, Aq⟩)
theorem c_compress_2i (l : Launch) (Z : State) (a0 : Array Value) (hw : ∀ d ∈ tables_1, d.before a0 Z = true) (x t : Addr) (cx ct : ClassId) (n0 : Nat) (ch0 ch1 : Int32) (h0 : Heap) (gt : n0 ≤ t) (hne : x ≠ t) (A : Arv Z h0 x cx .char 2 [.int ch0, .int ch1] (.int 0)) (B : Arv Z h0 t ct .byte 2 [.int 0, .int 0] (.int 0)) (hch0 : rg ch0) (hch1 : rg ch1) :
    Ctr l Z mn20 jdk_52_method_21_code 7 (some .int) [] ⟨0, 0, 0, 0⟩ #[(.ref x), (.int (0 : Int32)), (.ref t), (.int (0 : Int32)), (.int (2 : Int32))] h0 (fun v h L => v = some (.int 2) ∧ Fr n0 L ∧ Keep h0 h [t] ∧ sA Z h t ct 2 [by8 ch0, by8 ch1]) := by
  refine Ctr.of (plainFor_of_name pn_6) ?_
  intro p e s m below meth c s₁ hx H hml hret hown hnm hZ hlk X0 e0
  refine Goes.cast (show entryFrame m _ _ = mkF m 0 #[.val (.ref x), .val (.int (0 : Int32)), .val (.ref t), .val (.int (0 : Int32)), .val (.int (2 : Int32)), .unset, .unset] [] from rfl) ?_
  refine gIconst 1 X0 hx (v := (0 : Int32)) (H d17_0) rfl rfl ?_
  refine gStoreI 3 X0 hx (H d17_1) (l' := #[.val (.ref x), .val (.int (0 : Int32)), .val (.ref t), .val (.int (0 : Int32)), .val (.int (2 : Int32)), .val (.int (0 : Int32)), .unset]) rfl rfl ?_
  refine gLoadI 5 X0 hx (H d17_3) rfl rfl ?_
  refine gLoadI 7 X0 hx (H d17_5) rfl rfl ?_
  refine gIcmpGe X0 hx (H d17_7) (pc' := 44) (by decide) (by decide) (pn := 10) rfl (fun (c7 : (2 : Int) ≤ (0 : Int)) => ?_) (fun (c7 : (0 : Int) < (2 : Int)) => ?_)
  · exact absurd c7 (by decide)
  · refine gLoadAN 11 X0 hx (H d17_10) rfl rfl rfl ?_
    refine gLoadIN 12 X0 hx (H d17_11) rfl rfl ?_
    refine gCaload X0 hx hZ e0 A (j := (0 : Int32)) (v := (.int ch0)) (by decide) (by decide) rfl (H d17_12) (pc' := 13) rfl ?_
    refine gStoreI 15 X0 hx (H d17_13) (l' := #[.val (.ref x), .val (.int (0 : Int32)), .val (.ref t), .val (.int (0 : Int32)), .val (.int (2 : Int32)), .val (.int (0 : Int32)), .val (.int ch0)]) rfl rfl ?_
    refine gLoadI 17 X0 hx (H d17_15) rfl rfl ?_
    refine gSipush 20 X0 hx (v := (255 : Int32)) (H d17_17) rfl rfl ?_
    refine gIcmpLe X0 hx (H d17_20) (pc' := 26) (by decide) (by decide) (pn := 23) rfl (fun (c20 : ch0.toInt ≤ (255 : Int)) => ?_) (fun (c20 : (255 : Int) < ch0.toInt) => ?_)
    · refine gLoadAN 27 X0 hx (H d17_26) rfl rfl rfl ?_
      refine gLoadIN 28 X0 hx (H d17_27) rfl rfl ?_
      refine gLoadI 30 X0 hx (H d17_28) rfl rfl ?_
      refine gI2b 31 X0 hx (H d17_30) rfl ?_
      refine gBastore X0 hx hZ e0 (x := (ch0.toInt8.toInt32)) B (j := (0 : Int32)) (by decide) (by decide) 0 (by decide) (by simp) (H d17_31) (pc' := 32) rfl (fun T1 h1 X1 e1 W1 A1 => ?_)
      have f1_0 := A.other W1 hne
      have zs1 : h0.size ≤ h1.size := by rw [W1.size]; exact (Nat.le_refl _)
      have N1 := Fr.snoc X1 (Fr.nil n0) gt
      have K1 : Keep h0 h1 [t] := (Keep.refl h0 [t]).wr W1 (Or.inl (by simp))
      have V1 : Arv Z h1 t _ .byte (2 : Int32) [(.int (ch0.toInt8.toInt32)), (.int (0 : Int32))] (.int 0) := (by have q := A1; rw [own_nb] at q; exact q)
      refine gIinc X1 hx (v := (1 : Int32)) (H d17_32) (l' := #[.val (.ref x), .val (.int (1 : Int32)), .val (.ref t), .val (.int (0 : Int32)), .val (.int (2 : Int32)), .val (.int (0 : Int32)), .val (.int ch0)]) (pc' := 35) rfl rfl rfl rfl ?_
      refine gIinc X1 hx (v := (1 : Int32)) (H d17_35) (l' := #[.val (.ref x), .val (.int (1 : Int32)), .val (.ref t), .val (.int (1 : Int32)), .val (.int (2 : Int32)), .val (.int (0 : Int32)), .val (.int ch0)]) (pc' := 38) rfl rfl rfl rfl ?_
      refine gIinc X1 hx (v := (1 : Int32)) (H d17_38) (l' := #[.val (.ref x), .val (.int (1 : Int32)), .val (.ref t), .val (.int (1 : Int32)), .val (.int (2 : Int32)), .val (.int (1 : Int32)), .val (.int ch0)]) (pc' := 41) rfl rfl rfl rfl ?_
      refine gGoto X1 hx (H d17_41) (pc' := 3) (by decide) (by decide) ?_
      refine gLoadI 5 X1 hx (H d17_3) rfl rfl ?_
      refine gLoadI 7 X1 hx (H d17_5) rfl rfl ?_
      refine gIcmpGe X1 hx (H d17_7) (pc' := 44) (by decide) (by decide) (pn := 10) rfl (fun (c7' : (2 : Int) ≤ (1 : Int)) => ?_) (fun (c7' : (1 : Int) < (2 : Int)) => ?_)
      · exact absurd c7' (by decide)
      · refine gLoadAN 11 X1 hx (H d17_10) rfl rfl rfl ?_
        refine gLoadIN 12 X1 hx (H d17_11) rfl rfl ?_
        refine gCaload X1 hx hZ e1 f1_0 (j := (1 : Int32)) (v := (.int ch1)) (by decide) (by decide) rfl (H d17_12) (pc' := 13) rfl ?_
        refine gStoreI 15 X1 hx (H d17_13) (l' := #[.val (.ref x), .val (.int (1 : Int32)), .val (.ref t), .val (.int (1 : Int32)), .val (.int (2 : Int32)), .val (.int (1 : Int32)), .val (.int ch1)]) rfl rfl ?_
        refine gLoadI 17 X1 hx (H d17_15) rfl rfl ?_
        refine gSipush 20 X1 hx (v := (255 : Int32)) (H d17_17) rfl rfl ?_
        refine gIcmpLe X1 hx (H d17_20) (pc' := 26) (by decide) (by decide) (pn := 23) rfl (fun (c20' : ch1.toInt ≤ (255 : Int)) => ?_) (fun (c20' : (255 : Int) < ch1.toInt) => ?_)
        · refine gLoadAN 27 X1 hx (H d17_26) rfl rfl rfl ?_
          refine gLoadIN 28 X1 hx (H d17_27) rfl rfl ?_
          refine gLoadI 30 X1 hx (H d17_28) rfl rfl ?_
          refine gI2b 31 X1 hx (H d17_30) rfl ?_
          refine gBastore X1 hx hZ e1 (x := (ch1.toInt8.toInt32)) V1 (j := (1 : Int32)) (by decide) (by decide) 1 (by decide) (by simp) (H d17_31) (pc' := 32) rfl (fun T2 h2 X2 e2 W2 A2 => ?_)
          have f2_0 := f1_0.other W2 hne
          have zs2 : h0.size ≤ h2.size := by rw [W2.size]; exact zs1
          have N2 := Fr.snoc X2 N1 gt
          have K2 : Keep h0 h2 [t] := K1.wr W2 (Or.inl (by simp))
          have V2 : Arv Z h2 t _ .byte (2 : Int32) [(.int (ch0.toInt8.toInt32)), (.int (ch1.toInt8.toInt32))] (.int 0) := (by have q := A2; rw [own_nb] at q; exact q)
          refine gIinc X2 hx (v := (1 : Int32)) (H d17_32) (l' := #[.val (.ref x), .val (.int (2 : Int32)), .val (.ref t), .val (.int (1 : Int32)), .val (.int (2 : Int32)), .val (.int (1 : Int32)), .val (.int ch1)]) (pc' := 35) rfl rfl rfl rfl ?_
          refine gIinc X2 hx (v := (1 : Int32)) (H d17_35) (l' := #[.val (.ref x), .val (.int (2 : Int32)), .val (.ref t), .val (.int (2 : Int32)), .val (.int (2 : Int32)), .val (.int (1 : Int32)), .val (.int ch1)]) (pc' := 38) rfl rfl rfl rfl ?_
          refine gIinc X2 hx (v := (1 : Int32)) (H d17_38) (l' := #[.val (.ref x), .val (.int (2 : Int32)), .val (.ref t), .val (.int (2 : Int32)), .val (.int (2 : Int32)), .val (.int (2 : Int32)), .val (.int ch1)]) (pc' := 41) rfl rfl rfl rfl ?_
          refine gGoto X2 hx (H d17_41) (pc' := 3) (by decide) (by decide) ?_
          refine gLoadI 5 X2 hx (H d17_3) rfl rfl ?_
          refine gLoadI 7 X2 hx (H d17_5) rfl rfl ?_
          refine gIcmpGe X2 hx (H d17_7) (pc' := 44) (by decide) (by decide) (pn := 10) rfl (fun (c7'' : (2 : Int) ≤ (2 : Int)) => ?_) (fun (c7'' : (2 : Int) < (2 : Int)) => ?_)
          · refine gLoadI 46 X2 hx (H d17_44) rfl rfl ?_
            exact gRetI X2 hx hlk hret (H d17_46) (by decide) (by decide) (⟨rfl, N2, by rw [e2]; exact K2, by rw [e2]; exact V2⟩)
          · exact absurd c7'' (by decide)
        · exact absurd c20' (by omega)
    · exact absurd c20 (by omega)
theorem c_compress_2 (l : Launch) (Z : State) (a0 : Array Value) (hw : ∀ d ∈ tables_1, d.before a0 Z = true) (x : Addr) (cx : ClassId) (ch0 ch1 : Int32) (h0 : Heap) (A : Arv Z h0 x cx .char 2 [.int ch0, .int ch1] (.int 0)) (hch0 : rg ch0) (hch1 : rg ch1) :
    Ctr l Z mn19 jdk_52_method_16_code 6 (some (.array .byte)) [] ⟨1, 1, 2, 18⟩ #[(.ref x), (.int (0 : Int32)), (.int (2 : Int32))] h0 (fun v h L => ∃ (t : Addr) (ct : ClassId), v = some (.ref t) ∧ h0.size ≤ t ∧ Fr h0.size L ∧ Keep h0 h [] ∧ sA Z h t ct 2 [by8 ch0, by8 ch1]) := by
  refine Ctr.of (plainFor_of_name pn_6) ?_
  intro p e s m below meth c s₁ hx H hml hret hown hnm hZ hlk X0 e0
  refine Goes.cast (show entryFrame m _ _ = mkF m 0 #[.val (.ref x), .val (.int (0 : Int32)), .val (.int (2 : Int32)), .unset, .unset, .unset] [] from rfl) ?_
  refine gLoadIN 1 X0 hx (H d16_0) rfl rfl ?_
  refine gNewP X0 hx hZ (ow hw 20 rfl) e0 (n := (2 : Int32)) (H d16_1) (by decide) (cap := 2) (by decide) (by decide) (by decide) (by decide) 2 (pc' := 3) rfl (fun T1 h1 b1 ck1 X1 e1 g1 E1 A1 => ?_)
  have ne_x_b1 : x ≠ b1 := Nat.ne_of_lt (Nat.lt_of_lt_of_eq A.lt g1.symm)
  have f1_0 := A.ext E1
  have sz_b1 : h0.size ≤ b1 := Nat.le_trans (Nat.le_refl _) (Nat.le_of_eq g1.symm)
  have zs1 : h0.size ≤ h1.size := Nat.le_trans (Nat.le_refl _) E1.1
  have K1 : Keep h0 h1 [] := (Keep.refl h0 []).ext E1
  have V1 : Arv Z h1 b1 ck1 .byte (2 : Int32) [(.int (0 : Int32)), (.int (0 : Int32))] (.int (0 : Int32)) := A1
  refine gStoreAN 4 X1 hx (H d16_3) (l' := #[.val (.ref x), .val (.int (0 : Int32)), .val (.int (2 : Int32)), .val (.ref b1), .unset, .unset]) rfl rfl rfl ?_
  refine gLoadAN 5 X1 hx (H d16_4) rfl rfl rfl ?_
  refine gLoadIN 6 X1 hx (H d16_5) rfl rfl ?_
  refine gLoadAN 7 X1 hx (H d16_6) rfl rfl rfl ?_
  refine gIconst 8 X1 hx (v := (0 : Int32)) (H d16_7) rfl rfl ?_
  refine gLoadIN 9 X1 hx (H d16_8) rfl rfl ?_
  refine gCallS X1 hx hZ (y := mn20) hown e1 (by rw [hml]; rfl) (ow hw 69 rfl) (ow hw 70 rfl) (ow hw 67 rfl) (ow hw 71 rfl) (by decide) (argsL := [(.ref x), (.int (0 : Int32)), (.ref b1), (.int (0 : Int32)), (.int (2 : Int32))]) (st := []) (c_compress_2i l Z a0 hw x b1 cx ck1 h0.size ch0 ch1 h1 sz_b1 ne_x_b1 f1_0 V1 hch0 hch1) (lenOf pd_22 rfl) (H d16_9) (pc' := 12) rfl rfl (by decide) (W := 0) (Nat.le_of_eq rfl) (by decide) (by decide) (by decide) ?_
  intro T2 v2 L2 X2 hQ2
  obtain ⟨rfl, Nq2, Kq2, Aq2⟩ := hQ2
  have N2 := Fr.app (Fr.nil h0.size) Nq2
  have K2 : Keep h0 T2.heap [] := K1.trans Kq2 (allS (Or.inr sz_b1) all0)
  refine gStoreI 14 X2 hx (H d16_12) (l' := #[.val (.ref x), .val (.int (0 : Int32)), .val (.int (2 : Int32)), .val (.ref b1), .val (.int (2 : Int32)), .unset]) rfl rfl ?_
  refine gLoadI 16 X2 hx (H d16_14) rfl rfl ?_
  refine gLoadIN 17 X2 hx (H d16_16) rfl rfl ?_
  refine gIcmpEqT X2 hx (H d16_17) (pc' := 57) (by decide) (by decide) (pn := 20) rfl (fun (c17 : (2 : Int) = (2 : Int)) => ?_) (fun (c17 : ¬ (2 : Int) = (2 : Int)) => ?_)
  · refine gLoadAN 58 X2 hx (H d16_57) rfl rfl rfl ?_
    exact gRetA X2 hx hlk hret rfl rfl (H d16_58) (by decide) (by decide) (⟨b1, _, rfl, sz_b1, N2, K2, Aq2⟩)
  · exact absurd c17 (by decide)
theorem c_cfal_2 (l : Launch) (Z : State) (a0 : Array Value) (hw : ∀ d ∈ tables_1, d.before a0 Z = true) (t : Addr) (ck : ClassId) (ch0 ch1 : Int32) (h0 : Heap) (A : sA Z h0 t ck 2 [by8 ch0, by8 ch1]) :
    Ctr l Z mn18 jdk_52_method_15_code 2 (some .byte) [] ⟨0, 0, 0, 0⟩ #[(.ref t), (.int (2 : Int32))] h0 (Just h0 (.int 0)) := by
  refine Ctr.of (plainFor_of_name pn_6) ?_
  intro p e s m below meth c s₁ hx H hml hret hown hnm hZ hlk X0 e0
  refine Goes.cast (show entryFrame m _ _ = mkF m 0 #[.val (.ref t), .val (.int (2 : Int32))] [] from rfl) ?_
  refine gLoadIN 1 X0 hx (H d15_0) rfl rfl ?_
  refine gLoadAN 2 X0 hx (H d15_1) rfl rfl rfl ?_
  refine gArrLen X0 hx hZ e0 A (H d15_2) (pc' := 3) rfl ?_
  refine gIsub 4 X0 hx (H d15_3) rfl ?_
  show Goes p e below _ s₁ (mkF m 4 #[.val (.ref t), .val (.int (2 : Int32))] [(.int (0 : Int32))])
  refine gBipush 6 X0 hx (v := (31 : Int32)) (H d15_4) rfl rfl ?_
  refine gIushr 7 X0 hx (H d15_6) rfl ?_
  show Goes p e below _ s₁ (mkF m 7 #[.val (.ref t), .val (.int (2 : Int32))] [(.int (0 : Int32))])
  refine gI2b 8 X0 hx (H d15_7) rfl ?_
  show Goes p e below _ s₁ (mkF m 8 #[.val (.ref t), .val (.int (2 : Int32))] [(.int (0 : Int32))])
  exact gRetN X0 hx hlk hret (by simp) (H d15_8) (w := (0 : Int32)) rfl (by decide) (by decide) (⟨rfl, e0, rfl⟩)
theorem c_sinit_2v (l : Launch) (Z : State) (a0 : Array Value) (hw : ∀ d ∈ tables_1, d.before a0 Z = true) (a x : Addr) (cx : ClassId) (n0 : Nat) (ch0 ch1 : Int32) (h0 : Heap) (hCpt : Cpt Z h0) (ga : n0 ≤ a) (gz : n0 ≤ h0.size) (hax : x ≠ a) (E : sE Z h0 a) (C : sC Z h0 a) (V : Fld Z h0 a "java/lang/String" "value" "[B" .null) (A : Arv Z h0 x cx .char 2 [.int ch0, .int ch1] (.int 0)) (hch0 : rg ch0) (hch1 : rg ch1) :
    Ctr l Z mn8 jdk_42_method_149_code 6 none [] ⟨2, 1, 2, 37⟩ #[(.ref a), (.ref x), (.int (0 : Int32)), (.int (2 : Int32)), .null] h0 (fun v h L => ∃ (t : Addr) (ct : ClassId), v = none ∧ Fr n0 L ∧ Keep h0 h [a] ∧ h0.size ≤ t ∧ sE Z h a ∧ sC Z h a ∧ sV Z h a t ∧ sA Z h t ct 2 [by8 ch0, by8 ch1]) := by
  refine Ctr.of (plainFor_of_name pn_4) ?_
  intro p e s m below meth c s₁ hx H hml hret hown hnm hZ hlk X0 e0
  refine Goes.cast (show entryFrame m _ _ = mkF m 0 #[.val (.ref a), .val (.ref x), .val (.int (0 : Int32)), .val (.int (2 : Int32)), .val .null, .unset] [] from rfl) ?_
  have hCpt0 := hCpt
  obtain ⟨cz, SC, hcz⟩ := hCpt0
  refine gLoadAN 1 X0 hx (H d4_0) rfl rfl rfl ?_
  refine gInitO X0 hx hZ hown (ow hw 16 rfl) (ow hw 17 rfl) (ow hw 18 rfl) e0 (by rw [hml]; rfl) (H d4_1) (pc' := 4) rfl (by decide) (W := 0) (Nat.le_of_eq rfl) (by decide) (fun T1 X1 e1 => ?_)
  refine gLoadIN 5 X1 hx (H d4_4) rfl rfl ?_
  refine gIfNeT X1 hx (H d4_5) (pc' := 27) (by decide) (by decide) (pn := 8) rfl (fun (c5 : ¬ (2 : Int) = (0 : Int)) => ?_) (fun (c5 : (2 : Int) = (0 : Int)) => ?_)
  · refine gGetS X1 hx hZ hown (ow hw 47 rfl) Via.refl e1 SC (H d4_27) (pc' := 30) rfl (fun T2 X2 e2 => ?_)
    refine gIfEqT X2 hx (H d4_30) (pc' := 58) (by decide) (by decide) (pn := 33) rfl (fun (c30 : cz.toInt = (0 : Int)) => ?_) (fun (c30 : ¬ cz.toInt = (0 : Int)) => ?_)
    · exact absurd c30 hcz
    · refine gLoadAN 34 X2 hx (H d4_33) rfl rfl rfl ?_
      refine gLoadIN 35 X2 hx (H d4_34) rfl rfl ?_
      refine gLoadIN 36 X2 hx (H d4_35) rfl rfl ?_
      refine gCallS X2 hx hZ (y := mn19) hown e2 (by rw [hml]; rfl) (ow hw 65 rfl) (ow hw 66 rfl) (ow hw 67 rfl) (ow hw 68 rfl) (by decide) (argsL := [(.ref x), (.int (0 : Int32)), (.int (2 : Int32))]) (st := []) (c_compress_2 l Z a0 hw x cx ch0 ch1 h0 A hch0 hch1) (lenOf pd_20 rfl) (H d4_36) (pc' := 39) rfl rfl (by decide) (W := 0) (Nat.le_of_eq rfl) (by decide) (by decide) (by decide) ?_
      intro T3 v3 L3 X3 hQ3
      obtain ⟨t3, ct3, rfl, gt3, Nq3, Kq3, Aq3⟩ := hQ3
      have N3 := Fr.app (Fr.nil n0) (fun y hy => Nat.le_trans gz (Nq3 y hy))
      have K3 : Keep h0 T3.heap [a] := (Keep.refl h0 [a]).trans Kq3 all0
      have f3_0 := own_sta_keep SC Kq3 ns0
      have f3_1 := E.keep Kq3
      have f3_2 := C.keep Kq3 nin0
      have f3_3 := V.keep Kq3 nin0
      have nt3 : t3 ≠ a := Ne.symm (Nat.ne_of_lt (Nat.lt_of_lt_of_le E.lt gt3))
      refine gStoreA 41 X3 hx (H d4_39) (l' := #[.val (.ref a), .val (.ref x), .val (.int (0 : Int32)), .val (.int (2 : Int32)), .val .null, .val (.ref t3)]) rfl rfl rfl ?_
      refine gLoadAN 42 X3 hx (H d4_41) rfl rfl rfl ?_
      refine gLoadA 44 X3 hx (H d4_42) rfl rfl rfl ?_
      refine gLoadIN 45 X3 hx (H d4_44) rfl rfl ?_
      refine gCallSJ X3 hx hZ (y := mn18) hown rfl (by rw [hml]; rfl) (ow hw 72 rfl) (ow hw 73 rfl) (ow hw 67 rfl) (ow hw 74 rfl) (by decide) (argsL := [(.ref t3), (.int (2 : Int32))]) (st := [(.ref a)]) (c_cfal_2 l Z a0 hw t3 ct3 ch0 ch1 _ Aq3) (lenOf pd_15 rfl) (H d4_45) (pc' := 48) rfl rfl rfl rfl (by decide) (W := 1) (Nat.le_of_eq rfl) (by decide) (by decide) (by decide) ?_
      intro T4 X4 e4
      refine gPutF X4 hx hZ hown (ow hw 26 rfl) Via.refl e4 f3_2 f3_1 (Or.inr ⟨(ow hw 22 rfl), rfl, hnm⟩) (ow hw 6 rfl) (ty := .byte) (by decide) rfl rfl (H d4_48) (pc' := 51) rfl (fun T5 h5 X5 e5 W5 => ?_)
      have f5_0 := f3_0.wr W5
      have f5_1 := f3_1.wr W5
      have f5_2 := f3_2.same W5
      have f5_3 := f3_3.other W5 (Or.inr (slot_ne (Or.inr (ow hw 21 rfl)) (Or.inr (ow hw 22 rfl)) (by decide) (t := (.array .byte)) (t' := .byte) (by decide) (by decide)))
      have f5_4 := Aq3.other W5 nt3
      have zs5 : h0.size ≤ h5.size := by rw [W5.size]; exact Kq3.1
      have N5 := Fr.snoc X5 N3 ga
      have K5 : Keep h0 h5 [a] := K3.wr W5 (Or.inl (by simp))
      refine gLoadAN 52 X5 hx (H d4_51) rfl rfl rfl ?_
      refine gLoadA 54 X5 hx (H d4_52) rfl rfl rfl ?_
      refine gPutF X5 hx hZ hown (ow hw 25 rfl) Via.refl e5 f5_3 f5_1 (Or.inr ⟨(ow hw 21 rfl), rfl, hnm⟩) (ow hw 6 rfl) (ty := (.array .byte)) (by decide) rfl rfl (H d4_54) (pc' := 57) rfl (fun T6 h6 X6 e6 W6 => ?_)
      have f6_0 := f5_0.wr W6
      have f6_1 := f5_1.wr W6
      have f6_2 := f5_2.other W6 (Or.inr (slot_ne (Or.inr (ow hw 22 rfl)) (Or.inr (ow hw 21 rfl)) (by decide) (t := .byte) (t' := (.array .byte)) (by decide) (by decide)))
      have f6_3 := f5_3.same W6
      have f6_4 := f5_4.other W6 nt3
      have zs6 : h0.size ≤ h6.size := by rw [W6.size]; exact zs5
      have N6 := Fr.snoc X6 N5 ga
      have K6 : Keep h0 h6 [a] := K5.wr W6 (Or.inl (by simp))
      exact gRetV X6 hx hlk hret (H d4_57) (by decide) (by decide) (⟨t3, ct3, rfl, N6, by rw [e6]; exact K6, gt3, by rw [e6]; exact f6_1, by rw [e6]; exact f6_2, by rw [e6]; exact f6_3, by rw [e6]; exact f6_4⟩)
  · exact absurd c5 (by decide)
theorem c_sinit_2 (l : Launch) (Z : State) (a0 : Array Value) (hw : ∀ d ∈ tables_1, d.before a0 Z = true) (a x : Addr) (cx : ClassId) (n0 : Nat) (ch0 ch1 : Int32) (h0 : Heap) (hCpt : Cpt Z h0) (ga : n0 ≤ a) (gz : n0 ≤ h0.size) (hax : x ≠ a) (E : sE Z h0 a) (C : sC Z h0 a) (V : Fld Z h0 a "java/lang/String" "value" "[B" .null) (A : Arv Z h0 x cx .char 2 [.int ch0, .int ch1] (.int 0)) (hch0 : rg ch0) (hch1 : rg ch1) :
    Ctr l Z mn7 jdk_42_method_3_code 2 none [] ⟨3, 1, 2, 54⟩ #[(.ref a), (.ref x)] h0 (fun v h L => ∃ (t : Addr) (ct : ClassId), v = none ∧ Fr n0 L ∧ Keep h0 h [a] ∧ h0.size ≤ t ∧ sE Z h a ∧ sC Z h a ∧ sV Z h a t ∧ sA Z h t ct 2 [by8 ch0, by8 ch1]) := by
  refine Ctr.of (plainFor_of_name pn_4) ?_
  intro p e s m below meth c s₁ hx H hml hret hown hnm hZ hlk X0 e0
  refine Goes.cast (show entryFrame m _ _ = mkF m 0 #[.val (.ref a), .val (.ref x)] [] from rfl) ?_
  refine gLoadAN 1 X0 hx (H d8_0) rfl rfl rfl ?_
  refine gLoadAN 2 X0 hx (H d8_1) rfl rfl rfl ?_
  refine gIconst 3 X0 hx (v := (0 : Int32)) (H d8_2) rfl rfl ?_
  refine gLoadAN 4 X0 hx (H d8_3) rfl rfl rfl ?_
  refine gArrLen X0 hx hZ e0 A (H d8_4) (pc' := 5) rfl ?_
  refine gNull 6 X0 hx (H d8_5) rfl ?_
  refine gCallI X0 hx hZ (y := mn8) rfl hown e0 (by rw [hml]; rfl) (ow hw 12 rfl) (ow hw 13 rfl) (ow hw 7 rfl) (ow hw 15 rfl) (by decide) (argsL := [(.ref x), (.int (0 : Int32)), (.int (2 : Int32)), .null]) (st := []) (c_sinit_2v l Z a0 hw a x cx n0 ch0 ch1 h0 hCpt ga gz hax E C V A hch0 hch1) (lenOf pd_21 rfl) (H d8_6) (pc' := 9) rfl rfl (by decide) (W := 0) (Nat.le_of_eq rfl) (by decide) (by decide) (by decide) ?_
  intro T1 v1 L1 X1 hQ1
  obtain ⟨t, ct, rfl, Nq, Kq, gt, Eq, Cq, Vq, Aq⟩ := hQ1
  exact gRetV X1 hx hlk hret (H d8_9) (by decide) (by decide) (⟨t, ct, rfl, Nq, Kq, gt, Eq, Cq, Vq, Aq⟩)
theorem c_compress_3i (l : Launch) (Z : State) (a0 : Array Value) (hw : ∀ d ∈ tables_1, d.before a0 Z = true) (x t : Addr) (cx ct : ClassId) (n0 : Nat) (ch0 ch1 ch2 : Int32) (h0 : Heap) (gt : n0 ≤ t) (hne : x ≠ t) (A : Arv Z h0 x cx .char 3 [.int ch0, .int ch1, .int ch2] (.int 0)) (B : Arv Z h0 t ct .byte 3 [.int 0, .int 0, .int 0] (.int 0)) (hch0 : rg ch0) (hch1 : rg ch1) (hch2 : rg ch2) :
    Ctr l Z mn20 jdk_52_method_21_code 7 (some .int) [] ⟨0, 0, 0, 0⟩ #[(.ref x), (.int (0 : Int32)), (.ref t), (.int (0 : Int32)), (.int (3 : Int32))] h0 (fun v h L => v = some (.int 3) ∧ Fr n0 L ∧ Keep h0 h [t] ∧ sA Z h t ct 3 [by8 ch0, by8 ch1, by8 ch2]) := by
  refine Ctr.of (plainFor_of_name pn_6) ?_
  intro p e s m below meth c s₁ hx H hml hret hown hnm hZ hlk X0 e0
  refine Goes.cast (show entryFrame m _ _ = mkF m 0 #[.val (.ref x), .val (.int (0 : Int32)), .val (.ref t), .val (.int (0 : Int32)), .val (.int (3 : Int32)), .unset, .unset] [] from rfl) ?_
  refine gIconst 1 X0 hx (v := (0 : Int32)) (H d17_0) rfl rfl ?_
  refine gStoreI 3 X0 hx (H d17_1) (l' := #[.val (.ref x), .val (.int (0 : Int32)), .val (.ref t), .val (.int (0 : Int32)), .val (.int (3 : Int32)), .val (.int (0 : Int32)), .unset]) rfl rfl ?_
  refine gLoadI 5 X0 hx (H d17_3) rfl rfl ?_
  refine gLoadI 7 X0 hx (H d17_5) rfl rfl ?_
  refine gIcmpGe X0 hx (H d17_7) (pc' := 44) (by decide) (by decide) (pn := 10) rfl (fun (c7 : (3 : Int) ≤ (0 : Int)) => ?_) (fun (c7 : (0 : Int) < (3 : Int)) => ?_)
  · exact absurd c7 (by decide)
  · refine gLoadAN 11 X0 hx (H d17_10) rfl rfl rfl ?_
    refine gLoadIN 12 X0 hx (H d17_11) rfl rfl ?_
    refine gCaload X0 hx hZ e0 A (j := (0 : Int32)) (v := (.int ch0)) (by decide) (by decide) rfl (H d17_12) (pc' := 13) rfl ?_
    refine gStoreI 15 X0 hx (H d17_13) (l' := #[.val (.ref x), .val (.int (0 : Int32)), .val (.ref t), .val (.int (0 : Int32)), .val (.int (3 : Int32)), .val (.int (0 : Int32)), .val (.int ch0)]) rfl rfl ?_
    refine gLoadI 17 X0 hx (H d17_15) rfl rfl ?_
    refine gSipush 20 X0 hx (v := (255 : Int32)) (H d17_17) rfl rfl ?_
    refine gIcmpLe X0 hx (H d17_20) (pc' := 26) (by decide) (by decide) (pn := 23) rfl (fun (c20 : ch0.toInt ≤ (255 : Int)) => ?_) (fun (c20 : (255 : Int) < ch0.toInt) => ?_)
    · refine gLoadAN 27 X0 hx (H d17_26) rfl rfl rfl ?_
      refine gLoadIN 28 X0 hx (H d17_27) rfl rfl ?_
      refine gLoadI 30 X0 hx (H d17_28) rfl rfl ?_
      refine gI2b 31 X0 hx (H d17_30) rfl ?_
      refine gBastore X0 hx hZ e0 (x := (ch0.toInt8.toInt32)) B (j := (0 : Int32)) (by decide) (by decide) 0 (by decide) (by simp) (H d17_31) (pc' := 32) rfl (fun T1 h1 X1 e1 W1 A1 => ?_)
      have f1_0 := A.other W1 hne
      have zs1 : h0.size ≤ h1.size := by rw [W1.size]; exact (Nat.le_refl _)
      have N1 := Fr.snoc X1 (Fr.nil n0) gt
      have K1 : Keep h0 h1 [t] := (Keep.refl h0 [t]).wr W1 (Or.inl (by simp))
      have V1 : Arv Z h1 t _ .byte (3 : Int32) [(.int (ch0.toInt8.toInt32)), (.int (0 : Int32)), (.int (0 : Int32))] (.int 0) := (by have q := A1; rw [own_nb] at q; exact q)
      refine gIinc X1 hx (v := (1 : Int32)) (H d17_32) (l' := #[.val (.ref x), .val (.int (1 : Int32)), .val (.ref t), .val (.int (0 : Int32)), .val (.int (3 : Int32)), .val (.int (0 : Int32)), .val (.int ch0)]) (pc' := 35) rfl rfl rfl rfl ?_
      refine gIinc X1 hx (v := (1 : Int32)) (H d17_35) (l' := #[.val (.ref x), .val (.int (1 : Int32)), .val (.ref t), .val (.int (1 : Int32)), .val (.int (3 : Int32)), .val (.int (0 : Int32)), .val (.int ch0)]) (pc' := 38) rfl rfl rfl rfl ?_
      refine gIinc X1 hx (v := (1 : Int32)) (H d17_38) (l' := #[.val (.ref x), .val (.int (1 : Int32)), .val (.ref t), .val (.int (1 : Int32)), .val (.int (3 : Int32)), .val (.int (1 : Int32)), .val (.int ch0)]) (pc' := 41) rfl rfl rfl rfl ?_
      refine gGoto X1 hx (H d17_41) (pc' := 3) (by decide) (by decide) ?_
      refine gLoadI 5 X1 hx (H d17_3) rfl rfl ?_
      refine gLoadI 7 X1 hx (H d17_5) rfl rfl ?_
      refine gIcmpGe X1 hx (H d17_7) (pc' := 44) (by decide) (by decide) (pn := 10) rfl (fun (c7' : (3 : Int) ≤ (1 : Int)) => ?_) (fun (c7' : (1 : Int) < (3 : Int)) => ?_)
      · exact absurd c7' (by decide)
      · refine gLoadAN 11 X1 hx (H d17_10) rfl rfl rfl ?_
        refine gLoadIN 12 X1 hx (H d17_11) rfl rfl ?_
        refine gCaload X1 hx hZ e1 f1_0 (j := (1 : Int32)) (v := (.int ch1)) (by decide) (by decide) rfl (H d17_12) (pc' := 13) rfl ?_
        refine gStoreI 15 X1 hx (H d17_13) (l' := #[.val (.ref x), .val (.int (1 : Int32)), .val (.ref t), .val (.int (1 : Int32)), .val (.int (3 : Int32)), .val (.int (1 : Int32)), .val (.int ch1)]) rfl rfl ?_
        refine gLoadI 17 X1 hx (H d17_15) rfl rfl ?_
        refine gSipush 20 X1 hx (v := (255 : Int32)) (H d17_17) rfl rfl ?_
        refine gIcmpLe X1 hx (H d17_20) (pc' := 26) (by decide) (by decide) (pn := 23) rfl (fun (c20' : ch1.toInt ≤ (255 : Int)) => ?_) (fun (c20' : (255 : Int) < ch1.toInt) => ?_)
        · refine gLoadAN 27 X1 hx (H d17_26) rfl rfl rfl ?_
          refine gLoadIN 28 X1 hx (H d17_27) rfl rfl ?_
          refine gLoadI 30 X1 hx (H d17_28) rfl rfl ?_
          refine gI2b 31 X1 hx (H d17_30) rfl ?_
          refine gBastore X1 hx hZ e1 (x := (ch1.toInt8.toInt32)) V1 (j := (1 : Int32)) (by decide) (by decide) 1 (by decide) (by simp) (H d17_31) (pc' := 32) rfl (fun T2 h2 X2 e2 W2 A2 => ?_)
          have f2_0 := f1_0.other W2 hne
          have zs2 : h0.size ≤ h2.size := by rw [W2.size]; exact zs1
          have N2 := Fr.snoc X2 N1 gt
          have K2 : Keep h0 h2 [t] := K1.wr W2 (Or.inl (by simp))
          have V2 : Arv Z h2 t _ .byte (3 : Int32) [(.int (ch0.toInt8.toInt32)), (.int (ch1.toInt8.toInt32)), (.int (0 : Int32))] (.int 0) := (by have q := A2; rw [own_nb] at q; exact q)
          refine gIinc X2 hx (v := (1 : Int32)) (H d17_32) (l' := #[.val (.ref x), .val (.int (2 : Int32)), .val (.ref t), .val (.int (1 : Int32)), .val (.int (3 : Int32)), .val (.int (1 : Int32)), .val (.int ch1)]) (pc' := 35) rfl rfl rfl rfl ?_
          refine gIinc X2 hx (v := (1 : Int32)) (H d17_35) (l' := #[.val (.ref x), .val (.int (2 : Int32)), .val (.ref t), .val (.int (2 : Int32)), .val (.int (3 : Int32)), .val (.int (1 : Int32)), .val (.int ch1)]) (pc' := 38) rfl rfl rfl rfl ?_
          refine gIinc X2 hx (v := (1 : Int32)) (H d17_38) (l' := #[.val (.ref x), .val (.int (2 : Int32)), .val (.ref t), .val (.int (2 : Int32)), .val (.int (3 : Int32)), .val (.int (2 : Int32)), .val (.int ch1)]) (pc' := 41) rfl rfl rfl rfl ?_
          refine gGoto X2 hx (H d17_41) (pc' := 3) (by decide) (by decide) ?_
          refine gLoadI 5 X2 hx (H d17_3) rfl rfl ?_
          refine gLoadI 7 X2 hx (H d17_5) rfl rfl ?_
          refine gIcmpGe X2 hx (H d17_7) (pc' := 44) (by decide) (by decide) (pn := 10) rfl (fun (c7'' : (3 : Int) ≤ (2 : Int)) => ?_) (fun (c7'' : (2 : Int) < (3 : Int)) => ?_)
          · exact absurd c7'' (by decide)
          · refine gLoadAN 11 X2 hx (H d17_10) rfl rfl rfl ?_
            refine gLoadIN 12 X2 hx (H d17_11) rfl rfl ?_
            refine gCaload X2 hx hZ e2 f2_0 (j := (2 : Int32)) (v := (.int ch2)) (by decide) (by decide) rfl (H d17_12) (pc' := 13) rfl ?_
            refine gStoreI 15 X2 hx (H d17_13) (l' := #[.val (.ref x), .val (.int (2 : Int32)), .val (.ref t), .val (.int (2 : Int32)), .val (.int (3 : Int32)), .val (.int (2 : Int32)), .val (.int ch2)]) rfl rfl ?_
            refine gLoadI 17 X2 hx (H d17_15) rfl rfl ?_
            refine gSipush 20 X2 hx (v := (255 : Int32)) (H d17_17) rfl rfl ?_
            refine gIcmpLe X2 hx (H d17_20) (pc' := 26) (by decide) (by decide) (pn := 23) rfl (fun (c20'' : ch2.toInt ≤ (255 : Int)) => ?_) (fun (c20'' : (255 : Int) < ch2.toInt) => ?_)
            · refine gLoadAN 27 X2 hx (H d17_26) rfl rfl rfl ?_
              refine gLoadIN 28 X2 hx (H d17_27) rfl rfl ?_
              refine gLoadI 30 X2 hx (H d17_28) rfl rfl ?_
              refine gI2b 31 X2 hx (H d17_30) rfl ?_
              refine gBastore X2 hx hZ e2 (x := (ch2.toInt8.toInt32)) V2 (j := (2 : Int32)) (by decide) (by decide) 2 (by decide) (by simp) (H d17_31) (pc' := 32) rfl (fun T3 h3 X3 e3 W3 A3 => ?_)
              have f3_0 := f2_0.other W3 hne
              have zs3 : h0.size ≤ h3.size := by rw [W3.size]; exact zs2
              have N3 := Fr.snoc X3 N2 gt
              have K3 : Keep h0 h3 [t] := K2.wr W3 (Or.inl (by simp))
              have V3 : Arv Z h3 t _ .byte (3 : Int32) [(.int (ch0.toInt8.toInt32)), (.int (ch1.toInt8.toInt32)), (.int (ch2.toInt8.toInt32))] (.int 0) := (by have q := A3; rw [own_nb] at q; exact q)
              refine gIinc X3 hx (v := (1 : Int32)) (H d17_32) (l' := #[.val (.ref x), .val (.int (3 : Int32)), .val (.ref t), .val (.int (2 : Int32)), .val (.int (3 : Int32)), .val (.int (2 : Int32)), .val (.int ch2)]) (pc' := 35) rfl rfl rfl rfl ?_
              refine gIinc X3 hx (v := (1 : Int32)) (H d17_35) (l' := #[.val (.ref x), .val (.int (3 : Int32)), .val (.ref t), .val (.int (3 : Int32)), .val (.int (3 : Int32)), .val (.int (2 : Int32)), .val (.int ch2)]) (pc' := 38) rfl rfl rfl rfl ?_
              refine gIinc X3 hx (v := (1 : Int32)) (H d17_38) (l' := #[.val (.ref x), .val (.int (3 : Int32)), .val (.ref t), .val (.int (3 : Int32)), .val (.int (3 : Int32)), .val (.int (3 : Int32)), .val (.int ch2)]) (pc' := 41) rfl rfl rfl rfl ?_
              refine gGoto X3 hx (H d17_41) (pc' := 3) (by decide) (by decide) ?_
              refine gLoadI 5 X3 hx (H d17_3) rfl rfl ?_
              refine gLoadI 7 X3 hx (H d17_5) rfl rfl ?_
              refine gIcmpGe X3 hx (H d17_7) (pc' := 44) (by decide) (by decide) (pn := 10) rfl (fun (c7''' : (3 : Int) ≤ (3 : Int)) => ?_) (fun (c7''' : (3 : Int) < (3 : Int)) => ?_)
              · refine gLoadI 46 X3 hx (H d17_44) rfl rfl ?_
                exact gRetI X3 hx hlk hret (H d17_46) (by decide) (by decide) (⟨rfl, N3, by rw [e3]; exact K3, by rw [e3]; exact V3⟩)
              · exact absurd c7''' (by decide)
            · exact absurd c20'' (by omega)
        · exact absurd c20' (by omega)
    · exact absurd c20 (by omega)
theorem c_compress_3 (l : Launch) (Z : State) (a0 : Array Value) (hw : ∀ d ∈ tables_1, d.before a0 Z = true) (x : Addr) (cx : ClassId) (ch0 ch1 ch2 : Int32) (h0 : Heap) (A : Arv Z h0 x cx .char 3 [.int ch0, .int ch1, .int ch2] (.int 0)) (hch0 : rg ch0) (hch1 : rg ch1) (hch2 : rg ch2) :
    Ctr l Z mn19 jdk_52_method_16_code 6 (some (.array .byte)) [] ⟨1, 1, 3, 18⟩ #[(.ref x), (.int (0 : Int32)), (.int (3 : Int32))] h0 (fun v h L => ∃ (t : Addr) (ct : ClassId), v = some (.ref t) ∧ h0.size ≤ t ∧ Fr h0.size L ∧ Keep h0 h [] ∧ sA Z h t ct 3 [by8 ch0, by8 ch1, by8 ch2]) := by
  refine Ctr.of (plainFor_of_name pn_6) ?_
  intro p e s m below meth c s₁ hx H hml hret hown hnm hZ hlk X0 e0
  refine Goes.cast (show entryFrame m _ _ = mkF m 0 #[.val (.ref x), .val (.int (0 : Int32)), .val (.int (3 : Int32)), .unset, .unset, .unset] [] from rfl) ?_
  refine gLoadIN 1 X0 hx (H d16_0) rfl rfl ?_
  refine gNewP X0 hx hZ (ow hw 20 rfl) e0 (n := (3 : Int32)) (H d16_1) (by decide) (cap := 3) (by decide) (by decide) (by decide) (by decide) 3 (pc' := 3) rfl (fun T1 h1 b1 ck1 X1 e1 g1 E1 A1 => ?_)
  have ne_x_b1 : x ≠ b1 := Nat.ne_of_lt (Nat.lt_of_lt_of_eq A.lt g1.symm)
  have f1_0 := A.ext E1
  have sz_b1 : h0.size ≤ b1 := Nat.le_trans (Nat.le_refl _) (Nat.le_of_eq g1.symm)
  have zs1 : h0.size ≤ h1.size := Nat.le_trans (Nat.le_refl _) E1.1
  have K1 : Keep h0 h1 [] := (Keep.refl h0 []).ext E1
  have V1 : Arv Z h1 b1 ck1 .byte (3 : Int32) [(.int (0 : Int32)), (.int (0 : Int32)), (.int (0 : Int32))] (.int (0 : Int32)) := A1
  refine gStoreAN 4 X1 hx (H d16_3) (l' := #[.val (.ref x), .val (.int (0 : Int32)), .val (.int (3 : Int32)), .val (.ref b1), .unset, .unset]) rfl rfl rfl ?_
  refine gLoadAN 5 X1 hx (H d16_4) rfl rfl rfl ?_
  refine gLoadIN 6 X1 hx (H d16_5) rfl rfl ?_
  refine gLoadAN 7 X1 hx (H d16_6) rfl rfl rfl ?_
  refine gIconst 8 X1 hx (v := (0 : Int32)) (H d16_7) rfl rfl ?_
  refine gLoadIN 9 X1 hx (H d16_8) rfl rfl ?_
  refine gCallS X1 hx hZ (y := mn20) hown e1 (by rw [hml]; rfl) (ow hw 69 rfl) (ow hw 70 rfl) (ow hw 67 rfl) (ow hw 71 rfl) (by decide) (argsL := [(.ref x), (.int (0 : Int32)), (.ref b1), (.int (0 : Int32)), (.int (3 : Int32))]) (st := []) (c_compress_3i l Z a0 hw x b1 cx ck1 h0.size ch0 ch1 ch2 h1 sz_b1 ne_x_b1 f1_0 V1 hch0 hch1 hch2) (lenOf pd_22 rfl) (H d16_9) (pc' := 12) rfl rfl (by decide) (W := 0) (Nat.le_of_eq rfl) (by decide) (by decide) (by decide) ?_
  intro T2 v2 L2 X2 hQ2
  obtain ⟨rfl, Nq2, Kq2, Aq2⟩ := hQ2
  have N2 := Fr.app (Fr.nil h0.size) Nq2
  have K2 : Keep h0 T2.heap [] := K1.trans Kq2 (allS (Or.inr sz_b1) all0)
  refine gStoreI 14 X2 hx (H d16_12) (l' := #[.val (.ref x), .val (.int (0 : Int32)), .val (.int (3 : Int32)), .val (.ref b1), .val (.int (3 : Int32)), .unset]) rfl rfl ?_
  refine gLoadI 16 X2 hx (H d16_14) rfl rfl ?_
  refine gLoadIN 17 X2 hx (H d16_16) rfl rfl ?_
  refine gIcmpEqT X2 hx (H d16_17) (pc' := 57) (by decide) (by decide) (pn := 20) rfl (fun (c17 : (3 : Int) = (3 : Int)) => ?_) (fun (c17 : ¬ (3 : Int) = (3 : Int)) => ?_)
  · refine gLoadAN 58 X2 hx (H d16_57) rfl rfl rfl ?_
    exact gRetA X2 hx hlk hret rfl rfl (H d16_58) (by decide) (by decide) (⟨b1, _, rfl, sz_b1, N2, K2, Aq2⟩)
  · exact absurd c17 (by decide)
theorem c_cfal_3 (l : Launch) (Z : State) (a0 : Array Value) (hw : ∀ d ∈ tables_1, d.before a0 Z = true) (t : Addr) (ck : ClassId) (ch0 ch1 ch2 : Int32) (h0 : Heap) (A : sA Z h0 t ck 3 [by8 ch0, by8 ch1, by8 ch2]) :
    Ctr l Z mn18 jdk_52_method_15_code 2 (some .byte) [] ⟨0, 0, 0, 0⟩ #[(.ref t), (.int (3 : Int32))] h0 (Just h0 (.int 0)) := by
  refine Ctr.of (plainFor_of_name pn_6) ?_
  intro p e s m below meth c s₁ hx H hml hret hown hnm hZ hlk X0 e0
  refine Goes.cast (show entryFrame m _ _ = mkF m 0 #[.val (.ref t), .val (.int (3 : Int32))] [] from rfl) ?_
  refine gLoadIN 1 X0 hx (H d15_0) rfl rfl ?_
  refine gLoadAN 2 X0 hx (H d15_1) rfl rfl rfl ?_
  refine gArrLen X0 hx hZ e0 A (H d15_2) (pc' := 3) rfl ?_
  refine gIsub 4 X0 hx (H d15_3) rfl ?_
  show Goes p e below _ s₁ (mkF m 4 #[.val (.ref t), .val (.int (3 : Int32))] [(.int (0 : Int32))])
  refine gBipush 6 X0 hx (v := (31 : Int32)) (H d15_4) rfl rfl ?_
  refine gIushr 7 X0 hx (H d15_6) rfl ?_
  show Goes p e below _ s₁ (mkF m 7 #[.val (.ref t), .val (.int (3 : Int32))] [(.int (0 : Int32))])
  refine gI2b 8 X0 hx (H d15_7) rfl ?_
  show Goes p e below _ s₁ (mkF m 8 #[.val (.ref t), .val (.int (3 : Int32))] [(.int (0 : Int32))])
  exact gRetN X0 hx hlk hret (by simp) (H d15_8) (w := (0 : Int32)) rfl (by decide) (by decide) (⟨rfl, e0, rfl⟩)
theorem c_sinit_3v (l : Launch) (Z : State) (a0 : Array Value) (hw : ∀ d ∈ tables_1, d.before a0 Z = true) (a x : Addr) (cx : ClassId) (n0 : Nat) (ch0 ch1 ch2 : Int32) (h0 : Heap) (hCpt : Cpt Z h0) (ga : n0 ≤ a) (gz : n0 ≤ h0.size) (hax : x ≠ a) (E : sE Z h0 a) (C : sC Z h0 a) (V : Fld Z h0 a "java/lang/String" "value" "[B" .null) (A : Arv Z h0 x cx .char 3 [.int ch0, .int ch1, .int ch2] (.int 0)) (hch0 : rg ch0) (hch1 : rg ch1) (hch2 : rg ch2) :
    Ctr l Z mn8 jdk_42_method_149_code 6 none [] ⟨2, 1, 3, 37⟩ #[(.ref a), (.ref x), (.int (0 : Int32)), (.int (3 : Int32)), .null] h0 (fun v h L => ∃ (t : Addr) (ct : ClassId), v = none ∧ Fr n0 L ∧ Keep h0 h [a] ∧ h0.size ≤ t ∧ sE Z h a ∧ sC Z h a ∧ sV Z h a t ∧ sA Z h t ct 3 [by8 ch0, by8 ch1, by8 ch2]) := by
  refine Ctr.of (plainFor_of_name pn_4) ?_
  intro p e s m below meth c s₁ hx H hml hret hown hnm hZ hlk X0 e0
  refine Goes.cast (show entryFrame m _ _ = mkF m 0 #[.val (.ref a), .val (.ref x), .val (.int (0 : Int32)), .val (.int (3 : Int32)), .val .null, .unset] [] from rfl) ?_
  have hCpt0 := hCpt
  obtain ⟨cz, SC, hcz⟩ := hCpt0
  refine gLoadAN 1 X0 hx (H d4_0) rfl rfl rfl ?_
  refine gInitO X0 hx hZ hown (ow hw 16 rfl) (ow hw 17 rfl) (ow hw 18 rfl) e0 (by rw [hml]; rfl) (H d4_1) (pc' := 4) rfl (by decide) (W := 0) (Nat.le_of_eq rfl) (by decide) (fun T1 X1 e1 => ?_)
  refine gLoadIN 5 X1 hx (H d4_4) rfl rfl ?_
  refine gIfNeT X1 hx (H d4_5) (pc' := 27) (by decide) (by decide) (pn := 8) rfl (fun (c5 : ¬ (3 : Int) = (0 : Int)) => ?_) (fun (c5 : (3 : Int) = (0 : Int)) => ?_)
  · refine gGetS X1 hx hZ hown (ow hw 47 rfl) Via.refl e1 SC (H d4_27) (pc' := 30) rfl (fun T2 X2 e2 => ?_)
    refine gIfEqT X2 hx (H d4_30) (pc' := 58) (by decide) (by decide) (pn := 33) rfl (fun (c30 : cz.toInt = (0 : Int)) => ?_) (fun (c30 : ¬ cz.toInt = (0 : Int)) => ?_)
    · exact absurd c30 hcz
    · refine gLoadAN 34 X2 hx (H d4_33) rfl rfl rfl ?_
      refine gLoadIN 35 X2 hx (H d4_34) rfl rfl ?_
      refine gLoadIN 36 X2 hx (H d4_35) rfl rfl ?_
      refine gCallS X2 hx hZ (y := mn19) hown e2 (by rw [hml]; rfl) (ow hw 65 rfl) (ow hw 66 rfl) (ow hw 67 rfl) (ow hw 68 rfl) (by decide) (argsL := [(.ref x), (.int (0 : Int32)), (.int (3 : Int32))]) (st := []) (c_compress_3 l Z a0 hw x cx ch0 ch1 ch2 h0 A hch0 hch1 hch2) (lenOf pd_20 rfl) (H d4_36) (pc' := 39) rfl rfl (by decide) (W := 0) (Nat.le_of_eq rfl) (by decide) (by decide) (by decide) ?_
      intro T3 v3 L3 X3 hQ3
      obtain ⟨t3, ct3, rfl, gt3, Nq3, Kq3, Aq3⟩ := hQ3
      have N3 := Fr.app (Fr.nil n0) (fun y hy => Nat.le_trans gz (Nq3 y hy))
      have K3 : Keep h0 T3.heap [a] := (Keep.refl h0 [a]).trans Kq3 all0
      have f3_0 := own_sta_keep SC Kq3 ns0
      have f3_1 := E.keep Kq3
      have f3_2 := C.keep Kq3 nin0
      have f3_3 := V.keep Kq3 nin0
      have nt3 : t3 ≠ a := Ne.symm (Nat.ne_of_lt (Nat.lt_of_lt_of_le E.lt gt3))
      refine gStoreA 41 X3 hx (H d4_39) (l' := #[.val (.ref a), .val (.ref x), .val (.int (0 : Int32)), .val (.int (3 : Int32)), .val .null, .val (.ref t3)]) rfl rfl rfl ?_
      refine gLoadAN 42 X3 hx (H d4_41) rfl rfl rfl ?_
      refine gLoadA 44 X3 hx (H d4_42) rfl rfl rfl ?_
      refine gLoadIN 45 X3 hx (H d4_44) rfl rfl ?_
      refine gCallSJ X3 hx hZ (y := mn18) hown rfl (by rw [hml]; rfl) (ow hw 72 rfl) (ow hw 73 rfl) (ow hw 67 rfl) (ow hw 74 rfl) (by decide) (argsL := [(.ref t3), (.int (3 : Int32))]) (st := [(.ref a)]) (c_cfal_3 l Z a0 hw t3 ct3 ch0 ch1 ch2 _ Aq3) (lenOf pd_15 rfl) (H d4_45) (pc' := 48) rfl rfl rfl rfl (by decide) (W := 1) (Nat.le_of_eq rfl) (by decide) (by decide) (by decide) ?_
      intro T4 X4 e4
      refine gPutF X4 hx hZ hown (ow hw 26 rfl) Via.refl e4 f3_2 f3_1 (Or.inr ⟨(ow hw 22 rfl), rfl, hnm⟩) (ow hw 6 rfl) (ty := .byte) (by decide) rfl rfl (H d4_48) (pc' := 51) rfl (fun T5 h5 X5 e5 W5 => ?_)
      have f5_0 := f3_0.wr W5
      have f5_1 := f3_1.wr W5
      have f5_2 := f3_2.same W5
      have f5_3 := f3_3.other W5 (Or.inr (slot_ne (Or.inr (ow hw 21 rfl)) (Or.inr (ow hw 22 rfl)) (by decide) (t := (.array .byte)) (t' := .byte) (by decide) (by decide)))
      have f5_4 := Aq3.other W5 nt3
      have zs5 : h0.size ≤ h5.size := by rw [W5.size]; exact Kq3.1
      have N5 := Fr.snoc X5 N3 ga
      have K5 : Keep h0 h5 [a] := K3.wr W5 (Or.inl (by simp))
      refine gLoadAN 52 X5 hx (H d4_51) rfl rfl rfl ?_
      refine gLoadA 54 X5 hx (H d4_52) rfl rfl rfl ?_
      refine gPutF X5 hx hZ hown (ow hw 25 rfl) Via.refl e5 f5_3 f5_1 (Or.inr ⟨(ow hw 21 rfl), rfl, hnm⟩) (ow hw 6 rfl) (ty := (.array .byte)) (by decide) rfl rfl (H d4_54) (pc' := 57) rfl (fun T6 h6 X6 e6 W6 => ?_)
      have f6_0 := f5_0.wr W6
      have f6_1 := f5_1.wr W6
      have f6_2 := f5_2.other W6 (Or.inr (slot_ne (Or.inr (ow hw 22 rfl)) (Or.inr (ow hw 21 rfl)) (by decide) (t := .byte) (t' := (.array .byte)) (by decide) (by decide)))
      have f6_3 := f5_3.same W6
      have f6_4 := f5_4.other W6 nt3
      have zs6 : h0.size ≤ h6.size := by rw [W6.size]; exact zs5
      have N6 := Fr.snoc X6 N5 ga
      have K6 : Keep h0 h6 [a] := K5.wr W6 (Or.inl (by simp))
      exact gRetV X6 hx hlk hret (H d4_57) (by decide) (by decide) (⟨t3, ct3, rfl, N6, by rw [e6]; exact K6, gt3, by rw [e6]; exact f6_1, by rw [e6]; exact f6_2, by rw [e6]; exact f6_3, by rw [e6]; exact f6_4⟩)
  · exact absurd c5 (by decide)
theorem c_sinit_3 (l : Launch) (Z : State) (a0 : Array Value) (hw : ∀ d ∈ tables_1, d.before a0 Z = true) (a x : Addr) (cx : ClassId) (n0 : Nat) (ch0 ch1 ch2 : Int32) (h0 : Heap) (hCpt : Cpt Z h0) (ga : n0 ≤ a) (gz : n0 ≤ h0.size) (hax : x ≠ a) (E : sE Z h0 a) (C : sC Z h0 a) (V : Fld Z h0 a "java/lang/String" "value" "[B" .null) (A : Arv Z h0 x cx .char 3 [.int ch0, .int ch1, .int ch2] (.int 0)) (hch0 : rg ch0) (hch1 : rg ch1) (hch2 : rg ch2) :
    Ctr l Z mn7 jdk_42_method_3_code 2 none [] ⟨3, 1, 3, 54⟩ #[(.ref a), (.ref x)] h0 (fun v h L => ∃ (t : Addr) (ct : ClassId), v = none ∧ Fr n0 L ∧ Keep h0 h [a] ∧ h0.size ≤ t ∧ sE Z h a ∧ sC Z h a ∧ sV Z h a t ∧ sA Z h t ct 3 [by8 ch0, by8 ch1, by8 ch2]) := by
  refine Ctr.of (plainFor_of_name pn_4) ?_
  intro p e s m below meth c s₁ hx H hml hret hown hnm hZ hlk X0 e0
  refine Goes.cast (show entryFrame m _ _ = mkF m 0 #[.val (.ref a), .val (.ref x)] [] from rfl) ?_
  refine gLoadAN 1 X0 hx (H d8_0) rfl rfl rfl ?_
  refine gLoadAN 2 X0 hx (H d8_1) rfl rfl rfl ?_
  refine gIconst 3 X0 hx (v := (0 : Int32)) (H d8_2) rfl rfl ?_
  refine gLoadAN 4 X0 hx (H d8_3) rfl rfl rfl ?_
  refine gArrLen X0 hx hZ e0 A (H d8_4) (pc' := 5) rfl ?_
  refine gNull 6 X0 hx (H d8_5) rfl ?_
  refine gCallI X0 hx hZ (y := mn8) rfl hown e0 (by rw [hml]; rfl) (ow hw 12 rfl) (ow hw 13 rfl) (ow hw 7 rfl) (ow hw 15 rfl) (by decide) (argsL := [(.ref x), (.int (0 : Int32)), (.int (3 : Int32)), .null]) (st := []) (c_sinit_3v l Z a0 hw a x cx n0 ch0 ch1 ch2 h0 hCpt ga gz hax E C V A hch0 hch1 hch2) (lenOf pd_21 rfl) (H d8_6) (pc' := 9) rfl rfl (by decide) (W := 0) (Nat.le_of_eq rfl) (by decide) (by decide) (by decide) ?_
  intro T1 v1 L1 X1 hQ1
  obtain ⟨t, ct, rfl, Nq, Kq, gt, Eq, Cq, Vq, Aq⟩ := hQ1
  exact gRetV X1 hx hlk hret (H d8_9) (by decide) (by decide) (⟨t, ct, rfl, Nq, Kq, gt, Eq, Cq, Vq, Aq⟩)
theorem c_compress_4i (l : Launch) (Z : State) (a0 : Array Value) (hw : ∀ d ∈ tables_1, d.before a0 Z = true) (x t : Addr) (cx ct : ClassId) (n0 : Nat) (ch0 ch1 ch2 ch3 : Int32) (h0 : Heap) (gt : n0 ≤ t) (hne : x ≠ t) (A : Arv Z h0 x cx .char 4 [.int ch0, .int ch1, .int ch2, .int ch3] (.int 0)) (B : Arv Z h0 t ct .byte 4 [.int 0, .int 0, .int 0, .int 0] (.int 0)) (hch0 : rg ch0) (hch1 : rg ch1) (hch2 : rg ch2) (hch3 : rg ch3) :
    Ctr l Z mn20 jdk_52_method_21_code 7 (some .int) [] ⟨0, 0, 0, 0⟩ #[(.ref x), (.int (0 : Int32)), (.ref t), (.int (0 : Int32)), (.int (4 : Int32))] h0 (fun v h L => v = some (.int 4) ∧ Fr n0 L ∧ Keep h0 h [t] ∧ sA Z h t ct 4 [by8 ch0, by8 ch1, by8 ch2, by8 ch3]) := by
  refine Ctr.of (plainFor_of_name pn_6) ?_
  intro p e s m below meth c s₁ hx H hml hret hown hnm hZ hlk X0 e0
  refine Goes.cast (show entryFrame m _ _ = mkF m 0 #[.val (.ref x), .val (.int (0 : Int32)), .val (.ref t), .val (.int (0 : Int32)), .val (.int (4 : Int32)), .unset, .unset] [] from rfl) ?_
  refine gIconst 1 X0 hx (v := (0 : Int32)) (H d17_0) rfl rfl ?_
  refine gStoreI 3 X0 hx (H d17_1) (l' := #[.val (.ref x), .val (.int (0 : Int32)), .val (.ref t), .val (.int (0 : Int32)), .val (.int (4 : Int32)), .val (.int (0 : Int32)), .unset]) rfl rfl ?_
  refine gLoadI 5 X0 hx (H d17_3) rfl rfl ?_
  refine gLoadI 7 X0 hx (H d17_5) rfl rfl ?_
  refine gIcmpGe X0 hx (H d17_7) (pc' := 44) (by decide) (by decide) (pn := 10) rfl (fun (c7 : (4 : Int) ≤ (0 : Int)) => ?_) (fun (c7 : (0 : Int) < (4 : Int)) => ?_)
  · exact absurd c7 (by decide)
  · refine gLoadAN 11 X0 hx (H d17_10) rfl rfl rfl ?_
    refine gLoadIN 12 X0 hx (H d17_11) rfl rfl ?_
    refine gCaload X0 hx hZ e0 A (j := (0 : Int32)) (v := (.int ch0)) (by decide) (by decide) rfl (H d17_12) (pc' := 13) rfl ?_
    refine gStoreI 15 X0 hx (H d17_13) (l' := #[.val (.ref x), .val (.int (0 : Int32)), .val (.ref t), .val (.int (0 : Int32)), .val (.int (4 : Int32)), .val (.int (0 : Int32)), .val (.int ch0)]) rfl rfl ?_
    refine gLoadI 17 X0 hx (H d17_15) rfl rfl ?_
    refine gSipush 20 X0 hx (v := (255 : Int32)) (H d17_17) rfl rfl ?_
    refine gIcmpLe X0 hx (H d17_20) (pc' := 26) (by decide) (by decide) (pn := 23) rfl (fun (c20 : ch0.toInt ≤ (255 : Int)) => ?_) (fun (c20 : (255 : Int) < ch0.toInt) => ?_)
    · refine gLoadAN 27 X0 hx (H d17_26) rfl rfl rfl ?_
      refine gLoadIN 28 X0 hx (H d17_27) rfl rfl ?_
      refine gLoadI 30 X0 hx (H d17_28) rfl rfl ?_
      refine gI2b 31 X0 hx (H d17_30) rfl ?_
      refine gBastore X0 hx hZ e0 (x := (ch0.toInt8.toInt32)) B (j := (0 : Int32)) (by decide) (by decide) 0 (by decide) (by simp) (H d17_31) (pc' := 32) rfl (fun T1 h1 X1 e1 W1 A1 => ?_)
      have f1_0 := A.other W1 hne
      have zs1 : h0.size ≤ h1.size := by rw [W1.size]; exact (Nat.le_refl _)
      have N1 := Fr.snoc X1 (Fr.nil n0) gt
      have K1 : Keep h0 h1 [t] := (Keep.refl h0 [t]).wr W1 (Or.inl (by simp))
      have V1 : Arv Z h1 t _ .byte (4 : Int32) [(.int (ch0.toInt8.toInt32)), (.int (0 : Int32)), (.int (0 : Int32)), (.int (0 : Int32))] (.int 0) := (by have q := A1; rw [own_nb] at q; exact q)
      refine gIinc X1 hx (v := (1 : Int32)) (H d17_32) (l' := #[.val (.ref x), .val (.int (1 : Int32)), .val (.ref t), .val (.int (0 : Int32)), .val (.int (4 : Int32)), .val (.int (0 : Int32)), .val (.int ch0)]) (pc' := 35) rfl rfl rfl rfl ?_
      refine gIinc X1 hx (v := (1 : Int32)) (H d17_35) (l' := #[.val (.ref x), .val (.int (1 : Int32)), .val (.ref t), .val (.int (1 : Int32)), .val (.int (4 : Int32)), .val (.int (0 : Int32)), .val (.int ch0)]) (pc' := 38) rfl rfl rfl rfl ?_
      refine gIinc X1 hx (v := (1 : Int32)) (H d17_38) (l' := #[.val (.ref x), .val (.int (1 : Int32)), .val (.ref t), .val (.int (1 : Int32)), .val (.int (4 : Int32)), .val (.int (1 : Int32)), .val (.int ch0)]) (pc' := 41) rfl rfl rfl rfl ?_
      refine gGoto X1 hx (H d17_41) (pc' := 3) (by decide) (by decide) ?_
      refine gLoadI 5 X1 hx (H d17_3) rfl rfl ?_
      refine gLoadI 7 X1 hx (H d17_5) rfl rfl ?_
      refine gIcmpGe X1 hx (H d17_7) (pc' := 44) (by decide) (by decide) (pn := 10) rfl (fun (c7' : (4 : Int) ≤ (1 : Int)) => ?_) (fun (c7' : (1 : Int) < (4 : Int)) => ?_)
      · exact absurd c7' (by decide)
      · refine gLoadAN 11 X1 hx (H d17_10) rfl rfl rfl ?_
        refine gLoadIN 12 X1 hx (H d17_11) rfl rfl ?_
        refine gCaload X1 hx hZ e1 f1_0 (j := (1 : Int32)) (v := (.int ch1)) (by decide) (by decide) rfl (H d17_12) (pc' := 13) rfl ?_
        refine gStoreI 15 X1 hx (H d17_13) (l' := #[.val (.ref x), .val (.int (1 : Int32)), .val (.ref t), .val (.int (1 : Int32)), .val (.int (4 : Int32)), .val (.int (1 : Int32)), .val (.int ch1)]) rfl rfl ?_
        refine gLoadI 17 X1 hx (H d17_15) rfl rfl ?_
        refine gSipush 20 X1 hx (v := (255 : Int32)) (H d17_17) rfl rfl ?_
        refine gIcmpLe X1 hx (H d17_20) (pc' := 26) (by decide) (by decide) (pn := 23) rfl (fun (c20' : ch1.toInt ≤ (255 : Int)) => ?_) (fun (c20' : (255 : Int) < ch1.toInt) => ?_)
        · refine gLoadAN 27 X1 hx (H d17_26) rfl rfl rfl ?_
          refine gLoadIN 28 X1 hx (H d17_27) rfl rfl ?_
          refine gLoadI 30 X1 hx (H d17_28) rfl rfl ?_
          refine gI2b 31 X1 hx (H d17_30) rfl ?_
          refine gBastore X1 hx hZ e1 (x := (ch1.toInt8.toInt32)) V1 (j := (1 : Int32)) (by decide) (by decide) 1 (by decide) (by simp) (H d17_31) (pc' := 32) rfl (fun T2 h2 X2 e2 W2 A2 => ?_)
          have f2_0 := f1_0.other W2 hne
          have zs2 : h0.size ≤ h2.size := by rw [W2.size]; exact zs1
          have N2 := Fr.snoc X2 N1 gt
          have K2 : Keep h0 h2 [t] := K1.wr W2 (Or.inl (by simp))
          have V2 : Arv Z h2 t _ .byte (4 : Int32) [(.int (ch0.toInt8.toInt32)), (.int (ch1.toInt8.toInt32)), (.int (0 : Int32)), (.int (0 : Int32))] (.int 0) := (by have q := A2; rw [own_nb] at q; exact q)
          refine gIinc X2 hx (v := (1 : Int32)) (H d17_32) (l' := #[.val (.ref x), .val (.int (2 : Int32)), .val (.ref t), .val (.int (1 : Int32)), .val (.int (4 : Int32)), .val (.int (1 : Int32)), .val (.int ch1)]) (pc' := 35) rfl rfl rfl rfl ?_
          refine gIinc X2 hx (v := (1 : Int32)) (H d17_35) (l' := #[.val (.ref x), .val (.int (2 : Int32)), .val (.ref t), .val (.int (2 : Int32)), .val (.int (4 : Int32)), .val (.int (1 : Int32)), .val (.int ch1)]) (pc' := 38) rfl rfl rfl rfl ?_
          refine gIinc X2 hx (v := (1 : Int32)) (H d17_38) (l' := #[.val (.ref x), .val (.int (2 : Int32)), .val (.ref t), .val (.int (2 : Int32)), .val (.int (4 : Int32)), .val (.int (2 : Int32)), .val (.int ch1)]) (pc' := 41) rfl rfl rfl rfl ?_
          refine gGoto X2 hx (H d17_41) (pc' := 3) (by decide) (by decide) ?_
          refine gLoadI 5 X2 hx (H d17_3) rfl rfl ?_
          refine gLoadI 7 X2 hx (H d17_5) rfl rfl ?_
          refine gIcmpGe X2 hx (H d17_7) (pc' := 44) (by decide) (by decide) (pn := 10) rfl (fun (c7'' : (4 : Int) ≤ (2 : Int)) => ?_) (fun (c7'' : (2 : Int) < (4 : Int)) => ?_)
          · exact absurd c7'' (by decide)
          · refine gLoadAN 11 X2 hx (H d17_10) rfl rfl rfl ?_
            refine gLoadIN 12 X2 hx (H d17_11) rfl rfl ?_
            refine gCaload X2 hx hZ e2 f2_0 (j := (2 : Int32)) (v := (.int ch2)) (by decide) (by decide) rfl (H d17_12) (pc' := 13) rfl ?_
            refine gStoreI 15 X2 hx (H d17_13) (l' := #[.val (.ref x), .val (.int (2 : Int32)), .val (.ref t), .val (.int (2 : Int32)), .val (.int (4 : Int32)), .val (.int (2 : Int32)), .val (.int ch2)]) rfl rfl ?_
            refine gLoadI 17 X2 hx (H d17_15) rfl rfl ?_
            refine gSipush 20 X2 hx (v := (255 : Int32)) (H d17_17) rfl rfl ?_
            refine gIcmpLe X2 hx (H d17_20) (pc' := 26) (by decide) (by decide) (pn := 23) rfl (fun (c20'' : ch2.toInt ≤ (255 : Int)) => ?_) (fun (c20'' : (255 : Int) < ch2.toInt) => ?_)
            · refine gLoadAN 27 X2 hx (H d17_26) rfl rfl rfl ?_
              refine gLoadIN 28 X2 hx (H d17_27) rfl rfl ?_
              refine gLoadI 30 X2 hx (H d17_28) rfl rfl ?_
              refine gI2b 31 X2 hx (H d17_30) rfl ?_
              refine gBastore X2 hx hZ e2 (x := (ch2.toInt8.toInt32)) V2 (j := (2 : Int32)) (by decide) (by decide) 2 (by decide) (by simp) (H d17_31) (pc' := 32) rfl (fun T3 h3 X3 e3 W3 A3 => ?_)
              have f3_0 := f2_0.other W3 hne
              have zs3 : h0.size ≤ h3.size := by rw [W3.size]; exact zs2
              have N3 := Fr.snoc X3 N2 gt
              have K3 : Keep h0 h3 [t] := K2.wr W3 (Or.inl (by simp))
              have V3 : Arv Z h3 t _ .byte (4 : Int32) [(.int (ch0.toInt8.toInt32)), (.int (ch1.toInt8.toInt32)), (.int (ch2.toInt8.toInt32)), (.int (0 : Int32))] (.int 0) := (by have q := A3; rw [own_nb] at q; exact q)
              refine gIinc X3 hx (v := (1 : Int32)) (H d17_32) (l' := #[.val (.ref x), .val (.int (3 : Int32)), .val (.ref t), .val (.int (2 : Int32)), .val (.int (4 : Int32)), .val (.int (2 : Int32)), .val (.int ch2)]) (pc' := 35) rfl rfl rfl rfl ?_
              refine gIinc X3 hx (v := (1 : Int32)) (H d17_35) (l' := #[.val (.ref x), .val (.int (3 : Int32)), .val (.ref t), .val (.int (3 : Int32)), .val (.int (4 : Int32)), .val (.int (2 : Int32)), .val (.int ch2)]) (pc' := 38) rfl rfl rfl rfl ?_
              refine gIinc X3 hx (v := (1 : Int32)) (H d17_38) (l' := #[.val (.ref x), .val (.int (3 : Int32)), .val (.ref t), .val (.int (3 : Int32)), .val (.int (4 : Int32)), .val (.int (3 : Int32)), .val (.int ch2)]) (pc' := 41) rfl rfl rfl rfl ?_
              refine gGoto X3 hx (H d17_41) (pc' := 3) (by decide) (by decide) ?_
              refine gLoadI 5 X3 hx (H d17_3) rfl rfl ?_
              refine gLoadI 7 X3 hx (H d17_5) rfl rfl ?_
              refine gIcmpGe X3 hx (H d17_7) (pc' := 44) (by decide) (by decide) (pn := 10) rfl (fun (c7''' : (4 : Int) ≤ (3 : Int)) => ?_) (fun (c7''' : (3 : Int) < (4 : Int)) => ?_)
              · exact absurd c7''' (by decide)
              · refine gLoadAN 11 X3 hx (H d17_10) rfl rfl rfl ?_
                refine gLoadIN 12 X3 hx (H d17_11) rfl rfl ?_
                refine gCaload X3 hx hZ e3 f3_0 (j := (3 : Int32)) (v := (.int ch3)) (by decide) (by decide) rfl (H d17_12) (pc' := 13) rfl ?_
                refine gStoreI 15 X3 hx (H d17_13) (l' := #[.val (.ref x), .val (.int (3 : Int32)), .val (.ref t), .val (.int (3 : Int32)), .val (.int (4 : Int32)), .val (.int (3 : Int32)), .val (.int ch3)]) rfl rfl ?_
                refine gLoadI 17 X3 hx (H d17_15) rfl rfl ?_
                refine gSipush 20 X3 hx (v := (255 : Int32)) (H d17_17) rfl rfl ?_
                refine gIcmpLe X3 hx (H d17_20) (pc' := 26) (by decide) (by decide) (pn := 23) rfl (fun (c20''' : ch3.toInt ≤ (255 : Int)) => ?_) (fun (c20''' : (255 : Int) < ch3.toInt) => ?_)
                · refine gLoadAN 27 X3 hx (H d17_26) rfl rfl rfl ?_
                  refine gLoadIN 28 X3 hx (H d17_27) rfl rfl ?_
                  refine gLoadI 30 X3 hx (H d17_28) rfl rfl ?_
                  refine gI2b 31 X3 hx (H d17_30) rfl ?_
                  refine gBastore X3 hx hZ e3 (x := (ch3.toInt8.toInt32)) V3 (j := (3 : Int32)) (by decide) (by decide) 3 (by decide) (by simp) (H d17_31) (pc' := 32) rfl (fun T4 h4 X4 e4 W4 A4 => ?_)
                  have f4_0 := f3_0.other W4 hne
                  have zs4 : h0.size ≤ h4.size := by rw [W4.size]; exact zs3
                  have N4 := Fr.snoc X4 N3 gt
                  have K4 : Keep h0 h4 [t] := K3.wr W4 (Or.inl (by simp))
                  have V4 : Arv Z h4 t _ .byte (4 : Int32) [(.int (ch0.toInt8.toInt32)), (.int (ch1.toInt8.toInt32)), (.int (ch2.toInt8.toInt32)), (.int (ch3.toInt8.toInt32))] (.int 0) := (by have q := A4; rw [own_nb] at q; exact q)
                  refine gIinc X4 hx (v := (1 : Int32)) (H d17_32) (l' := #[.val (.ref x), .val (.int (4 : Int32)), .val (.ref t), .val (.int (3 : Int32)), .val (.int (4 : Int32)), .val (.int (3 : Int32)), .val (.int ch3)]) (pc' := 35) rfl rfl rfl rfl ?_
                  refine gIinc X4 hx (v := (1 : Int32)) (H d17_35) (l' := #[.val (.ref x), .val (.int (4 : Int32)), .val (.ref t), .val (.int (4 : Int32)), .val (.int (4 : Int32)), .val (.int (3 : Int32)), .val (.int ch3)]) (pc' := 38) rfl rfl rfl rfl ?_
                  refine gIinc X4 hx (v := (1 : Int32)) (H d17_38) (l' := #[.val (.ref x), .val (.int (4 : Int32)), .val (.ref t), .val (.int (4 : Int32)), .val (.int (4 : Int32)), .val (.int (4 : Int32)), .val (.int ch3)]) (pc' := 41) rfl rfl rfl rfl ?_
                  refine gGoto X4 hx (H d17_41) (pc' := 3) (by decide) (by decide) ?_
                  refine gLoadI 5 X4 hx (H d17_3) rfl rfl ?_
                  refine gLoadI 7 X4 hx (H d17_5) rfl rfl ?_
                  refine gIcmpGe X4 hx (H d17_7) (pc' := 44) (by decide) (by decide) (pn := 10) rfl (fun (c7'''' : (4 : Int) ≤ (4 : Int)) => ?_) (fun (c7'''' : (4 : Int) < (4 : Int)) => ?_)
                  · refine gLoadI 46 X4 hx (H d17_44) rfl rfl ?_
                    exact gRetI X4 hx hlk hret (H d17_46) (by decide) (by decide) (⟨rfl, N4, by rw [e4]; exact K4, by rw [e4]; exact V4⟩)
                  · exact absurd c7'''' (by decide)
                · exact absurd c20''' (by omega)
            · exact absurd c20'' (by omega)
        · exact absurd c20' (by omega)
    · exact absurd c20 (by omega)
theorem c_compress_4 (l : Launch) (Z : State) (a0 : Array Value) (hw : ∀ d ∈ tables_1, d.before a0 Z = true) (x : Addr) (cx : ClassId) (ch0 ch1 ch2 ch3 : Int32) (h0 : Heap) (A : Arv Z h0 x cx .char 4 [.int ch0, .int ch1, .int ch2, .int ch3] (.int 0)) (hch0 : rg ch0) (hch1 : rg ch1) (hch2 : rg ch2) (hch3 : rg ch3) :
    Ctr l Z mn19 jdk_52_method_16_code 6 (some (.array .byte)) [] ⟨1, 1, 4, 18⟩ #[(.ref x), (.int (0 : Int32)), (.int (4 : Int32))] h0 (fun v h L => ∃ (t : Addr) (ct : ClassId), v = some (.ref t) ∧ h0.size ≤ t ∧ Fr h0.size L ∧ Keep h0 h [] ∧ sA Z h t ct 4 [by8 ch0, by8 ch1, by8 ch2, by8 ch3]) := by
  refine Ctr.of (plainFor_of_name pn_6) ?_
  intro p e s m below meth c s₁ hx H hml hret hown hnm hZ hlk X0 e0
  refine Goes.cast (show entryFrame m _ _ = mkF m 0 #[.val (.ref x), .val (.int (0 : Int32)), .val (.int (4 : Int32)), .unset, .unset, .unset] [] from rfl) ?_
  refine gLoadIN 1 X0 hx (H d16_0) rfl rfl ?_
  refine gNewP X0 hx hZ (ow hw 20 rfl) e0 (n := (4 : Int32)) (H d16_1) (by decide) (cap := 4) (by decide) (by decide) (by decide) (by decide) 4 (pc' := 3) rfl (fun T1 h1 b1 ck1 X1 e1 g1 E1 A1 => ?_)
  have ne_x_b1 : x ≠ b1 := Nat.ne_of_lt (Nat.lt_of_lt_of_eq A.lt g1.symm)
  have f1_0 := A.ext E1
  have sz_b1 : h0.size ≤ b1 := Nat.le_trans (Nat.le_refl _) (Nat.le_of_eq g1.symm)
  have zs1 : h0.size ≤ h1.size := Nat.le_trans (Nat.le_refl _) E1.1
  have K1 : Keep h0 h1 [] := (Keep.refl h0 []).ext E1
  have V1 : Arv Z h1 b1 ck1 .byte (4 : Int32) [(.int (0 : Int32)), (.int (0 : Int32)), (.int (0 : Int32)), (.int (0 : Int32))] (.int (0 : Int32)) := A1
  refine gStoreAN 4 X1 hx (H d16_3) (l' := #[.val (.ref x), .val (.int (0 : Int32)), .val (.int (4 : Int32)), .val (.ref b1), .unset, .unset]) rfl rfl rfl ?_
  refine gLoadAN 5 X1 hx (H d16_4) rfl rfl rfl ?_
  refine gLoadIN 6 X1 hx (H d16_5) rfl rfl ?_
  refine gLoadAN 7 X1 hx (H d16_6) rfl rfl rfl ?_
  refine gIconst 8 X1 hx (v := (0 : Int32)) (H d16_7) rfl rfl ?_
  refine gLoadIN 9 X1 hx (H d16_8) rfl rfl ?_
  refine gCallS X1 hx hZ (y := mn20) hown e1 (by rw [hml]; rfl) (ow hw 69 rfl) (ow hw 70 rfl) (ow hw 67 rfl) (ow hw 71 rfl) (by decide) (argsL := [(.ref x), (.int (0 : Int32)), (.ref b1), (.int (0 : Int32)), (.int (4 : Int32))]) (st := []) (c_compress_4i l Z a0 hw x b1 cx ck1 h0.size ch0 ch1 ch2 ch3 h1 sz_b1 ne_x_b1 f1_0 V1 hch0 hch1 hch2 hch3) (lenOf pd_22 rfl) (H d16_9) (pc' := 12) rfl rfl (by decide) (W := 0) (Nat.le_of_eq rfl) (by decide) (by decide) (by decide) ?_
  intro T2 v2 L2 X2 hQ2
  obtain ⟨rfl, Nq2, Kq2, Aq2⟩ := hQ2
  have N2 := Fr.app (Fr.nil h0.size) Nq2
  have K2 : Keep h0 T2.heap [] := K1.trans Kq2 (allS (Or.inr sz_b1) all0)
  refine gStoreI 14 X2 hx (H d16_12) (l' := #[.val (.ref x), .val (.int (0 : Int32)), .val (.int (4 : Int32)), .val (.ref b1), .val (.int (4 : Int32)), .unset]) rfl rfl ?_
  refine gLoadI 16 X2 hx (H d16_14) rfl rfl ?_
  refine gLoadIN 17 X2 hx (H d16_16) rfl rfl ?_
  refine gIcmpEqT X2 hx (H d16_17) (pc' := 57) (by decide) (by decide) (pn := 20) rfl (fun (c17 : (4 : Int) = (4 : Int)) => ?_) (fun (c17 : ¬ (4 : Int) = (4 : Int)) => ?_)
  · refine gLoadAN 58 X2 hx (H d16_57) rfl rfl rfl ?_
    exact gRetA X2 hx hlk hret rfl rfl (H d16_58) (by decide) (by decide) (⟨b1, _, rfl, sz_b1, N2, K2, Aq2⟩)
  · exact absurd c17 (by decide)
theorem c_cfal_4 (l : Launch) (Z : State) (a0 : Array Value) (hw : ∀ d ∈ tables_1, d.before a0 Z = true) (t : Addr) (ck : ClassId) (ch0 ch1 ch2 ch3 : Int32) (h0 : Heap) (A : sA Z h0 t ck 4 [by8 ch0, by8 ch1, by8 ch2, by8 ch3]) :
    Ctr l Z mn18 jdk_52_method_15_code 2 (some .byte) [] ⟨0, 0, 0, 0⟩ #[(.ref t), (.int (4 : Int32))] h0 (Just h0 (.int 0)) := by
  refine Ctr.of (plainFor_of_name pn_6) ?_
  intro p e s m below meth c s₁ hx H hml hret hown hnm hZ hlk X0 e0
  refine Goes.cast (show entryFrame m _ _ = mkF m 0 #[.val (.ref t), .val (.int (4 : Int32))] [] from rfl) ?_
  refine gLoadIN 1 X0 hx (H d15_0) rfl rfl ?_
  refine gLoadAN 2 X0 hx (H d15_1) rfl rfl rfl ?_
  refine gArrLen X0 hx hZ e0 A (H d15_2) (pc' := 3) rfl ?_
  refine gIsub 4 X0 hx (H d15_3) rfl ?_
  show Goes p e below _ s₁ (mkF m 4 #[.val (.ref t), .val (.int (4 : Int32))] [(.int (0 : Int32))])
  refine gBipush 6 X0 hx (v := (31 : Int32)) (H d15_4) rfl rfl ?_
  refine gIushr 7 X0 hx (H d15_6) rfl ?_
  show Goes p e below _ s₁ (mkF m 7 #[.val (.ref t), .val (.int (4 : Int32))] [(.int (0 : Int32))])
  refine gI2b 8 X0 hx (H d15_7) rfl ?_
  show Goes p e below _ s₁ (mkF m 8 #[.val (.ref t), .val (.int (4 : Int32))] [(.int (0 : Int32))])
  exact gRetN X0 hx hlk hret (by simp) (H d15_8) (w := (0 : Int32)) rfl (by decide) (by decide) (⟨rfl, e0, rfl⟩)
theorem c_sinit_4v (l : Launch) (Z : State) (a0 : Array Value) (hw : ∀ d ∈ tables_1, d.before a0 Z = true) (a x : Addr) (cx : ClassId) (n0 : Nat) (ch0 ch1 ch2 ch3 : Int32) (h0 : Heap) (hCpt : Cpt Z h0) (ga : n0 ≤ a) (gz : n0 ≤ h0.size) (hax : x ≠ a) (E : sE Z h0 a) (C : sC Z h0 a) (V : Fld Z h0 a "java/lang/String" "value" "[B" .null) (A : Arv Z h0 x cx .char 4 [.int ch0, .int ch1, .int ch2, .int ch3] (.int 0)) (hch0 : rg ch0) (hch1 : rg ch1) (hch2 : rg ch2) (hch3 : rg ch3) :
    Ctr l Z mn8 jdk_42_method_149_code 6 none [] ⟨2, 1, 4, 37⟩ #[(.ref a), (.ref x), (.int (0 : Int32)), (.int (4 : Int32)), .null] h0 (fun v h L => ∃ (t : Addr) (ct : ClassId), v = none ∧ Fr n0 L ∧ Keep h0 h [a] ∧ h0.size ≤ t ∧ sE Z h a ∧ sC Z h a ∧ sV Z h a t ∧ sA Z h t ct 4 [by8 ch0, by8 ch1, by8 ch2, by8 ch3]) := by
  refine Ctr.of (plainFor_of_name pn_4) ?_
  intro p e s m below meth c s₁ hx H hml hret hown hnm hZ hlk X0 e0
  refine Goes.cast (show entryFrame m _ _ = mkF m 0 #[.val (.ref a), .val (.ref x), .val (.int (0 : Int32)), .val (.int (4 : Int32)), .val .null, .unset] [] from rfl) ?_
  have hCpt0 := hCpt
  obtain ⟨cz, SC, hcz⟩ := hCpt0
  refine gLoadAN 1 X0 hx (H d4_0) rfl rfl rfl ?_
  refine gInitO X0 hx hZ hown (ow hw 16 rfl) (ow hw 17 rfl) (ow hw 18 rfl) e0 (by rw [hml]; rfl) (H d4_1) (pc' := 4) rfl (by decide) (W := 0) (Nat.le_of_eq rfl) (by decide) (fun T1 X1 e1 => ?_)
  refine gLoadIN 5 X1 hx (H d4_4) rfl rfl ?_
  refine gIfNeT X1 hx (H d4_5) (pc' := 27) (by decide) (by decide) (pn := 8) rfl (fun (c5 : ¬ (4 : Int) = (0 : Int)) => ?_) (fun (c5 : (4 : Int) = (0 : Int)) => ?_)
  · refine gGetS X1 hx hZ hown (ow hw 47 rfl) Via.refl e1 SC (H d4_27) (pc' := 30) rfl (fun T2 X2 e2 => ?_)
    refine gIfEqT X2 hx (H d4_30) (pc' := 58) (by decide) (by decide) (pn := 33) rfl (fun (c30 : cz.toInt = (0 : Int)) => ?_) (fun (c30 : ¬ cz.toInt = (0 : Int)) => ?_)
    · exact absurd c30 hcz
    · refine gLoadAN 34 X2 hx (H d4_33) rfl rfl rfl ?_
      refine gLoadIN 35 X2 hx (H d4_34) rfl rfl ?_
      refine gLoadIN 36 X2 hx (H d4_35) rfl rfl ?_
      refine gCallS X2 hx hZ (y := mn19) hown e2 (by rw [hml]; rfl) (ow hw 65 rfl) (ow hw 66 rfl) (ow hw 67 rfl) (ow hw 68 rfl) (by decide) (argsL := [(.ref x), (.int (0 : Int32)), (.int (4 : Int32))]) (st := []) (c_compress_4 l Z a0 hw x cx ch0 ch1 ch2 ch3 h0 A hch0 hch1 hch2 hch3) (lenOf pd_20 rfl) (H d4_36) (pc' := 39) rfl rfl (by decide) (W := 0) (Nat.le_of_eq rfl) (by decide) (by decide) (by decide) ?_
      intro T3 v3 L3 X3 hQ3
      obtain ⟨t3, ct3, rfl, gt3, Nq3, Kq3, Aq3⟩ := hQ3
      have N3 := Fr.app (Fr.nil n0) (fun y hy => Nat.le_trans gz (Nq3 y hy))
      have K3 : Keep h0 T3.heap [a] := (Keep.refl h0 [a]).trans Kq3 all0
      have f3_0 := own_sta_keep SC Kq3 ns0
      have f3_1 := E.keep Kq3
      have f3_2 := C.keep Kq3 nin0
      have f3_3 := V.keep Kq3 nin0
      have nt3 : t3 ≠ a := Ne.symm (Nat.ne_of_lt (Nat.lt_of_lt_of_le E.lt gt3))
      refine gStoreA 41 X3 hx (H d4_39) (l' := #[.val (.ref a), .val (.ref x), .val (.int (0 : Int32)), .val (.int (4 : Int32)), .val .null, .val (.ref t3)]) rfl rfl rfl ?_
      refine gLoadAN 42 X3 hx (H d4_41) rfl rfl rfl ?_
      refine gLoadA 44 X3 hx (H d4_42) rfl rfl rfl ?_
      refine gLoadIN 45 X3 hx (H d4_44) rfl rfl ?_
      refine gCallSJ X3 hx hZ (y := mn18) hown rfl (by rw [hml]; rfl) (ow hw 72 rfl) (ow hw 73 rfl) (ow hw 67 rfl) (ow hw 74 rfl) (by decide) (argsL := [(.ref t3), (.int (4 : Int32))]) (st := [(.ref a)]) (c_cfal_4 l Z a0 hw t3 ct3 ch0 ch1 ch2 ch3 _ Aq3) (lenOf pd_15 rfl) (H d4_45) (pc' := 48) rfl rfl rfl rfl (by decide) (W := 1) (Nat.le_of_eq rfl) (by decide) (by decide) (by decide) ?_
      intro T4 X4 e4
      refine gPutF X4 hx hZ hown (ow hw 26 rfl) Via.refl e4 f3_2 f3_1 (Or.inr ⟨(ow hw 22 rfl), rfl, hnm⟩) (ow hw 6 rfl) (ty := .byte) (by decide) rfl rfl (H d4_48) (pc' := 51) rfl (fun T5 h5 X5 e5 W5 => ?_)
      have f5_0 := f3_0.wr W5
      have f5_1 := f3_1.wr W5
      have f5_2 := f3_2.same W5
      have f5_3 := f3_3.other W5 (Or.inr (slot_ne (Or.inr (ow hw 21 rfl)) (Or.inr (ow hw 22 rfl)) (by decide) (t := (.array .byte)) (t' := .byte) (by decide) (by decide)))
      have f5_4 := Aq3.other W5 nt3
      have zs5 : h0.size ≤ h5.size := by rw [W5.size]; exact Kq3.1
      have N5 := Fr.snoc X5 N3 ga
      have K5 : Keep h0 h5 [a] := K3.wr W5 (Or.inl (by simp))
      refine gLoadAN 52 X5 hx (H d4_51) rfl rfl rfl ?_
      refine gLoadA 54 X5 hx (H d4_52) rfl rfl rfl ?_
      refine gPutF X5 hx hZ hown (ow hw 25 rfl) Via.refl e5 f5_3 f5_1 (Or.inr ⟨(ow hw 21 rfl), rfl, hnm⟩) (ow hw 6 rfl) (ty := (.array .byte)) (by decide) rfl rfl (H d4_54) (pc' := 57) rfl (fun T6 h6 X6 e6 W6 => ?_)
      have f6_0 := f5_0.wr W6
      have f6_1 := f5_1.wr W6
      have f6_2 := f5_2.other W6 (Or.inr (slot_ne (Or.inr (ow hw 22 rfl)) (Or.inr (ow hw 21 rfl)) (by decide) (t := .byte) (t' := (.array .byte)) (by decide) (by decide)))
      have f6_3 := f5_3.same W6
      have f6_4 := f5_4.other W6 nt3
      have zs6 : h0.size ≤ h6.size := by rw [W6.size]; exact zs5
      have N6 := Fr.snoc X6 N5 ga
      have K6 : Keep h0 h6 [a] := K5.wr W6 (Or.inl (by simp))
      exact gRetV X6 hx hlk hret (H d4_57) (by decide) (by decide) (⟨t3, ct3, rfl, N6, by rw [e6]; exact K6, gt3, by rw [e6]; exact f6_1, by rw [e6]; exact f6_2, by rw [e6]; exact f6_3, by rw [e6]; exact f6_4⟩)
  · exact absurd c5 (by decide)
theorem c_sinit_4 (l : Launch) (Z : State) (a0 : Array Value) (hw : ∀ d ∈ tables_1, d.before a0 Z = true) (a x : Addr) (cx : ClassId) (n0 : Nat) (ch0 ch1 ch2 ch3 : Int32) (h0 : Heap) (hCpt : Cpt Z h0) (ga : n0 ≤ a) (gz : n0 ≤ h0.size) (hax : x ≠ a) (E : sE Z h0 a) (C : sC Z h0 a) (V : Fld Z h0 a "java/lang/String" "value" "[B" .null) (A : Arv Z h0 x cx .char 4 [.int ch0, .int ch1, .int ch2, .int ch3] (.int 0)) (hch0 : rg ch0) (hch1 : rg ch1) (hch2 : rg ch2) (hch3 : rg ch3) :
    Ctr l Z mn7 jdk_42_method_3_code 2 none [] ⟨3, 1, 4, 54⟩ #[(.ref a), (.ref x)] h0 (fun v h L => ∃ (t : Addr) (ct : ClassId), v = none ∧ Fr n0 L ∧ Keep h0 h [a] ∧ h0.size ≤ t ∧ sE Z h a ∧ sC Z h a ∧ sV Z h a t ∧ sA Z h t ct 4 [by8 ch0, by8 ch1, by8 ch2, by8 ch3]) := by
  refine Ctr.of (plainFor_of_name pn_4) ?_
  intro p e s m below meth c s₁ hx H hml hret hown hnm hZ hlk X0 e0
  refine Goes.cast (show entryFrame m _ _ = mkF m 0 #[.val (.ref a), .val (.ref x)] [] from rfl) ?_
  refine gLoadAN 1 X0 hx (H d8_0) rfl rfl rfl ?_
  refine gLoadAN 2 X0 hx (H d8_1) rfl rfl rfl ?_
  refine gIconst 3 X0 hx (v := (0 : Int32)) (H d8_2) rfl rfl ?_
  refine gLoadAN 4 X0 hx (H d8_3) rfl rfl rfl ?_
  refine gArrLen X0 hx hZ e0 A (H d8_4) (pc' := 5) rfl ?_
  refine gNull 6 X0 hx (H d8_5) rfl ?_
  refine gCallI X0 hx hZ (y := mn8) rfl hown e0 (by rw [hml]; rfl) (ow hw 12 rfl) (ow hw 13 rfl) (ow hw 7 rfl) (ow hw 15 rfl) (by decide) (argsL := [(.ref x), (.int (0 : Int32)), (.int (4 : Int32)), .null]) (st := []) (c_sinit_4v l Z a0 hw a x cx n0 ch0 ch1 ch2 ch3 h0 hCpt ga gz hax E C V A hch0 hch1 hch2 hch3) (lenOf pd_21 rfl) (H d8_6) (pc' := 9) rfl rfl (by decide) (W := 0) (Nat.le_of_eq rfl) (by decide) (by decide) (by decide) ?_
  intro T1 v1 L1 X1 hQ1
  obtain ⟨t, ct, rfl, Nq, Kq, gt, Eq, Cq, Vq, Aq⟩ := hQ1
  exact gRetV X1 hx hlk hret (H d8_9) (by decide) (by decide) (⟨t, ct, rfl, Nq, Kq, gt, Eq, Cq, Vq, Aq⟩)
theorem pd_5 : parseMethodDescriptor "(I)C" = some ⟨[.int], some .char⟩ := by decide +kernel
theorem pd_19 : parseMethodDescriptor "([C)V" = some ⟨[(.array .char)], none⟩ := by decide +kernel
theorem pd_13 : parseMethodDescriptor "(Ljava/lang/String;)Z" = some ⟨[(.object "java/lang/String")], some .boolean⟩ := by decide +kernel
theorem pd_4 : parseMethodDescriptor "(C)Z" = some ⟨[.char], some .boolean⟩ := by decide +kernel
theorem c_law (l : Launch) (Z : State) (a0 : Array Value) (hw : ∀ d ∈ tables_1, d.before a0 Z = true) (p0 p1 p2 p3 p4 : Int32) (h0 : Heap) (hEL : EW Z a0 [("java/lang/String", 7)]) (hCpt : Cpt Z h0) (hSio : Sio Z h0) (hU : U16 Z h0) :
    CtrH l Z [("java/lang/String", 7)] [] x code maxLocals ret tables_1 room_1 #[(.int p0), (.int p1), (.int p2), (.int p3), (.int p4)] h0 (Law1 h0) := by
  refine CtrH.of (plainFor_of_name pn_1) ?_
  intro p e s m below meth c s₁ hx H hml hret hown hnm hZ hlk X0 e0 hS H0 hSafe
  replace hml : c.maxLocals = 12 := hml
  refine Goes.cast (show entryFrame m _ _ = mkF m 0 #[.val (.int p0), .val (.int p1), .val (.int p2), .val (.int p3), .val (.int p4), .unset, .unset, .unset, .unset, .unset, .unset, .unset] [] from rfl) ?_
  refine gLoadI 2 X0 hx (H at_0) rfl rfl ?_
  refine gBipush 4 X0 hx (v := (7 : Int32)) (H at_2) rfl rfl ?_
  refine gIand 5 X0 hx (H at_4) rfl ?_
  refine gIconst 6 X0 hx (v := (5 : Int32)) (H at_5) rfl rfl ?_
  refine gIrem 7 X0 hx (H at_6) (by decide) rfl ?_
  refine gStoreI 9 X0 hx (H at_7) (l' := #[.val (.int p0), .val (.int p1), .val (.int p2), .val (.int p3), .val (.int p4), .val (.int ((p4 &&& (7 : Int32)) % (5 : Int32))), .unset, .unset, .unset, .unset, .unset, .unset]) rfl rfl ?_
  refine gLoadIN 10 X0 hx (H at_9) rfl rfl ?_
  refine gCallS X0 hx hZ (y := mn3) hown e0 (by rw [hml]; rfl) (ow hw 0 rfl) (ow hw 1 rfl) (ow hw 2 rfl) (ow hw 3 rfl) (by decide) (argsL := [(.int p0)]) (st := []) (c_pick l Z a0 hw p0 h0) (lenOf pd_5 rfl) (H at_10) (pc' := 13) rfl rfl (by decide) (W := 0) (Nat.le_of_eq rfl) (by decide) (by decide) (by decide) ?_
  intro T1 v1 L1 X1 hQ1
  obtain ⟨ch0, rfl, hch0, eq1, rfl⟩ := hQ1
  rw [List.append_nil] at X1
  refine gStoreI 15 X1 hx (H at_13) (l' := #[.val (.int p0), .val (.int p1), .val (.int p2), .val (.int p3), .val (.int p4), .val (.int ((p4 &&& (7 : Int32)) % (5 : Int32))), .val (.int ch0), .unset, .unset, .unset, .unset, .unset]) rfl rfl ?_
  refine gLoadIN 16 X1 hx (H at_15) rfl rfl ?_
  refine gCallS X1 hx hZ (y := mn3) hown eq1 (by rw [hml]; rfl) (ow hw 0 rfl) (ow hw 1 rfl) (ow hw 2 rfl) (ow hw 3 rfl) (by decide) (argsL := [(.int p1)]) (st := []) (c_pick l Z a0 hw p1 h0) (lenOf pd_5 rfl) (H at_16) (pc' := 19) rfl rfl (by decide) (W := 0) (Nat.le_of_eq rfl) (by decide) (by decide) (by decide) ?_
  intro T2 v2 L2 X2 hQ2
  obtain ⟨ch1, rfl, hch1, eq2, rfl⟩ := hQ2
  rw [List.append_nil] at X2
  refine gStoreI 21 X2 hx (H at_19) (l' := #[.val (.int p0), .val (.int p1), .val (.int p2), .val (.int p3), .val (.int p4), .val (.int ((p4 &&& (7 : Int32)) % (5 : Int32))), .val (.int ch0), .val (.int ch1), .unset, .unset, .unset, .unset]) rfl rfl ?_
  refine gLoadIN 22 X2 hx (H at_21) rfl rfl ?_
  refine gCallS X2 hx hZ (y := mn3) hown eq2 (by rw [hml]; rfl) (ow hw 0 rfl) (ow hw 1 rfl) (ow hw 2 rfl) (ow hw 3 rfl) (by decide) (argsL := [(.int p2)]) (st := []) (c_pick l Z a0 hw p2 h0) (lenOf pd_5 rfl) (H at_22) (pc' := 25) rfl rfl (by decide) (W := 0) (Nat.le_of_eq rfl) (by decide) (by decide) (by decide) ?_
  intro T3 v3 L3 X3 hQ3
  obtain ⟨ch2, rfl, hch2, eq3, rfl⟩ := hQ3
  rw [List.append_nil] at X3
  refine gStoreI 27 X3 hx (H at_25) (l' := #[.val (.int p0), .val (.int p1), .val (.int p2), .val (.int p3), .val (.int p4), .val (.int ((p4 &&& (7 : Int32)) % (5 : Int32))), .val (.int ch0), .val (.int ch1), .val (.int ch2), .unset, .unset, .unset]) rfl rfl ?_
  refine gLoadIN 28 X3 hx (H at_27) rfl rfl ?_
  refine gCallS X3 hx hZ (y := mn3) hown eq3 (by rw [hml]; rfl) (ow hw 0 rfl) (ow hw 1 rfl) (ow hw 2 rfl) (ow hw 3 rfl) (by decide) (argsL := [(.int p3)]) (st := []) (c_pick l Z a0 hw p3 h0) (lenOf pd_5 rfl) (H at_28) (pc' := 31) rfl rfl (by decide) (W := 0) (Nat.le_of_eq rfl) (by decide) (by decide) (by decide) ?_
  intro T4 v4 L4 X4 hQ4
  obtain ⟨ch3, rfl, hch3, eq4, rfl⟩ := hQ4
  rw [List.append_nil] at X4
  refine gStoreI 33 X4 hx (H at_31) (l' := #[.val (.int p0), .val (.int p1), .val (.int p2), .val (.int p3), .val (.int p4), .val (.int ((p4 &&& (7 : Int32)) % (5 : Int32))), .val (.int ch0), .val (.int ch1), .val (.int ch2), .val (.int ch3), .unset, .unset]) rfl rfl ?_
  rcases own_r5 p4 with hk | hk | hk | hk | hk <;> rw [hk]
  · refine gLoadI 35 X4 hx (H at_33) rfl rfl ?_
    refine gIfNeT X4 hx (H at_35) (pc' := 53) (by decide) (by decide) (pn := 38) rfl (fun (c35 : ¬ (0 : Int) = (0 : Int)) => ?_) (fun (c35 : (0 : Int) = (0 : Int)) => ?_)
    · exact absurd c35 (by decide)
    · refine gNew X4 hx hZ hown (ow hw 5 rfl) (ow hw 6 rfl) (ow hw 7 rfl) eq4 (H at_38) (pc' := 41) rfl (by decide) (by decide) (fun T5 h5 b5 X5 e5 g5 E5 A5 D5 => ?_)
      have H5 := H0.trans (CHr.ext E5 H0.1)
      have hk5 := Nat.le_trans (Nat.zero_le _) E5.1
      have s5_b := Safe.ext E5 H0.1 (Safe.new (Nat.le_of_eq g5.symm))
      have f5_0 := hCpt.ext E5
      have f5_1 := hSio.ext E5
      have f5_2 := hU.ext E5
      have sz_b5 : h0.size ≤ b5 := Nat.le_trans (Nat.le_refl _) (Nat.le_of_eq g5.symm)
      have zs5 : h0.size ≤ h5.size := Nat.le_trans (Nat.le_refl _) E5.1
      have F5_value : Fld Z h5 b5 "java/lang/String" "value" "[B" .null := D5 (Or.inr (ow hw 21 rfl)) (ty := (.array .byte)) (by decide)
      have F5_coder : Fld Z h5 b5 "java/lang/String" "coder" "B" (.int (0 : Int32)) := D5 (Or.inr (ow hw 22 rfl)) (ty := .byte) (by decide)
      refine gDup 42 X5 hx (H at_41) rfl rfl ?_
      refine gIconst 43 X5 hx (v := (0 : Int32)) (H at_42) rfl rfl ?_
      refine gNewP X5 hx hZ (ow hw 8 rfl) e5 (n := (0 : Int32)) (H at_43) (by decide) (cap := 0) (by decide) (by decide) (by decide) (by decide) 0 (pc' := 45) rfl (fun T6 h6 b6 ck6 X6 e6 g6 E6 A6 => ?_)
      have ne_b5_b6 : b5 ≠ b6 := Nat.ne_of_lt (Nat.lt_of_lt_of_eq A5.lt g6.symm)
      have H6 := H5.trans (CHr.ext E6 H5.1)
      have hk6 := Nat.le_trans hk5 E6.1
      have s6_0 := Safe.ext E6 H5.1 s5_b
      have s6_b := Safe.ext E6 H5.1 (Safe.new (Nat.le_of_eq g6.symm))
      have f6_0 := f5_0.ext E6
      have f6_1 := f5_1.ext E6
      have f6_2 := f5_2.ext E6
      have f6_3 := A5.ext E6
      have f6_4 := F5_value.ext E6
      have f6_5 := F5_coder.ext E6
      have sz_b6 : h0.size ≤ b6 := Nat.le_trans zs5 (Nat.le_of_eq g6.symm)
      have zs6 : h0.size ≤ h6.size := Nat.le_trans zs5 E6.1
      have V6 : Arv Z h6 b6 ck6 .char (0 : Int32) [] (.int (0 : Int32)) := A6
      refine gCallIH X6 hx hZ (y := mn7) rfl hown e6 (by rw [hml]; rfl) hS hk6 hEL H6 (ow hw 9 rfl) (ow hw 10 rfl) (ow hw 7 rfl) (ow hw 11 rfl) (by decide) (sl1 f6_3.lt s6_0) (argsL := [(.ref b6)]) (st := [(.ref b5)]) (c_sinit_0 l Z a0 hw b5 b6 _ h0.size h6 hEL sz_b5 f6_3 f6_5 f6_4 V6) (lenOf pd_19 rfl) (H at_45) (pc' := 48) rfl rfl (by decide) (W := 1) (Nat.le_of_eq rfl) (by decide) (by decide) (by decide) ?_
      intro T7 v7 L7 X7 hS hZ hown C7 H7 hQ7
      have s7_0 := C7.safe f6_3.lt s6_0
      have s7_1 := C7.safe V6.lt s6_b
      obtain ⟨t7, ct7, rfl, Nq7, Kq7, Eq7, Cq7, Vq7, Aq7⟩ := hQ7
      have N7 := Fr.app (Fr.nil h0.size) Nq7
      have f7_0 := own_cpt_keep f6_0 Kq7 (nsS (Exa.nostat f6_3) ns0)
      have f7_1 := own_sio_keep f6_1 Kq7 (nsS (Exa.nostat f6_3) ns0)
      have f7_2 := own_u16_keep f6_2 Kq7 (nsS (Exa.nostat f6_3) ns0)
      have f7_3 := f6_3.keep Kq7
      have f7_6 := V6.keep Kq7 (ninS (Ne.symm ne_b5_b6) nin0)
      have zs7 := Nat.le_trans zs6 Kq7.1
      refine gStoreA 50 X7 hx (H at_48) (l' := #[.val (.int p0), .val (.int p1), .val (.int p2), .val (.int p3), .val (.int p4), .val (.int (0 : Int32)), .val (.int ch0), .val (.int ch1), .val (.int ch2), .val (.int ch3), .val (.ref b5), .unset]) rfl rfl rfl ?_
      refine gGoto X7 hx (H at_50) (pc' := 178) (by decide) (by decide) ?_
      refine gLoadI 180 X7 hx (H at_178) rfl rfl ?_
      refine gIfLe X7 hx (H at_180) (pc' := 191) (by decide) (by decide) (pn := 183) rfl (fun (c180 : (0 : Int) ≤ (0 : Int)) => ?_) (fun (c180 : (0 : Int) < (0 : Int)) => ?_)
      · refine gLoadI 193 X7 hx (H at_191) rfl rfl ?_
        refine gIconst 194 X7 hx (v := (1 : Int32)) (H at_193) rfl rfl ?_
        refine gIcmpLe X7 hx (H at_194) (pc' := 205) (by decide) (by decide) (pn := 197) rfl (fun (c194 : (0 : Int) ≤ (1 : Int)) => ?_) (fun (c194 : (1 : Int) < (0 : Int)) => ?_)
        · refine gLoadI 207 X7 hx (H at_205) rfl rfl ?_
          refine gIconst 208 X7 hx (v := (2 : Int32)) (H at_207) rfl rfl ?_
          refine gIcmpLe X7 hx (H at_208) (pc' := 219) (by decide) (by decide) (pn := 211) rfl (fun (c208 : (0 : Int) ≤ (2 : Int)) => ?_) (fun (c208 : (2 : Int) < (0 : Int)) => ?_)
          · refine gLoadI 221 X7 hx (H at_219) rfl rfl ?_
            refine gIconst 222 X7 hx (v := (3 : Int32)) (H at_221) rfl rfl ?_
            refine gIcmpLe X7 hx (H at_222) (pc' := 237) (by decide) (by decide) (pn := 225) rfl (fun (c222 : (0 : Int) ≤ (3 : Int)) => ?_) (fun (c222 : (3 : Int) < (0 : Int)) => ?_)
            · refine gIconst 238 X7 hx (v := (0 : Int32)) (H at_237) rfl rfl ?_
              refine gStoreI 240 X7 hx (H at_238) (l' := #[.val (.int p0), .val (.int p1), .val (.int p2), .val (.int p3), .val (.int p4), .val (.int (0 : Int32)), .val (.int ch0), .val (.int ch1), .val (.int ch2), .val (.int ch3), .val (.ref b5), .val (.int (0 : Int32))]) rfl rfl ?_
              refine gLoadA 242 X7 hx (H at_240) rfl rfl rfl ?_
              refine gCallSJ X7 hx hZ (y := mn0) hown rfl (by rw [hml]; rfl) (ow hw 27 rfl) (ow hw 28 rfl) (ow hw 29 rfl) (ow hw 30 rfl) (by decide) (argsL := [(.ref b5)]) (st := []) (c_unL_0 l Z a0 hw b5 t7 ct7  T7.heap f7_0 Eq7 Cq7 Vq7 Aq7 ) (lenOf pd_13 rfl) (H at_242) (pc' := 245) rfl rfl rfl rfl (by decide) (W := 0) (Nat.le_of_eq rfl) (by decide) (by decide) (by decide) ?_
              intro T8 X8 e8
              refine gLoadI 247 X8 hx (H at_245) rfl rfl ?_
              refine gIcmpNeT X8 hx (H at_247) (pc' := 254) (by decide) (by decide) (pn := 250) rfl (fun (c247 : ¬ (0 : Int) = (0 : Int)) => ?_) (fun (c247 : (0 : Int) = (0 : Int)) => ?_)
              · exact absurd c247 (by decide)
              · refine gIconst 251 X8 hx (v := (1 : Int32)) (H at_250) rfl rfl ?_
                refine gGoto X8 hx (H at_251) (pc' := 255) (by decide) (by decide) ?_
                exact gRetHN X8 hx hlk hret (by simp) (H at_255) (w := (1 : Int32)) rfl e8 hS (Nat.le_refl _) hZ hEL H7 (by decide) (by decide) (⟨rfl, N7⟩)
            · exact absurd c222 (by decide)
          · exact absurd c208 (by decide)
        · exact absurd c194 (by decide)
      · exact absurd c180 (by decide)
  · refine gLoadI 35 X4 hx (H at_33) rfl rfl ?_
    refine gIfNeT X4 hx (H at_35) (pc' := 53) (by decide) (by decide) (pn := 38) rfl (fun (c35 : ¬ (1 : Int) = (0 : Int)) => ?_) (fun (c35 : (1 : Int) = (0 : Int)) => ?_)
    · refine gLoadI 55 X4 hx (H at_53) rfl rfl ?_
      refine gIconst 56 X4 hx (v := (1 : Int32)) (H at_55) rfl rfl ?_
      refine gIcmpNeT X4 hx (H at_56) (pc' := 79) (by decide) (by decide) (pn := 59) rfl (fun (c56 : ¬ (1 : Int) = (1 : Int)) => ?_) (fun (c56 : (1 : Int) = (1 : Int)) => ?_)
      · exact absurd c56 (by decide)
      · refine gNew X4 hx hZ hown (ow hw 5 rfl) (ow hw 6 rfl) (ow hw 7 rfl) eq4 (H at_59) (pc' := 62) rfl (by decide) (by decide) (fun T9 h9 b9 X9 e9 g9 E9 A9 D9 => ?_)
        have H9 := H0.trans (CHr.ext E9 H0.1)
        have hk9 := Nat.le_trans (Nat.zero_le _) E9.1
        have s9_b := Safe.ext E9 H0.1 (Safe.new (Nat.le_of_eq g9.symm))
        have f9_0 := hCpt.ext E9
        have f9_1 := hSio.ext E9
        have f9_2 := hU.ext E9
        have sz_b9 : h0.size ≤ b9 := Nat.le_trans (Nat.le_refl _) (Nat.le_of_eq g9.symm)
        have zs9 : h0.size ≤ h9.size := Nat.le_trans (Nat.le_refl _) E9.1
        have F9_value : Fld Z h9 b9 "java/lang/String" "value" "[B" .null := D9 (Or.inr (ow hw 21 rfl)) (ty := (.array .byte)) (by decide)
        have F9_coder : Fld Z h9 b9 "java/lang/String" "coder" "B" (.int (0 : Int32)) := D9 (Or.inr (ow hw 22 rfl)) (ty := .byte) (by decide)
        refine gDup 63 X9 hx (H at_62) rfl rfl ?_
        refine gIconst 64 X9 hx (v := (1 : Int32)) (H at_63) rfl rfl ?_
        refine gNewP X9 hx hZ (ow hw 8 rfl) e9 (n := (1 : Int32)) (H at_64) (by decide) (cap := 1) (by decide) (by decide) (by decide) (by decide) 1 (pc' := 66) rfl (fun T10 h10 b10 ck10 X10 e10 g10 E10 A10 => ?_)
        have ne_b9_b10 : b9 ≠ b10 := Nat.ne_of_lt (Nat.lt_of_lt_of_eq A9.lt g10.symm)
        have H10 := H9.trans (CHr.ext E10 H9.1)
        have hk10 := Nat.le_trans hk9 E10.1
        have s10_0 := Safe.ext E10 H9.1 s9_b
        have s10_b := Safe.ext E10 H9.1 (Safe.new (Nat.le_of_eq g10.symm))
        have f10_0 := f9_0.ext E10
        have f10_1 := f9_1.ext E10
        have f10_2 := f9_2.ext E10
        have f10_3 := A9.ext E10
        have f10_4 := F9_value.ext E10
        have f10_5 := F9_coder.ext E10
        have sz_b10 : h0.size ≤ b10 := Nat.le_trans zs9 (Nat.le_of_eq g10.symm)
        have zs10 : h0.size ≤ h10.size := Nat.le_trans zs9 E10.1
        have V10 : Arv Z h10 b10 ck10 .char (1 : Int32) [(.int (0 : Int32))] (.int (0 : Int32)) := A10
        refine gDup 67 X10 hx (H at_66) rfl rfl ?_
        refine gIconst 68 X10 hx (v := (0 : Int32)) (H at_67) rfl rfl ?_
        refine gLoadI 70 X10 hx (H at_68) rfl rfl ?_
        refine gCastore X10 hx hZ e10 (x := ch0) V10 (j := (0 : Int32)) (by decide) (by decide) 0 (by decide) (by simp) (H at_70) (pc' := 71) rfl (fun T11 h11 X11 e11 W11 A11 => ?_)
        have S11 := s10_b
        have H11 := H10.trans (CHr.wr W11 S11 H10.1)
        have hk11 := Nat.le_trans hk10 (Nat.le_of_eq W11.size.symm)
        have s11_0 := Safe.wr W11 S11 H10.1 s10_0
        have s11_1 := Safe.wr W11 S11 H10.1 s10_b
        have f11_0 := f10_0.wr W11
        have f11_1 := f10_1.wr W11
        have f11_2 := f10_2.wr W11
        have f11_3 := f10_3.wr W11
        have f11_4 := f10_4.other W11 (Or.inl ne_b9_b10)
        have f11_5 := f10_5.other W11 (Or.inl ne_b9_b10)
        have zs11 : h0.size ≤ h11.size := by rw [W11.size]; exact zs10
        have N11 := Fr.snoc X11 (Fr.nil h0.size) sz_b10
        have V11 : Arv Z h11 b10 _ .char (1 : Int32) [(.int ch0)] (.int (0 : Int32)) := (by have q := A11; rw [own_nc hch0] at q; exact q)
        by_cases hbig : 255 < ch0.toInt
        · refine gCallI X11 hx hZ (y := mn7) rfl hown e11 (by rw [hml]; rfl) (ow hw 9 rfl) (ow hw 10 rfl) (ow hw 7 rfl) (ow hw 11 rfl) (by decide) (argsL := [(.ref b10)]) (st := [(.ref b9)]) (c_siu_1 l Z a0 hw b9 b10 _ h0.size ch0 h11 f11_0 f11_2 sz_b9 zs11 (Ne.symm ne_b9_b10) f11_3 f11_5 f11_4 V11 hch0 hbig) (lenOf pd_19 rfl) (H at_71) (pc' := 74) rfl rfl (by decide) (W := 1) (Nat.le_of_eq rfl) (by decide) (by decide) (by decide) ?_
          intro T12 v12 L12 X12 hQ12
          obtain ⟨t12, ct12, rfl, Nq12, Kq12, gt12, Eq12, Cq12, Vq12, Aq12⟩ := hQ12
          have N12 := Fr.app N11 Nq12
          have H12 := H11.trans (CHr.keep Kq12 (sfS s11_0 sf0) H11.1)
          have hk12 := Nat.le_trans hk11 Kq12.1
          have s12_0 := Safe.keep Kq12 (sfS s11_0 sf0) H11.1 s11_0
          have s12_1 := Safe.keep Kq12 (sfS s11_0 sf0) H11.1 s11_1
          have f12_0 := own_cpt_keep f11_0 Kq12 (nsS (Exa.nostat f11_3) ns0)
          have f12_1 := own_sio_keep f11_1 Kq12 (nsS (Exa.nostat f11_3) ns0)
          have f12_2 := own_u16_keep f11_2 Kq12 (nsS (Exa.nostat f11_3) ns0)
          have f12_3 := f11_3.keep Kq12
          have f12_6 := V11.keep Kq12 (ninS (Ne.symm ne_b9_b10) nin0)
          have zs12 := Nat.le_trans zs11 Kq12.1
          refine gStoreA 76 X12 hx (H at_74) (l' := #[.val (.int p0), .val (.int p1), .val (.int p2), .val (.int p3), .val (.int p4), .val (.int (1 : Int32)), .val (.int ch0), .val (.int ch1), .val (.int ch2), .val (.int ch3), .val (.ref b9), .unset]) rfl rfl rfl ?_
          refine gGoto X12 hx (H at_76) (pc' := 178) (by decide) (by decide) ?_
          refine gLoadI 180 X12 hx (H at_178) rfl rfl ?_
          refine gIfLe X12 hx (H at_180) (pc' := 191) (by decide) (by decide) (pn := 183) rfl (fun (c180 : (1 : Int) ≤ (0 : Int)) => ?_) (fun (c180 : (0 : Int) < (1 : Int)) => ?_)
          · exact absurd c180 (by decide)
          · refine gLoadI 185 X12 hx (H at_183) rfl rfl ?_
            refine gCallSJ X12 hx hZ (y := mn1) hown rfl (by rw [hml]; rfl) (ow hw 75 rfl) (ow hw 76 rfl) (ow hw 2 rfl) (ow hw 77 rfl) (by decide) (argsL := [(.int ch0)]) (st := []) (c_rep l Z a0 hw ch0 T12.heap) (lenOf pd_4 rfl) (H at_185) (pc' := 188) rfl rfl rfl rfl (by decide) (W := 0) (Nat.le_of_eq rfl) (by decide) (by decide) (by decide) ?_
            intro T13 X13 e13
            refine gIfNe X13 hx (H at_188) (pc' := 233) (by decide) (by decide) (pn := 191) rfl (fun (c188 : ¬ (b2i (decide (ch0.toInt = 65533))) = (0 : Int32)) => ?_) (fun (c188 : (b2i (decide (ch0.toInt = 65533))) = (0 : Int32)) => ?_)
            · refine gIconst 234 X13 hx (v := (1 : Int32)) (H at_233) rfl rfl ?_
              refine gGoto X13 hx (H at_234) (pc' := 238) (by decide) (by decide) ?_
              refine gStoreI 240 X13 hx (H at_238) (l' := #[.val (.int p0), .val (.int p1), .val (.int p2), .val (.int p3), .val (.int p4), .val (.int (1 : Int32)), .val (.int ch0), .val (.int ch1), .val (.int ch2), .val (.int ch3), .val (.ref b9), .val (.int (1 : Int32))]) rfl rfl ?_
              refine gLoadA 242 X13 hx (H at_240) rfl rfl rfl ?_
              refine gCallSJ X13 hx hZ (y := mn0) hown e13 (by rw [hml]; rfl) (ow hw 27 rfl) (ow hw 28 rfl) (ow hw 29 rfl) (ow hw 30 rfl) (by decide) (argsL := [(.ref b9)]) (st := []) (c_unU_1 l Z a0 hw b9 t12 ct12 ch0 T12.heap f12_0 Eq12 Cq12 Vq12 f12_2 f12_1 Aq12 hch0) (lenOf pd_13 rfl) (H at_242) (pc' := 245) rfl rfl rfl rfl (by decide) (W := 0) (Nat.le_of_eq rfl) (by decide) (by decide) (by decide) ?_
              intro T14 X14 e14
              rw [show b2i (decide (ch0.toInt = 65533)) = 1 from b2_t (of_decide_eq_true (b2_n0.mp c188))]
              refine gLoadI 247 X14 hx (H at_245) rfl rfl ?_
              refine gIcmpNeT X14 hx (H at_247) (pc' := 254) (by decide) (by decide) (pn := 250) rfl (fun (c247 : ¬ (1 : Int) = (1 : Int)) => ?_) (fun (c247 : (1 : Int) = (1 : Int)) => ?_)
              · exact absurd c247 (by decide)
              · refine gIconst 251 X14 hx (v := (1 : Int32)) (H at_250) rfl rfl ?_
                refine gGoto X14 hx (H at_251) (pc' := 255) (by decide) (by decide) ?_
                exact gRetHN X14 hx hlk hret (by simp) (H at_255) (w := (1 : Int32)) rfl e14 hS hk12 hZ hEL H12 (by decide) (by decide) (⟨rfl, N12⟩)
            · refine gLoadI 193 X13 hx (H at_191) rfl rfl ?_
              refine gIconst 194 X13 hx (v := (1 : Int32)) (H at_193) rfl rfl ?_
              refine gIcmpLe X13 hx (H at_194) (pc' := 205) (by decide) (by decide) (pn := 197) rfl (fun (c194 : (1 : Int) ≤ (1 : Int)) => ?_) (fun (c194 : (1 : Int) < (1 : Int)) => ?_)
              · refine gLoadI 207 X13 hx (H at_205) rfl rfl ?_
                refine gIconst 208 X13 hx (v := (2 : Int32)) (H at_207) rfl rfl ?_
                refine gIcmpLe X13 hx (H at_208) (pc' := 219) (by decide) (by decide) (pn := 211) rfl (fun (c208 : (1 : Int) ≤ (2 : Int)) => ?_) (fun (c208 : (2 : Int) < (1 : Int)) => ?_)
                · refine gLoadI 221 X13 hx (H at_219) rfl rfl ?_
                  refine gIconst 222 X13 hx (v := (3 : Int32)) (H at_221) rfl rfl ?_
                  refine gIcmpLe X13 hx (H at_222) (pc' := 237) (by decide) (by decide) (pn := 225) rfl (fun (c222 : (1 : Int) ≤ (3 : Int)) => ?_) (fun (c222 : (3 : Int) < (1 : Int)) => ?_)
                  · refine gIconst 238 X13 hx (v := (0 : Int32)) (H at_237) rfl rfl ?_
                    refine gStoreI 240 X13 hx (H at_238) (l' := #[.val (.int p0), .val (.int p1), .val (.int p2), .val (.int p3), .val (.int p4), .val (.int (1 : Int32)), .val (.int ch0), .val (.int ch1), .val (.int ch2), .val (.int ch3), .val (.ref b9), .val (.int (0 : Int32))]) rfl rfl ?_
                    refine gLoadA 242 X13 hx (H at_240) rfl rfl rfl ?_
                    refine gCallSJ X13 hx hZ (y := mn0) hown e13 (by rw [hml]; rfl) (ow hw 27 rfl) (ow hw 28 rfl) (ow hw 29 rfl) (ow hw 30 rfl) (by decide) (argsL := [(.ref b9)]) (st := []) (c_unU_1 l Z a0 hw b9 t12 ct12 ch0 T12.heap f12_0 Eq12 Cq12 Vq12 f12_2 f12_1 Aq12 hch0) (lenOf pd_13 rfl) (H at_242) (pc' := 245) rfl rfl rfl rfl (by decide) (W := 0) (Nat.le_of_eq rfl) (by decide) (by decide) (by decide) ?_
                    intro T15 X15 e15
                    rw [show b2i (decide (ch0.toInt = 65533)) = 0 from b2_f ((of_decide_eq_false (b2_0.mp c188)))]
                    refine gLoadI 247 X15 hx (H at_245) rfl rfl ?_
                    refine gIcmpNeT X15 hx (H at_247) (pc' := 254) (by decide) (by decide) (pn := 250) rfl (fun (c247 : ¬ (0 : Int) = (0 : Int)) => ?_) (fun (c247 : (0 : Int) = (0 : Int)) => ?_)
                    · exact absurd c247 (by decide)
                    · refine gIconst 251 X15 hx (v := (1 : Int32)) (H at_250) rfl rfl ?_
                      refine gGoto X15 hx (H at_251) (pc' := 255) (by decide) (by decide) ?_
                      exact gRetHN X15 hx hlk hret (by simp) (H at_255) (w := (1 : Int32)) rfl e15 hS hk12 hZ hEL H12 (by decide) (by decide) (⟨rfl, N12⟩)
                  · exact absurd c222 (by decide)
                · exact absurd c208 (by decide)
              · exact absurd c194 (by decide)
        · have hch0 : rg ch0 := ⟨hch0.1, by omega⟩
          refine gCallI X11 hx hZ (y := mn7) rfl hown e11 (by rw [hml]; rfl) (ow hw 9 rfl) (ow hw 10 rfl) (ow hw 7 rfl) (ow hw 11 rfl) (by decide) (argsL := [(.ref b10)]) (st := [(.ref b9)]) (c_sinit_1 l Z a0 hw b9 b10 _ h0.size ch0 h11 f11_0 sz_b9 zs11 (Ne.symm ne_b9_b10) f11_3 f11_5 f11_4 V11 hch0) (lenOf pd_19 rfl) (H at_71) (pc' := 74) rfl rfl (by decide) (W := 1) (Nat.le_of_eq rfl) (by decide) (by decide) (by decide) ?_
          intro T16 v16 L16 X16 hQ16
          obtain ⟨t16, ct16, rfl, Nq16, Kq16, gt16, Eq16, Cq16, Vq16, Aq16⟩ := hQ16
          have N16 := Fr.app N11 Nq16
          have H16 := H11.trans (CHr.keep Kq16 (sfS s11_0 sf0) H11.1)
          have hk16 := Nat.le_trans hk11 Kq16.1
          have s16_0 := Safe.keep Kq16 (sfS s11_0 sf0) H11.1 s11_0
          have s16_1 := Safe.keep Kq16 (sfS s11_0 sf0) H11.1 s11_1
          have f16_0 := own_cpt_keep f11_0 Kq16 (nsS (Exa.nostat f11_3) ns0)
          have f16_1 := own_sio_keep f11_1 Kq16 (nsS (Exa.nostat f11_3) ns0)
          have f16_2 := own_u16_keep f11_2 Kq16 (nsS (Exa.nostat f11_3) ns0)
          have f16_3 := f11_3.keep Kq16
          have f16_6 := V11.keep Kq16 (ninS (Ne.symm ne_b9_b10) nin0)
          have zs16 := Nat.le_trans zs11 Kq16.1
          refine gStoreA 76 X16 hx (H at_74) (l' := #[.val (.int p0), .val (.int p1), .val (.int p2), .val (.int p3), .val (.int p4), .val (.int (1 : Int32)), .val (.int ch0), .val (.int ch1), .val (.int ch2), .val (.int ch3), .val (.ref b9), .unset]) rfl rfl rfl ?_
          refine gGoto X16 hx (H at_76) (pc' := 178) (by decide) (by decide) ?_
          refine gLoadI 180 X16 hx (H at_178) rfl rfl ?_
          refine gIfLe X16 hx (H at_180) (pc' := 191) (by decide) (by decide) (pn := 183) rfl (fun (c180 : (1 : Int) ≤ (0 : Int)) => ?_) (fun (c180 : (0 : Int) < (1 : Int)) => ?_)
          · exact absurd c180 (by decide)
          · refine gLoadI 185 X16 hx (H at_183) rfl rfl ?_
            refine gCallSJ X16 hx hZ (y := mn1) hown rfl (by rw [hml]; rfl) (ow hw 75 rfl) (ow hw 76 rfl) (ow hw 2 rfl) (ow hw 77 rfl) (by decide) (argsL := [(.int ch0)]) (st := []) (c_rep l Z a0 hw ch0 T16.heap) (lenOf pd_4 rfl) (H at_185) (pc' := 188) rfl rfl rfl rfl (by decide) (W := 0) (Nat.le_of_eq rfl) (by decide) (by decide) (by decide) ?_
            intro T17 X17 e17
            refine gIfNe X17 hx (H at_188) (pc' := 233) (by decide) (by decide) (pn := 191) rfl (fun (c188 : ¬ (b2i (decide (ch0.toInt = 65533))) = (0 : Int32)) => ?_) (fun (c188 : (b2i (decide (ch0.toInt = 65533))) = (0 : Int32)) => ?_)
            · exact absurd (of_decide_eq_true (b2_n0.mp c188)) (by have := hch0; omega)
            · refine gLoadI 193 X17 hx (H at_191) rfl rfl ?_
              refine gIconst 194 X17 hx (v := (1 : Int32)) (H at_193) rfl rfl ?_
              refine gIcmpLe X17 hx (H at_194) (pc' := 205) (by decide) (by decide) (pn := 197) rfl (fun (c194 : (1 : Int) ≤ (1 : Int)) => ?_) (fun (c194 : (1 : Int) < (1 : Int)) => ?_)
              · refine gLoadI 207 X17 hx (H at_205) rfl rfl ?_
                refine gIconst 208 X17 hx (v := (2 : Int32)) (H at_207) rfl rfl ?_
                refine gIcmpLe X17 hx (H at_208) (pc' := 219) (by decide) (by decide) (pn := 211) rfl (fun (c208 : (1 : Int) ≤ (2 : Int)) => ?_) (fun (c208 : (2 : Int) < (1 : Int)) => ?_)
                · refine gLoadI 221 X17 hx (H at_219) rfl rfl ?_
                  refine gIconst 222 X17 hx (v := (3 : Int32)) (H at_221) rfl rfl ?_
                  refine gIcmpLe X17 hx (H at_222) (pc' := 237) (by decide) (by decide) (pn := 225) rfl (fun (c222 : (1 : Int) ≤ (3 : Int)) => ?_) (fun (c222 : (3 : Int) < (1 : Int)) => ?_)
                  · refine gIconst 238 X17 hx (v := (0 : Int32)) (H at_237) rfl rfl ?_
                    refine gStoreI 240 X17 hx (H at_238) (l' := #[.val (.int p0), .val (.int p1), .val (.int p2), .val (.int p3), .val (.int p4), .val (.int (1 : Int32)), .val (.int ch0), .val (.int ch1), .val (.int ch2), .val (.int ch3), .val (.ref b9), .val (.int (0 : Int32))]) rfl rfl ?_
                    refine gLoadA 242 X17 hx (H at_240) rfl rfl rfl ?_
                    refine gCallSJ X17 hx hZ (y := mn0) hown e17 (by rw [hml]; rfl) (ow hw 27 rfl) (ow hw 28 rfl) (ow hw 29 rfl) (ow hw 30 rfl) (by decide) (argsL := [(.ref b9)]) (st := []) (c_unL_1 l Z a0 hw b9 t16 ct16 ch0 T16.heap f16_0 Eq16 Cq16 Vq16 Aq16 hch0) (lenOf pd_13 rfl) (H at_242) (pc' := 245) rfl rfl rfl rfl (by decide) (W := 0) (Nat.le_of_eq rfl) (by decide) (by decide) (by decide) ?_
                    intro T18 X18 e18
                    refine gLoadI 247 X18 hx (H at_245) rfl rfl ?_
                    refine gIcmpNeT X18 hx (H at_247) (pc' := 254) (by decide) (by decide) (pn := 250) rfl (fun (c247 : ¬ (0 : Int) = (0 : Int)) => ?_) (fun (c247 : (0 : Int) = (0 : Int)) => ?_)
                    · exact absurd c247 (by decide)
                    · refine gIconst 251 X18 hx (v := (1 : Int32)) (H at_250) rfl rfl ?_
                      refine gGoto X18 hx (H at_251) (pc' := 255) (by decide) (by decide) ?_
                      exact gRetHN X18 hx hlk hret (by simp) (H at_255) (w := (1 : Int32)) rfl e18 hS hk16 hZ hEL H16 (by decide) (by decide) (⟨rfl, N16⟩)
                  · exact absurd c222 (by decide)
                · exact absurd c208 (by decide)
              · exact absurd c194 (by decide)
    · exact absurd c35 (by decide)
  · refine gLoadI 35 X4 hx (H at_33) rfl rfl ?_
    refine gIfNeT X4 hx (H at_35) (pc' := 53) (by decide) (by decide) (pn := 38) rfl (fun (c35 : ¬ (2 : Int) = (0 : Int)) => ?_) (fun (c35 : (2 : Int) = (0 : Int)) => ?_)
    · refine gLoadI 55 X4 hx (H at_53) rfl rfl ?_
      refine gIconst 56 X4 hx (v := (1 : Int32)) (H at_55) rfl rfl ?_
      refine gIcmpNeT X4 hx (H at_56) (pc' := 79) (by decide) (by decide) (pn := 59) rfl (fun (c56 : ¬ (2 : Int) = (1 : Int)) => ?_) (fun (c56 : (2 : Int) = (1 : Int)) => ?_)
      · refine gLoadI 81 X4 hx (H at_79) rfl rfl ?_
        refine gIconst 82 X4 hx (v := (2 : Int32)) (H at_81) rfl rfl ?_
        refine gIcmpNeT X4 hx (H at_82) (pc' := 110) (by decide) (by decide) (pn := 85) rfl (fun (c82 : ¬ (2 : Int) = (2 : Int)) => ?_) (fun (c82 : (2 : Int) = (2 : Int)) => ?_)
        · exact absurd c82 (by decide)
        · refine gNew X4 hx hZ hown (ow hw 5 rfl) (ow hw 6 rfl) (ow hw 7 rfl) eq4 (H at_85) (pc' := 88) rfl (by decide) (by decide) (fun T19 h19 b19 X19 e19 g19 E19 A19 D19 => ?_)
          have H19 := H0.trans (CHr.ext E19 H0.1)
          have hk19 := Nat.le_trans (Nat.zero_le _) E19.1
          have s19_b := Safe.ext E19 H0.1 (Safe.new (Nat.le_of_eq g19.symm))
          have f19_0 := hCpt.ext E19
          have f19_1 := hSio.ext E19
          have f19_2 := hU.ext E19
          have sz_b19 : h0.size ≤ b19 := Nat.le_trans (Nat.le_refl _) (Nat.le_of_eq g19.symm)
          have zs19 : h0.size ≤ h19.size := Nat.le_trans (Nat.le_refl _) E19.1
          have F19_value : Fld Z h19 b19 "java/lang/String" "value" "[B" .null := D19 (Or.inr (ow hw 21 rfl)) (ty := (.array .byte)) (by decide)
          have F19_coder : Fld Z h19 b19 "java/lang/String" "coder" "B" (.int (0 : Int32)) := D19 (Or.inr (ow hw 22 rfl)) (ty := .byte) (by decide)
          refine gDup 89 X19 hx (H at_88) rfl rfl ?_
          refine gIconst 90 X19 hx (v := (2 : Int32)) (H at_89) rfl rfl ?_
          refine gNewP X19 hx hZ (ow hw 8 rfl) e19 (n := (2 : Int32)) (H at_90) (by decide) (cap := 2) (by decide) (by decide) (by decide) (by decide) 2 (pc' := 92) rfl (fun T20 h20 b20 ck20 X20 e20 g20 E20 A20 => ?_)
          have ne_b19_b20 : b19 ≠ b20 := Nat.ne_of_lt (Nat.lt_of_lt_of_eq A19.lt g20.symm)
          have H20 := H19.trans (CHr.ext E20 H19.1)
          have hk20 := Nat.le_trans hk19 E20.1
          have s20_0 := Safe.ext E20 H19.1 s19_b
          have s20_b := Safe.ext E20 H19.1 (Safe.new (Nat.le_of_eq g20.symm))
          have f20_0 := f19_0.ext E20
          have f20_1 := f19_1.ext E20
          have f20_2 := f19_2.ext E20
          have f20_3 := A19.ext E20
          have f20_4 := F19_value.ext E20
          have f20_5 := F19_coder.ext E20
          have sz_b20 : h0.size ≤ b20 := Nat.le_trans zs19 (Nat.le_of_eq g20.symm)
          have zs20 : h0.size ≤ h20.size := Nat.le_trans zs19 E20.1
          have V20 : Arv Z h20 b20 ck20 .char (2 : Int32) [(.int (0 : Int32)), (.int (0 : Int32))] (.int (0 : Int32)) := A20
          refine gDup 93 X20 hx (H at_92) rfl rfl ?_
          refine gIconst 94 X20 hx (v := (0 : Int32)) (H at_93) rfl rfl ?_
          refine gLoadI 96 X20 hx (H at_94) rfl rfl ?_
          refine gCastore X20 hx hZ e20 (x := ch0) V20 (j := (0 : Int32)) (by decide) (by decide) 0 (by decide) (by simp) (H at_96) (pc' := 97) rfl (fun T21 h21 X21 e21 W21 A21 => ?_)
          have S21 := s20_b
          have H21 := H20.trans (CHr.wr W21 S21 H20.1)
          have hk21 := Nat.le_trans hk20 (Nat.le_of_eq W21.size.symm)
          have s21_0 := Safe.wr W21 S21 H20.1 s20_0
          have s21_1 := Safe.wr W21 S21 H20.1 s20_b
          have f21_0 := f20_0.wr W21
          have f21_1 := f20_1.wr W21
          have f21_2 := f20_2.wr W21
          have f21_3 := f20_3.wr W21
          have f21_4 := f20_4.other W21 (Or.inl ne_b19_b20)
          have f21_5 := f20_5.other W21 (Or.inl ne_b19_b20)
          have zs21 : h0.size ≤ h21.size := by rw [W21.size]; exact zs20
          have N21 := Fr.snoc X21 (Fr.nil h0.size) sz_b20
          have V21 : Arv Z h21 b20 _ .char (2 : Int32) [(.int ch0), (.int (0 : Int32))] (.int (0 : Int32)) := (by have q := A21; rw [own_nc hch0] at q; exact q)
          refine gDup 98 X21 hx (H at_97) rfl rfl ?_
          refine gIconst 99 X21 hx (v := (1 : Int32)) (H at_98) rfl rfl ?_
          refine gLoadI 101 X21 hx (H at_99) rfl rfl ?_
          refine gCastore X21 hx hZ e21 (x := ch1) V21 (j := (1 : Int32)) (by decide) (by decide) 1 (by decide) (by simp) (H at_101) (pc' := 102) rfl (fun T22 h22 X22 e22 W22 A22 => ?_)
          have S22 := s21_1
          have H22 := H21.trans (CHr.wr W22 S22 H21.1)
          have hk22 := Nat.le_trans hk21 (Nat.le_of_eq W22.size.symm)
          have s22_0 := Safe.wr W22 S22 H21.1 s21_0
          have s22_1 := Safe.wr W22 S22 H21.1 s21_1
          have f22_0 := f21_0.wr W22
          have f22_1 := f21_1.wr W22
          have f22_2 := f21_2.wr W22
          have f22_3 := f21_3.wr W22
          have f22_4 := f21_4.other W22 (Or.inl ne_b19_b20)
          have f22_5 := f21_5.other W22 (Or.inl ne_b19_b20)
          have zs22 : h0.size ≤ h22.size := by rw [W22.size]; exact zs21
          have N22 := Fr.snoc X22 N21 sz_b20
          have V22 : Arv Z h22 b20 _ .char (2 : Int32) [(.int ch0), (.int ch1)] (.int (0 : Int32)) := (by have q := A22; rw [own_nc hch1] at q; exact q)
          by_cases hbig : 255 < ch0.toInt ∨ 255 < ch1.toInt
          · refine gCallI X22 hx hZ (y := mn7) rfl hown e22 (by rw [hml]; rfl) (ow hw 9 rfl) (ow hw 10 rfl) (ow hw 7 rfl) (ow hw 11 rfl) (by decide) (argsL := [(.ref b20)]) (st := [(.ref b19)]) (c_siu_2 l Z a0 hw b19 b20 _ h0.size ch0 ch1 h22 f22_0 f22_2 sz_b19 zs22 (Ne.symm ne_b19_b20) f22_3 f22_5 f22_4 V22 hch0 hch1 hbig) (lenOf pd_19 rfl) (H at_102) (pc' := 105) rfl rfl (by decide) (W := 1) (Nat.le_of_eq rfl) (by decide) (by decide) (by decide) ?_
            intro T23 v23 L23 X23 hQ23
            obtain ⟨t23, ct23, rfl, Nq23, Kq23, gt23, Eq23, Cq23, Vq23, Aq23⟩ := hQ23
            have N23 := Fr.app N22 Nq23
            have H23 := H22.trans (CHr.keep Kq23 (sfS s22_0 sf0) H22.1)
            have hk23 := Nat.le_trans hk22 Kq23.1
            have s23_0 := Safe.keep Kq23 (sfS s22_0 sf0) H22.1 s22_0
            have s23_1 := Safe.keep Kq23 (sfS s22_0 sf0) H22.1 s22_1
            have f23_0 := own_cpt_keep f22_0 Kq23 (nsS (Exa.nostat f22_3) ns0)
            have f23_1 := own_sio_keep f22_1 Kq23 (nsS (Exa.nostat f22_3) ns0)
            have f23_2 := own_u16_keep f22_2 Kq23 (nsS (Exa.nostat f22_3) ns0)
            have f23_3 := f22_3.keep Kq23
            have f23_6 := V22.keep Kq23 (ninS (Ne.symm ne_b19_b20) nin0)
            have zs23 := Nat.le_trans zs22 Kq23.1
            refine gStoreA 107 X23 hx (H at_105) (l' := #[.val (.int p0), .val (.int p1), .val (.int p2), .val (.int p3), .val (.int p4), .val (.int (2 : Int32)), .val (.int ch0), .val (.int ch1), .val (.int ch2), .val (.int ch3), .val (.ref b19), .unset]) rfl rfl rfl ?_
            refine gGoto X23 hx (H at_107) (pc' := 178) (by decide) (by decide) ?_
            refine gLoadI 180 X23 hx (H at_178) rfl rfl ?_
            refine gIfLe X23 hx (H at_180) (pc' := 191) (by decide) (by decide) (pn := 183) rfl (fun (c180 : (2 : Int) ≤ (0 : Int)) => ?_) (fun (c180 : (0 : Int) < (2 : Int)) => ?_)
            · exact absurd c180 (by decide)
            · refine gLoadI 185 X23 hx (H at_183) rfl rfl ?_
              refine gCallSJ X23 hx hZ (y := mn1) hown rfl (by rw [hml]; rfl) (ow hw 75 rfl) (ow hw 76 rfl) (ow hw 2 rfl) (ow hw 77 rfl) (by decide) (argsL := [(.int ch0)]) (st := []) (c_rep l Z a0 hw ch0 T23.heap) (lenOf pd_4 rfl) (H at_185) (pc' := 188) rfl rfl rfl rfl (by decide) (W := 0) (Nat.le_of_eq rfl) (by decide) (by decide) (by decide) ?_
              intro T24 X24 e24
              refine gIfNe X24 hx (H at_188) (pc' := 233) (by decide) (by decide) (pn := 191) rfl (fun (c188 : ¬ (b2i (decide (ch0.toInt = 65533))) = (0 : Int32)) => ?_) (fun (c188 : (b2i (decide (ch0.toInt = 65533))) = (0 : Int32)) => ?_)
              · refine gIconst 234 X24 hx (v := (1 : Int32)) (H at_233) rfl rfl ?_
                refine gGoto X24 hx (H at_234) (pc' := 238) (by decide) (by decide) ?_
                refine gStoreI 240 X24 hx (H at_238) (l' := #[.val (.int p0), .val (.int p1), .val (.int p2), .val (.int p3), .val (.int p4), .val (.int (2 : Int32)), .val (.int ch0), .val (.int ch1), .val (.int ch2), .val (.int ch3), .val (.ref b19), .val (.int (1 : Int32))]) rfl rfl ?_
                refine gLoadA 242 X24 hx (H at_240) rfl rfl rfl ?_
                refine gCallSJ X24 hx hZ (y := mn0) hown e24 (by rw [hml]; rfl) (ow hw 27 rfl) (ow hw 28 rfl) (ow hw 29 rfl) (ow hw 30 rfl) (by decide) (argsL := [(.ref b19)]) (st := []) (c_unU_2 l Z a0 hw b19 t23 ct23 ch0 ch1 T23.heap f23_0 Eq23 Cq23 Vq23 f23_2 f23_1 Aq23 hch0 hch1) (lenOf pd_13 rfl) (H at_242) (pc' := 245) rfl rfl rfl rfl (by decide) (W := 0) (Nat.le_of_eq rfl) (by decide) (by decide) (by decide) ?_
                intro T25 X25 e25
                rw [show b2i (decide (ch0.toInt = 65533 ∨ ch1.toInt = 65533)) = 1 from b2_t (Or.inl (of_decide_eq_true (b2_n0.mp c188)))]
                refine gLoadI 247 X25 hx (H at_245) rfl rfl ?_
                refine gIcmpNeT X25 hx (H at_247) (pc' := 254) (by decide) (by decide) (pn := 250) rfl (fun (c247 : ¬ (1 : Int) = (1 : Int)) => ?_) (fun (c247 : (1 : Int) = (1 : Int)) => ?_)
                · exact absurd c247 (by decide)
                · refine gIconst 251 X25 hx (v := (1 : Int32)) (H at_250) rfl rfl ?_
                  refine gGoto X25 hx (H at_251) (pc' := 255) (by decide) (by decide) ?_
                  exact gRetHN X25 hx hlk hret (by simp) (H at_255) (w := (1 : Int32)) rfl e25 hS hk23 hZ hEL H23 (by decide) (by decide) (⟨rfl, N23⟩)
              · refine gLoadI 193 X24 hx (H at_191) rfl rfl ?_
                refine gIconst 194 X24 hx (v := (1 : Int32)) (H at_193) rfl rfl ?_
                refine gIcmpLe X24 hx (H at_194) (pc' := 205) (by decide) (by decide) (pn := 197) rfl (fun (c194 : (2 : Int) ≤ (1 : Int)) => ?_) (fun (c194 : (1 : Int) < (2 : Int)) => ?_)
                · exact absurd c194 (by decide)
                · refine gLoadI 199 X24 hx (H at_197) rfl rfl ?_
                  refine gCallSJ X24 hx hZ (y := mn1) hown e24 (by rw [hml]; rfl) (ow hw 75 rfl) (ow hw 76 rfl) (ow hw 2 rfl) (ow hw 77 rfl) (by decide) (argsL := [(.int ch1)]) (st := []) (c_rep l Z a0 hw ch1 T23.heap) (lenOf pd_4 rfl) (H at_199) (pc' := 202) rfl rfl rfl rfl (by decide) (W := 0) (Nat.le_of_eq rfl) (by decide) (by decide) (by decide) ?_
                  intro T26 X26 e26
                  refine gIfNe X26 hx (H at_202) (pc' := 233) (by decide) (by decide) (pn := 205) rfl (fun (c202 : ¬ (b2i (decide (ch1.toInt = 65533))) = (0 : Int32)) => ?_) (fun (c202 : (b2i (decide (ch1.toInt = 65533))) = (0 : Int32)) => ?_)
                  · refine gIconst 234 X26 hx (v := (1 : Int32)) (H at_233) rfl rfl ?_
                    refine gGoto X26 hx (H at_234) (pc' := 238) (by decide) (by decide) ?_
                    refine gStoreI 240 X26 hx (H at_238) (l' := #[.val (.int p0), .val (.int p1), .val (.int p2), .val (.int p3), .val (.int p4), .val (.int (2 : Int32)), .val (.int ch0), .val (.int ch1), .val (.int ch2), .val (.int ch3), .val (.ref b19), .val (.int (1 : Int32))]) rfl rfl ?_
                    refine gLoadA 242 X26 hx (H at_240) rfl rfl rfl ?_
                    refine gCallSJ X26 hx hZ (y := mn0) hown e26 (by rw [hml]; rfl) (ow hw 27 rfl) (ow hw 28 rfl) (ow hw 29 rfl) (ow hw 30 rfl) (by decide) (argsL := [(.ref b19)]) (st := []) (c_unU_2 l Z a0 hw b19 t23 ct23 ch0 ch1 T23.heap f23_0 Eq23 Cq23 Vq23 f23_2 f23_1 Aq23 hch0 hch1) (lenOf pd_13 rfl) (H at_242) (pc' := 245) rfl rfl rfl rfl (by decide) (W := 0) (Nat.le_of_eq rfl) (by decide) (by decide) (by decide) ?_
                    intro T27 X27 e27
                    rw [show b2i (decide (ch0.toInt = 65533 ∨ ch1.toInt = 65533)) = 1 from b2_t (Or.inr (of_decide_eq_true (b2_n0.mp c202)))]
                    refine gLoadI 247 X27 hx (H at_245) rfl rfl ?_
                    refine gIcmpNeT X27 hx (H at_247) (pc' := 254) (by decide) (by decide) (pn := 250) rfl (fun (c247 : ¬ (1 : Int) = (1 : Int)) => ?_) (fun (c247 : (1 : Int) = (1 : Int)) => ?_)
                    · exact absurd c247 (by decide)
                    · refine gIconst 251 X27 hx (v := (1 : Int32)) (H at_250) rfl rfl ?_
                      refine gGoto X27 hx (H at_251) (pc' := 255) (by decide) (by decide) ?_
                      exact gRetHN X27 hx hlk hret (by simp) (H at_255) (w := (1 : Int32)) rfl e27 hS hk23 hZ hEL H23 (by decide) (by decide) (⟨rfl, N23⟩)
                  · refine gLoadI 207 X26 hx (H at_205) rfl rfl ?_
                    refine gIconst 208 X26 hx (v := (2 : Int32)) (H at_207) rfl rfl ?_
                    refine gIcmpLe X26 hx (H at_208) (pc' := 219) (by decide) (by decide) (pn := 211) rfl (fun (c208 : (2 : Int) ≤ (2 : Int)) => ?_) (fun (c208 : (2 : Int) < (2 : Int)) => ?_)
                    · refine gLoadI 221 X26 hx (H at_219) rfl rfl ?_
                      refine gIconst 222 X26 hx (v := (3 : Int32)) (H at_221) rfl rfl ?_
                      refine gIcmpLe X26 hx (H at_222) (pc' := 237) (by decide) (by decide) (pn := 225) rfl (fun (c222 : (2 : Int) ≤ (3 : Int)) => ?_) (fun (c222 : (3 : Int) < (2 : Int)) => ?_)
                      · refine gIconst 238 X26 hx (v := (0 : Int32)) (H at_237) rfl rfl ?_
                        refine gStoreI 240 X26 hx (H at_238) (l' := #[.val (.int p0), .val (.int p1), .val (.int p2), .val (.int p3), .val (.int p4), .val (.int (2 : Int32)), .val (.int ch0), .val (.int ch1), .val (.int ch2), .val (.int ch3), .val (.ref b19), .val (.int (0 : Int32))]) rfl rfl ?_
                        refine gLoadA 242 X26 hx (H at_240) rfl rfl rfl ?_
                        refine gCallSJ X26 hx hZ (y := mn0) hown e26 (by rw [hml]; rfl) (ow hw 27 rfl) (ow hw 28 rfl) (ow hw 29 rfl) (ow hw 30 rfl) (by decide) (argsL := [(.ref b19)]) (st := []) (c_unU_2 l Z a0 hw b19 t23 ct23 ch0 ch1 T23.heap f23_0 Eq23 Cq23 Vq23 f23_2 f23_1 Aq23 hch0 hch1) (lenOf pd_13 rfl) (H at_242) (pc' := 245) rfl rfl rfl rfl (by decide) (W := 0) (Nat.le_of_eq rfl) (by decide) (by decide) (by decide) ?_
                        intro T28 X28 e28
                        rw [show b2i (decide (ch0.toInt = 65533 ∨ ch1.toInt = 65533)) = 0 from b2_f (fun q => q.elim (of_decide_eq_false (b2_0.mp c188)) ((of_decide_eq_false (b2_0.mp c202))))]
                        refine gLoadI 247 X28 hx (H at_245) rfl rfl ?_
                        refine gIcmpNeT X28 hx (H at_247) (pc' := 254) (by decide) (by decide) (pn := 250) rfl (fun (c247 : ¬ (0 : Int) = (0 : Int)) => ?_) (fun (c247 : (0 : Int) = (0 : Int)) => ?_)
                        · exact absurd c247 (by decide)
                        · refine gIconst 251 X28 hx (v := (1 : Int32)) (H at_250) rfl rfl ?_
                          refine gGoto X28 hx (H at_251) (pc' := 255) (by decide) (by decide) ?_
                          exact gRetHN X28 hx hlk hret (by simp) (H at_255) (w := (1 : Int32)) rfl e28 hS hk23 hZ hEL H23 (by decide) (by decide) (⟨rfl, N23⟩)
                      · exact absurd c222 (by decide)
                    · exact absurd c208 (by decide)
          · have hch0 : rg ch0 := ⟨hch0.1, by omega⟩
            have hch1 : rg ch1 := ⟨hch1.1, by omega⟩
            refine gCallI X22 hx hZ (y := mn7) rfl hown e22 (by rw [hml]; rfl) (ow hw 9 rfl) (ow hw 10 rfl) (ow hw 7 rfl) (ow hw 11 rfl) (by decide) (argsL := [(.ref b20)]) (st := [(.ref b19)]) (c_sinit_2 l Z a0 hw b19 b20 _ h0.size ch0 ch1 h22 f22_0 sz_b19 zs22 (Ne.symm ne_b19_b20) f22_3 f22_5 f22_4 V22 hch0 hch1) (lenOf pd_19 rfl) (H at_102) (pc' := 105) rfl rfl (by decide) (W := 1) (Nat.le_of_eq rfl) (by decide) (by decide) (by decide) ?_
            intro T29 v29 L29 X29 hQ29
            obtain ⟨t29, ct29, rfl, Nq29, Kq29, gt29, Eq29, Cq29, Vq29, Aq29⟩ := hQ29
            have N29 := Fr.app N22 Nq29
            have H29 := H22.trans (CHr.keep Kq29 (sfS s22_0 sf0) H22.1)
            have hk29 := Nat.le_trans hk22 Kq29.1
            have s29_0 := Safe.keep Kq29 (sfS s22_0 sf0) H22.1 s22_0
            have s29_1 := Safe.keep Kq29 (sfS s22_0 sf0) H22.1 s22_1
            have f29_0 := own_cpt_keep f22_0 Kq29 (nsS (Exa.nostat f22_3) ns0)
            have f29_1 := own_sio_keep f22_1 Kq29 (nsS (Exa.nostat f22_3) ns0)
            have f29_2 := own_u16_keep f22_2 Kq29 (nsS (Exa.nostat f22_3) ns0)
            have f29_3 := f22_3.keep Kq29
            have f29_6 := V22.keep Kq29 (ninS (Ne.symm ne_b19_b20) nin0)
            have zs29 := Nat.le_trans zs22 Kq29.1
            refine gStoreA 107 X29 hx (H at_105) (l' := #[.val (.int p0), .val (.int p1), .val (.int p2), .val (.int p3), .val (.int p4), .val (.int (2 : Int32)), .val (.int ch0), .val (.int ch1), .val (.int ch2), .val (.int ch3), .val (.ref b19), .unset]) rfl rfl rfl ?_
            refine gGoto X29 hx (H at_107) (pc' := 178) (by decide) (by decide) ?_
            refine gLoadI 180 X29 hx (H at_178) rfl rfl ?_
            refine gIfLe X29 hx (H at_180) (pc' := 191) (by decide) (by decide) (pn := 183) rfl (fun (c180 : (2 : Int) ≤ (0 : Int)) => ?_) (fun (c180 : (0 : Int) < (2 : Int)) => ?_)
            · exact absurd c180 (by decide)
            · refine gLoadI 185 X29 hx (H at_183) rfl rfl ?_
              refine gCallSJ X29 hx hZ (y := mn1) hown rfl (by rw [hml]; rfl) (ow hw 75 rfl) (ow hw 76 rfl) (ow hw 2 rfl) (ow hw 77 rfl) (by decide) (argsL := [(.int ch0)]) (st := []) (c_rep l Z a0 hw ch0 T29.heap) (lenOf pd_4 rfl) (H at_185) (pc' := 188) rfl rfl rfl rfl (by decide) (W := 0) (Nat.le_of_eq rfl) (by decide) (by decide) (by decide) ?_
              intro T30 X30 e30
              refine gIfNe X30 hx (H at_188) (pc' := 233) (by decide) (by decide) (pn := 191) rfl (fun (c188 : ¬ (b2i (decide (ch0.toInt = 65533))) = (0 : Int32)) => ?_) (fun (c188 : (b2i (decide (ch0.toInt = 65533))) = (0 : Int32)) => ?_)
              · exact absurd (of_decide_eq_true (b2_n0.mp c188)) (by have := hch0; omega)
              · refine gLoadI 193 X30 hx (H at_191) rfl rfl ?_
                refine gIconst 194 X30 hx (v := (1 : Int32)) (H at_193) rfl rfl ?_
                refine gIcmpLe X30 hx (H at_194) (pc' := 205) (by decide) (by decide) (pn := 197) rfl (fun (c194 : (2 : Int) ≤ (1 : Int)) => ?_) (fun (c194 : (1 : Int) < (2 : Int)) => ?_)
                · exact absurd c194 (by decide)
                · refine gLoadI 199 X30 hx (H at_197) rfl rfl ?_
                  refine gCallSJ X30 hx hZ (y := mn1) hown e30 (by rw [hml]; rfl) (ow hw 75 rfl) (ow hw 76 rfl) (ow hw 2 rfl) (ow hw 77 rfl) (by decide) (argsL := [(.int ch1)]) (st := []) (c_rep l Z a0 hw ch1 T29.heap) (lenOf pd_4 rfl) (H at_199) (pc' := 202) rfl rfl rfl rfl (by decide) (W := 0) (Nat.le_of_eq rfl) (by decide) (by decide) (by decide) ?_
                  intro T31 X31 e31
                  refine gIfNe X31 hx (H at_202) (pc' := 233) (by decide) (by decide) (pn := 205) rfl (fun (c202 : ¬ (b2i (decide (ch1.toInt = 65533))) = (0 : Int32)) => ?_) (fun (c202 : (b2i (decide (ch1.toInt = 65533))) = (0 : Int32)) => ?_)
                  · exact absurd (of_decide_eq_true (b2_n0.mp c202)) (by have := hch1; omega)
                  · refine gLoadI 207 X31 hx (H at_205) rfl rfl ?_
                    refine gIconst 208 X31 hx (v := (2 : Int32)) (H at_207) rfl rfl ?_
                    refine gIcmpLe X31 hx (H at_208) (pc' := 219) (by decide) (by decide) (pn := 211) rfl (fun (c208 : (2 : Int) ≤ (2 : Int)) => ?_) (fun (c208 : (2 : Int) < (2 : Int)) => ?_)
                    · refine gLoadI 221 X31 hx (H at_219) rfl rfl ?_
                      refine gIconst 222 X31 hx (v := (3 : Int32)) (H at_221) rfl rfl ?_
                      refine gIcmpLe X31 hx (H at_222) (pc' := 237) (by decide) (by decide) (pn := 225) rfl (fun (c222 : (2 : Int) ≤ (3 : Int)) => ?_) (fun (c222 : (3 : Int) < (2 : Int)) => ?_)
                      · refine gIconst 238 X31 hx (v := (0 : Int32)) (H at_237) rfl rfl ?_
                        refine gStoreI 240 X31 hx (H at_238) (l' := #[.val (.int p0), .val (.int p1), .val (.int p2), .val (.int p3), .val (.int p4), .val (.int (2 : Int32)), .val (.int ch0), .val (.int ch1), .val (.int ch2), .val (.int ch3), .val (.ref b19), .val (.int (0 : Int32))]) rfl rfl ?_
                        refine gLoadA 242 X31 hx (H at_240) rfl rfl rfl ?_
                        refine gCallSJ X31 hx hZ (y := mn0) hown e31 (by rw [hml]; rfl) (ow hw 27 rfl) (ow hw 28 rfl) (ow hw 29 rfl) (ow hw 30 rfl) (by decide) (argsL := [(.ref b19)]) (st := []) (c_unL_2 l Z a0 hw b19 t29 ct29 ch0 ch1 T29.heap f29_0 Eq29 Cq29 Vq29 Aq29 hch0 hch1) (lenOf pd_13 rfl) (H at_242) (pc' := 245) rfl rfl rfl rfl (by decide) (W := 0) (Nat.le_of_eq rfl) (by decide) (by decide) (by decide) ?_
                        intro T32 X32 e32
                        refine gLoadI 247 X32 hx (H at_245) rfl rfl ?_
                        refine gIcmpNeT X32 hx (H at_247) (pc' := 254) (by decide) (by decide) (pn := 250) rfl (fun (c247 : ¬ (0 : Int) = (0 : Int)) => ?_) (fun (c247 : (0 : Int) = (0 : Int)) => ?_)
                        · exact absurd c247 (by decide)
                        · refine gIconst 251 X32 hx (v := (1 : Int32)) (H at_250) rfl rfl ?_
                          refine gGoto X32 hx (H at_251) (pc' := 255) (by decide) (by decide) ?_
                          exact gRetHN X32 hx hlk hret (by simp) (H at_255) (w := (1 : Int32)) rfl e32 hS hk29 hZ hEL H29 (by decide) (by decide) (⟨rfl, N29⟩)
                      · exact absurd c222 (by decide)
                    · exact absurd c208 (by decide)
      · exact absurd c56 (by decide)
    · exact absurd c35 (by decide)
  · refine gLoadI 35 X4 hx (H at_33) rfl rfl ?_
    refine gIfNeT X4 hx (H at_35) (pc' := 53) (by decide) (by decide) (pn := 38) rfl (fun (c35 : ¬ (3 : Int) = (0 : Int)) => ?_) (fun (c35 : (3 : Int) = (0 : Int)) => ?_)
    · refine gLoadI 55 X4 hx (H at_53) rfl rfl ?_
      refine gIconst 56 X4 hx (v := (1 : Int32)) (H at_55) rfl rfl ?_
      refine gIcmpNeT X4 hx (H at_56) (pc' := 79) (by decide) (by decide) (pn := 59) rfl (fun (c56 : ¬ (3 : Int) = (1 : Int)) => ?_) (fun (c56 : (3 : Int) = (1 : Int)) => ?_)
      · refine gLoadI 81 X4 hx (H at_79) rfl rfl ?_
        refine gIconst 82 X4 hx (v := (2 : Int32)) (H at_81) rfl rfl ?_
        refine gIcmpNeT X4 hx (H at_82) (pc' := 110) (by decide) (by decide) (pn := 85) rfl (fun (c82 : ¬ (3 : Int) = (2 : Int)) => ?_) (fun (c82 : (3 : Int) = (2 : Int)) => ?_)
        · refine gLoadI 112 X4 hx (H at_110) rfl rfl ?_
          refine gIconst 113 X4 hx (v := (3 : Int32)) (H at_112) rfl rfl ?_
          refine gIcmpNeT X4 hx (H at_113) (pc' := 146) (by decide) (by decide) (pn := 116) rfl (fun (c113 : ¬ (3 : Int) = (3 : Int)) => ?_) (fun (c113 : (3 : Int) = (3 : Int)) => ?_)
          · exact absurd c113 (by decide)
          · refine gNew X4 hx hZ hown (ow hw 5 rfl) (ow hw 6 rfl) (ow hw 7 rfl) eq4 (H at_116) (pc' := 119) rfl (by decide) (by decide) (fun T33 h33 b33 X33 e33 g33 E33 A33 D33 => ?_)
            have H33 := H0.trans (CHr.ext E33 H0.1)
            have hk33 := Nat.le_trans (Nat.zero_le _) E33.1
            have s33_b := Safe.ext E33 H0.1 (Safe.new (Nat.le_of_eq g33.symm))
            have f33_0 := hCpt.ext E33
            have f33_1 := hSio.ext E33
            have f33_2 := hU.ext E33
            have sz_b33 : h0.size ≤ b33 := Nat.le_trans (Nat.le_refl _) (Nat.le_of_eq g33.symm)
            have zs33 : h0.size ≤ h33.size := Nat.le_trans (Nat.le_refl _) E33.1
            have F33_value : Fld Z h33 b33 "java/lang/String" "value" "[B" .null := D33 (Or.inr (ow hw 21 rfl)) (ty := (.array .byte)) (by decide)
            have F33_coder : Fld Z h33 b33 "java/lang/String" "coder" "B" (.int (0 : Int32)) := D33 (Or.inr (ow hw 22 rfl)) (ty := .byte) (by decide)
            refine gDup 120 X33 hx (H at_119) rfl rfl ?_
            refine gIconst 121 X33 hx (v := (3 : Int32)) (H at_120) rfl rfl ?_
            refine gNewP X33 hx hZ (ow hw 8 rfl) e33 (n := (3 : Int32)) (H at_121) (by decide) (cap := 3) (by decide) (by decide) (by decide) (by decide) 3 (pc' := 123) rfl (fun T34 h34 b34 ck34 X34 e34 g34 E34 A34 => ?_)
            have ne_b33_b34 : b33 ≠ b34 := Nat.ne_of_lt (Nat.lt_of_lt_of_eq A33.lt g34.symm)
            have H34 := H33.trans (CHr.ext E34 H33.1)
            have hk34 := Nat.le_trans hk33 E34.1
            have s34_0 := Safe.ext E34 H33.1 s33_b
            have s34_b := Safe.ext E34 H33.1 (Safe.new (Nat.le_of_eq g34.symm))
            have f34_0 := f33_0.ext E34
            have f34_1 := f33_1.ext E34
            have f34_2 := f33_2.ext E34
            have f34_3 := A33.ext E34
            have f34_4 := F33_value.ext E34
            have f34_5 := F33_coder.ext E34
            have sz_b34 : h0.size ≤ b34 := Nat.le_trans zs33 (Nat.le_of_eq g34.symm)
            have zs34 : h0.size ≤ h34.size := Nat.le_trans zs33 E34.1
            have V34 : Arv Z h34 b34 ck34 .char (3 : Int32) [(.int (0 : Int32)), (.int (0 : Int32)), (.int (0 : Int32))] (.int (0 : Int32)) := A34
            refine gDup 124 X34 hx (H at_123) rfl rfl ?_
            refine gIconst 125 X34 hx (v := (0 : Int32)) (H at_124) rfl rfl ?_
            refine gLoadI 127 X34 hx (H at_125) rfl rfl ?_
            refine gCastore X34 hx hZ e34 (x := ch0) V34 (j := (0 : Int32)) (by decide) (by decide) 0 (by decide) (by simp) (H at_127) (pc' := 128) rfl (fun T35 h35 X35 e35 W35 A35 => ?_)
            have S35 := s34_b
            have H35 := H34.trans (CHr.wr W35 S35 H34.1)
            have hk35 := Nat.le_trans hk34 (Nat.le_of_eq W35.size.symm)
            have s35_0 := Safe.wr W35 S35 H34.1 s34_0
            have s35_1 := Safe.wr W35 S35 H34.1 s34_b
            have f35_0 := f34_0.wr W35
            have f35_1 := f34_1.wr W35
            have f35_2 := f34_2.wr W35
            have f35_3 := f34_3.wr W35
            have f35_4 := f34_4.other W35 (Or.inl ne_b33_b34)
            have f35_5 := f34_5.other W35 (Or.inl ne_b33_b34)
            have zs35 : h0.size ≤ h35.size := by rw [W35.size]; exact zs34
            have N35 := Fr.snoc X35 (Fr.nil h0.size) sz_b34
            have V35 : Arv Z h35 b34 _ .char (3 : Int32) [(.int ch0), (.int (0 : Int32)), (.int (0 : Int32))] (.int (0 : Int32)) := (by have q := A35; rw [own_nc hch0] at q; exact q)
            refine gDup 129 X35 hx (H at_128) rfl rfl ?_
            refine gIconst 130 X35 hx (v := (1 : Int32)) (H at_129) rfl rfl ?_
            refine gLoadI 132 X35 hx (H at_130) rfl rfl ?_
            refine gCastore X35 hx hZ e35 (x := ch1) V35 (j := (1 : Int32)) (by decide) (by decide) 1 (by decide) (by simp) (H at_132) (pc' := 133) rfl (fun T36 h36 X36 e36 W36 A36 => ?_)
            have S36 := s35_1
            have H36 := H35.trans (CHr.wr W36 S36 H35.1)
            have hk36 := Nat.le_trans hk35 (Nat.le_of_eq W36.size.symm)
            have s36_0 := Safe.wr W36 S36 H35.1 s35_0
            have s36_1 := Safe.wr W36 S36 H35.1 s35_1
            have f36_0 := f35_0.wr W36
            have f36_1 := f35_1.wr W36
            have f36_2 := f35_2.wr W36
            have f36_3 := f35_3.wr W36
            have f36_4 := f35_4.other W36 (Or.inl ne_b33_b34)
            have f36_5 := f35_5.other W36 (Or.inl ne_b33_b34)
            have zs36 : h0.size ≤ h36.size := by rw [W36.size]; exact zs35
            have N36 := Fr.snoc X36 N35 sz_b34
            have V36 : Arv Z h36 b34 _ .char (3 : Int32) [(.int ch0), (.int ch1), (.int (0 : Int32))] (.int (0 : Int32)) := (by have q := A36; rw [own_nc hch1] at q; exact q)
            refine gDup 134 X36 hx (H at_133) rfl rfl ?_
            refine gIconst 135 X36 hx (v := (2 : Int32)) (H at_134) rfl rfl ?_
            refine gLoadI 137 X36 hx (H at_135) rfl rfl ?_
            refine gCastore X36 hx hZ e36 (x := ch2) V36 (j := (2 : Int32)) (by decide) (by decide) 2 (by decide) (by simp) (H at_137) (pc' := 138) rfl (fun T37 h37 X37 e37 W37 A37 => ?_)
            have S37 := s36_1
            have H37 := H36.trans (CHr.wr W37 S37 H36.1)
            have hk37 := Nat.le_trans hk36 (Nat.le_of_eq W37.size.symm)
            have s37_0 := Safe.wr W37 S37 H36.1 s36_0
            have s37_1 := Safe.wr W37 S37 H36.1 s36_1
            have f37_0 := f36_0.wr W37
            have f37_1 := f36_1.wr W37
            have f37_2 := f36_2.wr W37
            have f37_3 := f36_3.wr W37
            have f37_4 := f36_4.other W37 (Or.inl ne_b33_b34)
            have f37_5 := f36_5.other W37 (Or.inl ne_b33_b34)
            have zs37 : h0.size ≤ h37.size := by rw [W37.size]; exact zs36
            have N37 := Fr.snoc X37 N36 sz_b34
            have V37 : Arv Z h37 b34 _ .char (3 : Int32) [(.int ch0), (.int ch1), (.int ch2)] (.int (0 : Int32)) := (by have q := A37; rw [own_nc hch2] at q; exact q)
            by_cases hbig : 255 < ch0.toInt ∨ 255 < ch1.toInt ∨ 255 < ch2.toInt
            · refine gCallI X37 hx hZ (y := mn7) rfl hown e37 (by rw [hml]; rfl) (ow hw 9 rfl) (ow hw 10 rfl) (ow hw 7 rfl) (ow hw 11 rfl) (by decide) (argsL := [(.ref b34)]) (st := [(.ref b33)]) (c_siu_3 l Z a0 hw b33 b34 _ h0.size ch0 ch1 ch2 h37 f37_0 f37_2 sz_b33 zs37 (Ne.symm ne_b33_b34) f37_3 f37_5 f37_4 V37 hch0 hch1 hch2 hbig) (lenOf pd_19 rfl) (H at_138) (pc' := 141) rfl rfl (by decide) (W := 1) (Nat.le_of_eq rfl) (by decide) (by decide) (by decide) ?_
              intro T38 v38 L38 X38 hQ38
              obtain ⟨t38, ct38, rfl, Nq38, Kq38, gt38, Eq38, Cq38, Vq38, Aq38⟩ := hQ38
              have N38 := Fr.app N37 Nq38
              have H38 := H37.trans (CHr.keep Kq38 (sfS s37_0 sf0) H37.1)
              have hk38 := Nat.le_trans hk37 Kq38.1
              have s38_0 := Safe.keep Kq38 (sfS s37_0 sf0) H37.1 s37_0
              have s38_1 := Safe.keep Kq38 (sfS s37_0 sf0) H37.1 s37_1
              have f38_0 := own_cpt_keep f37_0 Kq38 (nsS (Exa.nostat f37_3) ns0)
              have f38_1 := own_sio_keep f37_1 Kq38 (nsS (Exa.nostat f37_3) ns0)
              have f38_2 := own_u16_keep f37_2 Kq38 (nsS (Exa.nostat f37_3) ns0)
              have f38_3 := f37_3.keep Kq38
              have f38_6 := V37.keep Kq38 (ninS (Ne.symm ne_b33_b34) nin0)
              have zs38 := Nat.le_trans zs37 Kq38.1
              refine gStoreA 143 X38 hx (H at_141) (l' := #[.val (.int p0), .val (.int p1), .val (.int p2), .val (.int p3), .val (.int p4), .val (.int (3 : Int32)), .val (.int ch0), .val (.int ch1), .val (.int ch2), .val (.int ch3), .val (.ref b33), .unset]) rfl rfl rfl ?_
              refine gGoto X38 hx (H at_143) (pc' := 178) (by decide) (by decide) ?_
              refine gLoadI 180 X38 hx (H at_178) rfl rfl ?_
              refine gIfLe X38 hx (H at_180) (pc' := 191) (by decide) (by decide) (pn := 183) rfl (fun (c180 : (3 : Int) ≤ (0 : Int)) => ?_) (fun (c180 : (0 : Int) < (3 : Int)) => ?_)
              · exact absurd c180 (by decide)
              · refine gLoadI 185 X38 hx (H at_183) rfl rfl ?_
                refine gCallSJ X38 hx hZ (y := mn1) hown rfl (by rw [hml]; rfl) (ow hw 75 rfl) (ow hw 76 rfl) (ow hw 2 rfl) (ow hw 77 rfl) (by decide) (argsL := [(.int ch0)]) (st := []) (c_rep l Z a0 hw ch0 T38.heap) (lenOf pd_4 rfl) (H at_185) (pc' := 188) rfl rfl rfl rfl (by decide) (W := 0) (Nat.le_of_eq rfl) (by decide) (by decide) (by decide) ?_
                intro T39 X39 e39
                refine gIfNe X39 hx (H at_188) (pc' := 233) (by decide) (by decide) (pn := 191) rfl (fun (c188 : ¬ (b2i (decide (ch0.toInt = 65533))) = (0 : Int32)) => ?_) (fun (c188 : (b2i (decide (ch0.toInt = 65533))) = (0 : Int32)) => ?_)
                · refine gIconst 234 X39 hx (v := (1 : Int32)) (H at_233) rfl rfl ?_
                  refine gGoto X39 hx (H at_234) (pc' := 238) (by decide) (by decide) ?_
                  refine gStoreI 240 X39 hx (H at_238) (l' := #[.val (.int p0), .val (.int p1), .val (.int p2), .val (.int p3), .val (.int p4), .val (.int (3 : Int32)), .val (.int ch0), .val (.int ch1), .val (.int ch2), .val (.int ch3), .val (.ref b33), .val (.int (1 : Int32))]) rfl rfl ?_
                  refine gLoadA 242 X39 hx (H at_240) rfl rfl rfl ?_
                  refine gCallSJ X39 hx hZ (y := mn0) hown e39 (by rw [hml]; rfl) (ow hw 27 rfl) (ow hw 28 rfl) (ow hw 29 rfl) (ow hw 30 rfl) (by decide) (argsL := [(.ref b33)]) (st := []) (c_unU_3 l Z a0 hw b33 t38 ct38 ch0 ch1 ch2 T38.heap f38_0 Eq38 Cq38 Vq38 f38_2 f38_1 Aq38 hch0 hch1 hch2) (lenOf pd_13 rfl) (H at_242) (pc' := 245) rfl rfl rfl rfl (by decide) (W := 0) (Nat.le_of_eq rfl) (by decide) (by decide) (by decide) ?_
                  intro T40 X40 e40
                  rw [show b2i (decide (ch0.toInt = 65533 ∨ ch1.toInt = 65533 ∨ ch2.toInt = 65533)) = 1 from b2_t (Or.inl (of_decide_eq_true (b2_n0.mp c188)))]
                  refine gLoadI 247 X40 hx (H at_245) rfl rfl ?_
                  refine gIcmpNeT X40 hx (H at_247) (pc' := 254) (by decide) (by decide) (pn := 250) rfl (fun (c247 : ¬ (1 : Int) = (1 : Int)) => ?_) (fun (c247 : (1 : Int) = (1 : Int)) => ?_)
                  · exact absurd c247 (by decide)
                  · refine gIconst 251 X40 hx (v := (1 : Int32)) (H at_250) rfl rfl ?_
                    refine gGoto X40 hx (H at_251) (pc' := 255) (by decide) (by decide) ?_
                    exact gRetHN X40 hx hlk hret (by simp) (H at_255) (w := (1 : Int32)) rfl e40 hS hk38 hZ hEL H38 (by decide) (by decide) (⟨rfl, N38⟩)
                · refine gLoadI 193 X39 hx (H at_191) rfl rfl ?_
                  refine gIconst 194 X39 hx (v := (1 : Int32)) (H at_193) rfl rfl ?_
                  refine gIcmpLe X39 hx (H at_194) (pc' := 205) (by decide) (by decide) (pn := 197) rfl (fun (c194 : (3 : Int) ≤ (1 : Int)) => ?_) (fun (c194 : (1 : Int) < (3 : Int)) => ?_)
                  · exact absurd c194 (by decide)
                  · refine gLoadI 199 X39 hx (H at_197) rfl rfl ?_
                    refine gCallSJ X39 hx hZ (y := mn1) hown e39 (by rw [hml]; rfl) (ow hw 75 rfl) (ow hw 76 rfl) (ow hw 2 rfl) (ow hw 77 rfl) (by decide) (argsL := [(.int ch1)]) (st := []) (c_rep l Z a0 hw ch1 T38.heap) (lenOf pd_4 rfl) (H at_199) (pc' := 202) rfl rfl rfl rfl (by decide) (W := 0) (Nat.le_of_eq rfl) (by decide) (by decide) (by decide) ?_
                    intro T41 X41 e41
                    refine gIfNe X41 hx (H at_202) (pc' := 233) (by decide) (by decide) (pn := 205) rfl (fun (c202 : ¬ (b2i (decide (ch1.toInt = 65533))) = (0 : Int32)) => ?_) (fun (c202 : (b2i (decide (ch1.toInt = 65533))) = (0 : Int32)) => ?_)
                    · refine gIconst 234 X41 hx (v := (1 : Int32)) (H at_233) rfl rfl ?_
                      refine gGoto X41 hx (H at_234) (pc' := 238) (by decide) (by decide) ?_
                      refine gStoreI 240 X41 hx (H at_238) (l' := #[.val (.int p0), .val (.int p1), .val (.int p2), .val (.int p3), .val (.int p4), .val (.int (3 : Int32)), .val (.int ch0), .val (.int ch1), .val (.int ch2), .val (.int ch3), .val (.ref b33), .val (.int (1 : Int32))]) rfl rfl ?_
                      refine gLoadA 242 X41 hx (H at_240) rfl rfl rfl ?_
                      refine gCallSJ X41 hx hZ (y := mn0) hown e41 (by rw [hml]; rfl) (ow hw 27 rfl) (ow hw 28 rfl) (ow hw 29 rfl) (ow hw 30 rfl) (by decide) (argsL := [(.ref b33)]) (st := []) (c_unU_3 l Z a0 hw b33 t38 ct38 ch0 ch1 ch2 T38.heap f38_0 Eq38 Cq38 Vq38 f38_2 f38_1 Aq38 hch0 hch1 hch2) (lenOf pd_13 rfl) (H at_242) (pc' := 245) rfl rfl rfl rfl (by decide) (W := 0) (Nat.le_of_eq rfl) (by decide) (by decide) (by decide) ?_
                      intro T42 X42 e42
                      rw [show b2i (decide (ch0.toInt = 65533 ∨ ch1.toInt = 65533 ∨ ch2.toInt = 65533)) = 1 from b2_t (Or.inr (Or.inl (of_decide_eq_true (b2_n0.mp c202))))]
                      refine gLoadI 247 X42 hx (H at_245) rfl rfl ?_
                      refine gIcmpNeT X42 hx (H at_247) (pc' := 254) (by decide) (by decide) (pn := 250) rfl (fun (c247 : ¬ (1 : Int) = (1 : Int)) => ?_) (fun (c247 : (1 : Int) = (1 : Int)) => ?_)
                      · exact absurd c247 (by decide)
                      · refine gIconst 251 X42 hx (v := (1 : Int32)) (H at_250) rfl rfl ?_
                        refine gGoto X42 hx (H at_251) (pc' := 255) (by decide) (by decide) ?_
                        exact gRetHN X42 hx hlk hret (by simp) (H at_255) (w := (1 : Int32)) rfl e42 hS hk38 hZ hEL H38 (by decide) (by decide) (⟨rfl, N38⟩)
                    · refine gLoadI 207 X41 hx (H at_205) rfl rfl ?_
                      refine gIconst 208 X41 hx (v := (2 : Int32)) (H at_207) rfl rfl ?_
                      refine gIcmpLe X41 hx (H at_208) (pc' := 219) (by decide) (by decide) (pn := 211) rfl (fun (c208 : (3 : Int) ≤ (2 : Int)) => ?_) (fun (c208 : (2 : Int) < (3 : Int)) => ?_)
                      · exact absurd c208 (by decide)
                      · refine gLoadI 213 X41 hx (H at_211) rfl rfl ?_
                        refine gCallSJ X41 hx hZ (y := mn1) hown e41 (by rw [hml]; rfl) (ow hw 75 rfl) (ow hw 76 rfl) (ow hw 2 rfl) (ow hw 77 rfl) (by decide) (argsL := [(.int ch2)]) (st := []) (c_rep l Z a0 hw ch2 T38.heap) (lenOf pd_4 rfl) (H at_213) (pc' := 216) rfl rfl rfl rfl (by decide) (W := 0) (Nat.le_of_eq rfl) (by decide) (by decide) (by decide) ?_
                        intro T43 X43 e43
                        refine gIfNe X43 hx (H at_216) (pc' := 233) (by decide) (by decide) (pn := 219) rfl (fun (c216 : ¬ (b2i (decide (ch2.toInt = 65533))) = (0 : Int32)) => ?_) (fun (c216 : (b2i (decide (ch2.toInt = 65533))) = (0 : Int32)) => ?_)
                        · refine gIconst 234 X43 hx (v := (1 : Int32)) (H at_233) rfl rfl ?_
                          refine gGoto X43 hx (H at_234) (pc' := 238) (by decide) (by decide) ?_
                          refine gStoreI 240 X43 hx (H at_238) (l' := #[.val (.int p0), .val (.int p1), .val (.int p2), .val (.int p3), .val (.int p4), .val (.int (3 : Int32)), .val (.int ch0), .val (.int ch1), .val (.int ch2), .val (.int ch3), .val (.ref b33), .val (.int (1 : Int32))]) rfl rfl ?_
                          refine gLoadA 242 X43 hx (H at_240) rfl rfl rfl ?_
                          refine gCallSJ X43 hx hZ (y := mn0) hown e43 (by rw [hml]; rfl) (ow hw 27 rfl) (ow hw 28 rfl) (ow hw 29 rfl) (ow hw 30 rfl) (by decide) (argsL := [(.ref b33)]) (st := []) (c_unU_3 l Z a0 hw b33 t38 ct38 ch0 ch1 ch2 T38.heap f38_0 Eq38 Cq38 Vq38 f38_2 f38_1 Aq38 hch0 hch1 hch2) (lenOf pd_13 rfl) (H at_242) (pc' := 245) rfl rfl rfl rfl (by decide) (W := 0) (Nat.le_of_eq rfl) (by decide) (by decide) (by decide) ?_
                          intro T44 X44 e44
                          rw [show b2i (decide (ch0.toInt = 65533 ∨ ch1.toInt = 65533 ∨ ch2.toInt = 65533)) = 1 from b2_t (Or.inr (Or.inr (of_decide_eq_true (b2_n0.mp c216))))]
                          refine gLoadI 247 X44 hx (H at_245) rfl rfl ?_
                          refine gIcmpNeT X44 hx (H at_247) (pc' := 254) (by decide) (by decide) (pn := 250) rfl (fun (c247 : ¬ (1 : Int) = (1 : Int)) => ?_) (fun (c247 : (1 : Int) = (1 : Int)) => ?_)
                          · exact absurd c247 (by decide)
                          · refine gIconst 251 X44 hx (v := (1 : Int32)) (H at_250) rfl rfl ?_
                            refine gGoto X44 hx (H at_251) (pc' := 255) (by decide) (by decide) ?_
                            exact gRetHN X44 hx hlk hret (by simp) (H at_255) (w := (1 : Int32)) rfl e44 hS hk38 hZ hEL H38 (by decide) (by decide) (⟨rfl, N38⟩)
                        · refine gLoadI 221 X43 hx (H at_219) rfl rfl ?_
                          refine gIconst 222 X43 hx (v := (3 : Int32)) (H at_221) rfl rfl ?_
                          refine gIcmpLe X43 hx (H at_222) (pc' := 237) (by decide) (by decide) (pn := 225) rfl (fun (c222 : (3 : Int) ≤ (3 : Int)) => ?_) (fun (c222 : (3 : Int) < (3 : Int)) => ?_)
                          · refine gIconst 238 X43 hx (v := (0 : Int32)) (H at_237) rfl rfl ?_
                            refine gStoreI 240 X43 hx (H at_238) (l' := #[.val (.int p0), .val (.int p1), .val (.int p2), .val (.int p3), .val (.int p4), .val (.int (3 : Int32)), .val (.int ch0), .val (.int ch1), .val (.int ch2), .val (.int ch3), .val (.ref b33), .val (.int (0 : Int32))]) rfl rfl ?_
                            refine gLoadA 242 X43 hx (H at_240) rfl rfl rfl ?_
                            refine gCallSJ X43 hx hZ (y := mn0) hown e43 (by rw [hml]; rfl) (ow hw 27 rfl) (ow hw 28 rfl) (ow hw 29 rfl) (ow hw 30 rfl) (by decide) (argsL := [(.ref b33)]) (st := []) (c_unU_3 l Z a0 hw b33 t38 ct38 ch0 ch1 ch2 T38.heap f38_0 Eq38 Cq38 Vq38 f38_2 f38_1 Aq38 hch0 hch1 hch2) (lenOf pd_13 rfl) (H at_242) (pc' := 245) rfl rfl rfl rfl (by decide) (W := 0) (Nat.le_of_eq rfl) (by decide) (by decide) (by decide) ?_
                            intro T45 X45 e45
                            rw [show b2i (decide (ch0.toInt = 65533 ∨ ch1.toInt = 65533 ∨ ch2.toInt = 65533)) = 0 from b2_f (fun q => q.elim (of_decide_eq_false (b2_0.mp c188)) (fun q => q.elim (of_decide_eq_false (b2_0.mp c202)) ((of_decide_eq_false (b2_0.mp c216)))))]
                            refine gLoadI 247 X45 hx (H at_245) rfl rfl ?_
                            refine gIcmpNeT X45 hx (H at_247) (pc' := 254) (by decide) (by decide) (pn := 250) rfl (fun (c247 : ¬ (0 : Int) = (0 : Int)) => ?_) (fun (c247 : (0 : Int) = (0 : Int)) => ?_)
                            · exact absurd c247 (by decide)
                            · refine gIconst 251 X45 hx (v := (1 : Int32)) (H at_250) rfl rfl ?_
                              refine gGoto X45 hx (H at_251) (pc' := 255) (by decide) (by decide) ?_
                              exact gRetHN X45 hx hlk hret (by simp) (H at_255) (w := (1 : Int32)) rfl e45 hS hk38 hZ hEL H38 (by decide) (by decide) (⟨rfl, N38⟩)
                          · exact absurd c222 (by decide)
            · have hch0 : rg ch0 := ⟨hch0.1, by omega⟩
              have hch1 : rg ch1 := ⟨hch1.1, by omega⟩
              have hch2 : rg ch2 := ⟨hch2.1, by omega⟩
              refine gCallI X37 hx hZ (y := mn7) rfl hown e37 (by rw [hml]; rfl) (ow hw 9 rfl) (ow hw 10 rfl) (ow hw 7 rfl) (ow hw 11 rfl) (by decide) (argsL := [(.ref b34)]) (st := [(.ref b33)]) (c_sinit_3 l Z a0 hw b33 b34 _ h0.size ch0 ch1 ch2 h37 f37_0 sz_b33 zs37 (Ne.symm ne_b33_b34) f37_3 f37_5 f37_4 V37 hch0 hch1 hch2) (lenOf pd_19 rfl) (H at_138) (pc' := 141) rfl rfl (by decide) (W := 1) (Nat.le_of_eq rfl) (by decide) (by decide) (by decide) ?_
              intro T46 v46 L46 X46 hQ46
              obtain ⟨t46, ct46, rfl, Nq46, Kq46, gt46, Eq46, Cq46, Vq46, Aq46⟩ := hQ46
              have N46 := Fr.app N37 Nq46
              have H46 := H37.trans (CHr.keep Kq46 (sfS s37_0 sf0) H37.1)
              have hk46 := Nat.le_trans hk37 Kq46.1
              have s46_0 := Safe.keep Kq46 (sfS s37_0 sf0) H37.1 s37_0
              have s46_1 := Safe.keep Kq46 (sfS s37_0 sf0) H37.1 s37_1
              have f46_0 := own_cpt_keep f37_0 Kq46 (nsS (Exa.nostat f37_3) ns0)
              have f46_1 := own_sio_keep f37_1 Kq46 (nsS (Exa.nostat f37_3) ns0)
              have f46_2 := own_u16_keep f37_2 Kq46 (nsS (Exa.nostat f37_3) ns0)
              have f46_3 := f37_3.keep Kq46
              have f46_6 := V37.keep Kq46 (ninS (Ne.symm ne_b33_b34) nin0)
              have zs46 := Nat.le_trans zs37 Kq46.1
              refine gStoreA 143 X46 hx (H at_141) (l' := #[.val (.int p0), .val (.int p1), .val (.int p2), .val (.int p3), .val (.int p4), .val (.int (3 : Int32)), .val (.int ch0), .val (.int ch1), .val (.int ch2), .val (.int ch3), .val (.ref b33), .unset]) rfl rfl rfl ?_
              refine gGoto X46 hx (H at_143) (pc' := 178) (by decide) (by decide) ?_
              refine gLoadI 180 X46 hx (H at_178) rfl rfl ?_
              refine gIfLe X46 hx (H at_180) (pc' := 191) (by decide) (by decide) (pn := 183) rfl (fun (c180 : (3 : Int) ≤ (0 : Int)) => ?_) (fun (c180 : (0 : Int) < (3 : Int)) => ?_)
              · exact absurd c180 (by decide)
              · refine gLoadI 185 X46 hx (H at_183) rfl rfl ?_
                refine gCallSJ X46 hx hZ (y := mn1) hown rfl (by rw [hml]; rfl) (ow hw 75 rfl) (ow hw 76 rfl) (ow hw 2 rfl) (ow hw 77 rfl) (by decide) (argsL := [(.int ch0)]) (st := []) (c_rep l Z a0 hw ch0 T46.heap) (lenOf pd_4 rfl) (H at_185) (pc' := 188) rfl rfl rfl rfl (by decide) (W := 0) (Nat.le_of_eq rfl) (by decide) (by decide) (by decide) ?_
                intro T47 X47 e47
                refine gIfNe X47 hx (H at_188) (pc' := 233) (by decide) (by decide) (pn := 191) rfl (fun (c188 : ¬ (b2i (decide (ch0.toInt = 65533))) = (0 : Int32)) => ?_) (fun (c188 : (b2i (decide (ch0.toInt = 65533))) = (0 : Int32)) => ?_)
                · exact absurd (of_decide_eq_true (b2_n0.mp c188)) (by have := hch0; omega)
                · refine gLoadI 193 X47 hx (H at_191) rfl rfl ?_
                  refine gIconst 194 X47 hx (v := (1 : Int32)) (H at_193) rfl rfl ?_
                  refine gIcmpLe X47 hx (H at_194) (pc' := 205) (by decide) (by decide) (pn := 197) rfl (fun (c194 : (3 : Int) ≤ (1 : Int)) => ?_) (fun (c194 : (1 : Int) < (3 : Int)) => ?_)
                  · exact absurd c194 (by decide)
                  · refine gLoadI 199 X47 hx (H at_197) rfl rfl ?_
                    refine gCallSJ X47 hx hZ (y := mn1) hown e47 (by rw [hml]; rfl) (ow hw 75 rfl) (ow hw 76 rfl) (ow hw 2 rfl) (ow hw 77 rfl) (by decide) (argsL := [(.int ch1)]) (st := []) (c_rep l Z a0 hw ch1 T46.heap) (lenOf pd_4 rfl) (H at_199) (pc' := 202) rfl rfl rfl rfl (by decide) (W := 0) (Nat.le_of_eq rfl) (by decide) (by decide) (by decide) ?_
                    intro T48 X48 e48
                    refine gIfNe X48 hx (H at_202) (pc' := 233) (by decide) (by decide) (pn := 205) rfl (fun (c202 : ¬ (b2i (decide (ch1.toInt = 65533))) = (0 : Int32)) => ?_) (fun (c202 : (b2i (decide (ch1.toInt = 65533))) = (0 : Int32)) => ?_)
                    · exact absurd (of_decide_eq_true (b2_n0.mp c202)) (by have := hch1; omega)
                    · refine gLoadI 207 X48 hx (H at_205) rfl rfl ?_
                      refine gIconst 208 X48 hx (v := (2 : Int32)) (H at_207) rfl rfl ?_
                      refine gIcmpLe X48 hx (H at_208) (pc' := 219) (by decide) (by decide) (pn := 211) rfl (fun (c208 : (3 : Int) ≤ (2 : Int)) => ?_) (fun (c208 : (2 : Int) < (3 : Int)) => ?_)
                      · exact absurd c208 (by decide)
                      · refine gLoadI 213 X48 hx (H at_211) rfl rfl ?_
                        refine gCallSJ X48 hx hZ (y := mn1) hown e48 (by rw [hml]; rfl) (ow hw 75 rfl) (ow hw 76 rfl) (ow hw 2 rfl) (ow hw 77 rfl) (by decide) (argsL := [(.int ch2)]) (st := []) (c_rep l Z a0 hw ch2 T46.heap) (lenOf pd_4 rfl) (H at_213) (pc' := 216) rfl rfl rfl rfl (by decide) (W := 0) (Nat.le_of_eq rfl) (by decide) (by decide) (by decide) ?_
                        intro T49 X49 e49
                        refine gIfNe X49 hx (H at_216) (pc' := 233) (by decide) (by decide) (pn := 219) rfl (fun (c216 : ¬ (b2i (decide (ch2.toInt = 65533))) = (0 : Int32)) => ?_) (fun (c216 : (b2i (decide (ch2.toInt = 65533))) = (0 : Int32)) => ?_)
                        · exact absurd (of_decide_eq_true (b2_n0.mp c216)) (by have := hch2; omega)
                        · refine gLoadI 221 X49 hx (H at_219) rfl rfl ?_
                          refine gIconst 222 X49 hx (v := (3 : Int32)) (H at_221) rfl rfl ?_
                          refine gIcmpLe X49 hx (H at_222) (pc' := 237) (by decide) (by decide) (pn := 225) rfl (fun (c222 : (3 : Int) ≤ (3 : Int)) => ?_) (fun (c222 : (3 : Int) < (3 : Int)) => ?_)
                          · refine gIconst 238 X49 hx (v := (0 : Int32)) (H at_237) rfl rfl ?_
                            refine gStoreI 240 X49 hx (H at_238) (l' := #[.val (.int p0), .val (.int p1), .val (.int p2), .val (.int p3), .val (.int p4), .val (.int (3 : Int32)), .val (.int ch0), .val (.int ch1), .val (.int ch2), .val (.int ch3), .val (.ref b33), .val (.int (0 : Int32))]) rfl rfl ?_
                            refine gLoadA 242 X49 hx (H at_240) rfl rfl rfl ?_
                            refine gCallSJ X49 hx hZ (y := mn0) hown e49 (by rw [hml]; rfl) (ow hw 27 rfl) (ow hw 28 rfl) (ow hw 29 rfl) (ow hw 30 rfl) (by decide) (argsL := [(.ref b33)]) (st := []) (c_unL_3 l Z a0 hw b33 t46 ct46 ch0 ch1 ch2 T46.heap f46_0 Eq46 Cq46 Vq46 Aq46 hch0 hch1 hch2) (lenOf pd_13 rfl) (H at_242) (pc' := 245) rfl rfl rfl rfl (by decide) (W := 0) (Nat.le_of_eq rfl) (by decide) (by decide) (by decide) ?_
                            intro T50 X50 e50
                            refine gLoadI 247 X50 hx (H at_245) rfl rfl ?_
                            refine gIcmpNeT X50 hx (H at_247) (pc' := 254) (by decide) (by decide) (pn := 250) rfl (fun (c247 : ¬ (0 : Int) = (0 : Int)) => ?_) (fun (c247 : (0 : Int) = (0 : Int)) => ?_)
                            · exact absurd c247 (by decide)
                            · refine gIconst 251 X50 hx (v := (1 : Int32)) (H at_250) rfl rfl ?_
                              refine gGoto X50 hx (H at_251) (pc' := 255) (by decide) (by decide) ?_
                              exact gRetHN X50 hx hlk hret (by simp) (H at_255) (w := (1 : Int32)) rfl e50 hS hk46 hZ hEL H46 (by decide) (by decide) (⟨rfl, N46⟩)
                          · exact absurd c222 (by decide)
        · exact absurd c82 (by decide)
      · exact absurd c56 (by decide)
    · exact absurd c35 (by decide)
  · refine gLoadI 35 X4 hx (H at_33) rfl rfl ?_
    refine gIfNeT X4 hx (H at_35) (pc' := 53) (by decide) (by decide) (pn := 38) rfl (fun (c35 : ¬ (4 : Int) = (0 : Int)) => ?_) (fun (c35 : (4 : Int) = (0 : Int)) => ?_)
    · refine gLoadI 55 X4 hx (H at_53) rfl rfl ?_
      refine gIconst 56 X4 hx (v := (1 : Int32)) (H at_55) rfl rfl ?_
      refine gIcmpNeT X4 hx (H at_56) (pc' := 79) (by decide) (by decide) (pn := 59) rfl (fun (c56 : ¬ (4 : Int) = (1 : Int)) => ?_) (fun (c56 : (4 : Int) = (1 : Int)) => ?_)
      · refine gLoadI 81 X4 hx (H at_79) rfl rfl ?_
        refine gIconst 82 X4 hx (v := (2 : Int32)) (H at_81) rfl rfl ?_
        refine gIcmpNeT X4 hx (H at_82) (pc' := 110) (by decide) (by decide) (pn := 85) rfl (fun (c82 : ¬ (4 : Int) = (2 : Int)) => ?_) (fun (c82 : (4 : Int) = (2 : Int)) => ?_)
        · refine gLoadI 112 X4 hx (H at_110) rfl rfl ?_
          refine gIconst 113 X4 hx (v := (3 : Int32)) (H at_112) rfl rfl ?_
          refine gIcmpNeT X4 hx (H at_113) (pc' := 146) (by decide) (by decide) (pn := 116) rfl (fun (c113 : ¬ (4 : Int) = (3 : Int)) => ?_) (fun (c113 : (4 : Int) = (3 : Int)) => ?_)
          · refine gNew X4 hx hZ hown (ow hw 5 rfl) (ow hw 6 rfl) (ow hw 7 rfl) eq4 (H at_146) (pc' := 149) rfl (by decide) (by decide) (fun T51 h51 b51 X51 e51 g51 E51 A51 D51 => ?_)
            have H51 := H0.trans (CHr.ext E51 H0.1)
            have hk51 := Nat.le_trans (Nat.zero_le _) E51.1
            have s51_b := Safe.ext E51 H0.1 (Safe.new (Nat.le_of_eq g51.symm))
            have f51_0 := hCpt.ext E51
            have f51_1 := hSio.ext E51
            have f51_2 := hU.ext E51
            have sz_b51 : h0.size ≤ b51 := Nat.le_trans (Nat.le_refl _) (Nat.le_of_eq g51.symm)
            have zs51 : h0.size ≤ h51.size := Nat.le_trans (Nat.le_refl _) E51.1
            have F51_value : Fld Z h51 b51 "java/lang/String" "value" "[B" .null := D51 (Or.inr (ow hw 21 rfl)) (ty := (.array .byte)) (by decide)
            have F51_coder : Fld Z h51 b51 "java/lang/String" "coder" "B" (.int (0 : Int32)) := D51 (Or.inr (ow hw 22 rfl)) (ty := .byte) (by decide)
            refine gDup 150 X51 hx (H at_149) rfl rfl ?_
            refine gIconst 151 X51 hx (v := (4 : Int32)) (H at_150) rfl rfl ?_
            refine gNewP X51 hx hZ (ow hw 8 rfl) e51 (n := (4 : Int32)) (H at_151) (by decide) (cap := 4) (by decide) (by decide) (by decide) (by decide) 4 (pc' := 153) rfl (fun T52 h52 b52 ck52 X52 e52 g52 E52 A52 => ?_)
            have ne_b51_b52 : b51 ≠ b52 := Nat.ne_of_lt (Nat.lt_of_lt_of_eq A51.lt g52.symm)
            have H52 := H51.trans (CHr.ext E52 H51.1)
            have hk52 := Nat.le_trans hk51 E52.1
            have s52_0 := Safe.ext E52 H51.1 s51_b
            have s52_b := Safe.ext E52 H51.1 (Safe.new (Nat.le_of_eq g52.symm))
            have f52_0 := f51_0.ext E52
            have f52_1 := f51_1.ext E52
            have f52_2 := f51_2.ext E52
            have f52_3 := A51.ext E52
            have f52_4 := F51_value.ext E52
            have f52_5 := F51_coder.ext E52
            have sz_b52 : h0.size ≤ b52 := Nat.le_trans zs51 (Nat.le_of_eq g52.symm)
            have zs52 : h0.size ≤ h52.size := Nat.le_trans zs51 E52.1
            have V52 : Arv Z h52 b52 ck52 .char (4 : Int32) [(.int (0 : Int32)), (.int (0 : Int32)), (.int (0 : Int32)), (.int (0 : Int32))] (.int (0 : Int32)) := A52
            refine gDup 154 X52 hx (H at_153) rfl rfl ?_
            refine gIconst 155 X52 hx (v := (0 : Int32)) (H at_154) rfl rfl ?_
            refine gLoadI 157 X52 hx (H at_155) rfl rfl ?_
            refine gCastore X52 hx hZ e52 (x := ch0) V52 (j := (0 : Int32)) (by decide) (by decide) 0 (by decide) (by simp) (H at_157) (pc' := 158) rfl (fun T53 h53 X53 e53 W53 A53 => ?_)
            have S53 := s52_b
            have H53 := H52.trans (CHr.wr W53 S53 H52.1)
            have hk53 := Nat.le_trans hk52 (Nat.le_of_eq W53.size.symm)
            have s53_0 := Safe.wr W53 S53 H52.1 s52_0
            have s53_1 := Safe.wr W53 S53 H52.1 s52_b
            have f53_0 := f52_0.wr W53
            have f53_1 := f52_1.wr W53
            have f53_2 := f52_2.wr W53
            have f53_3 := f52_3.wr W53
            have f53_4 := f52_4.other W53 (Or.inl ne_b51_b52)
            have f53_5 := f52_5.other W53 (Or.inl ne_b51_b52)
            have zs53 : h0.size ≤ h53.size := by rw [W53.size]; exact zs52
            have N53 := Fr.snoc X53 (Fr.nil h0.size) sz_b52
            have V53 : Arv Z h53 b52 _ .char (4 : Int32) [(.int ch0), (.int (0 : Int32)), (.int (0 : Int32)), (.int (0 : Int32))] (.int (0 : Int32)) := (by have q := A53; rw [own_nc hch0] at q; exact q)
            refine gDup 159 X53 hx (H at_158) rfl rfl ?_
            refine gIconst 160 X53 hx (v := (1 : Int32)) (H at_159) rfl rfl ?_
            refine gLoadI 162 X53 hx (H at_160) rfl rfl ?_
            refine gCastore X53 hx hZ e53 (x := ch1) V53 (j := (1 : Int32)) (by decide) (by decide) 1 (by decide) (by simp) (H at_162) (pc' := 163) rfl (fun T54 h54 X54 e54 W54 A54 => ?_)
            have S54 := s53_1
            have H54 := H53.trans (CHr.wr W54 S54 H53.1)
            have hk54 := Nat.le_trans hk53 (Nat.le_of_eq W54.size.symm)
            have s54_0 := Safe.wr W54 S54 H53.1 s53_0
            have s54_1 := Safe.wr W54 S54 H53.1 s53_1
            have f54_0 := f53_0.wr W54
            have f54_1 := f53_1.wr W54
            have f54_2 := f53_2.wr W54
            have f54_3 := f53_3.wr W54
            have f54_4 := f53_4.other W54 (Or.inl ne_b51_b52)
            have f54_5 := f53_5.other W54 (Or.inl ne_b51_b52)
            have zs54 : h0.size ≤ h54.size := by rw [W54.size]; exact zs53
            have N54 := Fr.snoc X54 N53 sz_b52
            have V54 : Arv Z h54 b52 _ .char (4 : Int32) [(.int ch0), (.int ch1), (.int (0 : Int32)), (.int (0 : Int32))] (.int (0 : Int32)) := (by have q := A54; rw [own_nc hch1] at q; exact q)
            refine gDup 164 X54 hx (H at_163) rfl rfl ?_
            refine gIconst 165 X54 hx (v := (2 : Int32)) (H at_164) rfl rfl ?_
            refine gLoadI 167 X54 hx (H at_165) rfl rfl ?_
            refine gCastore X54 hx hZ e54 (x := ch2) V54 (j := (2 : Int32)) (by decide) (by decide) 2 (by decide) (by simp) (H at_167) (pc' := 168) rfl (fun T55 h55 X55 e55 W55 A55 => ?_)
            have S55 := s54_1
            have H55 := H54.trans (CHr.wr W55 S55 H54.1)
            have hk55 := Nat.le_trans hk54 (Nat.le_of_eq W55.size.symm)
            have s55_0 := Safe.wr W55 S55 H54.1 s54_0
            have s55_1 := Safe.wr W55 S55 H54.1 s54_1
            have f55_0 := f54_0.wr W55
            have f55_1 := f54_1.wr W55
            have f55_2 := f54_2.wr W55
            have f55_3 := f54_3.wr W55
            have f55_4 := f54_4.other W55 (Or.inl ne_b51_b52)
            have f55_5 := f54_5.other W55 (Or.inl ne_b51_b52)
            have zs55 : h0.size ≤ h55.size := by rw [W55.size]; exact zs54
            have N55 := Fr.snoc X55 N54 sz_b52
            have V55 : Arv Z h55 b52 _ .char (4 : Int32) [(.int ch0), (.int ch1), (.int ch2), (.int (0 : Int32))] (.int (0 : Int32)) := (by have q := A55; rw [own_nc hch2] at q; exact q)
            refine gDup 169 X55 hx (H at_168) rfl rfl ?_
            refine gIconst 170 X55 hx (v := (3 : Int32)) (H at_169) rfl rfl ?_
            refine gLoadI 172 X55 hx (H at_170) rfl rfl ?_
            refine gCastore X55 hx hZ e55 (x := ch3) V55 (j := (3 : Int32)) (by decide) (by decide) 3 (by decide) (by simp) (H at_172) (pc' := 173) rfl (fun T56 h56 X56 e56 W56 A56 => ?_)
            have S56 := s55_1
            have H56 := H55.trans (CHr.wr W56 S56 H55.1)
            have hk56 := Nat.le_trans hk55 (Nat.le_of_eq W56.size.symm)
            have s56_0 := Safe.wr W56 S56 H55.1 s55_0
            have s56_1 := Safe.wr W56 S56 H55.1 s55_1
            have f56_0 := f55_0.wr W56
            have f56_1 := f55_1.wr W56
            have f56_2 := f55_2.wr W56
            have f56_3 := f55_3.wr W56
            have f56_4 := f55_4.other W56 (Or.inl ne_b51_b52)
            have f56_5 := f55_5.other W56 (Or.inl ne_b51_b52)
            have zs56 : h0.size ≤ h56.size := by rw [W56.size]; exact zs55
            have N56 := Fr.snoc X56 N55 sz_b52
            have V56 : Arv Z h56 b52 _ .char (4 : Int32) [(.int ch0), (.int ch1), (.int ch2), (.int ch3)] (.int (0 : Int32)) := (by have q := A56; rw [own_nc hch3] at q; exact q)
            by_cases hbig : 255 < ch0.toInt ∨ 255 < ch1.toInt ∨ 255 < ch2.toInt ∨ 255 < ch3.toInt
            · refine gCallI X56 hx hZ (y := mn7) rfl hown e56 (by rw [hml]; rfl) (ow hw 9 rfl) (ow hw 10 rfl) (ow hw 7 rfl) (ow hw 11 rfl) (by decide) (argsL := [(.ref b52)]) (st := [(.ref b51)]) (c_siu_4 l Z a0 hw b51 b52 _ h0.size ch0 ch1 ch2 ch3 h56 f56_0 f56_2 sz_b51 zs56 (Ne.symm ne_b51_b52) f56_3 f56_5 f56_4 V56 hch0 hch1 hch2 hch3 hbig) (lenOf pd_19 rfl) (H at_173) (pc' := 176) rfl rfl (by decide) (W := 1) (Nat.le_of_eq rfl) (by decide) (by decide) (by decide) ?_
              intro T57 v57 L57 X57 hQ57
              obtain ⟨t57, ct57, rfl, Nq57, Kq57, gt57, Eq57, Cq57, Vq57, Aq57⟩ := hQ57
              have N57 := Fr.app N56 Nq57
              have H57 := H56.trans (CHr.keep Kq57 (sfS s56_0 sf0) H56.1)
              have hk57 := Nat.le_trans hk56 Kq57.1
              have s57_0 := Safe.keep Kq57 (sfS s56_0 sf0) H56.1 s56_0
              have s57_1 := Safe.keep Kq57 (sfS s56_0 sf0) H56.1 s56_1
              have f57_0 := own_cpt_keep f56_0 Kq57 (nsS (Exa.nostat f56_3) ns0)
              have f57_1 := own_sio_keep f56_1 Kq57 (nsS (Exa.nostat f56_3) ns0)
              have f57_2 := own_u16_keep f56_2 Kq57 (nsS (Exa.nostat f56_3) ns0)
              have f57_3 := f56_3.keep Kq57
              have f57_6 := V56.keep Kq57 (ninS (Ne.symm ne_b51_b52) nin0)
              have zs57 := Nat.le_trans zs56 Kq57.1
              refine gStoreA 178 X57 hx (H at_176) (l' := #[.val (.int p0), .val (.int p1), .val (.int p2), .val (.int p3), .val (.int p4), .val (.int (4 : Int32)), .val (.int ch0), .val (.int ch1), .val (.int ch2), .val (.int ch3), .val (.ref b51), .unset]) rfl rfl rfl ?_
              refine gLoadI 180 X57 hx (H at_178) rfl rfl ?_
              refine gIfLe X57 hx (H at_180) (pc' := 191) (by decide) (by decide) (pn := 183) rfl (fun (c180 : (4 : Int) ≤ (0 : Int)) => ?_) (fun (c180 : (0 : Int) < (4 : Int)) => ?_)
              · exact absurd c180 (by decide)
              · refine gLoadI 185 X57 hx (H at_183) rfl rfl ?_
                refine gCallSJ X57 hx hZ (y := mn1) hown rfl (by rw [hml]; rfl) (ow hw 75 rfl) (ow hw 76 rfl) (ow hw 2 rfl) (ow hw 77 rfl) (by decide) (argsL := [(.int ch0)]) (st := []) (c_rep l Z a0 hw ch0 T57.heap) (lenOf pd_4 rfl) (H at_185) (pc' := 188) rfl rfl rfl rfl (by decide) (W := 0) (Nat.le_of_eq rfl) (by decide) (by decide) (by decide) ?_
                intro T58 X58 e58
                refine gIfNe X58 hx (H at_188) (pc' := 233) (by decide) (by decide) (pn := 191) rfl (fun (c188 : ¬ (b2i (decide (ch0.toInt = 65533))) = (0 : Int32)) => ?_) (fun (c188 : (b2i (decide (ch0.toInt = 65533))) = (0 : Int32)) => ?_)
                · refine gIconst 234 X58 hx (v := (1 : Int32)) (H at_233) rfl rfl ?_
                  refine gGoto X58 hx (H at_234) (pc' := 238) (by decide) (by decide) ?_
                  refine gStoreI 240 X58 hx (H at_238) (l' := #[.val (.int p0), .val (.int p1), .val (.int p2), .val (.int p3), .val (.int p4), .val (.int (4 : Int32)), .val (.int ch0), .val (.int ch1), .val (.int ch2), .val (.int ch3), .val (.ref b51), .val (.int (1 : Int32))]) rfl rfl ?_
                  refine gLoadA 242 X58 hx (H at_240) rfl rfl rfl ?_
                  refine gCallSJ X58 hx hZ (y := mn0) hown e58 (by rw [hml]; rfl) (ow hw 27 rfl) (ow hw 28 rfl) (ow hw 29 rfl) (ow hw 30 rfl) (by decide) (argsL := [(.ref b51)]) (st := []) (c_unU_4 l Z a0 hw b51 t57 ct57 ch0 ch1 ch2 ch3 T57.heap f57_0 Eq57 Cq57 Vq57 f57_2 f57_1 Aq57 hch0 hch1 hch2 hch3) (lenOf pd_13 rfl) (H at_242) (pc' := 245) rfl rfl rfl rfl (by decide) (W := 0) (Nat.le_of_eq rfl) (by decide) (by decide) (by decide) ?_
                  intro T59 X59 e59
                  rw [show b2i (decide (ch0.toInt = 65533 ∨ ch1.toInt = 65533 ∨ ch2.toInt = 65533 ∨ ch3.toInt = 65533)) = 1 from b2_t (Or.inl (of_decide_eq_true (b2_n0.mp c188)))]
                  refine gLoadI 247 X59 hx (H at_245) rfl rfl ?_
                  refine gIcmpNeT X59 hx (H at_247) (pc' := 254) (by decide) (by decide) (pn := 250) rfl (fun (c247 : ¬ (1 : Int) = (1 : Int)) => ?_) (fun (c247 : (1 : Int) = (1 : Int)) => ?_)
                  · exact absurd c247 (by decide)
                  · refine gIconst 251 X59 hx (v := (1 : Int32)) (H at_250) rfl rfl ?_
                    refine gGoto X59 hx (H at_251) (pc' := 255) (by decide) (by decide) ?_
                    exact gRetHN X59 hx hlk hret (by simp) (H at_255) (w := (1 : Int32)) rfl e59 hS hk57 hZ hEL H57 (by decide) (by decide) (⟨rfl, N57⟩)
                · refine gLoadI 193 X58 hx (H at_191) rfl rfl ?_
                  refine gIconst 194 X58 hx (v := (1 : Int32)) (H at_193) rfl rfl ?_
                  refine gIcmpLe X58 hx (H at_194) (pc' := 205) (by decide) (by decide) (pn := 197) rfl (fun (c194 : (4 : Int) ≤ (1 : Int)) => ?_) (fun (c194 : (1 : Int) < (4 : Int)) => ?_)
                  · exact absurd c194 (by decide)
                  · refine gLoadI 199 X58 hx (H at_197) rfl rfl ?_
                    refine gCallSJ X58 hx hZ (y := mn1) hown e58 (by rw [hml]; rfl) (ow hw 75 rfl) (ow hw 76 rfl) (ow hw 2 rfl) (ow hw 77 rfl) (by decide) (argsL := [(.int ch1)]) (st := []) (c_rep l Z a0 hw ch1 T57.heap) (lenOf pd_4 rfl) (H at_199) (pc' := 202) rfl rfl rfl rfl (by decide) (W := 0) (Nat.le_of_eq rfl) (by decide) (by decide) (by decide) ?_
                    intro T60 X60 e60
                    refine gIfNe X60 hx (H at_202) (pc' := 233) (by decide) (by decide) (pn := 205) rfl (fun (c202 : ¬ (b2i (decide (ch1.toInt = 65533))) = (0 : Int32)) => ?_) (fun (c202 : (b2i (decide (ch1.toInt = 65533))) = (0 : Int32)) => ?_)
                    · refine gIconst 234 X60 hx (v := (1 : Int32)) (H at_233) rfl rfl ?_
                      refine gGoto X60 hx (H at_234) (pc' := 238) (by decide) (by decide) ?_
                      refine gStoreI 240 X60 hx (H at_238) (l' := #[.val (.int p0), .val (.int p1), .val (.int p2), .val (.int p3), .val (.int p4), .val (.int (4 : Int32)), .val (.int ch0), .val (.int ch1), .val (.int ch2), .val (.int ch3), .val (.ref b51), .val (.int (1 : Int32))]) rfl rfl ?_
                      refine gLoadA 242 X60 hx (H at_240) rfl rfl rfl ?_
                      refine gCallSJ X60 hx hZ (y := mn0) hown e60 (by rw [hml]; rfl) (ow hw 27 rfl) (ow hw 28 rfl) (ow hw 29 rfl) (ow hw 30 rfl) (by decide) (argsL := [(.ref b51)]) (st := []) (c_unU_4 l Z a0 hw b51 t57 ct57 ch0 ch1 ch2 ch3 T57.heap f57_0 Eq57 Cq57 Vq57 f57_2 f57_1 Aq57 hch0 hch1 hch2 hch3) (lenOf pd_13 rfl) (H at_242) (pc' := 245) rfl rfl rfl rfl (by decide) (W := 0) (Nat.le_of_eq rfl) (by decide) (by decide) (by decide) ?_
                      intro T61 X61 e61
                      rw [show b2i (decide (ch0.toInt = 65533 ∨ ch1.toInt = 65533 ∨ ch2.toInt = 65533 ∨ ch3.toInt = 65533)) = 1 from b2_t (Or.inr (Or.inl (of_decide_eq_true (b2_n0.mp c202))))]
                      refine gLoadI 247 X61 hx (H at_245) rfl rfl ?_
                      refine gIcmpNeT X61 hx (H at_247) (pc' := 254) (by decide) (by decide) (pn := 250) rfl (fun (c247 : ¬ (1 : Int) = (1 : Int)) => ?_) (fun (c247 : (1 : Int) = (1 : Int)) => ?_)
                      · exact absurd c247 (by decide)
                      · refine gIconst 251 X61 hx (v := (1 : Int32)) (H at_250) rfl rfl ?_
                        refine gGoto X61 hx (H at_251) (pc' := 255) (by decide) (by decide) ?_
                        exact gRetHN X61 hx hlk hret (by simp) (H at_255) (w := (1 : Int32)) rfl e61 hS hk57 hZ hEL H57 (by decide) (by decide) (⟨rfl, N57⟩)
                    · refine gLoadI 207 X60 hx (H at_205) rfl rfl ?_
                      refine gIconst 208 X60 hx (v := (2 : Int32)) (H at_207) rfl rfl ?_
                      refine gIcmpLe X60 hx (H at_208) (pc' := 219) (by decide) (by decide) (pn := 211) rfl (fun (c208 : (4 : Int) ≤ (2 : Int)) => ?_) (fun (c208 : (2 : Int) < (4 : Int)) => ?_)
                      · exact absurd c208 (by decide)
                      · refine gLoadI 213 X60 hx (H at_211) rfl rfl ?_
                        refine gCallSJ X60 hx hZ (y := mn1) hown e60 (by rw [hml]; rfl) (ow hw 75 rfl) (ow hw 76 rfl) (ow hw 2 rfl) (ow hw 77 rfl) (by decide) (argsL := [(.int ch2)]) (st := []) (c_rep l Z a0 hw ch2 T57.heap) (lenOf pd_4 rfl) (H at_213) (pc' := 216) rfl rfl rfl rfl (by decide) (W := 0) (Nat.le_of_eq rfl) (by decide) (by decide) (by decide) ?_
                        intro T62 X62 e62
                        refine gIfNe X62 hx (H at_216) (pc' := 233) (by decide) (by decide) (pn := 219) rfl (fun (c216 : ¬ (b2i (decide (ch2.toInt = 65533))) = (0 : Int32)) => ?_) (fun (c216 : (b2i (decide (ch2.toInt = 65533))) = (0 : Int32)) => ?_)
                        · refine gIconst 234 X62 hx (v := (1 : Int32)) (H at_233) rfl rfl ?_
                          refine gGoto X62 hx (H at_234) (pc' := 238) (by decide) (by decide) ?_
                          refine gStoreI 240 X62 hx (H at_238) (l' := #[.val (.int p0), .val (.int p1), .val (.int p2), .val (.int p3), .val (.int p4), .val (.int (4 : Int32)), .val (.int ch0), .val (.int ch1), .val (.int ch2), .val (.int ch3), .val (.ref b51), .val (.int (1 : Int32))]) rfl rfl ?_
                          refine gLoadA 242 X62 hx (H at_240) rfl rfl rfl ?_
                          refine gCallSJ X62 hx hZ (y := mn0) hown e62 (by rw [hml]; rfl) (ow hw 27 rfl) (ow hw 28 rfl) (ow hw 29 rfl) (ow hw 30 rfl) (by decide) (argsL := [(.ref b51)]) (st := []) (c_unU_4 l Z a0 hw b51 t57 ct57 ch0 ch1 ch2 ch3 T57.heap f57_0 Eq57 Cq57 Vq57 f57_2 f57_1 Aq57 hch0 hch1 hch2 hch3) (lenOf pd_13 rfl) (H at_242) (pc' := 245) rfl rfl rfl rfl (by decide) (W := 0) (Nat.le_of_eq rfl) (by decide) (by decide) (by decide) ?_
                          intro T63 X63 e63
                          rw [show b2i (decide (ch0.toInt = 65533 ∨ ch1.toInt = 65533 ∨ ch2.toInt = 65533 ∨ ch3.toInt = 65533)) = 1 from b2_t (Or.inr (Or.inr (Or.inl (of_decide_eq_true (b2_n0.mp c216)))))]
                          refine gLoadI 247 X63 hx (H at_245) rfl rfl ?_
                          refine gIcmpNeT X63 hx (H at_247) (pc' := 254) (by decide) (by decide) (pn := 250) rfl (fun (c247 : ¬ (1 : Int) = (1 : Int)) => ?_) (fun (c247 : (1 : Int) = (1 : Int)) => ?_)
                          · exact absurd c247 (by decide)
                          · refine gIconst 251 X63 hx (v := (1 : Int32)) (H at_250) rfl rfl ?_
                            refine gGoto X63 hx (H at_251) (pc' := 255) (by decide) (by decide) ?_
                            exact gRetHN X63 hx hlk hret (by simp) (H at_255) (w := (1 : Int32)) rfl e63 hS hk57 hZ hEL H57 (by decide) (by decide) (⟨rfl, N57⟩)
                        · refine gLoadI 221 X62 hx (H at_219) rfl rfl ?_
                          refine gIconst 222 X62 hx (v := (3 : Int32)) (H at_221) rfl rfl ?_
                          refine gIcmpLe X62 hx (H at_222) (pc' := 237) (by decide) (by decide) (pn := 225) rfl (fun (c222 : (4 : Int) ≤ (3 : Int)) => ?_) (fun (c222 : (3 : Int) < (4 : Int)) => ?_)
                          · exact absurd c222 (by decide)
                          · refine gLoadI 227 X62 hx (H at_225) rfl rfl ?_
                            refine gCallSJ X62 hx hZ (y := mn1) hown e62 (by rw [hml]; rfl) (ow hw 75 rfl) (ow hw 76 rfl) (ow hw 2 rfl) (ow hw 77 rfl) (by decide) (argsL := [(.int ch3)]) (st := []) (c_rep l Z a0 hw ch3 T57.heap) (lenOf pd_4 rfl) (H at_227) (pc' := 230) rfl rfl rfl rfl (by decide) (W := 0) (Nat.le_of_eq rfl) (by decide) (by decide) (by decide) ?_
                            intro T64 X64 e64
                            refine gIfEq X64 hx (H at_230) (pc' := 237) (by decide) (by decide) (pn := 233) rfl (fun (c230 : (b2i (decide (ch3.toInt = 65533))) = (0 : Int32)) => ?_) (fun (c230 : ¬ (b2i (decide (ch3.toInt = 65533))) = (0 : Int32)) => ?_)
                            · refine gIconst 238 X64 hx (v := (0 : Int32)) (H at_237) rfl rfl ?_
                              refine gStoreI 240 X64 hx (H at_238) (l' := #[.val (.int p0), .val (.int p1), .val (.int p2), .val (.int p3), .val (.int p4), .val (.int (4 : Int32)), .val (.int ch0), .val (.int ch1), .val (.int ch2), .val (.int ch3), .val (.ref b51), .val (.int (0 : Int32))]) rfl rfl ?_
                              refine gLoadA 242 X64 hx (H at_240) rfl rfl rfl ?_
                              refine gCallSJ X64 hx hZ (y := mn0) hown e64 (by rw [hml]; rfl) (ow hw 27 rfl) (ow hw 28 rfl) (ow hw 29 rfl) (ow hw 30 rfl) (by decide) (argsL := [(.ref b51)]) (st := []) (c_unU_4 l Z a0 hw b51 t57 ct57 ch0 ch1 ch2 ch3 T57.heap f57_0 Eq57 Cq57 Vq57 f57_2 f57_1 Aq57 hch0 hch1 hch2 hch3) (lenOf pd_13 rfl) (H at_242) (pc' := 245) rfl rfl rfl rfl (by decide) (W := 0) (Nat.le_of_eq rfl) (by decide) (by decide) (by decide) ?_
                              intro T65 X65 e65
                              rw [show b2i (decide (ch0.toInt = 65533 ∨ ch1.toInt = 65533 ∨ ch2.toInt = 65533 ∨ ch3.toInt = 65533)) = 0 from b2_f (fun q => q.elim (of_decide_eq_false (b2_0.mp c188)) (fun q => q.elim (of_decide_eq_false (b2_0.mp c202)) (fun q => q.elim (of_decide_eq_false (b2_0.mp c216)) ((of_decide_eq_false (b2_0.mp c230))))))]
                              refine gLoadI 247 X65 hx (H at_245) rfl rfl ?_
                              refine gIcmpNeT X65 hx (H at_247) (pc' := 254) (by decide) (by decide) (pn := 250) rfl (fun (c247 : ¬ (0 : Int) = (0 : Int)) => ?_) (fun (c247 : (0 : Int) = (0 : Int)) => ?_)
                              · exact absurd c247 (by decide)
                              · refine gIconst 251 X65 hx (v := (1 : Int32)) (H at_250) rfl rfl ?_
                                refine gGoto X65 hx (H at_251) (pc' := 255) (by decide) (by decide) ?_
                                exact gRetHN X65 hx hlk hret (by simp) (H at_255) (w := (1 : Int32)) rfl e65 hS hk57 hZ hEL H57 (by decide) (by decide) (⟨rfl, N57⟩)
                            · refine gIconst 234 X64 hx (v := (1 : Int32)) (H at_233) rfl rfl ?_
                              refine gGoto X64 hx (H at_234) (pc' := 238) (by decide) (by decide) ?_
                              refine gStoreI 240 X64 hx (H at_238) (l' := #[.val (.int p0), .val (.int p1), .val (.int p2), .val (.int p3), .val (.int p4), .val (.int (4 : Int32)), .val (.int ch0), .val (.int ch1), .val (.int ch2), .val (.int ch3), .val (.ref b51), .val (.int (1 : Int32))]) rfl rfl ?_
                              refine gLoadA 242 X64 hx (H at_240) rfl rfl rfl ?_
                              refine gCallSJ X64 hx hZ (y := mn0) hown e64 (by rw [hml]; rfl) (ow hw 27 rfl) (ow hw 28 rfl) (ow hw 29 rfl) (ow hw 30 rfl) (by decide) (argsL := [(.ref b51)]) (st := []) (c_unU_4 l Z a0 hw b51 t57 ct57 ch0 ch1 ch2 ch3 T57.heap f57_0 Eq57 Cq57 Vq57 f57_2 f57_1 Aq57 hch0 hch1 hch2 hch3) (lenOf pd_13 rfl) (H at_242) (pc' := 245) rfl rfl rfl rfl (by decide) (W := 0) (Nat.le_of_eq rfl) (by decide) (by decide) (by decide) ?_
                              intro T66 X66 e66
                              rw [show b2i (decide (ch0.toInt = 65533 ∨ ch1.toInt = 65533 ∨ ch2.toInt = 65533 ∨ ch3.toInt = 65533)) = 1 from b2_t (Or.inr (Or.inr (Or.inr (of_decide_eq_true (b2_n0.mp c230)))))]
                              refine gLoadI 247 X66 hx (H at_245) rfl rfl ?_
                              refine gIcmpNeT X66 hx (H at_247) (pc' := 254) (by decide) (by decide) (pn := 250) rfl (fun (c247 : ¬ (1 : Int) = (1 : Int)) => ?_) (fun (c247 : (1 : Int) = (1 : Int)) => ?_)
                              · exact absurd c247 (by decide)
                              · refine gIconst 251 X66 hx (v := (1 : Int32)) (H at_250) rfl rfl ?_
                                refine gGoto X66 hx (H at_251) (pc' := 255) (by decide) (by decide) ?_
                                exact gRetHN X66 hx hlk hret (by simp) (H at_255) (w := (1 : Int32)) rfl e66 hS hk57 hZ hEL H57 (by decide) (by decide) (⟨rfl, N57⟩)
            · have hch0 : rg ch0 := ⟨hch0.1, by omega⟩
              have hch1 : rg ch1 := ⟨hch1.1, by omega⟩
              have hch2 : rg ch2 := ⟨hch2.1, by omega⟩
              have hch3 : rg ch3 := ⟨hch3.1, by omega⟩
              refine gCallI X56 hx hZ (y := mn7) rfl hown e56 (by rw [hml]; rfl) (ow hw 9 rfl) (ow hw 10 rfl) (ow hw 7 rfl) (ow hw 11 rfl) (by decide) (argsL := [(.ref b52)]) (st := [(.ref b51)]) (c_sinit_4 l Z a0 hw b51 b52 _ h0.size ch0 ch1 ch2 ch3 h56 f56_0 sz_b51 zs56 (Ne.symm ne_b51_b52) f56_3 f56_5 f56_4 V56 hch0 hch1 hch2 hch3) (lenOf pd_19 rfl) (H at_173) (pc' := 176) rfl rfl (by decide) (W := 1) (Nat.le_of_eq rfl) (by decide) (by decide) (by decide) ?_
              intro T67 v67 L67 X67 hQ67
              obtain ⟨t67, ct67, rfl, Nq67, Kq67, gt67, Eq67, Cq67, Vq67, Aq67⟩ := hQ67
              have N67 := Fr.app N56 Nq67
              have H67 := H56.trans (CHr.keep Kq67 (sfS s56_0 sf0) H56.1)
              have hk67 := Nat.le_trans hk56 Kq67.1
              have s67_0 := Safe.keep Kq67 (sfS s56_0 sf0) H56.1 s56_0
              have s67_1 := Safe.keep Kq67 (sfS s56_0 sf0) H56.1 s56_1
              have f67_0 := own_cpt_keep f56_0 Kq67 (nsS (Exa.nostat f56_3) ns0)
              have f67_1 := own_sio_keep f56_1 Kq67 (nsS (Exa.nostat f56_3) ns0)
              have f67_2 := own_u16_keep f56_2 Kq67 (nsS (Exa.nostat f56_3) ns0)
              have f67_3 := f56_3.keep Kq67
              have f67_6 := V56.keep Kq67 (ninS (Ne.symm ne_b51_b52) nin0)
              have zs67 := Nat.le_trans zs56 Kq67.1
              refine gStoreA 178 X67 hx (H at_176) (l' := #[.val (.int p0), .val (.int p1), .val (.int p2), .val (.int p3), .val (.int p4), .val (.int (4 : Int32)), .val (.int ch0), .val (.int ch1), .val (.int ch2), .val (.int ch3), .val (.ref b51), .unset]) rfl rfl rfl ?_
              refine gLoadI 180 X67 hx (H at_178) rfl rfl ?_
              refine gIfLe X67 hx (H at_180) (pc' := 191) (by decide) (by decide) (pn := 183) rfl (fun (c180 : (4 : Int) ≤ (0 : Int)) => ?_) (fun (c180 : (0 : Int) < (4 : Int)) => ?_)
              · exact absurd c180 (by decide)
              · refine gLoadI 185 X67 hx (H at_183) rfl rfl ?_
                refine gCallSJ X67 hx hZ (y := mn1) hown rfl (by rw [hml]; rfl) (ow hw 75 rfl) (ow hw 76 rfl) (ow hw 2 rfl) (ow hw 77 rfl) (by decide) (argsL := [(.int ch0)]) (st := []) (c_rep l Z a0 hw ch0 T67.heap) (lenOf pd_4 rfl) (H at_185) (pc' := 188) rfl rfl rfl rfl (by decide) (W := 0) (Nat.le_of_eq rfl) (by decide) (by decide) (by decide) ?_
                intro T68 X68 e68
                refine gIfNe X68 hx (H at_188) (pc' := 233) (by decide) (by decide) (pn := 191) rfl (fun (c188 : ¬ (b2i (decide (ch0.toInt = 65533))) = (0 : Int32)) => ?_) (fun (c188 : (b2i (decide (ch0.toInt = 65533))) = (0 : Int32)) => ?_)
                · exact absurd (of_decide_eq_true (b2_n0.mp c188)) (by have := hch0; omega)
                · refine gLoadI 193 X68 hx (H at_191) rfl rfl ?_
                  refine gIconst 194 X68 hx (v := (1 : Int32)) (H at_193) rfl rfl ?_
                  refine gIcmpLe X68 hx (H at_194) (pc' := 205) (by decide) (by decide) (pn := 197) rfl (fun (c194 : (4 : Int) ≤ (1 : Int)) => ?_) (fun (c194 : (1 : Int) < (4 : Int)) => ?_)
                  · exact absurd c194 (by decide)
                  · refine gLoadI 199 X68 hx (H at_197) rfl rfl ?_
                    refine gCallSJ X68 hx hZ (y := mn1) hown e68 (by rw [hml]; rfl) (ow hw 75 rfl) (ow hw 76 rfl) (ow hw 2 rfl) (ow hw 77 rfl) (by decide) (argsL := [(.int ch1)]) (st := []) (c_rep l Z a0 hw ch1 T67.heap) (lenOf pd_4 rfl) (H at_199) (pc' := 202) rfl rfl rfl rfl (by decide) (W := 0) (Nat.le_of_eq rfl) (by decide) (by decide) (by decide) ?_
                    intro T69 X69 e69
                    refine gIfNe X69 hx (H at_202) (pc' := 233) (by decide) (by decide) (pn := 205) rfl (fun (c202 : ¬ (b2i (decide (ch1.toInt = 65533))) = (0 : Int32)) => ?_) (fun (c202 : (b2i (decide (ch1.toInt = 65533))) = (0 : Int32)) => ?_)
                    · exact absurd (of_decide_eq_true (b2_n0.mp c202)) (by have := hch1; omega)
                    · refine gLoadI 207 X69 hx (H at_205) rfl rfl ?_
                      refine gIconst 208 X69 hx (v := (2 : Int32)) (H at_207) rfl rfl ?_
                      refine gIcmpLe X69 hx (H at_208) (pc' := 219) (by decide) (by decide) (pn := 211) rfl (fun (c208 : (4 : Int) ≤ (2 : Int)) => ?_) (fun (c208 : (2 : Int) < (4 : Int)) => ?_)
                      · exact absurd c208 (by decide)
                      · refine gLoadI 213 X69 hx (H at_211) rfl rfl ?_
                        refine gCallSJ X69 hx hZ (y := mn1) hown e69 (by rw [hml]; rfl) (ow hw 75 rfl) (ow hw 76 rfl) (ow hw 2 rfl) (ow hw 77 rfl) (by decide) (argsL := [(.int ch2)]) (st := []) (c_rep l Z a0 hw ch2 T67.heap) (lenOf pd_4 rfl) (H at_213) (pc' := 216) rfl rfl rfl rfl (by decide) (W := 0) (Nat.le_of_eq rfl) (by decide) (by decide) (by decide) ?_
                        intro T70 X70 e70
                        refine gIfNe X70 hx (H at_216) (pc' := 233) (by decide) (by decide) (pn := 219) rfl (fun (c216 : ¬ (b2i (decide (ch2.toInt = 65533))) = (0 : Int32)) => ?_) (fun (c216 : (b2i (decide (ch2.toInt = 65533))) = (0 : Int32)) => ?_)
                        · exact absurd (of_decide_eq_true (b2_n0.mp c216)) (by have := hch2; omega)
                        · refine gLoadI 221 X70 hx (H at_219) rfl rfl ?_
                          refine gIconst 222 X70 hx (v := (3 : Int32)) (H at_221) rfl rfl ?_
                          refine gIcmpLe X70 hx (H at_222) (pc' := 237) (by decide) (by decide) (pn := 225) rfl (fun (c222 : (4 : Int) ≤ (3 : Int)) => ?_) (fun (c222 : (3 : Int) < (4 : Int)) => ?_)
                          · exact absurd c222 (by decide)
                          · refine gLoadI 227 X70 hx (H at_225) rfl rfl ?_
                            refine gCallSJ X70 hx hZ (y := mn1) hown e70 (by rw [hml]; rfl) (ow hw 75 rfl) (ow hw 76 rfl) (ow hw 2 rfl) (ow hw 77 rfl) (by decide) (argsL := [(.int ch3)]) (st := []) (c_rep l Z a0 hw ch3 T67.heap) (lenOf pd_4 rfl) (H at_227) (pc' := 230) rfl rfl rfl rfl (by decide) (W := 0) (Nat.le_of_eq rfl) (by decide) (by decide) (by decide) ?_
                            intro T71 X71 e71
                            refine gIfEq X71 hx (H at_230) (pc' := 237) (by decide) (by decide) (pn := 233) rfl (fun (c230 : (b2i (decide (ch3.toInt = 65533))) = (0 : Int32)) => ?_) (fun (c230 : ¬ (b2i (decide (ch3.toInt = 65533))) = (0 : Int32)) => ?_)
                            · refine gIconst 238 X71 hx (v := (0 : Int32)) (H at_237) rfl rfl ?_
                              refine gStoreI 240 X71 hx (H at_238) (l' := #[.val (.int p0), .val (.int p1), .val (.int p2), .val (.int p3), .val (.int p4), .val (.int (4 : Int32)), .val (.int ch0), .val (.int ch1), .val (.int ch2), .val (.int ch3), .val (.ref b51), .val (.int (0 : Int32))]) rfl rfl ?_
                              refine gLoadA 242 X71 hx (H at_240) rfl rfl rfl ?_
                              refine gCallSJ X71 hx hZ (y := mn0) hown e71 (by rw [hml]; rfl) (ow hw 27 rfl) (ow hw 28 rfl) (ow hw 29 rfl) (ow hw 30 rfl) (by decide) (argsL := [(.ref b51)]) (st := []) (c_unL_4 l Z a0 hw b51 t67 ct67 ch0 ch1 ch2 ch3 T67.heap f67_0 Eq67 Cq67 Vq67 Aq67 hch0 hch1 hch2 hch3) (lenOf pd_13 rfl) (H at_242) (pc' := 245) rfl rfl rfl rfl (by decide) (W := 0) (Nat.le_of_eq rfl) (by decide) (by decide) (by decide) ?_
                              intro T72 X72 e72
                              refine gLoadI 247 X72 hx (H at_245) rfl rfl ?_
                              refine gIcmpNeT X72 hx (H at_247) (pc' := 254) (by decide) (by decide) (pn := 250) rfl (fun (c247 : ¬ (0 : Int) = (0 : Int)) => ?_) (fun (c247 : (0 : Int) = (0 : Int)) => ?_)
                              · exact absurd c247 (by decide)
                              · refine gIconst 251 X72 hx (v := (1 : Int32)) (H at_250) rfl rfl ?_
                                refine gGoto X72 hx (H at_251) (pc' := 255) (by decide) (by decide) ?_
                                exact gRetHN X72 hx hlk hret (by simp) (H at_255) (w := (1 : Int32)) rfl e72 hS hk67 hZ hEL H67 (by decide) (by decide) (⟨rfl, N67⟩)
                            · exact absurd (of_decide_eq_true (b2_n0.mp c230)) (by have := hch3; omega)
          · exact absurd c113 (by decide)
        · exact absurd c82 (by decide)
      · exact absurd c56 (by decide)
    · exact absurd c35 (by decide)
theorem eq_v0 {args : Array Value} {s : State} {t : Term} {z k : Int32} (h : t.eval args s none [] s = some (.int z)) : (Jvm.Cond.eq t (.int k)).value args s none s [] = some (decide (z = k)) := by
  simp [Cond.value, h, Term.eval]

theorem comes_1 {Post : Tables → Env → Array Value → State → Outcome → State → Prop} (hpost : ∀ tb e args s v u, (limb_1_1.after args s (.returned v) u = true ∧ limb_1_2.after args s (.returned v) u = true ∧ True) → ReturnedEndW s (.returned v) u (Jvm.fieldLocs frame_1_writes args s ++ Jvm.arrayLocs frame_1_arrays args s ++ Jvm.staticLocs frame_1_statics s) 24 1152 → Post tb e args s (.returned v) u) :
    ArmFor flags0 classFile x code maxLocals ret World_1 tables_1 room_1 Calls_1 rest_1 Pre_1 Post := by
  intro l hfl _ _ p e ha hc hk s m args below hf hA hF happ hP
  obtain ⟨hcalls, hrest, hpre⟩ := hP
  obtain ⟨-, -, -, hnamed, -, -, -, hat⟩ := (Spec.applies_iff hf).mp happ
  obtain ⟨hg, hn⟩ := and_e (Cond.before_iff.mp (show (Jvm.Cond.and given_1 narrow_1).before args s = true from hpre))
  obtain ⟨hcount, hv⟩ := and_e hg
  obtain ⟨ha0, hv0⟩ := and_e hv
  obtain ⟨ha1, hv1⟩ := and_e hv0
  obtain ⟨ha2, hv2⟩ := and_e hv1
  obtain ⟨ha3, hv3⟩ := and_e hv2
  obtain ⟨w0, w1, w2, w3, w4, rfl⟩ : ∃ w0 w1 w2 w3 w4 : Value, args = #[w0, w1, w2, w3, w4] := by
    have hs : args.size = 5 := by simpa [Cond.value, given_1] using hcount
    obtain ⟨L⟩ := args
    match L, hs with
    | [w0, w1, w2, w3, w4], _ => exact ⟨w0, w1, w2, w3, w4, rfl⟩
  have hw := fun d (hd : d ∈ tables_1) => atoms_spec (ws := Jvm.Cond.code x code maxLocals ret :: tables_1) hat d (List.mem_cons_of_mem _ hd)
  have hfit : Fit s := fun {y c} hc i hi => by
    obtain ⟨ha, rfl⟩ := Array.getElem?_eq_some_iff.mp hc
    have q := List.all_eq_true.mp ((Array.all_eq_true_iff_forall_mem.mp hF) _ (Array.getElem_mem ha)) i (List.mem_range.mpr hi)
    simpa [Array.getElem?_eq_getElem hi] using q
  obtain ⟨i0, ei0⟩ := is_v ha0
  obtain rfl : w0 = (.int i0) := Option.some.inj ei0
  obtain ⟨i1, ei1⟩ := is_v ha1
  obtain rfl : w1 = (.int i1) := Option.some.inj ei1
  obtain ⟨i2, ei2⟩ := is_v ha2
  obtain rfl : w2 = (.int i2) := Option.some.inj ei2
  obtain ⟨i3, ei3⟩ := is_v ha3
  obtain rfl : w3 = (.int i3) := Option.some.inj ei3
  obtain ⟨i4, ei4⟩ := is_v hv3
  obtain rfl : w4 = (.int i4) := Option.some.inj ei4
  obtain ⟨hsets, hown0⟩ := atoms_of _ (rest_1_c_eq ▸ (show rest_1_c.before _ s = true from hrest))
  obtain ⟨cz, ecz⟩ := is_v (Cond.before_iff.mp (hsets _ (List.mem_of_getElem? (i := 1) rfl)))
  have SC := Sta.start ecz (Or.inl (hsets _ (List.mem_of_getElem? (i := 0) rfl)))
  have hnz := gotF (eq_v0 ecz (k := 0)) (not_v (Cond.before_iff.mp (hsets _ (List.mem_of_getElem? (i := 2) rfl))))
  have hCpt : Cpt s s.heap := ⟨cz, SC, fun q => hnz (Int32.toInt_inj.mp q)⟩
  obtain ⟨sf, esf, hsf⟩ := isR_v (Cond.before_iff.mp (hsets _ (List.mem_of_getElem? (i := 8) rfl)))
  have hSio : Sio s s.heap := ⟨sf, Sta.start esf (Or.inl (hsets _ (List.mem_of_getElem? (i := 7) rfl))), hsf⟩
  have hEL : EW s _ [("java/lang/String", 7)] := (EW.cons (ow hw 19 rfl) (by decide) EW.nil)
  have hcw : Jvm.Lit.compactW.before _ s = true := (hsets _ (List.mem_of_getElem? (i := 2) rfl))
  have hCH : CHv s [("java/lang/String", 7)] s.vm s.heap := CHv.start hEL (fun p hp => hcalls.1 p hp) hcw (ow hw 20 rfl) (ow hw 6 rfl)
  have hU : U16 s s.heap := ⟨Sta.start (Jvm.Free.NT.SwA.eq_int (hsets _ (List.mem_of_getElem? (i := 12) rfl))) (Or.inl (hsets _ (List.mem_of_getElem? (i := 11) rfl))), Sta.start (Jvm.Free.NT.SwA.eq_int (hsets _ (List.mem_of_getElem? (i := 15) rfl))) (Or.inl (hsets _ (List.mem_of_getElem? (i := 14) rfl))), Sta.start (Jvm.Free.NT.SwA.eq_int (hsets _ (List.mem_of_getElem? (i := 18) rfl))) (Or.inl (hsets _ (List.mem_of_getElem? (i := 17) rfl)))⟩
  obtain ⟨n, o, h1, h2, h3, _, L, rfl, ⟨rfl, N⟩, hCH, hq⟩ := c_law l s _ hw i0 i1 i2 i3 i4 s.heap hEL hCpt hSio hU p e ha hc hk s m _ below hf ((Spec.applies_iff_loose hf).mp happ).1 ⟨rfl, State.Warmed39.refl s, rfl, hCH, fun _ q => nomatch q⟩ trivial
  refine ⟨n, _, h1, h2, h3, hpost _ _ _ _ _ _ ⟨Cond.after_iff.mpr rfl, Cond.after_iff.mpr (eq_i res_at (Term.int_eval (1)) rfl), trivial⟩ ⟨hq.1, hq.2.1, hq.2.2.1, (hq.2.2.2.sift fun y hy => Or.inr (N y hy)).mono (by decide) (by decide)⟩⟩
theorem main_1_1 : Claimed_1_1 := comes_1 fun _ _ _ _ _ _ h hF => ⟨h.1, hF⟩
theorem main_1_2 : Claimed_1_2 := comes_1 fun _ _ _ _ _ _ h hF => ⟨h.2.1, hF⟩
end Jvm.Pilot.@@N@@
namespace Jvm.Pilot.@@N@@
open Jvm Jvm.ClassFile Sem Op Lib Jvm.Free Jvm.Stand Jvm.Pilot.@@N@@.Jvm.D
/-! MADE BY PROGRAM (witnessworld.py) out of the Statement's table words and the real class files: 21 classes; the members and pool entries that the words name. The judged class is class 1, her method 3. -/
namespace start1
open Jvm.ClassFile
def u (s : String) : CpInfo := .utf8 (stringToUtf16 s)
/-- a pool by its gaps: so many unusable entries, then the entry; so many at the end -/
def gap : Nat → List CpInfo → List CpInfo
  | 0, r => r
  | n + 1, r => .unusable :: gap n r
def poolList (es : List (Nat × CpInfo)) (last : Nat) : List CpInfo := es.foldr (fun e r => gap e.1 (e.2 :: r)) (gap last [])
def pool (es : List (Nat × CpInfo)) (last : Nat) : Array CpInfo := ⟨poolList es last⟩
def fileOf (pool : Array CpInfo) (this : Nat) (attrs : Array Attribute := #[]) (ms : Array MethodInfo := #[]) (fl : Nat := 33) (sup : Nat := 0) (ifs : Array Nat := #[]) (fds : Array FieldInfo := #[]) : ClassFile where
  minorVersion := 0
  majorVersion := 65
  constantPool := pool
  accessFlags := fl
  thisClass := this
  superClass := sup
  interfaces := ifs
  fields := fds
  methods := ms
  attributes := attrs
def plain (name : String) (sup : Option ClassId) : Class where
  name := name
  kind := .ordinary
  loader := none
  accessFlags := 33
  super := sup
  interfaces := #[]
  cf := none
  fields := #[]
  methods := #[]
  instanceTypes := #[]
  staticTypes := #[]
  resolved := #[]
  callSites := []
  init := .initialized
  statics := none
  mirror := none

def pool0 : Array CpInfo := pool [(5, u "<init>"), (0, u "()V"), (1, .class_ 10), (1, u "java/lang/Object")] 113

def k0c0 : Code := { maxStack := 0, maxLocals := 1, code := object_method_1_code, exceptionTable := #[], attributes := #[] }
def k0m0 : Method := { name := "<init>", desc := "()V", sig := { parameters := [], returnType := none }, accessFlags := 1, code := some k0c0 }
/-- java/lang/Object -/
def k0 : Class := { plain "java/lang/Object" none with
  accessFlags := 33
  interfaces := #[]
  cf := some (fileOf pool0 8 #[] #[{ accessFlags := 1, nameIndex := 5, descriptorIndex := 6, attributes := #[] }] 33 0 #[] #[])
  fields := #[]
  methods := #[k0m0]
  instanceTypes := #[]
  staticTypes := #[]
  resolved := Array.replicate 124 none
  statics := none }

def pool1 : Array CpInfo := pool [(2, .class_ 4), (1, u "java/lang/Object"), (0, u "<init>"), (0, u "()V"), (0, .integer 65533), (0, .integer 65535), (0, .methodref 10 11), (0, .class_ 12), (0, .nameAndType 13 14), (0, u "com/example/estival/estival/cli/ArgumentsUndecodablePinLaw"), (0, u "pick"), (0, u "(I)C"), (0, .class_ 16), (0, u "java/lang/String"), (0, .methodref 15 18), (0, .nameAndType 5 19), (0, u "([C)V"), (0, .methodref 10 21), (0, .nameAndType 22 23), (0, u "isRep"), (0, u "(C)Z"), (0, .methodref 25 26), (0, .class_ 27), (0, .nameAndType 28 29), (0, u "com/example/estival/estival/cli/Arguments"), (0, u "undecodable"), (0, u "(Ljava/lang/String;)Z"), (3, u "law"), (0, u "(IIIII)Z")] 2

def k1m0 : Method := { name := "<init>", desc := "()V", sig := { parameters := [], returnType := none }, accessFlags := 2, code := none }
def k1c1 : Code := { maxStack := 4, maxLocals := 2, code := method_2_code, exceptionTable := #[], attributes := #[] }
def k1m1 : Method := { name := "pick", desc := "(I)C", sig := { parameters := [.int], returnType := some .char }, accessFlags := 10, code := some k1c1 }
def k1c2 : Code := { maxStack := 2, maxLocals := 1, code := method_3_code, exceptionTable := #[], attributes := #[] }
def k1m2 : Method := { name := "isRep", desc := "(C)Z", sig := { parameters := [.char], returnType := some .boolean }, accessFlags := 10, code := some k1c2 }
def k1c3 : Code := { maxStack := 6, maxLocals := 12, code := code, exceptionTable := #[], attributes := #[] }
def k1m3 : Method := { name := "law", desc := "(IIIII)Z", sig := { parameters := [.int, .int, .int, .int, .int], returnType := some .boolean }, accessFlags := 9, code := some k1c3 }
/-- com/example/estival/estival/cli/ArgumentsUndecodablePinLaw -/
def k1 : Class := { plain "com/example/estival/estival/cli/ArgumentsUndecodablePinLaw" (some 0) with
  accessFlags := 49
  interfaces := #[]
  cf := some (fileOf pool1 10 #[] #[{ accessFlags := 2, nameIndex := 5, descriptorIndex := 6, attributes := #[] }, { accessFlags := 10, nameIndex := 13, descriptorIndex := 14, attributes := #[] }, { accessFlags := 10, nameIndex := 22, descriptorIndex := 23, attributes := #[] }, { accessFlags := 9, nameIndex := 33, descriptorIndex := 34, attributes := #[] }] 49 2 #[] #[])
  fields := #[]
  methods := #[k1m0, k1m1, k1m2, k1m3]
  instanceTypes := #[]
  staticTypes := #[]
  resolved := Array.replicate 37 none
  statics := none }

def pool2 : Array CpInfo := pool [(1, .class_ 2), (0, u "java/io/Serializable"), (0, .class_ 4), (0, u "java/lang/Object")] 2

/-- java/io/Serializable -/
def k2 : Class := { plain "java/io/Serializable" (some 0) with
  accessFlags := 1537
  interfaces := #[]
  cf := some (fileOf pool2 1 #[] #[] 1537 3 #[] #[])
  fields := #[]
  methods := #[]
  instanceTypes := #[]
  staticTypes := #[]
  resolved := Array.replicate 7 none
  statics := none }

def pool3 : Array CpInfo := pool [(1, .class_ 2), (0, u "java/lang/Comparable"), (0, .class_ 4), (0, u "java/lang/Object")] 7

/-- java/lang/Comparable -/
def k3 : Class := { plain "java/lang/Comparable" (some 0) with
  accessFlags := 1537
  interfaces := #[]
  cf := some (fileOf pool3 1 #[] #[] 1537 3 #[] #[])
  fields := #[]
  methods := #[]
  instanceTypes := #[]
  staticTypes := #[]
  resolved := Array.replicate 12 none
  statics := none }

def pool4 : Array CpInfo := pool [(2, .class_ 4), (1, u "java/lang/CharSequence"), (42, .class_ 48), (0, u "java/lang/CharSequence$1CodePointIterator"), (10, .class_ 60), (0, u "java/lang/CharSequence$1CharIterator"), (5, .class_ 67), (0, u "java/lang/Object")] 63

/-- java/lang/CharSequence -/
def k4 : Class := { plain "java/lang/CharSequence" (some 0) with
  accessFlags := 1537
  interfaces := #[]
  cf := some (fileOf pool4 2 #[.nestMembers #[47, 59]] #[] 1537 66 #[] #[])
  fields := #[]
  methods := #[]
  instanceTypes := #[]
  staticTypes := #[]
  resolved := Array.replicate 131 none
  statics := none }

def pool5 : Array CpInfo := pool [(1, .class_ 2), (0, u "java/lang/constant/Constable"), (0, .class_ 4), (0, u "java/lang/Object")] 6

/-- java/lang/constant/Constable -/
def k5 : Class := { plain "java/lang/constant/Constable" (some 0) with
  accessFlags := 1537
  interfaces := #[]
  cf := some (fileOf pool5 1 #[] #[] 1537 3 #[] #[])
  fields := #[]
  methods := #[]
  instanceTypes := #[]
  staticTypes := #[]
  resolved := Array.replicate 11 none
  statics := none }

def pool6 : Array CpInfo := pool [(1, .class_ 2), (0, u "java/lang/constant/ConstantDesc"), (0, .class_ 4), (0, u "java/lang/Object")] 32

/-- java/lang/constant/ConstantDesc -/
def k6 : Class := { plain "java/lang/constant/ConstantDesc" (some 0) with
  accessFlags := 1537
  interfaces := #[]
  cf := some (fileOf pool6 1 #[] #[] 1537 3 #[] #[])
  fields := #[]
  methods := #[]
  instanceTypes := #[]
  staticTypes := #[]
  resolved := Array.replicate 37 none
  statics := none }

def pool7 : Array CpInfo := pool [(1, .methodref 2 3), (0, .class_ 4), (0, .nameAndType 5 6), (0, u "java/lang/Object"), (0, u "<init>"), (0, u "()V"), (0, .string 8), (0, u ""), (0, .fieldref 10 11), (0, .class_ 12), (0, .nameAndType 13 14), (0, u "java/lang/String"), (0, u "value"), (0, u "[B"), (0, .fieldref 10 16), (0, .nameAndType 17 18), (0, u "coder"), (0, u "B"), (2, u "hash"), (0, u "I"), (2, u "hashIsZero"), (0, u "Z"), (0, .methodref 10 28), (0, .nameAndType 5 29), (0, u "([CIILjava/lang/Void;)V"), (8, .fieldref 10 39), (0, .nameAndType 40 26), (0, u "COMPACT_STRINGS"), (1, .class_ 44), (1, u "java/lang/StringUTF16"), (0, u "compress"), (1, .methodref 42 48), (0, .nameAndType 49 50), (0, u "coderFromArrayLen"), (0, u "([BI)B"), (56, .class_ 109), (1, u "java/lang/StringLatin1"), (32, u "()Z"), (34, .methodref 42 178), (0, .nameAndType 45 179), (0, u "([CII)[B"), (154, u "()I"), (0, .methodref 10 336), (0, .nameAndType 17 337), (0, u "()B"), (154, .methodref 10 493), (0, .nameAndType 494 142), (0, u "isLatin1"), (10, .methodref 10 506), (0, .nameAndType 507 334), (0, u "length"), (5, u "checkFromToIndex"), (9, u "checkBoundsBeginEnd"), (0, u "(III)V"), (50, .class_ 576), (0, u "java/lang/CharSequence"), (22, u "CASE_INSENSITIVE_ORDER"), (0, u "Ljava/util/Comparator;"), (32, .methodref 10 634), (0, .nameAndType 635 636), (0, u "indexOf"), (0, u "(II)I"), (0, .methodref 107 638), (0, .nameAndType 635 639), (0, u "([BIII)I"), (0, .methodref 42 638), (124, u "(I)I"), (244, u "([C)V"), (42, .fieldref 1054 1055), (0, .class_ 1056), (0, .nameAndType 1057 1058), (0, u "jdk/internal/util/Preconditions"), (0, u "SIOOBE_FORMATTER"), (0, u "Ljava/util/function/BiFunction;"), (3, .methodref 1054 1063), (0, .nameAndType 513 1064), (0, u "(IIILjava/util/function/BiFunction;)I"), (36, u "serialPersistentFields"), (0, u "[Ljava/io/ObjectStreamField;"), (0, .class_ 1104), (0, u "java/lang/String$CaseInsensitiveComparator"), (1, .class_ 1107), (0, u "java/io/Serializable"), (0, .class_ 1109), (0, u "java/lang/Comparable"), (0, .class_ 1111), (0, u "java/lang/constant/Constable"), (0, .class_ 1113), (0, u "java/lang/constant/ConstantDesc"), (2, u "serialVersionUID"), (0, u "J"), (3, u "REPL"), (0, u "C"), (2, u "LATIN1"), (1, u "UTF16")] 323

def k7m0 : Method := { name := "<init>", desc := "()V", sig := { parameters := [], returnType := none }, accessFlags := 1, code := none }
def k7c1 : Code := { maxStack := 5, maxLocals := 2, code := jdk_42_method_3_code, exceptionTable := #[], attributes := #[] }
def k7m1 : Method := { name := "<init>", desc := "([C)V", sig := { parameters := [(.array .char)], returnType := none }, accessFlags := 1, code := some k7c1 }
def k7c2 : Code := { maxStack := 2, maxLocals := 1, code := jdk_42_method_54_code, exceptionTable := #[], attributes := #[] }
def k7m2 : Method := { name := "length", desc := "()I", sig := { parameters := [], returnType := some .int }, accessFlags := 1, code := some k7c2 }
def k7c3 : Code := { maxStack := 3, maxLocals := 2, code := jdk_42_method_79_code, exceptionTable := #[], attributes := #[] }
def k7m3 : Method := { name := "indexOf", desc := "(I)I", sig := { parameters := [.int], returnType := some .int }, accessFlags := 1, code := some k7c3 }
def k7c4 : Code := { maxStack := 4, maxLocals := 3, code := jdk_42_method_80_code, exceptionTable := #[], attributes := #[] }
def k7m4 : Method := { name := "indexOf", desc := "(II)I", sig := { parameters := [.int, .int], returnType := some .int }, accessFlags := 1, code := some k7c4 }
def k7c5 : Code := { maxStack := 4, maxLocals := 6, code := jdk_42_method_149_code, exceptionTable := #[], attributes := #[] }
def k7m5 : Method := { name := "<init>", desc := "([CIILjava/lang/Void;)V", sig := { parameters := [(.array .char), .int, .int, (.object "java/lang/Void")], returnType := none }, accessFlags := 2, code := some k7c5 }
def k7c6 : Code := { maxStack := 1, maxLocals := 1, code := jdk_42_method_152_code, exceptionTable := #[], attributes := #[] }
def k7m6 : Method := { name := "coder", desc := "()B", sig := { parameters := [], returnType := some .byte }, accessFlags := 0, code := some k7c6 }
def k7c7 : Code := { maxStack := 1, maxLocals := 1, code := jdk_42_method_154_code, exceptionTable := #[], attributes := #[] }
def k7m7 : Method := { name := "isLatin1", desc := "()Z", sig := { parameters := [], returnType := some .boolean }, accessFlags := 0, code := some k7c7 }
def k7c8 : Code := { maxStack := 4, maxLocals := 3, code := jdk_42_method_158_code, exceptionTable := #[], attributes := #[] }
def k7m8 : Method := { name := "checkBoundsBeginEnd", desc := "(III)V", sig := { parameters := [.int, .int, .int], returnType := none }, accessFlags := 8, code := some k7c8 }
/-- java/lang/String -/
def k7 : Class := { plain "java/lang/String" (some 0) with
  accessFlags := 49
  interfaces := #[2, 3, 4, 5, 6]
  cf := some (fileOf pool7 10 #[.nestMembers #[1103]] #[{ accessFlags := 1, nameIndex := 5, descriptorIndex := 6, attributes := #[] }, { accessFlags := 1, nameIndex := 5, descriptorIndex := 1010, attributes := #[] }, { accessFlags := 1, nameIndex := 507, descriptorIndex := 334, attributes := #[] }, { accessFlags := 1, nameIndex := 635, descriptorIndex := 765, attributes := #[] }, { accessFlags := 1, nameIndex := 635, descriptorIndex := 636, attributes := #[] }, { accessFlags := 2, nameIndex := 5, descriptorIndex := 29, attributes := #[] }, { accessFlags := 0, nameIndex := 17, descriptorIndex := 337, attributes := #[] }, { accessFlags := 0, nameIndex := 494, descriptorIndex := 142, attributes := #[] }, { accessFlags := 8, nameIndex := 523, descriptorIndex := 524, attributes := #[] }] 49 2 #[1106, 1108, 575, 1110, 1112] #[{ accessFlags := 18, nameIndex := 13, descriptorIndex := 14, attributes := #[] }, { accessFlags := 18, nameIndex := 17, descriptorIndex := 18, attributes := #[] }, { accessFlags := 2, nameIndex := 21, descriptorIndex := 22, attributes := #[] }, { accessFlags := 2, nameIndex := 25, descriptorIndex := 26, attributes := #[] }, { accessFlags := 26, nameIndex := 1116, descriptorIndex := 1117, attributes := #[] }, { accessFlags := 24, nameIndex := 40, descriptorIndex := 26, attributes := #[] }, { accessFlags := 26, nameIndex := 1101, descriptorIndex := 1102, attributes := #[] }, { accessFlags := 26, nameIndex := 1121, descriptorIndex := 1122, attributes := #[] }, { accessFlags := 25, nameIndex := 599, descriptorIndex := 600, attributes := #[] }, { accessFlags := 24, nameIndex := 1125, descriptorIndex := 18, attributes := #[] }, { accessFlags := 24, nameIndex := 1127, descriptorIndex := 18, attributes := #[] }])
  fields := #[{ name := "value", type := (.array .byte), accessFlags := 18, slot := 0, constantValue := 0 }, { name := "coder", type := .byte, accessFlags := 18, slot := 1, constantValue := 0 }, { name := "hash", type := .int, accessFlags := 2, slot := 2, constantValue := 0 }, { name := "hashIsZero", type := .boolean, accessFlags := 2, slot := 3, constantValue := 0 }, { name := "serialVersionUID", type := .long, accessFlags := 26, slot := 0, constantValue := 0 }, { name := "COMPACT_STRINGS", type := .boolean, accessFlags := 24, slot := 1, constantValue := 0 }, { name := "serialPersistentFields", type := (.array (.object "java/io/ObjectStreamField")), accessFlags := 26, slot := 2, constantValue := 0 }, { name := "REPL", type := .char, accessFlags := 26, slot := 3, constantValue := 0 }, { name := "CASE_INSENSITIVE_ORDER", type := (.object "java/util/Comparator"), accessFlags := 25, slot := 4, constantValue := 0 }, { name := "LATIN1", type := .byte, accessFlags := 24, slot := 5, constantValue := 0 }, { name := "UTF16", type := .byte, accessFlags := 24, slot := 6, constantValue := 0 }]
  methods := #[k7m0, k7m1, k7m2, k7m3, k7m4, k7m5, k7m6, k7m7, k7m8]
  instanceTypes := #[(.array .byte), .byte, .int, .boolean]
  staticTypes := #[.long, .boolean, (.array (.object "java/io/ObjectStreamField")), .char, (.object "java/util/Comparator"), .byte, .byte]
  resolved := Array.replicate 1451 none
  statics := some 0 }

def pool8 : Array CpInfo := pool [(2, .class_ 4), (1, u "java/lang/Object"), (3, .class_ 10), (1, u "com/example/estival/estival/cli/Arguments"), (0, u "command"), (0, u "Ljava/lang/String;"), (2, u "options"), (0, u "Ljava/util/Map;"), (2, u "operands"), (0, u "Ljava/util/List;"), (16, .class_ 38), (0, u "java/lang/String"), (5, u "(Ljava/lang/String;)Z"), (40, u "undecodable"), (4, .integer 65533), (0, .methodref 37 92), (0, .nameAndType 93 94), (0, u "indexOf"), (0, u "(I)I"), (25, u "UNDECODABLE"), (0, u "C")] 49

def k8c0 : Code := { maxStack := 2, maxLocals := 1, code := prog_1_method_4_code, exceptionTable := #[], attributes := #[] }
def k8m0 : Method := { name := "undecodable", desc := "(Ljava/lang/String;)Z", sig := { parameters := [(.object "java/lang/String")], returnType := some .boolean }, accessFlags := 8, code := some k8c0 }
/-- com/example/estival/estival/cli/Arguments -/
def k8 : Class := { plain "com/example/estival/estival/cli/Arguments" (some 0) with
  accessFlags := 48
  interfaces := #[]
  cf := some (fileOf pool8 8 #[] #[{ accessFlags := 8, nameIndex := 85, descriptorIndex := 44, attributes := #[] }] 48 2 #[] #[{ accessFlags := 26, nameIndex := 120, descriptorIndex := 121, attributes := #[] }, { accessFlags := 18, nameIndex := 11, descriptorIndex := 12, attributes := #[] }, { accessFlags := 18, nameIndex := 15, descriptorIndex := 16, attributes := #[] }, { accessFlags := 18, nameIndex := 19, descriptorIndex := 20, attributes := #[] }])
  fields := #[{ name := "UNDECODABLE", type := .char, accessFlags := 26, slot := 0, constantValue := 0 }, { name := "command", type := (.object "java/lang/String"), accessFlags := 18, slot := 0, constantValue := 0 }, { name := "options", type := (.object "java/util/Map"), accessFlags := 18, slot := 1, constantValue := 0 }, { name := "operands", type := (.object "java/util/List"), accessFlags := 18, slot := 2, constantValue := 0 }]
  methods := #[k8m0]
  instanceTypes := #[(.object "java/lang/String"), (.object "java/util/Map"), (.object "java/util/List")]
  staticTypes := #[.char]
  resolved := Array.replicate 171 none
  statics := none }

def pool9 : Array CpInfo := pool [(4, .class_ 6), (1, u "java/lang/Object"), (0, u "<init>"), (0, u "()V"), (5, .class_ 16), (1, u "java/lang/StringLatin1"), (71, .methodref 14 89), (0, .nameAndType 90 91), (0, u "canEncode"), (0, u "(I)Z"), (6, u "([BIII)I"), (2, u "indexOf"), (19, u "$assertionsDisabled"), (0, u "Z"), (98, .class_ 223), (1, u "java/lang/StringLatin1$LinesSpliterator"), (166, .class_ 391), (0, u "java/lang/StringLatin1$CharsSpliterator")] 3

def k9m0 : Method := { name := "<init>", desc := "()V", sig := { parameters := [], returnType := none }, accessFlags := 0, code := none }
def k9c1 : Code := { maxStack := 2, maxLocals := 1, code := jdk_43_method_4_code, exceptionTable := #[], attributes := #[] }
def k9m1 : Method := { name := "canEncode", desc := "(I)Z", sig := { parameters := [.int], returnType := some .boolean }, accessFlags := 9, code := some k9c1 }
def k9c2 : Code := { maxStack := 4, maxLocals := 4, code := jdk_43_method_22_code, exceptionTable := #[], attributes := #[] }
def k9m2 : Method := { name := "indexOf", desc := "([BIII)I", sig := { parameters := [(.array .byte), .int, .int, .int], returnType := some .int }, accessFlags := 9, code := some k9c2 }
/-- java/lang/StringLatin1 -/
def k9 : Class := { plain "java/lang/StringLatin1" (some 0) with
  accessFlags := 48
  interfaces := #[]
  cf := some (fileOf pool9 14 #[.nestMembers #[390, 221]] #[{ accessFlags := 0, nameIndex := 7, descriptorIndex := 8, attributes := #[] }, { accessFlags := 9, nameIndex := 90, descriptorIndex := 91, attributes := #[] }, { accessFlags := 9, nameIndex := 101, descriptorIndex := 98, attributes := #[] }] 48 4 #[] #[{ accessFlags := 4120, nameIndex := 121, descriptorIndex := 122, attributes := #[] }])
  fields := #[{ name := "$assertionsDisabled", type := .boolean, accessFlags := 4120, slot := 0, constantValue := 0 }]
  methods := #[k9m0, k9m1, k9m2]
  instanceTypes := #[]
  staticTypes := #[.boolean]
  resolved := Array.replicate 395 none
  statics := none }

def pool10 : Array CpInfo := pool [(3, .class_ 4), (0, u "java/lang/String"), (1, .class_ 8), (1, u "java/lang/Object"), (0, u "<init>"), (0, u "()V"), (0, .methodref 12 13), (0, .class_ 14), (0, .nameAndType 15 16), (0, u "java/lang/StringUTF16"), (0, u "newBytesLength"), (0, u "(I)I"), (3, .integer 1073741823), (23, .fieldref 12 45), (0, .nameAndType 46 47), (0, u "$assertionsDisabled"), (0, u "Z"), (0, .methodref 12 49), (0, .nameAndType 50 51), (0, u "length"), (0, u "([B)I"), (7, .fieldref 12 60), (0, .nameAndType 61 62), (0, u "HI_BYTE_SHIFT"), (0, u "I"), (0, .fieldref 12 64), (0, .nameAndType 65 62), (0, u "LO_BYTE_SHIFT"), (5, .methodref 12 72), (0, .nameAndType 73 74), (0, u "getChar"), (0, u "([BI)C"), (21, .methodref 12 97), (0, .nameAndType 98 99), (0, u "checkBoundsBeginEnd"), (0, u "(II[B)V"), (7, .methodref 12 108), (0, .nameAndType 109 110), (0, u "newBytesFor"), (0, u "(I)[B"), (0, .methodref 12 112), (0, .nameAndType 113 114), (0, u "putChar"), (0, u "([BII)V"), (0, .methodref 12 116), (0, .nameAndType 117 118), (0, u "compress"), (0, u "([CI[BII)I"), (0, .methodref 12 120), (0, .nameAndType 121 122), (0, u "toBytes"), (0, u "([CII)[B"), (60, .methodref 184 185), (0, .class_ 186), (0, .nameAndType 187 188), (0, u "java/lang/Math"), (0, u "min"), (0, u "(II)I"), (35, .methodref 184 225), (0, .nameAndType 226 188), (0, u "max"), (0, .integer 65536), (0, .methodref 12 229), (0, .nameAndType 230 231), (0, u "indexOfChar"), (0, u "([BIII)I"), (9, .methodref 3 242), (0, .nameAndType 98 243), (0, u "(III)V"), (0, .methodref 12 245), (0, .nameAndType 246 231), (0, u "indexOfCharUnsafe"), (14, u "coderFromArrayLen"), (0, u "([BI)B"), (5, u "indexOf"), (100, .class_ 371), (1, u "java/lang/StringUTF16$LinesSpliterator"), (58, u "MAX_LENGTH"), (196, .class_ 628), (0, u "java/lang/StringUTF16$CodePointsSpliterator"), (0, .class_ 630), (0, u "java/lang/StringUTF16$CharsSpliterator")] 4

def k10m0 : Method := { name := "<init>", desc := "()V", sig := { parameters := [], returnType := none }, accessFlags := 0, code := none }
def k10c1 : Code := { maxStack := 1, maxLocals := 1, code := jdk_52_method_2_code, exceptionTable := #[], attributes := #[] }
def k10m1 : Method := { name := "newBytesFor", desc := "(I)[B", sig := { parameters := [.int], returnType := some (.array .byte) }, accessFlags := 9, code := some k10c1 }
def k10c2 : Code := { maxStack := 4, maxLocals := 1, code := jdk_52_method_3_code, exceptionTable := #[], attributes := #[] }
def k10m2 : Method := { name := "newBytesLength", desc := "(I)I", sig := { parameters := [.int], returnType := some .int }, accessFlags := 9, code := some k10c2 }
def k10c3 : Code := { maxStack := 4, maxLocals := 3, code := jdk_52_method_4_code, exceptionTable := #[], attributes := #[] }
def k10m3 : Method := { name := "putChar", desc := "([BII)V", sig := { parameters := [(.array .byte), .int, .int], returnType := none }, accessFlags := 8, code := some k10c3 }
def k10c4 : Code := { maxStack := 3, maxLocals := 2, code := jdk_52_method_5_code, exceptionTable := #[], attributes := #[] }
def k10m4 : Method := { name := "getChar", desc := "([BI)C", sig := { parameters := [(.array .byte), .int], returnType := some .char }, accessFlags := 8, code := some k10c4 }
def k10c5 : Code := { maxStack := 2, maxLocals := 1, code := jdk_52_method_6_code, exceptionTable := #[], attributes := #[] }
def k10m5 : Method := { name := "length", desc := "([B)I", sig := { parameters := [(.array .byte)], returnType := some .int }, accessFlags := 9, code := some k10c5 }
def k10c6 : Code := { maxStack := 4, maxLocals := 5, code := jdk_52_method_14_code, exceptionTable := #[], attributes := #[] }
def k10m6 : Method := { name := "toBytes", desc := "([CII)[B", sig := { parameters := [(.array .char), .int, .int], returnType := some (.array .byte) }, accessFlags := 9, code := some k10c6 }
def k10c7 : Code := { maxStack := 2, maxLocals := 2, code := jdk_52_method_15_code, exceptionTable := #[], attributes := #[] }
def k10m7 : Method := { name := "coderFromArrayLen", desc := "([BI)B", sig := { parameters := [(.array .byte), .int], returnType := some .byte }, accessFlags := 8, code := some k10c7 }
def k10c8 : Code := { maxStack := 5, maxLocals := 6, code := jdk_52_method_16_code, exceptionTable := #[], attributes := #[] }
def k10m8 : Method := { name := "compress", desc := "([CII)[B", sig := { parameters := [(.array .char), .int, .int], returnType := some (.array .byte) }, accessFlags := 9, code := some k10c8 }
def k10c9 : Code := { maxStack := 3, maxLocals := 7, code := jdk_52_method_21_code, exceptionTable := #[], attributes := #[] }
def k10m9 : Method := { name := "compress", desc := "([CI[BII)I", sig := { parameters := [(.array .char), .int, (.array .byte), .int, .int], returnType := some .int }, accessFlags := 9, code := some k10c9 }
def k10c10 : Code := { maxStack := 4, maxLocals := 4, code := jdk_52_method_40_code, exceptionTable := #[], attributes := #[] }
def k10m10 : Method := { name := "indexOf", desc := "([BIII)I", sig := { parameters := [(.array .byte), .int, .int, .int], returnType := some .int }, accessFlags := 9, code := some k10c10 }
def k10c11 : Code := { maxStack := 4, maxLocals := 4, code := jdk_52_method_47_code, exceptionTable := #[], attributes := #[] }
def k10m11 : Method := { name := "indexOfChar", desc := "([BIII)I", sig := { parameters := [(.array .byte), .int, .int, .int], returnType := some .int }, accessFlags := 10, code := some k10c11 }
def k10c12 : Code := { maxStack := 2, maxLocals := 5, code := jdk_52_method_48_code, exceptionTable := #[], attributes := #[] }
def k10m12 : Method := { name := "indexOfCharUnsafe", desc := "([BIII)I", sig := { parameters := [(.array .byte), .int, .int, .int], returnType := some .int }, accessFlags := 10, code := some k10c12 }
def k10c13 : Code := { maxStack := 3, maxLocals := 3, code := jdk_52_method_93_code, exceptionTable := #[], attributes := #[] }
def k10m13 : Method := { name := "checkBoundsBeginEnd", desc := "(II[B)V", sig := { parameters := [.int, .int, (.array .byte)], returnType := none }, accessFlags := 9, code := some k10c13 }
/-- java/lang/StringUTF16 -/
def k10 : Class := { plain "java/lang/StringUTF16" (some 0) with
  accessFlags := 48
  interfaces := #[]
  cf := some (fileOf pool10 12 #[.nestMembers #[627, 629, 369]] #[{ accessFlags := 0, nameIndex := 9, descriptorIndex := 10, attributes := #[] }, { accessFlags := 9, nameIndex := 109, descriptorIndex := 110, attributes := #[] }, { accessFlags := 9, nameIndex := 15, descriptorIndex := 16, attributes := #[] }, { accessFlags := 8, nameIndex := 113, descriptorIndex := 114, attributes := #[] }, { accessFlags := 8, nameIndex := 73, descriptorIndex := 74, attributes := #[] }, { accessFlags := 9, nameIndex := 50, descriptorIndex := 51, attributes := #[] }, { accessFlags := 9, nameIndex := 121, descriptorIndex := 122, attributes := #[] }, { accessFlags := 8, nameIndex := 261, descriptorIndex := 262, attributes := #[] }, { accessFlags := 9, nameIndex := 117, descriptorIndex := 122, attributes := #[] }, { accessFlags := 9, nameIndex := 117, descriptorIndex := 118, attributes := #[] }, { accessFlags := 9, nameIndex := 268, descriptorIndex := 231, attributes := #[] }, { accessFlags := 10, nameIndex := 230, descriptorIndex := 231, attributes := #[] }, { accessFlags := 10, nameIndex := 246, descriptorIndex := 231, attributes := #[] }, { accessFlags := 9, nameIndex := 98, descriptorIndex := 99, attributes := #[] }] 48 6 #[] #[{ accessFlags := 26, nameIndex := 61, descriptorIndex := 62, attributes := #[] }, { accessFlags := 26, nameIndex := 65, descriptorIndex := 62, attributes := #[] }, { accessFlags := 24, nameIndex := 430, descriptorIndex := 62, attributes := #[] }, { accessFlags := 4120, nameIndex := 46, descriptorIndex := 47, attributes := #[] }])
  fields := #[{ name := "HI_BYTE_SHIFT", type := .int, accessFlags := 26, slot := 0, constantValue := 0 }, { name := "LO_BYTE_SHIFT", type := .int, accessFlags := 26, slot := 1, constantValue := 0 }, { name := "MAX_LENGTH", type := .int, accessFlags := 24, slot := 2, constantValue := 0 }, { name := "$assertionsDisabled", type := .boolean, accessFlags := 4120, slot := 3, constantValue := 0 }]
  methods := #[k10m0, k10m1, k10m2, k10m3, k10m4, k10m5, k10m6, k10m7, k10m8, k10m9, k10m10, k10m11, k10m12, k10m13]
  instanceTypes := #[]
  staticTypes := #[.int, .int, .int, .boolean]
  resolved := Array.replicate 635 none
  statics := some 1 }

def pool11 : Array CpInfo := pool [(1, .class_ 2), (0, u "java/lang/Math"), (1, .class_ 6), (1, u "java/lang/Object"), (0, u "<init>"), (0, u "()V"), (89, .class_ 100), (1, u "java/lang/Math$RandomNumberGeneratorHolder"), (71, u "negativeZeroFloatBits"), (0, u "J"), (2, u "negativeZeroDoubleBits"), (21, u "max"), (2, u "min"), (43, u "$assertionsDisabled"), (0, u "Z"), (88, u "(II)I"), (2, u "twoToTheDoubleScaleDown"), (0, u "D"), (4, u "twoToTheDoubleScaleUp"), (9, u "E"), (3, u "PI"), (2, u "TAU"), (2, u "DEGREES_TO_RADIANS"), (0, u "RADIANS_TO_DEGREES")] 94

def k11m0 : Method := { name := "<init>", desc := "()V", sig := { parameters := [], returnType := none }, accessFlags := 2, code := none }
def k11c1 : Code := { maxStack := 2, maxLocals := 2, code := jdk_29_method_65_code, exceptionTable := #[], attributes := #[] }
def k11m1 : Method := { name := "max", desc := "(II)I", sig := { parameters := [.int, .int], returnType := some .int }, accessFlags := 9, code := some k11c1 }
def k11c2 : Code := { maxStack := 2, maxLocals := 2, code := jdk_29_method_69_code, exceptionTable := #[], attributes := #[] }
def k11m2 : Method := { name := "min", desc := "(II)I", sig := { parameters := [.int, .int], returnType := some .int }, accessFlags := 9, code := some k11c2 }
/-- java/lang/Math -/
def k11 : Class := { plain "java/lang/Math" (some 0) with
  accessFlags := 49
  interfaces := #[]
  cf := some (fileOf pool11 1 #[.nestMembers #[98]] #[{ accessFlags := 2, nameIndex := 7, descriptorIndex := 8, attributes := #[] }, { accessFlags := 9, nameIndex := 198, descriptorIndex := 335, attributes := #[] }, { accessFlags := 9, nameIndex := 201, descriptorIndex := 335, attributes := #[] }] 49 4 #[] #[{ accessFlags := 25, nameIndex := 354, descriptorIndex := 339, attributes := #[] }, { accessFlags := 25, nameIndex := 358, descriptorIndex := 339, attributes := #[] }, { accessFlags := 25, nameIndex := 361, descriptorIndex := 339, attributes := #[] }, { accessFlags := 26, nameIndex := 364, descriptorIndex := 339, attributes := #[] }, { accessFlags := 26, nameIndex := 365, descriptorIndex := 339, attributes := #[] }, { accessFlags := 26, nameIndex := 172, descriptorIndex := 173, attributes := #[] }, { accessFlags := 26, nameIndex := 176, descriptorIndex := 173, attributes := #[] }, { accessFlags := 8, nameIndex := 344, descriptorIndex := 339, attributes := #[] }, { accessFlags := 8, nameIndex := 338, descriptorIndex := 339, attributes := #[] }, { accessFlags := 4120, nameIndex := 245, descriptorIndex := 246, attributes := #[] }])
  fields := #[{ name := "E", type := .double, accessFlags := 25, slot := 0, constantValue := 0 }, { name := "PI", type := .double, accessFlags := 25, slot := 1, constantValue := 0 }, { name := "TAU", type := .double, accessFlags := 25, slot := 2, constantValue := 0 }, { name := "DEGREES_TO_RADIANS", type := .double, accessFlags := 26, slot := 3, constantValue := 0 }, { name := "RADIANS_TO_DEGREES", type := .double, accessFlags := 26, slot := 4, constantValue := 0 }, { name := "negativeZeroFloatBits", type := .long, accessFlags := 26, slot := 5, constantValue := 0 }, { name := "negativeZeroDoubleBits", type := .long, accessFlags := 26, slot := 6, constantValue := 0 }, { name := "twoToTheDoubleScaleUp", type := .double, accessFlags := 8, slot := 7, constantValue := 0 }, { name := "twoToTheDoubleScaleDown", type := .double, accessFlags := 8, slot := 8, constantValue := 0 }, { name := "$assertionsDisabled", type := .boolean, accessFlags := 4120, slot := 9, constantValue := 0 }]
  methods := #[k11m0, k11m1, k11m2]
  instanceTypes := #[]
  staticTypes := #[.double, .double, .double, .double, .double, .long, .long, .double, .double, .boolean]
  resolved := Array.replicate 460 none
  statics := none }

def pool12 : Array CpInfo := pool [(2, .class_ 4), (1, u "java/lang/Object"), (0, u "<init>"), (0, u "()V"), (17, .class_ 26), (1, u "jdk/internal/util/Preconditions"), (20, u "checkFromToIndex"), (7, .class_ 56), (0, u "jdk/internal/util/Preconditions$4"), (57, .class_ 115), (0, u "jdk/internal/util/Preconditions$1"), (7, u "SIOOBE_FORMATTER"), (0, u "Ljava/util/function/BiFunction;"), (0, .class_ 126), (0, u "jdk/internal/util/Preconditions$2"), (3, u "AIOOBE_FORMATTER"), (0, .class_ 132), (0, u "jdk/internal/util/Preconditions$3"), (3, u "IOOBE_FORMATTER"), (46, u "(IIILjava/util/function/BiFunction;)I")] 10

def k12m0 : Method := { name := "<init>", desc := "()V", sig := { parameters := [], returnType := none }, accessFlags := 1, code := none }
def k12c1 : Code := { maxStack := 4, maxLocals := 4, code := jdk_41_method_12_code, exceptionTable := #[], attributes := #[] }
def k12m1 : Method := { name := "checkFromToIndex", desc := "(IIILjava/util/function/BiFunction;)I", sig := { parameters := [.int, .int, .int, (.object "java/util/function/BiFunction")], returnType := some .int }, accessFlags := 9, code := some k12c1 }
/-- jdk/internal/util/Preconditions -/
def k12 : Class := { plain "jdk/internal/util/Preconditions" (some 0) with
  accessFlags := 33
  interfaces := #[]
  cf := some (fileOf pool12 24 #[.nestMembers #[55, 131, 125, 114]] #[{ accessFlags := 1, nameIndex := 5, descriptorIndex := 6, attributes := #[] }, { accessFlags := 9, nameIndex := 47, descriptorIndex := 183, attributes := #[] }] 33 2 #[] #[{ accessFlags := 25, nameIndex := 123, descriptorIndex := 124, attributes := #[] }, { accessFlags := 25, nameIndex := 130, descriptorIndex := 124, attributes := #[] }, { accessFlags := 25, nameIndex := 136, descriptorIndex := 124, attributes := #[] }])
  fields := #[{ name := "SIOOBE_FORMATTER", type := (.object "java/util/function/BiFunction"), accessFlags := 25, slot := 0, constantValue := 0 }, { name := "AIOOBE_FORMATTER", type := (.object "java/util/function/BiFunction"), accessFlags := 25, slot := 1, constantValue := 0 }, { name := "IOOBE_FORMATTER", type := (.object "java/util/function/BiFunction"), accessFlags := 25, slot := 2, constantValue := 0 }]
  methods := #[k12m0, k12m1]
  instanceTypes := #[]
  staticTypes := #[(.object "java/util/function/BiFunction"), (.object "java/util/function/BiFunction"), (.object "java/util/function/BiFunction")]
  resolved := Array.replicate 194 none
  statics := some 2 }

def pool13 : Array CpInfo := pool [(9, u "<init>"), (6, .class_ 18), (1, u "java/lang/Object"), (0, u "()V"), (1, .class_ 23), (1, u "jdk/internal/util/ArraysSupport"), (0, u "LOG2_ARRAY_LONG_INDEX_SCALE"), (0, u "I"), (2, u "U"), (0, u "Ljdk/internal/misc/Unsafe;"), (8, u "BIG_ENDIAN"), (0, u "Z"), (8, u "LOG2_BYTE_BIT_SIZE"), (4, u "LOG2_ARRAY_INT_INDEX_SCALE"), (54, u "JLA"), (0, u "Ljdk/internal/access/JavaLangAccess;"), (11, u "LOG2_ARRAY_BOOLEAN_INDEX_SCALE"), (9, u "LOG2_ARRAY_BYTE_INDEX_SCALE"), (5, u "LOG2_ARRAY_CHAR_INDEX_SCALE"), (5, u "LOG2_ARRAY_SHORT_INDEX_SCALE"), (18, u "LOG2_ARRAY_FLOAT_INDEX_SCALE"), (24, u "LOG2_ARRAY_DOUBLE_INDEX_SCALE"), (89, u "T_BOOLEAN"), (2, u "T_CHAR"), (1, u "T_FLOAT"), (1, u "T_DOUBLE"), (1, u "T_BYTE"), (1, u "T_SHORT"), (1, u "T_INT"), (1, u "T_LONG"), (1, u "SOFT_MAX_ARRAY_LENGTH")] 83

def k13m0 : Method := { name := "<init>", desc := "()V", sig := { parameters := [], returnType := none }, accessFlags := 2, code := none }
/-- jdk/internal/util/ArraysSupport -/
def k13 : Class := { plain "jdk/internal/util/ArraysSupport" (some 0) with
  accessFlags := 33
  interfaces := #[]
  cf := some (fileOf pool13 21 #[] #[{ accessFlags := 2, nameIndex := 9, descriptorIndex := 19, attributes := #[] }] 33 16 #[] #[{ accessFlags := 24, nameIndex := 28, descriptorIndex := 29, attributes := #[] }, { accessFlags := 26, nameIndex := 38, descriptorIndex := 39, attributes := #[] }, { accessFlags := 25, nameIndex := 121, descriptorIndex := 25, attributes := #[] }, { accessFlags := 25, nameIndex := 131, descriptorIndex := 25, attributes := #[] }, { accessFlags := 25, nameIndex := 137, descriptorIndex := 25, attributes := #[] }, { accessFlags := 25, nameIndex := 143, descriptorIndex := 25, attributes := #[] }, { accessFlags := 25, nameIndex := 53, descriptorIndex := 25, attributes := #[] }, { accessFlags := 25, nameIndex := 24, descriptorIndex := 25, attributes := #[] }, { accessFlags := 25, nameIndex := 162, descriptorIndex := 25, attributes := #[] }, { accessFlags := 25, nameIndex := 187, descriptorIndex := 25, attributes := #[] }, { accessFlags := 26, nameIndex := 48, descriptorIndex := 25, attributes := #[] }, { accessFlags := 25, nameIndex := 277, descriptorIndex := 25, attributes := #[] }, { accessFlags := 25, nameIndex := 280, descriptorIndex := 25, attributes := #[] }, { accessFlags := 25, nameIndex := 282, descriptorIndex := 25, attributes := #[] }, { accessFlags := 25, nameIndex := 284, descriptorIndex := 25, attributes := #[] }, { accessFlags := 25, nameIndex := 286, descriptorIndex := 25, attributes := #[] }, { accessFlags := 25, nameIndex := 288, descriptorIndex := 25, attributes := #[] }, { accessFlags := 25, nameIndex := 290, descriptorIndex := 25, attributes := #[] }, { accessFlags := 25, nameIndex := 292, descriptorIndex := 25, attributes := #[] }, { accessFlags := 26, nameIndex := 108, descriptorIndex := 109, attributes := #[] }, { accessFlags := 25, nameIndex := 294, descriptorIndex := 25, attributes := #[] }])
  fields := #[{ name := "U", type := (.object "jdk/internal/misc/Unsafe"), accessFlags := 24, slot := 0, constantValue := 0 }, { name := "BIG_ENDIAN", type := .boolean, accessFlags := 26, slot := 1, constantValue := 0 }, { name := "LOG2_ARRAY_BOOLEAN_INDEX_SCALE", type := .int, accessFlags := 25, slot := 2, constantValue := 0 }, { name := "LOG2_ARRAY_BYTE_INDEX_SCALE", type := .int, accessFlags := 25, slot := 3, constantValue := 0 }, { name := "LOG2_ARRAY_CHAR_INDEX_SCALE", type := .int, accessFlags := 25, slot := 4, constantValue := 0 }, { name := "LOG2_ARRAY_SHORT_INDEX_SCALE", type := .int, accessFlags := 25, slot := 5, constantValue := 0 }, { name := "LOG2_ARRAY_INT_INDEX_SCALE", type := .int, accessFlags := 25, slot := 6, constantValue := 0 }, { name := "LOG2_ARRAY_LONG_INDEX_SCALE", type := .int, accessFlags := 25, slot := 7, constantValue := 0 }, { name := "LOG2_ARRAY_FLOAT_INDEX_SCALE", type := .int, accessFlags := 25, slot := 8, constantValue := 0 }, { name := "LOG2_ARRAY_DOUBLE_INDEX_SCALE", type := .int, accessFlags := 25, slot := 9, constantValue := 0 }, { name := "LOG2_BYTE_BIT_SIZE", type := .int, accessFlags := 26, slot := 10, constantValue := 0 }, { name := "T_BOOLEAN", type := .int, accessFlags := 25, slot := 11, constantValue := 0 }, { name := "T_CHAR", type := .int, accessFlags := 25, slot := 12, constantValue := 0 }, { name := "T_FLOAT", type := .int, accessFlags := 25, slot := 13, constantValue := 0 }, { name := "T_DOUBLE", type := .int, accessFlags := 25, slot := 14, constantValue := 0 }, { name := "T_BYTE", type := .int, accessFlags := 25, slot := 15, constantValue := 0 }, { name := "T_SHORT", type := .int, accessFlags := 25, slot := 16, constantValue := 0 }, { name := "T_INT", type := .int, accessFlags := 25, slot := 17, constantValue := 0 }, { name := "T_LONG", type := .int, accessFlags := 25, slot := 18, constantValue := 0 }, { name := "JLA", type := (.object "jdk/internal/access/JavaLangAccess"), accessFlags := 26, slot := 19, constantValue := 0 }, { name := "SOFT_MAX_ARRAY_LENGTH", type := .int, accessFlags := 25, slot := 20, constantValue := 0 }]
  methods := #[k13m0]
  instanceTypes := #[]
  staticTypes := #[(.object "jdk/internal/misc/Unsafe"), .boolean, .int, .int, .int, .int, .int, .int, .int, .int, .int, .int, .int, .int, .int, .int, .int, .int, .int, (.object "jdk/internal/access/JavaLangAccess"), .int]
  resolved := Array.replicate 378 none
  statics := none }

def pool14 : Array CpInfo := pool [(1, u "java/lang/Cloneable"), (0, .class_ 1), (0, u "java/lang/Object"), (0, .class_ 3)] 3

/-- java/lang/Cloneable -/
def k14 : Class := { plain "java/lang/Cloneable" (some 0) with
  accessFlags := 1537
  interfaces := #[]
  cf := some (fileOf pool14 2 #[] #[] 1537 4 #[] #[])
  fields := #[]
  methods := #[]
  instanceTypes := #[]
  staticTypes := #[]
  resolved := Array.replicate 8 none
  statics := none }

/-- the primitive byte -/
def k15 : Class := { plain "byte" none with kind := .primitive 'B', accessFlags := 0x411 }
/-- [B -/
def k16 : Class := { plain "[B" (some 0) with kind := .array 15 .byte, interfaces := #[14, 2], accessFlags := 1041 }

/-- the primitive char -/
def k17 : Class := { plain "char" none with kind := .primitive 'C', accessFlags := 0x411 }
/-- [C -/
def k18 : Class := { plain "[C" (some 0) with kind := .array 17 .char, interfaces := #[14, 2], accessFlags := 1041 }

/-- the primitive int -/
def k19 : Class := { plain "int" none with kind := .primitive 'I', accessFlags := 0x411 }
/-- [I -/
def k20 : Class := { plain "[I" (some 0) with kind := .array 19 .int, interfaces := #[14, 2], accessFlags := 1041 }

def heap : Heap := #[{ cls := 7, slots := #[.long 0, .int 1, .null, .int 0, .null, .int 0, .int 0], vm := .statics 7 },
  { cls := 10, slots := #[.int 0, .int 8, .int 0, .int 1], vm := .statics 10 },
  { cls := 12, slots := #[.null, .null, .null], vm := .statics 12 }]
def classes : Array Class := #[k0, k1, k2, k3, k4, k5, k6, k7, k8, k9, k10, k11, k12, k13, k14, k15, k16, k17, k18, k19, k20]
def interned : List (Array UInt16 × Addr) := []
def slotsUsed : Nat := 14
def theMethod : MethodId := ⟨1, 3⟩
def args0 : Array Value := #[.int 5, .int 6, .int 7, .int 8, .int 3]
def aboutOver (below : List Frame) : State where
  vm := { classes := classes, interned := interned.toArray }
  heap := heap
  slotsUsed := slotsUsed
  threads := #[{ frames := .invoking theMethod args0 :: below }]
def below0 : List Frame := [.native { method := ⟨0, 0⟩, args := #[] }]
def about1 : State := aboutOver below0
def p0 : Program := .bare "" "" ""
def e0 : Env := launch0.env 0 0 0
theorem w_frames : about1.frames = Frame.invoking theMethod args0 :: below0 := rfl
set_option maxRecDepth 65536 in
theorem w_args : argsFit about1.vm theMethod args0 = true := by decide +kernel
set_option maxRecDepth 65536 in
theorem w_heap : heapFits about1 = true := by decide +kernel
set_option maxRecDepth 65536 in
theorem w_runnable : about1.curStatus? = some .runnable := by decide +kernel
set_option maxRecDepth 65536 in
theorem w_alone : about1.alone = true := by decide +kernel
set_option maxRecDepth 65536 in
theorem w_named : about1.methodNamed? x = some theMethod := by decide +kernel
set_option maxRecDepth 65536 in
theorem w_hears : about1.hears theMethod below0 = true := by decide +kernel
set_option maxRecDepth 65536 in
theorem w_ripe : about1.ripe theMethod args0 below0 = true := by decide +kernel
theorem w_running : about1.status = .running := rfl
set_option maxRecDepth 65536 in
theorem w_room : about1.hasRoom e0.platform room_1 = true :=
  launch0.hasRoom_least _ room_1 (by decide +kernel) (by decide +kernel) (by decide +kernel) (by decide +kernel) (by decide +kernel) (by decide +kernel)
theorem allAtoms_all (ts : List Jvm.Cond) (a : Array Jvm.Value) (st : Jvm.State) : (allAtoms ts).before a st = ts.all (fun c => c.before a st) := by
  induction ts with
  | nil => rfl
  | cons c t ih =>
    show (Jvm.Cond.and c (allAtoms t)).before a st = _
    rw [Jvm.Cond.before_and, ih, List.all_cons]
def words1 : List Jvm.Cond := Jvm.Cond.code x code maxLocals ret :: tables_1
/-- a 'code' word, met by the world's own term for the bytes: nothing is compared byte by byte -/
theorem code_word {y : MethodName} {bytes : ByteArray} {mx : Nat} {rt : Option FieldType} {a : Array Value} {s : State} {m : MethodId} {meth : Method} {c : Code} (h1 : s.methodNamed? y = some m) (h2 : s.vm.method? m = some meth) (h3 : meth.code = some c) (h4 : c.code = bytes)
    (h5 : (c.maxLocals == mx && c.exceptionTable.isEmpty && decide (c.maxStack ≤ mostOperands) && decide (meth.sig.returnType = rt) && !meth.locks && decide (parseMethodDescriptor y.desc = some meth.sig)) = true) : (Jvm.Cond.code y bytes mx rt).before a s = true := by
  simp only [Bool.and_eq_true, beq_iff_eq, Bool.not_eq_true', decide_eq_true_eq] at h5
  obtain ⟨⟨⟨⟨⟨g1, g2⟩, g3⟩, g4⟩, g5⟩, g6⟩ := h5
  simp [Cond.before, Cond.holds, Cond.value, h1, h2, h3, h4, g1, g2, g3, g4, g5, g6]
def isCode : Jvm.Cond → Bool
  | .code _ _ _ _ => true
  | _ => false
theorem all_split {L : List Jvm.Cond} {P : Jvm.Cond → Bool} (h1 : L.all (fun c => isCode c || P c) = true) (h2 : ∀ c ∈ L.filter isCode, P c = true) : L.all P = true := by
  refine List.all_eq_true.mpr fun c hc => ?_
  have h := List.all_eq_true.mp h1 c hc
  rcases Bool.eq_false_or_eq_true (isCode c) with hi | hi
  · exact h2 c (List.mem_filter.mpr ⟨hc, hi⟩)
  · simpa [hi] using h
set_option maxRecDepth 65536 in
theorem w_c0 : (Jvm.Cond.code x code maxLocals ret).before args0 about1 = true := code_word (m := ⟨1, 3⟩) (meth := k1m3) (c := k1c3) (by decide +kernel) rfl rfl rfl (by decide +kernel)
set_option maxRecDepth 65536 in
theorem w_c1 : (Jvm.Cond.code ({ cls := "com/example/estival/estival/cli/ArgumentsUndecodablePinLaw", name := "pick", desc := "(I)C" } : Jvm.MethodName) method_2_code (2 : Nat) (Option.some Jvm.ClassFile.FieldType.char)).before args0 about1 = true := code_word (m := ⟨1, 1⟩) (meth := k1m1) (c := k1c1) (by decide +kernel) rfl rfl rfl (by decide +kernel)
set_option maxRecDepth 65536 in
theorem w_c2 : (Jvm.Cond.code ({ cls := "java/lang/String", name := "<init>", desc := "([C)V" } : Jvm.MethodName) jdk_42_method_3_code (2 : Nat) (Option.none : Option Jvm.ClassFile.FieldType)).before args0 about1 = true := code_word (m := ⟨7, 1⟩) (meth := k7m1) (c := k7c1) (by decide +kernel) rfl rfl rfl (by decide +kernel)
set_option maxRecDepth 65536 in
theorem w_c3 : (Jvm.Cond.code ({ cls := "java/lang/String", name := "<init>", desc := "([CIILjava/lang/Void;)V" } : Jvm.MethodName) jdk_42_method_149_code (6 : Nat) (Option.none : Option Jvm.ClassFile.FieldType)).before args0 about1 = true := code_word (m := ⟨7, 5⟩) (meth := k7m5) (c := k7c5) (by decide +kernel) rfl rfl rfl (by decide +kernel)
set_option maxRecDepth 65536 in
theorem w_c4 : (Jvm.Cond.code ({ cls := "java/lang/Object", name := "<init>", desc := "()V" } : Jvm.MethodName) object_method_1_code (1 : Nat) (Option.none : Option Jvm.ClassFile.FieldType)).before args0 about1 = true := code_word (m := ⟨0, 0⟩) (meth := k0m0) (c := k0c0) (by decide +kernel) rfl rfl rfl (by decide +kernel)
set_option maxRecDepth 65536 in
theorem w_c5 : (Jvm.Cond.code ({ cls := "com/example/estival/estival/cli/Arguments", name := "undecodable", desc := "(Ljava/lang/String;)Z" } : Jvm.MethodName) prog_1_method_4_code (1 : Nat) (Option.some Jvm.ClassFile.FieldType.boolean)).before args0 about1 = true := code_word (m := ⟨8, 0⟩) (meth := k8m0) (c := k8c0) (by decide +kernel) rfl rfl rfl (by decide +kernel)
set_option maxRecDepth 65536 in
theorem w_c6 : (Jvm.Cond.code ({ cls := "java/lang/String", name := "indexOf", desc := "(I)I" } : Jvm.MethodName) jdk_42_method_79_code (2 : Nat) (Option.some Jvm.ClassFile.FieldType.int)).before args0 about1 = true := code_word (m := ⟨7, 3⟩) (meth := k7m3) (c := k7c3) (by decide +kernel) rfl rfl rfl (by decide +kernel)
set_option maxRecDepth 65536 in
theorem w_c7 : (Jvm.Cond.code ({ cls := "java/lang/String", name := "indexOf", desc := "(II)I" } : Jvm.MethodName) jdk_42_method_80_code (3 : Nat) (Option.some Jvm.ClassFile.FieldType.int)).before args0 about1 = true := code_word (m := ⟨7, 4⟩) (meth := k7m4) (c := k7c4) (by decide +kernel) rfl rfl rfl (by decide +kernel)
set_option maxRecDepth 65536 in
theorem w_c8 : (Jvm.Cond.code ({ cls := "java/lang/String", name := "isLatin1", desc := "()Z" } : Jvm.MethodName) jdk_42_method_154_code (1 : Nat) (Option.some Jvm.ClassFile.FieldType.boolean)).before args0 about1 = true := code_word (m := ⟨7, 7⟩) (meth := k7m7) (c := k7c7) (by decide +kernel) rfl rfl rfl (by decide +kernel)
set_option maxRecDepth 65536 in
theorem w_c9 : (Jvm.Cond.code ({ cls := "java/lang/String", name := "length", desc := "()I" } : Jvm.MethodName) jdk_42_method_54_code (1 : Nat) (Option.some Jvm.ClassFile.FieldType.int)).before args0 about1 = true := code_word (m := ⟨7, 2⟩) (meth := k7m2) (c := k7c2) (by decide +kernel) rfl rfl rfl (by decide +kernel)
set_option maxRecDepth 65536 in
theorem w_c10 : (Jvm.Cond.code ({ cls := "java/lang/String", name := "coder", desc := "()B" } : Jvm.MethodName) jdk_42_method_152_code (1 : Nat) (Option.some Jvm.ClassFile.FieldType.byte)).before args0 about1 = true := code_word (m := ⟨7, 6⟩) (meth := k7m6) (c := k7c6) (by decide +kernel) rfl rfl rfl (by decide +kernel)
set_option maxRecDepth 65536 in
theorem w_c11 : (Jvm.Cond.code ({ cls := "java/lang/StringLatin1", name := "indexOf", desc := "([BIII)I" } : Jvm.MethodName) jdk_43_method_22_code (4 : Nat) (Option.some Jvm.ClassFile.FieldType.int)).before args0 about1 = true := code_word (m := ⟨9, 2⟩) (meth := k9m2) (c := k9c2) (by decide +kernel) rfl rfl rfl (by decide +kernel)
set_option maxRecDepth 65536 in
theorem w_c12 : (Jvm.Cond.code ({ cls := "java/lang/StringLatin1", name := "canEncode", desc := "(I)Z" } : Jvm.MethodName) jdk_43_method_4_code (1 : Nat) (Option.some Jvm.ClassFile.FieldType.boolean)).before args0 about1 = true := code_word (m := ⟨9, 1⟩) (meth := k9m1) (c := k9c1) (by decide +kernel) rfl rfl rfl (by decide +kernel)
set_option maxRecDepth 65536 in
theorem w_c13 : (Jvm.Cond.code ({ cls := "java/lang/StringUTF16", name := "compress", desc := "([CII)[B" } : Jvm.MethodName) jdk_52_method_16_code (6 : Nat) (Option.some (Jvm.ClassFile.FieldType.array Jvm.ClassFile.FieldType.byte))).before args0 about1 = true := code_word (m := ⟨10, 8⟩) (meth := k10m8) (c := k10c8) (by decide +kernel) rfl rfl rfl (by decide +kernel)
set_option maxRecDepth 65536 in
theorem w_c14 : (Jvm.Cond.code ({ cls := "java/lang/StringUTF16", name := "compress", desc := "([CI[BII)I" } : Jvm.MethodName) jdk_52_method_21_code (7 : Nat) (Option.some Jvm.ClassFile.FieldType.int)).before args0 about1 = true := code_word (m := ⟨10, 9⟩) (meth := k10m9) (c := k10c9) (by decide +kernel) rfl rfl rfl (by decide +kernel)
set_option maxRecDepth 65536 in
theorem w_c15 : (Jvm.Cond.code ({ cls := "java/lang/StringUTF16", name := "coderFromArrayLen", desc := "([BI)B" } : Jvm.MethodName) jdk_52_method_15_code (2 : Nat) (Option.some Jvm.ClassFile.FieldType.byte)).before args0 about1 = true := code_word (m := ⟨10, 7⟩) (meth := k10m7) (c := k10c7) (by decide +kernel) rfl rfl rfl (by decide +kernel)
set_option maxRecDepth 65536 in
theorem w_c16 : (Jvm.Cond.code ({ cls := "com/example/estival/estival/cli/ArgumentsUndecodablePinLaw", name := "isRep", desc := "(C)Z" } : Jvm.MethodName) method_3_code (1 : Nat) (Option.some Jvm.ClassFile.FieldType.boolean)).before args0 about1 = true := code_word (m := ⟨1, 2⟩) (meth := k1m2) (c := k1c2) (by decide +kernel) rfl rfl rfl (by decide +kernel)
set_option maxRecDepth 65536 in
theorem w_c17 : (Jvm.Cond.code ({ cls := "java/lang/StringUTF16", name := "toBytes", desc := "([CII)[B" } : Jvm.MethodName) jdk_52_method_14_code (5 : Nat) (Option.some (Jvm.ClassFile.FieldType.array Jvm.ClassFile.FieldType.byte))).before args0 about1 = true := code_word (m := ⟨10, 6⟩) (meth := k10m6) (c := k10c6) (by decide +kernel) rfl rfl rfl (by decide +kernel)
set_option maxRecDepth 65536 in
theorem w_c18 : (Jvm.Cond.code ({ cls := "java/lang/StringUTF16", name := "newBytesFor", desc := "(I)[B" } : Jvm.MethodName) jdk_52_method_2_code (1 : Nat) (Option.some (Jvm.ClassFile.FieldType.array Jvm.ClassFile.FieldType.byte))).before args0 about1 = true := code_word (m := ⟨10, 1⟩) (meth := k10m1) (c := k10c1) (by decide +kernel) rfl rfl rfl (by decide +kernel)
set_option maxRecDepth 65536 in
theorem w_c19 : (Jvm.Cond.code ({ cls := "java/lang/StringUTF16", name := "newBytesLength", desc := "(I)I" } : Jvm.MethodName) jdk_52_method_3_code (1 : Nat) (Option.some Jvm.ClassFile.FieldType.int)).before args0 about1 = true := code_word (m := ⟨10, 2⟩) (meth := k10m2) (c := k10c2) (by decide +kernel) rfl rfl rfl (by decide +kernel)
set_option maxRecDepth 65536 in
theorem w_c20 : (Jvm.Cond.code ({ cls := "java/lang/StringUTF16", name := "putChar", desc := "([BII)V" } : Jvm.MethodName) jdk_52_method_4_code (3 : Nat) (Option.none : Option Jvm.ClassFile.FieldType)).before args0 about1 = true := code_word (m := ⟨10, 3⟩) (meth := k10m3) (c := k10c3) (by decide +kernel) rfl rfl rfl (by decide +kernel)
set_option maxRecDepth 65536 in
theorem w_c21 : (Jvm.Cond.code ({ cls := "java/lang/StringUTF16", name := "getChar", desc := "([BI)C" } : Jvm.MethodName) jdk_52_method_5_code (2 : Nat) (Option.some Jvm.ClassFile.FieldType.char)).before args0 about1 = true := code_word (m := ⟨10, 4⟩) (meth := k10m4) (c := k10c4) (by decide +kernel) rfl rfl rfl (by decide +kernel)
set_option maxRecDepth 65536 in
theorem w_c22 : (Jvm.Cond.code ({ cls := "java/lang/StringUTF16", name := "indexOf", desc := "([BIII)I" } : Jvm.MethodName) jdk_52_method_40_code (4 : Nat) (Option.some Jvm.ClassFile.FieldType.int)).before args0 about1 = true := code_word (m := ⟨10, 10⟩) (meth := k10m10) (c := k10c10) (by decide +kernel) rfl rfl rfl (by decide +kernel)
set_option maxRecDepth 65536 in
theorem w_c23 : (Jvm.Cond.code ({ cls := "java/lang/Math", name := "max", desc := "(II)I" } : Jvm.MethodName) jdk_29_method_65_code (2 : Nat) (Option.some Jvm.ClassFile.FieldType.int)).before args0 about1 = true := code_word (m := ⟨11, 1⟩) (meth := k11m1) (c := k11c1) (by decide +kernel) rfl rfl rfl (by decide +kernel)
set_option maxRecDepth 65536 in
theorem w_c24 : (Jvm.Cond.code ({ cls := "java/lang/Math", name := "min", desc := "(II)I" } : Jvm.MethodName) jdk_29_method_69_code (2 : Nat) (Option.some Jvm.ClassFile.FieldType.int)).before args0 about1 = true := code_word (m := ⟨11, 2⟩) (meth := k11m2) (c := k11c2) (by decide +kernel) rfl rfl rfl (by decide +kernel)
set_option maxRecDepth 65536 in
theorem w_c25 : (Jvm.Cond.code ({ cls := "java/lang/StringUTF16", name := "indexOfChar", desc := "([BIII)I" } : Jvm.MethodName) jdk_52_method_47_code (4 : Nat) (Option.some Jvm.ClassFile.FieldType.int)).before args0 about1 = true := code_word (m := ⟨10, 11⟩) (meth := k10m11) (c := k10c11) (by decide +kernel) rfl rfl rfl (by decide +kernel)
set_option maxRecDepth 65536 in
theorem w_c26 : (Jvm.Cond.code ({ cls := "java/lang/StringUTF16", name := "checkBoundsBeginEnd", desc := "(II[B)V" } : Jvm.MethodName) jdk_52_method_93_code (3 : Nat) (Option.none : Option Jvm.ClassFile.FieldType)).before args0 about1 = true := code_word (m := ⟨10, 13⟩) (meth := k10m13) (c := k10c13) (by decide +kernel) rfl rfl rfl (by decide +kernel)
set_option maxRecDepth 65536 in
theorem w_c27 : (Jvm.Cond.code ({ cls := "java/lang/StringUTF16", name := "length", desc := "([B)I" } : Jvm.MethodName) jdk_52_method_6_code (1 : Nat) (Option.some Jvm.ClassFile.FieldType.int)).before args0 about1 = true := code_word (m := ⟨10, 5⟩) (meth := k10m5) (c := k10c5) (by decide +kernel) rfl rfl rfl (by decide +kernel)
set_option maxRecDepth 65536 in
theorem w_c28 : (Jvm.Cond.code ({ cls := "java/lang/String", name := "checkBoundsBeginEnd", desc := "(III)V" } : Jvm.MethodName) jdk_42_method_158_code (3 : Nat) (Option.none : Option Jvm.ClassFile.FieldType)).before args0 about1 = true := code_word (m := ⟨7, 8⟩) (meth := k7m8) (c := k7c8) (by decide +kernel) rfl rfl rfl (by decide +kernel)
set_option maxRecDepth 65536 in
theorem w_c29 : (Jvm.Cond.code ({ cls := "jdk/internal/util/Preconditions", name := "checkFromToIndex", desc := "(IIILjava/util/function/BiFunction;)I" } : Jvm.MethodName) jdk_41_method_12_code (4 : Nat) (Option.some Jvm.ClassFile.FieldType.int)).before args0 about1 = true := code_word (m := ⟨12, 1⟩) (meth := k12m1) (c := k12c1) (by decide +kernel) rfl rfl rfl (by decide +kernel)
set_option maxRecDepth 65536 in
theorem w_c30 : (Jvm.Cond.code ({ cls := "java/lang/StringUTF16", name := "indexOfCharUnsafe", desc := "([BIII)I" } : Jvm.MethodName) jdk_52_method_48_code (5 : Nat) (Option.some Jvm.ClassFile.FieldType.int)).before args0 about1 = true := code_word (m := ⟨10, 12⟩) (meth := k10m12) (c := k10c12) (by decide +kernel) rfl rfl rfl (by decide +kernel)
def codes1 : List Jvm.Cond := [Jvm.Cond.code x code maxLocals ret, Jvm.Cond.code ({ cls := "com/example/estival/estival/cli/ArgumentsUndecodablePinLaw", name := "pick", desc := "(I)C" } : Jvm.MethodName) method_2_code (2 : Nat) (Option.some Jvm.ClassFile.FieldType.char), Jvm.Cond.code ({ cls := "java/lang/String", name := "<init>", desc := "([C)V" } : Jvm.MethodName) jdk_42_method_3_code (2 : Nat) (Option.none : Option Jvm.ClassFile.FieldType), Jvm.Cond.code ({ cls := "java/lang/String", name := "<init>", desc := "([CIILjava/lang/Void;)V" } : Jvm.MethodName) jdk_42_method_149_code (6 : Nat) (Option.none : Option Jvm.ClassFile.FieldType), Jvm.Cond.code ({ cls := "java/lang/Object", name := "<init>", desc := "()V" } : Jvm.MethodName) object_method_1_code (1 : Nat) (Option.none : Option Jvm.ClassFile.FieldType), Jvm.Cond.code ({ cls := "com/example/estival/estival/cli/Arguments", name := "undecodable", desc := "(Ljava/lang/String;)Z" } : Jvm.MethodName) prog_1_method_4_code (1 : Nat) (Option.some Jvm.ClassFile.FieldType.boolean), Jvm.Cond.code ({ cls := "java/lang/String", name := "indexOf", desc := "(I)I" } : Jvm.MethodName) jdk_42_method_79_code (2 : Nat) (Option.some Jvm.ClassFile.FieldType.int), Jvm.Cond.code ({ cls := "java/lang/String", name := "indexOf", desc := "(II)I" } : Jvm.MethodName) jdk_42_method_80_code (3 : Nat) (Option.some Jvm.ClassFile.FieldType.int), Jvm.Cond.code ({ cls := "java/lang/String", name := "isLatin1", desc := "()Z" } : Jvm.MethodName) jdk_42_method_154_code (1 : Nat) (Option.some Jvm.ClassFile.FieldType.boolean), Jvm.Cond.code ({ cls := "java/lang/String", name := "length", desc := "()I" } : Jvm.MethodName) jdk_42_method_54_code (1 : Nat) (Option.some Jvm.ClassFile.FieldType.int), Jvm.Cond.code ({ cls := "java/lang/String", name := "coder", desc := "()B" } : Jvm.MethodName) jdk_42_method_152_code (1 : Nat) (Option.some Jvm.ClassFile.FieldType.byte), Jvm.Cond.code ({ cls := "java/lang/StringLatin1", name := "indexOf", desc := "([BIII)I" } : Jvm.MethodName) jdk_43_method_22_code (4 : Nat) (Option.some Jvm.ClassFile.FieldType.int), Jvm.Cond.code ({ cls := "java/lang/StringLatin1", name := "canEncode", desc := "(I)Z" } : Jvm.MethodName) jdk_43_method_4_code (1 : Nat) (Option.some Jvm.ClassFile.FieldType.boolean), Jvm.Cond.code ({ cls := "java/lang/StringUTF16", name := "compress", desc := "([CII)[B" } : Jvm.MethodName) jdk_52_method_16_code (6 : Nat) (Option.some (Jvm.ClassFile.FieldType.array Jvm.ClassFile.FieldType.byte)), Jvm.Cond.code ({ cls := "java/lang/StringUTF16", name := "compress", desc := "([CI[BII)I" } : Jvm.MethodName) jdk_52_method_21_code (7 : Nat) (Option.some Jvm.ClassFile.FieldType.int), Jvm.Cond.code ({ cls := "java/lang/StringUTF16", name := "coderFromArrayLen", desc := "([BI)B" } : Jvm.MethodName) jdk_52_method_15_code (2 : Nat) (Option.some Jvm.ClassFile.FieldType.byte), Jvm.Cond.code ({ cls := "com/example/estival/estival/cli/ArgumentsUndecodablePinLaw", name := "isRep", desc := "(C)Z" } : Jvm.MethodName) method_3_code (1 : Nat) (Option.some Jvm.ClassFile.FieldType.boolean), Jvm.Cond.code ({ cls := "java/lang/StringUTF16", name := "toBytes", desc := "([CII)[B" } : Jvm.MethodName) jdk_52_method_14_code (5 : Nat) (Option.some (Jvm.ClassFile.FieldType.array Jvm.ClassFile.FieldType.byte)), Jvm.Cond.code ({ cls := "java/lang/StringUTF16", name := "newBytesFor", desc := "(I)[B" } : Jvm.MethodName) jdk_52_method_2_code (1 : Nat) (Option.some (Jvm.ClassFile.FieldType.array Jvm.ClassFile.FieldType.byte)), Jvm.Cond.code ({ cls := "java/lang/StringUTF16", name := "newBytesLength", desc := "(I)I" } : Jvm.MethodName) jdk_52_method_3_code (1 : Nat) (Option.some Jvm.ClassFile.FieldType.int), Jvm.Cond.code ({ cls := "java/lang/StringUTF16", name := "putChar", desc := "([BII)V" } : Jvm.MethodName) jdk_52_method_4_code (3 : Nat) (Option.none : Option Jvm.ClassFile.FieldType), Jvm.Cond.code ({ cls := "java/lang/StringUTF16", name := "getChar", desc := "([BI)C" } : Jvm.MethodName) jdk_52_method_5_code (2 : Nat) (Option.some Jvm.ClassFile.FieldType.char), Jvm.Cond.code ({ cls := "java/lang/StringUTF16", name := "indexOf", desc := "([BIII)I" } : Jvm.MethodName) jdk_52_method_40_code (4 : Nat) (Option.some Jvm.ClassFile.FieldType.int), Jvm.Cond.code ({ cls := "java/lang/Math", name := "max", desc := "(II)I" } : Jvm.MethodName) jdk_29_method_65_code (2 : Nat) (Option.some Jvm.ClassFile.FieldType.int), Jvm.Cond.code ({ cls := "java/lang/Math", name := "min", desc := "(II)I" } : Jvm.MethodName) jdk_29_method_69_code (2 : Nat) (Option.some Jvm.ClassFile.FieldType.int), Jvm.Cond.code ({ cls := "java/lang/StringUTF16", name := "indexOfChar", desc := "([BIII)I" } : Jvm.MethodName) jdk_52_method_47_code (4 : Nat) (Option.some Jvm.ClassFile.FieldType.int), Jvm.Cond.code ({ cls := "java/lang/StringUTF16", name := "checkBoundsBeginEnd", desc := "(II[B)V" } : Jvm.MethodName) jdk_52_method_93_code (3 : Nat) (Option.none : Option Jvm.ClassFile.FieldType), Jvm.Cond.code ({ cls := "java/lang/StringUTF16", name := "length", desc := "([B)I" } : Jvm.MethodName) jdk_52_method_6_code (1 : Nat) (Option.some Jvm.ClassFile.FieldType.int), Jvm.Cond.code ({ cls := "java/lang/String", name := "checkBoundsBeginEnd", desc := "(III)V" } : Jvm.MethodName) jdk_42_method_158_code (3 : Nat) (Option.none : Option Jvm.ClassFile.FieldType), Jvm.Cond.code ({ cls := "jdk/internal/util/Preconditions", name := "checkFromToIndex", desc := "(IIILjava/util/function/BiFunction;)I" } : Jvm.MethodName) jdk_41_method_12_code (4 : Nat) (Option.some Jvm.ClassFile.FieldType.int), Jvm.Cond.code ({ cls := "java/lang/StringUTF16", name := "indexOfCharUnsafe", desc := "([BIII)I" } : Jvm.MethodName) jdk_52_method_48_code (5 : Nat) (Option.some Jvm.ClassFile.FieldType.int)]
set_option maxRecDepth 65536 in
theorem codes_eq : words1.filter isCode = codes1 := rfl
theorem w_codes : ∀ c ∈ words1.filter isCode, c.before args0 about1 = true := by
  rw [codes_eq]
  intro c hc
  simp only [codes1, List.mem_cons, List.not_mem_nil, or_false] at hc
  rcases hc with rfl | rfl | rfl | rfl | rfl | rfl | rfl | rfl | rfl | rfl | rfl | rfl | rfl | rfl | rfl | rfl | rfl | rfl | rfl | rfl | rfl | rfl | rfl | rfl | rfl | rfl | rfl | rfl | rfl | rfl | rfl
  · exact w_c0
  · exact w_c1
  · exact w_c2
  · exact w_c3
  · exact w_c4
  · exact w_c5
  · exact w_c6
  · exact w_c7
  · exact w_c8
  · exact w_c9
  · exact w_c10
  · exact w_c11
  · exact w_c12
  · exact w_c13
  · exact w_c14
  · exact w_c15
  · exact w_c16
  · exact w_c17
  · exact w_c18
  · exact w_c19
  · exact w_c20
  · exact w_c21
  · exact w_c22
  · exact w_c23
  · exact w_c24
  · exact w_c25
  · exact w_c26
  · exact w_c27
  · exact w_c28
  · exact w_c29
  · exact w_c30
set_option maxRecDepth 65536 in
theorem w_t1 : (words1.take 24).all (fun c => isCode c || c.before args0 about1) = true := by decide +kernel
set_option maxRecDepth 65536 in
theorem w_t2 : ((words1.drop 24).take 24).all (fun c => isCode c || c.before args0 about1) = true := by decide +kernel
set_option maxRecDepth 65536 in
theorem w_t3 : (((words1.drop 24).drop 24).take 24).all (fun c => isCode c || c.before args0 about1) = true := by decide +kernel
set_option maxRecDepth 65536 in
theorem w_t4 : ((((words1.drop 24).drop 24).drop 24).take 24).all (fun c => isCode c || c.before args0 about1) = true := by decide +kernel
set_option maxRecDepth 65536 in
theorem w_t5 : (((((words1.drop 24).drop 24).drop 24).drop 24).take 24).all (fun c => isCode c || c.before args0 about1) = true := by decide +kernel
set_option maxRecDepth 65536 in
theorem w_t6 : (((((words1.drop 24).drop 24).drop 24).drop 24).drop 24).all (fun c => isCode c || c.before args0 about1) = true := by decide +kernel
theorem w_tables : (allAtoms (Jvm.Cond.code x code maxLocals ret :: tables_1)).before args0 about1 = true := by
  rw [allAtoms_all]
  show words1.all (fun c => c.before args0 about1) = true
  refine all_split ?_ w_codes
  rw [← List.take_append_drop 24 words1, List.all_append, w_t1, ← List.take_append_drop 24 (words1.drop 24), List.all_append, w_t2, ← List.take_append_drop 24 ((words1.drop 24).drop 24), List.all_append, w_t3, ← List.take_append_drop 24 (((words1.drop 24).drop 24).drop 24), List.all_append, w_t4, ← List.take_append_drop 24 ((((words1.drop 24).drop 24).drop 24).drop 24), List.all_append, w_t5, w_t6]
  rfl
set_option maxRecDepth 65536 in
theorem w_rest : rest_1_c.before args0 about1 = true := by decide +kernel
set_option maxRecDepth 65536 in
theorem w_case : (Jvm.Cond.and given_1 narrow_1).before args0 about1 = true := by decide +kernel
set_option maxRecDepth 65536 in
theorem w_consts : constsHeld consts_1 about1 := Jvm.Lit.constsHeldB_iff.mp (by decide +kernel)
theorem w_applies : (headSpec (Jvm.Cond.code x code maxLocals ret :: tables_1) room_1).applies x e0.platform about1 = true :=
  (Spec.applies_iff w_frames).mpr ⟨w_running, w_runnable, w_alone, w_named, w_hears, w_ripe, w_room, w_tables⟩
theorem atStart : AtStart classFile x code maxLocals ret World_1 tables_1 room_1 Calls_1 rest_1 Pre_1 launch0 p0 e0 about1 theMethod args0 below0 :=
  ⟨lists_1, trivial, launch0.admits_env _ _ _, launch0.least_env, fairChoices_fair.cas, fairChoices_fair.clock, w_frames, w_args, w_heap, w_applies, ⟨w_consts, trivial⟩, w_rest, w_case⟩
end start1
theorem witness_1 : WitnessClaimed_1 := ⟨start1.p0, start1.e0, start1.about1, start1.theMethod, start1.args0, start1.below0, start1.atStart⟩
end Jvm.Pilot.@@N@@
