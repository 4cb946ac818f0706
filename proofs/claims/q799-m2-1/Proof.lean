import JvmDerived
import JvmDerived.Pilot.@@N@@Statement
import JvmDerived.Pilot.@@N@@Code
set_option linter.unusedVariables false
set_option linter.unusedSimpArgs false
@@BLOCK:NumsL.lean.txt@@
namespace Jvm.Pilot.@@N@@
open Jvm Jvm.ClassFile Sem Op Lib Jvm.Free Jvm.Stand Jvm.LawKit Jvm.RoadKit Bundle Jvm.Pilot.@@N@@.Jvm.D
section OwnLayer
variable {p : Program} {l : Launch} {e : Env} {R : Room} {s : State} {m : MethodId} {args : Array Value} {below : List Frame} {meth : Method} {c : Code} {T : State} {locs : List Loc} {cells slots : Nat}
variable {F : State → Outcome → Prop} {kc ks : Nat} {Q : Option Value → Heap → List Loc → Prop} {pc pc' : Nat} {ls : Array Slot} {st : List Value} {Z : State} {a0 : Array Value} {h : Heap}
/-- from this state and frame the run comes to an end of which F holds -/
def Goes (p : Program) (e : Env) (below : List Frame) (F : State → Outcome → Prop) (T : State) (g : JFrame) : Prop :=
  ∃ s₂ o, Steps p.tables e below (T.setTop g) s₂ ∧ s₂.status = .running ∧ Ended s₂ below o ∧ F s₂ o
/-- it returns, Q holds of the value, the heap and the places written; the frame is the plain one -/
def FinN (s : State) (kc ks : Nat) (Q : Option Value → Heap → List Loc → Prop) (s₂ : State) (o : Outcome) : Prop := ∃ v L, o = .returned v ∧ Q v s₂.heap L ∧ FrameEnd s o s₂ L kc ks
theorem Goes.fore {T' : State} {g g' : JFrame} (k : ∀ target, Steps p.tables e below (T'.setTop g') target → Steps p.tables e below (T.setTop g) target) (G : Goes p e below F T' g') : Goes p e below F T g := by
  obtain ⟨a, b, h, r⟩ := G; exact ⟨a, b, k _ h, r⟩
theorem Goes.tr {T' : State} {g g' : JFrame} (k : Steps p.tables e below (T.setTop g) (T'.setTop g')) (G : Goes p e below F T' g') : Goes p e below F T g := by
  obtain ⟨a, b, h, r⟩ := G; exact ⟨a, b, k.trans h, r⟩
theorem Goes.cast {g g' : JFrame} (q : g = g') (G : Goes p e below F T g') : Goes p e below F T g := q ▸ G
/-- a body's contract: called with these arguments on this heap it returns, and Q holds of the value, the heap and the places written -/
def Ctr (l : Launch) (Z : State) (y : MethodName) (bytes : ByteArray) (maxL : Nat) (ret : Option FieldType) (ws : List Jvm.Cond) (rm : Room) (as' : Array Value) (h0 : Heap) (Q : Option Value → Heap → List Loc → Prop) : Prop :=
  MetFree l y (head1 (Jvm.Cond.code y bytes maxL ret :: ws) rm) (fun a U => a = as' ∧ Z.Warmed39 U.vm ∧ U.heap = h0) (fun _ _ _ _ _ => True) (fun _ U o U' => ∃ v L, o = .returned v ∧ Q v U'.heap L ∧ FrameEnd U o U' L rm.cells rm.slots)
theorem Ctr.of {y : MethodName} {bytes : ByteArray} {maxL : Nat} {ret : Option FieldType} {ws : List Jvm.Cond} {rm : Room} {as' : Array Value} {h0 : Heap} (hp : plainFor y = true)
    (body : ∀ (p : Program) (e : Env) (s : State) (m : MethodId) (below : List Frame) (meth : Method) (c : Code) (s₁ : State), p.tables.exec = Jvm.exec → (∀ {pc : Nat} {r : Except ClassFile.DecodeError (ClassFile.Instr × Nat)}, ClassFile.decode bytes pc = r → ClassFile.decode c.code pc = r) → c.maxLocals = maxL → meth.sig.returnType = ret → s.vm.findClass y.cls = some m.cls → meth.name = y.name → Z.Warmed39 s.vm → meth.locks = false → Stand p l e rm s m as' below meth c s₁ [] 0 0 → s₁.heap = h0 → Goes p e below (FinN s rm.cells rm.slots Q) s₁ (entryFrame m as' maxL)) :
    Ctr l Z y bytes maxL ret ws rm as' h0 Q := by
  refine MetFree.of_bodySF hp hisR ?_
  intro p e s m args below meth c s₁ Bd hml hP hK
  obtain ⟨rfl, hZ, hh⟩ := hP
  exact body p e s m below meth c s₁ Bd.exec (fun h2 => hb Bd.bytes h2) hml Bd.returns (findClass_of_methodNamed Bd.named) (name_of_methodNamed Bd.named Bd.method).1 hZ Bd.notSynchronized (Stand.of_body Bd) (by rw [← hh, Bd.state]; rfl)
theorem Ctr.mono {y : MethodName} {bytes : ByteArray} {maxL : Nat} {ret : Option FieldType} {ws : List Jvm.Cond} {rm : Room} {as' : Array Value} {h0 : Heap} {Q' : Option Value → Heap → List Loc → Prop} (C : Ctr l Z y bytes maxL ret ws rm as' h0 Q) (hq : ∀ v h L, Q v h L → Q' v h L) : Ctr l Z y bytes maxL ret ws rm as' h0 Q' := by
  intro p e ha hc hk s m args below hf happ hP hK
  obtain ⟨n, o, h1, h2, h3, v, L, h4, h5, h6⟩ := C p e ha hc hk s m args below hf happ hP hK
  exact ⟨n, o, h1, h2, h3, v, L, h4, hq _ _ _ h5, h6⟩
/-- it returns w and leaves the heap as it was -/
def Just (h0 : Heap) (w : Value) (v : Option Value) (h : Heap) (L : List Loc) : Prop := v = some w ∧ h = h0 ∧ L = []
theorem gLoadIN (pc' : Nat) (X : Stand p l e R s m args below meth c T locs cells slots) (hx : p.tables.exec = Jvm.exec) {k : Fin 4} {v : Int32} (hd : decode c.code pc = .ok (.iload_n k, 1)) (hl : ls[k.val]? = some (.val (.int v))) (hp : pc + 1 = pc') (k : Goes p e below F T (mkF m pc' ls (.int v :: st))) : Goes p e below F T (mkF m pc ls st) := by
  subst hp; exact Goes.fore (fun _ q => XS.iloadN X.here hx rfl hd hl q) k
theorem gLoadI (pc' : Nat) (X : Stand p l e R s m args below meth c T locs cells slots) (hx : p.tables.exec = Jvm.exec) {k : Nat} {v : Int32} (hd : decode c.code pc = .ok (.iload k, 2)) (hl : ls[k]? = some (.val (.int v))) (hp : pc + 2 = pc') (k : Goes p e below F T (mkF m pc' ls (.int v :: st))) : Goes p e below F T (mkF m pc ls st) := by
  subst hp; exact Goes.fore (fun _ q => XS.iload X.here hx rfl hd hl q) k
theorem gStoreIN (pc' : Nat) (X : Stand p l e R s m args below meth c T locs cells slots) (hx : p.tables.exec = Jvm.exec) {k : Fin 4} {v : Int32} {l' : Array Slot} (hd : decode c.code pc = .ok (.istore_n k, 1)) (hl : storeLocals ls k.val (.int v) = some l') (hp : pc + 1 = pc') (k : Goes p e below F T (mkF m pc' l' st)) : Goes p e below F T (mkF m pc ls (.int v :: st)) := by
  subst hp; exact Goes.fore (fun _ q => XS.istoreN X.here hx rfl hd rfl hl q) k
theorem gStoreI (pc' : Nat) (X : Stand p l e R s m args below meth c T locs cells slots) (hx : p.tables.exec = Jvm.exec) {k : Nat} {v : Int32} {l' : Array Slot} (hd : decode c.code pc = .ok (.istore k, 2)) (hl : storeLocals ls k (.int v) = some l') (hp : pc + 2 = pc') (k : Goes p e below F T (mkF m pc' l' st)) : Goes p e below F T (mkF m pc ls (.int v :: st)) := by
  subst hp; exact Goes.fore (fun _ q => XS.istore X.here hx rfl hd rfl hl q) k
theorem gLoadJN (pc' : Nat) (X : Stand p l e R s m args below meth c T locs cells slots) (hx : p.tables.exec = Jvm.exec) {k : Fin 4} {v : Int64} (hd : decode c.code pc = .ok (.lload_n k, 1)) (hl : ls[k.val]? = some (.val (.long v))) (hp : pc + 1 = pc') (k : Goes p e below F T (mkF m pc' ls (.long v :: st))) : Goes p e below F T (mkF m pc ls st) := by
  subst hp; exact Goes.fore (fun _ q => XS.lloadN X.here hx rfl hd hl q) k
theorem gLoadJ (pc' : Nat) (X : Stand p l e R s m args below meth c T locs cells slots) (hx : p.tables.exec = Jvm.exec) {k : Nat} {v : Int64} (hd : decode c.code pc = .ok (.lload k, 2)) (hl : ls[k]? = some (.val (.long v))) (hp : pc + 2 = pc') (k : Goes p e below F T (mkF m pc' ls (.long v :: st))) : Goes p e below F T (mkF m pc ls st) := by
  subst hp; exact Goes.fore (fun _ q => XS.lload X.here hx rfl hd hl q) k
theorem gStoreJN (pc' : Nat) (X : Stand p l e R s m args below meth c T locs cells slots) (hx : p.tables.exec = Jvm.exec) {k : Fin 4} {v : Int64} {l' : Array Slot} (hd : decode c.code pc = .ok (.lstore_n k, 1)) (hl : storeLocals ls k.val (.long v) = some l') (hp : pc + 1 = pc') (k : Goes p e below F T (mkF m pc' l' st)) : Goes p e below F T (mkF m pc ls (.long v :: st)) := by
  subst hp; exact Goes.fore (fun _ q => XS.lstoreN X.here hx rfl hd rfl hl q) k
theorem gStoreJ (pc' : Nat) (X : Stand p l e R s m args below meth c T locs cells slots) (hx : p.tables.exec = Jvm.exec) {k : Nat} {v : Int64} {l' : Array Slot} (hd : decode c.code pc = .ok (.lstore k, 2)) (hl : storeLocals ls k (.long v) = some l') (hp : pc + 2 = pc') (k : Goes p e below F T (mkF m pc' l' st)) : Goes p e below F T (mkF m pc ls (.long v :: st)) := by
  subst hp; exact Goes.fore (fun _ q => XS.lstore X.here hx rfl hd rfl hl q) k
theorem gLoadAN (pc' : Nat) (X : Stand p l e R s m args below meth c T locs cells slots) (hx : p.tables.exec = Jvm.exec) {k : Fin 4} {v : Value} (hd : decode c.code pc = .ok (.aload_n k, 1)) (hl : ls[k.val]? = some (.val v)) (hv : v.isRef = true) (hp : pc + 1 = pc') (k : Goes p e below F T (mkF m pc' ls (v :: st))) : Goes p e below F T (mkF m pc ls st) := by
  subst hp; exact Goes.fore (fun _ q => XS.aloadN X.here hx rfl hd hl hv q) k
theorem gLoadA (pc' : Nat) (X : Stand p l e R s m args below meth c T locs cells slots) (hx : p.tables.exec = Jvm.exec) {k : Nat} {v : Value} (hd : decode c.code pc = .ok (.aload k, 2)) (hl : ls[k]? = some (.val v)) (hv : v.isRef = true) (hp : pc + 2 = pc') (k : Goes p e below F T (mkF m pc' ls (v :: st))) : Goes p e below F T (mkF m pc ls st) := by
  subst hp; exact Goes.fore (fun _ q => XS.aload X.here hx rfl hd hl hv q) k
theorem gStoreAN (pc' : Nat) (X : Stand p l e R s m args below meth c T locs cells slots) (hx : p.tables.exec = Jvm.exec) {k : Fin 4} {v : Value} {l' : Array Slot} (hd : decode c.code pc = .ok (.astore_n k, 1)) (hv : v.isRef = true) (hl : storeLocals ls k.val v = some l') (hp : pc + 1 = pc') (k : Goes p e below F T (mkF m pc' l' st)) : Goes p e below F T (mkF m pc ls (v :: st)) := by
  subst hp; exact Goes.fore (fun _ q => XS.astoreN X.here hx rfl hd rfl hv hl q) k
theorem gStoreA (pc' : Nat) (X : Stand p l e R s m args below meth c T locs cells slots) (hx : p.tables.exec = Jvm.exec) {k : Nat} {v : Value} {l' : Array Slot} (hd : decode c.code pc = .ok (.astore k, 2)) (hv : v.isRef = true) (hl : storeLocals ls k v = some l') (hp : pc + 2 = pc') (k : Goes p e below F T (mkF m pc' l' st)) : Goes p e below F T (mkF m pc ls (v :: st)) := by
  subst hp; exact Goes.fore (fun _ q => XS.astore X.here hx rfl hd rfl hv hl q) k
theorem gIconst (pc' : Nat) (X : Stand p l e R s m args below meth c T locs cells slots) (hx : p.tables.exec = Jvm.exec) {i : Int} {v : Int32} (hd : decode c.code pc = .ok (.iconst i, 1)) (hv : Int32.ofInt i = v) (hp : pc + 1 = pc') (k : Goes p e below F T (mkF m pc' ls (.int v :: st))) : Goes p e below F T (mkF m pc ls st) := by
  subst hp; exact Goes.fore (fun _ q => XT.iconstV X.here hx rfl v hd hv q) k
theorem gBipush (pc' : Nat) (X : Stand p l e R s m args below meth c T locs cells slots) (hx : p.tables.exec = Jvm.exec) {i : Int} {v : Int32} (hd : decode c.code pc = .ok (.bipush i, 2)) (hv : (Int8.ofInt i).toInt32 = v) (hp : pc + 2 = pc') (k : Goes p e below F T (mkF m pc' ls (.int v :: st))) : Goes p e below F T (mkF m pc ls st) := by
  subst hp; exact Goes.fore (fun _ q => XT.bipushV X.here hx rfl v hd hv q) k
theorem gSipush (pc' : Nat) (X : Stand p l e R s m args below meth c T locs cells slots) (hx : p.tables.exec = Jvm.exec) {i : Int} {v : Int32} (hd : decode c.code pc = .ok (.sipush i, 3)) (hv : (Int16.ofInt i).toInt32 = v) (hp : pc + 3 = pc') (k : Goes p e below F T (mkF m pc' ls (.int v :: st))) : Goes p e below F T (mkF m pc ls st) := by
  subst hp; exact Goes.fore (fun _ q => XT.sipushV X.here hx rfl v hd hv q) k
theorem gLconst (pc' : Nat) (X : Stand p l e R s m args below meth c T locs cells slots) (hx : p.tables.exec = Jvm.exec) {i : Fin 2} {v : Int64} (hd : decode c.code pc = .ok (.lconst i, 1)) (hv : Int64.ofNat i = v) (hp : pc + 1 = pc') (k : Goes p e below F T (mkF m pc' ls (.long v :: st))) : Goes p e below F T (mkF m pc ls st) := by
  subst hp; exact Goes.fore (fun _ q => XT.lconstV X.here hx rfl v hd hv q) k
theorem gNull (pc' : Nat) (X : Stand p l e R s m args below meth c T locs cells slots) (hx : p.tables.exec = Jvm.exec)  (hd : decode c.code pc = .ok (.aconst_null, 1))  (hp : pc + 1 = pc') (k : Goes p e below F T (mkF m pc' ls (.null :: st))) : Goes p e below F T (mkF m pc ls st) := by
  subst hp; exact Goes.fore (fun _ q => XS.aconstNull X.here hx rfl hd q) k
theorem gLdc (pc' : Nat) (X : Stand p l e R s m args below meth c T locs cells slots) (hx : p.tables.exec = Jvm.exec) {own : String} {i : Nat} {v : Int32} (hZ : Z.Warmed39 s.vm) (hown : s.vm.findClass own = some m.cls) (w : (Jvm.Cond.constant own i v).before a0 Z = true) (hd : decode c.code pc = .ok (.ldc i, 2))  (hp : pc + 2 = pc') (k : Goes p e below F T (mkF m pc' ls (.int v :: st))) : Goes p e below F T (mkF m pc ls st) := by
  subst hp; exact Goes.fore (fun _ q => X.ldcI hx hown (mvT hZ w) rfl hd q) k
theorem gLdcW (pc' : Nat) (X : Stand p l e R s m args below meth c T locs cells slots) (hx : p.tables.exec = Jvm.exec) {own : String} {i : Nat} {v : Int32} (hZ : Z.Warmed39 s.vm) (hown : s.vm.findClass own = some m.cls) (w : (Jvm.Cond.constant own i v).before a0 Z = true) (hd : decode c.code pc = .ok (.ldc_w i, 3))  (hp : pc + 3 = pc') (k : Goes p e below F T (mkF m pc' ls (.int v :: st))) : Goes p e below F T (mkF m pc ls st) := by
  subst hp; exact Goes.fore (fun _ q => X.ldcWI hx hown (mvT hZ w) rfl hd q) k
theorem gLdc2 (pc' : Nat) (X : Stand p l e R s m args below meth c T locs cells slots) (hx : p.tables.exec = Jvm.exec) {own : String} {i : Nat} {v : Int64} (hZ : Z.Warmed39 s.vm) (hown : s.vm.findClass own = some m.cls) (w : (Jvm.Cond.constantLong own i v).before a0 Z = true) (hd : decode c.code pc = .ok (.ldc2_w i, 3))  (hp : pc + 3 = pc') (k : Goes p e below F T (mkF m pc' ls (.long v :: st))) : Goes p e below F T (mkF m pc ls st) := by
  subst hp; exact Goes.fore (fun _ q => X.ldc2J hx hown (mvT hZ w) rfl hd q) k
theorem gIadd (pc' : Nat) (X : Stand p l e R s m args below meth c T locs cells slots) (hx : p.tables.exec = Jvm.exec) {x y : Int32} (hd : decode c.code pc = .ok (.iadd, 1))  (hp : pc + 1 = pc') (k : Goes p e below F T (mkF m pc' ls (.int (x + y) :: st))) : Goes p e below F T (mkF m pc ls (.int y :: .int x :: st)) := by
  subst hp; exact Goes.fore (fun _ q => XS.iadd X.here hx rfl hd rfl q) k
theorem gIsub (pc' : Nat) (X : Stand p l e R s m args below meth c T locs cells slots) (hx : p.tables.exec = Jvm.exec) {x y : Int32} (hd : decode c.code pc = .ok (.isub, 1))  (hp : pc + 1 = pc') (k : Goes p e below F T (mkF m pc' ls (.int (x - y) :: st))) : Goes p e below F T (mkF m pc ls (.int y :: .int x :: st)) := by
  subst hp; exact Goes.fore (fun _ q => XS.isub X.here hx rfl hd rfl q) k
theorem gImul (pc' : Nat) (X : Stand p l e R s m args below meth c T locs cells slots) (hx : p.tables.exec = Jvm.exec) {x y : Int32} (hd : decode c.code pc = .ok (.imul, 1))  (hp : pc + 1 = pc') (k : Goes p e below F T (mkF m pc' ls (.int (x * y) :: st))) : Goes p e below F T (mkF m pc ls (.int y :: .int x :: st)) := by
  subst hp; exact Goes.fore (fun _ q => XS.imul X.here hx rfl hd rfl q) k
theorem gIand (pc' : Nat) (X : Stand p l e R s m args below meth c T locs cells slots) (hx : p.tables.exec = Jvm.exec) {x y : Int32} (hd : decode c.code pc = .ok (.iand, 1))  (hp : pc + 1 = pc') (k : Goes p e below F T (mkF m pc' ls (.int (x &&& y) :: st))) : Goes p e below F T (mkF m pc ls (.int y :: .int x :: st)) := by
  subst hp; exact Goes.fore (fun _ q => XS.iand X.here hx rfl hd rfl q) k
theorem gIor (pc' : Nat) (X : Stand p l e R s m args below meth c T locs cells slots) (hx : p.tables.exec = Jvm.exec) {x y : Int32} (hd : decode c.code pc = .ok (.ior, 1))  (hp : pc + 1 = pc') (k : Goes p e below F T (mkF m pc' ls (.int (x ||| y) :: st))) : Goes p e below F T (mkF m pc ls (.int y :: .int x :: st)) := by
  subst hp; exact Goes.fore (fun _ q => XS.ior X.here hx rfl hd rfl q) k
theorem gIxor (pc' : Nat) (X : Stand p l e R s m args below meth c T locs cells slots) (hx : p.tables.exec = Jvm.exec) {x y : Int32} (hd : decode c.code pc = .ok (.ixor, 1))  (hp : pc + 1 = pc') (k : Goes p e below F T (mkF m pc' ls (.int (x ^^^ y) :: st))) : Goes p e below F T (mkF m pc ls (.int y :: .int x :: st)) := by
  subst hp; exact Goes.fore (fun _ q => XS.ixor X.here hx rfl hd rfl q) k
theorem gIshl (pc' : Nat) (X : Stand p l e R s m args below meth c T locs cells slots) (hx : p.tables.exec = Jvm.exec) {x y : Int32} (hd : decode c.code pc = .ok (.ishl, 1))  (hp : pc + 1 = pc') (k : Goes p e below F T (mkF m pc' ls (.int (x <<< (y &&& 31)) :: st))) : Goes p e below F T (mkF m pc ls (.int y :: .int x :: st)) := by
  subst hp; exact Goes.fore (fun _ q => XS.ishl X.here hx rfl hd rfl q) k
theorem gIshr (pc' : Nat) (X : Stand p l e R s m args below meth c T locs cells slots) (hx : p.tables.exec = Jvm.exec) {x y : Int32} (hd : decode c.code pc = .ok (.ishr, 1))  (hp : pc + 1 = pc') (k : Goes p e below F T (mkF m pc' ls (.int (x >>> (y &&& 31)) :: st))) : Goes p e below F T (mkF m pc ls (.int y :: .int x :: st)) := by
  subst hp; exact Goes.fore (fun _ q => XS.ishr X.here hx rfl hd rfl q) k
theorem gIushr (pc' : Nat) (X : Stand p l e R s m args below meth c T locs cells slots) (hx : p.tables.exec = Jvm.exec) {x y : Int32} (hd : decode c.code pc = .ok (.iushr, 1))  (hp : pc + 1 = pc') (k : Goes p e below F T (mkF m pc' ls (.int ((x.toUInt32 >>> (y &&& 31).toUInt32).toInt32) :: st))) : Goes p e below F T (mkF m pc ls (.int y :: .int x :: st)) := by
  subst hp; exact Goes.fore (fun _ q => XS.iushr X.here hx rfl hd rfl q) k
theorem gLadd (pc' : Nat) (X : Stand p l e R s m args below meth c T locs cells slots) (hx : p.tables.exec = Jvm.exec) {x y : Int64} (hd : decode c.code pc = .ok (.ladd, 1))  (hp : pc + 1 = pc') (k : Goes p e below F T (mkF m pc' ls (.long (x + y) :: st))) : Goes p e below F T (mkF m pc ls (.long y :: .long x :: st)) := by
  subst hp; exact Goes.fore (fun _ q => XS.ladd X.here hx rfl hd rfl q) k
theorem gLsub (pc' : Nat) (X : Stand p l e R s m args below meth c T locs cells slots) (hx : p.tables.exec = Jvm.exec) {x y : Int64} (hd : decode c.code pc = .ok (.lsub, 1))  (hp : pc + 1 = pc') (k : Goes p e below F T (mkF m pc' ls (.long (x - y) :: st))) : Goes p e below F T (mkF m pc ls (.long y :: .long x :: st)) := by
  subst hp; exact Goes.fore (fun _ q => XS.lsub X.here hx rfl hd rfl q) k
theorem gLmul (pc' : Nat) (X : Stand p l e R s m args below meth c T locs cells slots) (hx : p.tables.exec = Jvm.exec) {x y : Int64} (hd : decode c.code pc = .ok (.lmul, 1))  (hp : pc + 1 = pc') (k : Goes p e below F T (mkF m pc' ls (.long (x * y) :: st))) : Goes p e below F T (mkF m pc ls (.long y :: .long x :: st)) := by
  subst hp; exact Goes.fore (fun _ q => XS.lmul X.here hx rfl hd rfl q) k
theorem gLand (pc' : Nat) (X : Stand p l e R s m args below meth c T locs cells slots) (hx : p.tables.exec = Jvm.exec) {x y : Int64} (hd : decode c.code pc = .ok (.land, 1))  (hp : pc + 1 = pc') (k : Goes p e below F T (mkF m pc' ls (.long (x &&& y) :: st))) : Goes p e below F T (mkF m pc ls (.long y :: .long x :: st)) := by
  subst hp; exact Goes.fore (fun _ q => XS.land X.here hx rfl hd rfl q) k
theorem gLor (pc' : Nat) (X : Stand p l e R s m args below meth c T locs cells slots) (hx : p.tables.exec = Jvm.exec) {x y : Int64} (hd : decode c.code pc = .ok (.lor, 1))  (hp : pc + 1 = pc') (k : Goes p e below F T (mkF m pc' ls (.long (x ||| y) :: st))) : Goes p e below F T (mkF m pc ls (.long y :: .long x :: st)) := by
  subst hp; exact Goes.fore (fun _ q => XS.lor X.here hx rfl hd rfl q) k
theorem gLxor (pc' : Nat) (X : Stand p l e R s m args below meth c T locs cells slots) (hx : p.tables.exec = Jvm.exec) {x y : Int64} (hd : decode c.code pc = .ok (.lxor, 1))  (hp : pc + 1 = pc') (k : Goes p e below F T (mkF m pc' ls (.long (x ^^^ y) :: st))) : Goes p e below F T (mkF m pc ls (.long y :: .long x :: st)) := by
  subst hp; exact Goes.fore (fun _ q => XS.lxor X.here hx rfl hd rfl q) k
theorem gLshl (pc' : Nat) (X : Stand p l e R s m args below meth c T locs cells slots) (hx : p.tables.exec = Jvm.exec) {x : Int64} {y : Int32} (hd : decode c.code pc = .ok (.lshl, 1))  (hp : pc + 1 = pc') (k : Goes p e below F T (mkF m pc' ls (.long (x <<< (y &&& 0x3f).toInt64) :: st))) : Goes p e below F T (mkF m pc ls (.int y :: .long x :: st)) := by
  subst hp; exact Goes.fore (fun _ q => XS.lshl X.here hx rfl hd rfl q) k
theorem gLshr (pc' : Nat) (X : Stand p l e R s m args below meth c T locs cells slots) (hx : p.tables.exec = Jvm.exec) {x : Int64} {y : Int32} (hd : decode c.code pc = .ok (.lshr, 1))  (hp : pc + 1 = pc') (k : Goes p e below F T (mkF m pc' ls (.long (x >>> (y &&& 0x3f).toInt64) :: st))) : Goes p e below F T (mkF m pc ls (.int y :: .long x :: st)) := by
  subst hp; exact Goes.fore (fun _ q => XS.lshr X.here hx rfl hd rfl q) k
theorem gLushr (pc' : Nat) (X : Stand p l e R s m args below meth c T locs cells slots) (hx : p.tables.exec = Jvm.exec) {x : Int64} {y : Int32} (hd : decode c.code pc = .ok (.lushr, 1))  (hp : pc + 1 = pc') (k : Goes p e below F T (mkF m pc' ls (.long ((x.toUInt64 >>> (y &&& 0x3f).toInt64.toUInt64).toInt64) :: st))) : Goes p e below F T (mkF m pc ls (.int y :: .long x :: st)) := by
  subst hp; exact Goes.fore (fun _ q => XS.lushr X.here hx rfl hd rfl q) k
theorem gIdiv (pc' : Nat) (X : Stand p l e R s m args below meth c T locs cells slots) (hx : p.tables.exec = Jvm.exec) {x y : Int32} (hd : decode c.code pc = .ok (.idiv, 1)) (hy : y ≠ 0) (hp : pc + 1 = pc') (k : Goes p e below F T (mkF m pc' ls (.int (x / y) :: st))) : Goes p e below F T (mkF m pc ls (.int y :: .int x :: st)) := by
  subst hp; exact Goes.fore (fun _ q => XS.idiv X.here hx rfl hd rfl hy q) k
theorem gIrem (pc' : Nat) (X : Stand p l e R s m args below meth c T locs cells slots) (hx : p.tables.exec = Jvm.exec) {x y : Int32} (hd : decode c.code pc = .ok (.irem, 1)) (hy : y ≠ 0) (hp : pc + 1 = pc') (k : Goes p e below F T (mkF m pc' ls (.int (x % y) :: st))) : Goes p e below F T (mkF m pc ls (.int y :: .int x :: st)) := by
  subst hp; exact Goes.fore (fun _ q => iremM X hx rfl hd rfl hy q) k
theorem gIneg (pc' : Nat) (X : Stand p l e R s m args below meth c T locs cells slots) (hx : p.tables.exec = Jvm.exec) {x : Int32} (hd : decode c.code pc = .ok (.ineg, 1))  (hp : pc + 1 = pc') (k : Goes p e below F T (mkF m pc' ls (.int (-x) :: st))) : Goes p e below F T (mkF m pc ls (.int x :: st)) := by
  subst hp; exact Goes.fore (fun _ q => XS.ineg X.here hx rfl hd rfl q) k
theorem gLneg (pc' : Nat) (X : Stand p l e R s m args below meth c T locs cells slots) (hx : p.tables.exec = Jvm.exec) {x : Int64} (hd : decode c.code pc = .ok (.lneg, 1))  (hp : pc + 1 = pc') (k : Goes p e below F T (mkF m pc' ls (.long (-x) :: st))) : Goes p e below F T (mkF m pc ls (.long x :: st)) := by
  subst hp; exact Goes.fore (fun _ q => XS.lneg X.here hx rfl hd rfl q) k
theorem gI2l (pc' : Nat) (X : Stand p l e R s m args below meth c T locs cells slots) (hx : p.tables.exec = Jvm.exec) {x : Int32} (hd : decode c.code pc = .ok (.i2l, 1))  (hp : pc + 1 = pc') (k : Goes p e below F T (mkF m pc' ls (.long (x.toInt64) :: st))) : Goes p e below F T (mkF m pc ls (.int x :: st)) := by
  subst hp; exact Goes.fore (fun _ q => XS.i2l X.here hx rfl hd rfl q) k
theorem gL2i (pc' : Nat) (X : Stand p l e R s m args below meth c T locs cells slots) (hx : p.tables.exec = Jvm.exec) {x : Int64} (hd : decode c.code pc = .ok (.l2i, 1))  (hp : pc + 1 = pc') (k : Goes p e below F T (mkF m pc' ls (.int (x.toInt32) :: st))) : Goes p e below F T (mkF m pc ls (.long x :: st)) := by
  subst hp; exact Goes.fore (fun _ q => XS.l2i X.here hx rfl hd rfl q) k
theorem gI2b (pc' : Nat) (X : Stand p l e R s m args below meth c T locs cells slots) (hx : p.tables.exec = Jvm.exec) {x : Int32} (hd : decode c.code pc = .ok (.i2b, 1))  (hp : pc + 1 = pc') (k : Goes p e below F T (mkF m pc' ls (.int (x.toInt8.toInt32) :: st))) : Goes p e below F T (mkF m pc ls (.int x :: st)) := by
  subst hp; exact Goes.fore (fun _ q => XS.i2b X.here hx rfl hd rfl q) k
theorem gI2c (pc' : Nat) (X : Stand p l e R s m args below meth c T locs cells slots) (hx : p.tables.exec = Jvm.exec) {x : Int32} (hd : decode c.code pc = .ok (.i2c, 1))  (hp : pc + 1 = pc') (k : Goes p e below F T (mkF m pc' ls (.int (x.toUInt32.toUInt16.toUInt32.toInt32) :: st))) : Goes p e below F T (mkF m pc ls (.int x :: st)) := by
  subst hp; exact Goes.fore (fun _ q => XS.i2c X.here hx rfl hd rfl q) k
theorem gI2s (pc' : Nat) (X : Stand p l e R s m args below meth c T locs cells slots) (hx : p.tables.exec = Jvm.exec) {x : Int32} (hd : decode c.code pc = .ok (.i2s, 1))  (hp : pc + 1 = pc') (k : Goes p e below F T (mkF m pc' ls (.int (x.toInt16.toInt32) :: st))) : Goes p e below F T (mkF m pc ls (.int x :: st)) := by
  subst hp; exact Goes.fore (fun _ q => XS.i2s X.here hx rfl hd rfl q) k
theorem gLcmp (pc' : Nat) (X : Stand p l e R s m args below meth c T locs cells slots) (hx : p.tables.exec = Jvm.exec) {x y : Int64} (hd : decode c.code pc = .ok (.lcmp, 1))  (hp : pc + 1 = pc') (k : Goes p e below F T (mkF m pc' ls (.int (lcmpW x y) :: st))) : Goes p e below F T (mkF m pc ls (.long y :: .long x :: st)) := by
  subst hp; exact Goes.fore (fun _ q => XS.lcmp X.here hx rfl hd rfl q) k
theorem gIinc (X : Stand p l e R s m args below meth c T locs cells slots) (hx : p.tables.exec = Jvm.exec) {k : Nat} {i : Int} {x v : Int32} {l' : Array Slot} (hd : decode c.code pc = .ok (.iinc k i, 3)) (hv : Int32.ofInt i = v) (hl : ls[k]? = some (.val (.int x))) (hl' : storeLocals ls k (.int (x + v)) = some l') (hp : pc + 3 = pc') (k : Goes p e below F T (mkF m pc' l' st)) : Goes p e below F T (mkF m pc ls st) := by
  subst hp; exact Goes.fore (fun _ q => XT.iincV X.here hx rfl v hd hv hl hl' q) k
theorem gDup (pc' : Nat) (X : Stand p l e R s m args below meth c T locs cells slots) (hx : p.tables.exec = Jvm.exec) {v : Value} (hd : decode c.code pc = .ok (.dup, 1)) (hv : v.category = 1) (hp : pc + 1 = pc') (k : Goes p e below F T (mkF m pc' ls (v :: v :: st))) : Goes p e below F T (mkF m pc ls (v :: st)) := by
  subst hp; exact Goes.fore (fun _ q => XS.dup X.here hx rfl hd rfl hv q) k
theorem gPop (pc' : Nat) (X : Stand p l e R s m args below meth c T locs cells slots) (hx : p.tables.exec = Jvm.exec) {v : Value} (hd : decode c.code pc = .ok (.pop, 1)) (hv : v.category = 1) (hp : pc + 1 = pc') (k : Goes p e below F T (mkF m pc' ls st)) : Goes p e below F T (mkF m pc ls (v :: st)) := by
  subst hp; exact Goes.fore (fun _ q => XS.pop X.here hx rfl hd rfl hv q) k
theorem gDupX1 (pc' : Nat) (X : Stand p l e R s m args below meth c T locs cells slots) (hx : p.tables.exec = Jvm.exec) {v w : Value} (hd : decode c.code pc = .ok (.dup_x1, 1)) (hv : v.category = 1) (hw : w.category = 1) (hp : pc + 1 = pc') (k : Goes p e below F T (mkF m pc' ls (v :: w :: v :: st))) : Goes p e below F T (mkF m pc ls (v :: w :: st)) := by
  subst hp; exact Goes.fore (fun _ q => XS.dupX1 X.here hx rfl hd rfl hv hw q) k
theorem gDup2 (pc' : Nat) (X : Stand p l e R s m args below meth c T locs cells slots) (hx : p.tables.exec = Jvm.exec) {v w : Value} (hd : decode c.code pc = .ok (.dup2, 1)) (hv : v.category = 1) (hw : w.category = 1) (hp : pc + 1 = pc') (k : Goes p e below F T (mkF m pc' ls (v :: w :: v :: w :: st))) : Goes p e below F T (mkF m pc ls (v :: w :: st)) := by
  subst hp; exact Goes.fore (fun _ q => XT.dup2 X.here hx rfl hd rfl hv hw q) k
theorem gGoto (X : Stand p l e R s m args below meth c T locs cells slots) (hx : p.tables.exec = Jvm.exec) {o : Int} (hd : decode c.code pc = .ok (.goto o, 3)) (ho : 0 ≤ (pc : Int) + o) (hp : ((pc : Int) + o).toNat = pc') (k : Goes p e below F T (mkF m pc' ls st)) : Goes p e below F T (mkF m pc ls st) := Goes.fore (fun _ q => XS.goto X.here hx rfl rfl hd ho hp q) k
theorem gIcmp (X : Stand p l e R s m args below meth c T locs cells slots) (hx : p.tables.exec = Jvm.exec) {cd : ClassFile.Cond} {o : Int} {x y : Int32} {pn : Nat} (hd : decode c.code pc = .ok (.if_icmp cd o, 3)) (ho : 0 ≤ (pc : Int) + o) (hp : ((pc : Int) + o).toNat = pc') (hn : pc + 3 = pn) (kY : if_icmp.holds cd x y = true → Goes p e below F T (mkF m pc' ls st)) (kN : if_icmp.holds cd x y = false → Goes p e below F T (mkF m pn ls st)) : Goes p e below F T (mkF m pc ls (.int y :: .int x :: st)) := by
  subst hn
  cases hb : if_icmp.holds cd x y
  · exact Goes.fore (fun _ q => XS.icmpNo X.here hx rfl hd rfl hb q) (kN hb)
  · exact Goes.fore (fun _ q => XS.icmpYes X.here hx rfl rfl hd rfl hb ho hp q) (kY hb)
theorem gIf (X : Stand p l e R s m args below meth c T locs cells slots) (hx : p.tables.exec = Jvm.exec) {cd : ClassFile.Cond} {o : Int} {x : Int32} {pn : Nat} (hd : decode c.code pc = .ok (.ifCond cd o, 3)) (ho : 0 ≤ (pc : Int) + o) (hp : ((pc : Int) + o).toNat = pc') (hn : pc + 3 = pn) (kY : ifCond.holds cd x = true → Goes p e below F T (mkF m pc' ls st)) (kN : ifCond.holds cd x = false → Goes p e below F T (mkF m pn ls st)) : Goes p e below F T (mkF m pc ls (.int x :: st)) := by
  subst hn
  cases hb : ifCond.holds cd x
  · exact Goes.fore (fun _ q => XS.ifNo X.here hx rfl hd rfl hb q) (kN hb)
  · exact Goes.fore (fun _ q => XS.ifYes X.here hx rfl rfl hd rfl hb ho hp q) (kY hb)
theorem gIcmpEq (X : Stand p l e R s m args below meth c T locs cells slots) (hx : p.tables.exec = Jvm.exec) {o : Int} {x y : Int32} {pn : Nat} (hd : decode c.code pc = .ok (.if_icmp .eq o, 3)) (ho : 0 ≤ (pc : Int) + o) (hp : ((pc : Int) + o).toNat = pc') (hn : pc + 3 = pn) (kY : x = y → Goes p e below F T (mkF m pc' ls st)) (kN : ¬ x = y → Goes p e below F T (mkF m pn ls st)) : Goes p e below F T (mkF m pc ls (.int y :: .int x :: st)) :=
  gIcmp X hx hd ho hp hn (fun q => kY (by simpa [if_icmp.holds, Int32.lt_iff_toInt_lt, Int32.le_iff_toInt_le] using q)) (fun q => kN (by simpa [if_icmp.holds, Int32.lt_iff_toInt_lt, Int32.le_iff_toInt_le] using q))
theorem gIfEq (X : Stand p l e R s m args below meth c T locs cells slots) (hx : p.tables.exec = Jvm.exec) {o : Int} {x : Int32} {pn : Nat} (hd : decode c.code pc = .ok (.ifCond .eq o, 3)) (ho : 0 ≤ (pc : Int) + o) (hp : ((pc : Int) + o).toNat = pc') (hn : pc + 3 = pn) (kY : x = 0 → Goes p e below F T (mkF m pc' ls st)) (kN : ¬ x = 0 → Goes p e below F T (mkF m pn ls st)) : Goes p e below F T (mkF m pc ls (.int x :: st)) :=
  gIf X hx hd ho hp hn (fun q => kY (by simpa [ifCond.holds, Int32.lt_iff_toInt_lt, Int32.le_iff_toInt_le] using q)) (fun q => kN (by simpa [ifCond.holds, Int32.lt_iff_toInt_lt, Int32.le_iff_toInt_le] using q))
theorem gIcmpNe (X : Stand p l e R s m args below meth c T locs cells slots) (hx : p.tables.exec = Jvm.exec) {o : Int} {x y : Int32} {pn : Nat} (hd : decode c.code pc = .ok (.if_icmp .ne o, 3)) (ho : 0 ≤ (pc : Int) + o) (hp : ((pc : Int) + o).toNat = pc') (hn : pc + 3 = pn) (kY : ¬ x = y → Goes p e below F T (mkF m pc' ls st)) (kN : x = y → Goes p e below F T (mkF m pn ls st)) : Goes p e below F T (mkF m pc ls (.int y :: .int x :: st)) :=
  gIcmp X hx hd ho hp hn (fun q => kY (by simpa [if_icmp.holds, Int32.lt_iff_toInt_lt, Int32.le_iff_toInt_le] using q)) (fun q => kN (by simpa [if_icmp.holds, Int32.lt_iff_toInt_lt, Int32.le_iff_toInt_le] using q))
theorem gIfNe (X : Stand p l e R s m args below meth c T locs cells slots) (hx : p.tables.exec = Jvm.exec) {o : Int} {x : Int32} {pn : Nat} (hd : decode c.code pc = .ok (.ifCond .ne o, 3)) (ho : 0 ≤ (pc : Int) + o) (hp : ((pc : Int) + o).toNat = pc') (hn : pc + 3 = pn) (kY : ¬ x = 0 → Goes p e below F T (mkF m pc' ls st)) (kN : x = 0 → Goes p e below F T (mkF m pn ls st)) : Goes p e below F T (mkF m pc ls (.int x :: st)) :=
  gIf X hx hd ho hp hn (fun q => kY (by simpa [ifCond.holds, Int32.lt_iff_toInt_lt, Int32.le_iff_toInt_le] using q)) (fun q => kN (by simpa [ifCond.holds, Int32.lt_iff_toInt_lt, Int32.le_iff_toInt_le] using q))
theorem gIcmpLt (X : Stand p l e R s m args below meth c T locs cells slots) (hx : p.tables.exec = Jvm.exec) {o : Int} {x y : Int32} {pn : Nat} (hd : decode c.code pc = .ok (.if_icmp .lt o, 3)) (ho : 0 ≤ (pc : Int) + o) (hp : ((pc : Int) + o).toNat = pc') (hn : pc + 3 = pn) (kY : x.toInt < y.toInt → Goes p e below F T (mkF m pc' ls st)) (kN : y.toInt ≤ x.toInt → Goes p e below F T (mkF m pn ls st)) : Goes p e below F T (mkF m pc ls (.int y :: .int x :: st)) :=
  gIcmp X hx hd ho hp hn (fun q => kY (by simpa [if_icmp.holds, Int32.lt_iff_toInt_lt, Int32.le_iff_toInt_le] using q)) (fun q => kN (by simpa [if_icmp.holds, Int32.lt_iff_toInt_lt, Int32.le_iff_toInt_le] using q))
theorem gIfLt (X : Stand p l e R s m args below meth c T locs cells slots) (hx : p.tables.exec = Jvm.exec) {o : Int} {x : Int32} {pn : Nat} (hd : decode c.code pc = .ok (.ifCond .lt o, 3)) (ho : 0 ≤ (pc : Int) + o) (hp : ((pc : Int) + o).toNat = pc') (hn : pc + 3 = pn) (kY : x.toInt < (0 : Int) → Goes p e below F T (mkF m pc' ls st)) (kN : (0 : Int) ≤ x.toInt → Goes p e below F T (mkF m pn ls st)) : Goes p e below F T (mkF m pc ls (.int x :: st)) :=
  gIf X hx hd ho hp hn (fun q => kY (by simpa [ifCond.holds, Int32.lt_iff_toInt_lt, Int32.le_iff_toInt_le] using q)) (fun q => kN (by simpa [ifCond.holds, Int32.lt_iff_toInt_lt, Int32.le_iff_toInt_le] using q))
theorem gIcmpGe (X : Stand p l e R s m args below meth c T locs cells slots) (hx : p.tables.exec = Jvm.exec) {o : Int} {x y : Int32} {pn : Nat} (hd : decode c.code pc = .ok (.if_icmp .ge o, 3)) (ho : 0 ≤ (pc : Int) + o) (hp : ((pc : Int) + o).toNat = pc') (hn : pc + 3 = pn) (kY : y.toInt ≤ x.toInt → Goes p e below F T (mkF m pc' ls st)) (kN : x.toInt < y.toInt → Goes p e below F T (mkF m pn ls st)) : Goes p e below F T (mkF m pc ls (.int y :: .int x :: st)) :=
  gIcmp X hx hd ho hp hn (fun q => kY (by simpa [if_icmp.holds, Int32.lt_iff_toInt_lt, Int32.le_iff_toInt_le] using q)) (fun q => kN (by simpa [if_icmp.holds, Int32.lt_iff_toInt_lt, Int32.le_iff_toInt_le] using q))
theorem gIfGe (X : Stand p l e R s m args below meth c T locs cells slots) (hx : p.tables.exec = Jvm.exec) {o : Int} {x : Int32} {pn : Nat} (hd : decode c.code pc = .ok (.ifCond .ge o, 3)) (ho : 0 ≤ (pc : Int) + o) (hp : ((pc : Int) + o).toNat = pc') (hn : pc + 3 = pn) (kY : (0 : Int) ≤ x.toInt → Goes p e below F T (mkF m pc' ls st)) (kN : x.toInt < (0 : Int) → Goes p e below F T (mkF m pn ls st)) : Goes p e below F T (mkF m pc ls (.int x :: st)) :=
  gIf X hx hd ho hp hn (fun q => kY (by simpa [ifCond.holds, Int32.lt_iff_toInt_lt, Int32.le_iff_toInt_le] using q)) (fun q => kN (by simpa [ifCond.holds, Int32.lt_iff_toInt_lt, Int32.le_iff_toInt_le] using q))
theorem gIcmpGt (X : Stand p l e R s m args below meth c T locs cells slots) (hx : p.tables.exec = Jvm.exec) {o : Int} {x y : Int32} {pn : Nat} (hd : decode c.code pc = .ok (.if_icmp .gt o, 3)) (ho : 0 ≤ (pc : Int) + o) (hp : ((pc : Int) + o).toNat = pc') (hn : pc + 3 = pn) (kY : y.toInt < x.toInt → Goes p e below F T (mkF m pc' ls st)) (kN : x.toInt ≤ y.toInt → Goes p e below F T (mkF m pn ls st)) : Goes p e below F T (mkF m pc ls (.int y :: .int x :: st)) :=
  gIcmp X hx hd ho hp hn (fun q => kY (by simpa [if_icmp.holds, Int32.lt_iff_toInt_lt, Int32.le_iff_toInt_le] using q)) (fun q => kN (by simpa [if_icmp.holds, Int32.lt_iff_toInt_lt, Int32.le_iff_toInt_le] using q))
theorem gIfGt (X : Stand p l e R s m args below meth c T locs cells slots) (hx : p.tables.exec = Jvm.exec) {o : Int} {x : Int32} {pn : Nat} (hd : decode c.code pc = .ok (.ifCond .gt o, 3)) (ho : 0 ≤ (pc : Int) + o) (hp : ((pc : Int) + o).toNat = pc') (hn : pc + 3 = pn) (kY : (0 : Int) < x.toInt → Goes p e below F T (mkF m pc' ls st)) (kN : x.toInt ≤ (0 : Int) → Goes p e below F T (mkF m pn ls st)) : Goes p e below F T (mkF m pc ls (.int x :: st)) :=
  gIf X hx hd ho hp hn (fun q => kY (by simpa [ifCond.holds, Int32.lt_iff_toInt_lt, Int32.le_iff_toInt_le] using q)) (fun q => kN (by simpa [ifCond.holds, Int32.lt_iff_toInt_lt, Int32.le_iff_toInt_le] using q))
theorem gIcmpLe (X : Stand p l e R s m args below meth c T locs cells slots) (hx : p.tables.exec = Jvm.exec) {o : Int} {x y : Int32} {pn : Nat} (hd : decode c.code pc = .ok (.if_icmp .le o, 3)) (ho : 0 ≤ (pc : Int) + o) (hp : ((pc : Int) + o).toNat = pc') (hn : pc + 3 = pn) (kY : x.toInt ≤ y.toInt → Goes p e below F T (mkF m pc' ls st)) (kN : y.toInt < x.toInt → Goes p e below F T (mkF m pn ls st)) : Goes p e below F T (mkF m pc ls (.int y :: .int x :: st)) :=
  gIcmp X hx hd ho hp hn (fun q => kY (by simpa [if_icmp.holds, Int32.lt_iff_toInt_lt, Int32.le_iff_toInt_le] using q)) (fun q => kN (by simpa [if_icmp.holds, Int32.lt_iff_toInt_lt, Int32.le_iff_toInt_le] using q))
theorem gIfLe (X : Stand p l e R s m args below meth c T locs cells slots) (hx : p.tables.exec = Jvm.exec) {o : Int} {x : Int32} {pn : Nat} (hd : decode c.code pc = .ok (.ifCond .le o, 3)) (ho : 0 ≤ (pc : Int) + o) (hp : ((pc : Int) + o).toNat = pc') (hn : pc + 3 = pn) (kY : x.toInt ≤ (0 : Int) → Goes p e below F T (mkF m pc' ls st)) (kN : (0 : Int) < x.toInt → Goes p e below F T (mkF m pn ls st)) : Goes p e below F T (mkF m pc ls (.int x :: st)) :=
  gIf X hx hd ho hp hn (fun q => kY (by simpa [ifCond.holds, Int32.lt_iff_toInt_lt, Int32.le_iff_toInt_le] using q)) (fun q => kN (by simpa [ifCond.holds, Int32.lt_iff_toInt_lt, Int32.le_iff_toInt_le] using q))
theorem gIcmpEqT (X : Stand p l e R s m args below meth c T locs cells slots) (hx : p.tables.exec = Jvm.exec) {o : Int} {x y : Int32} {pn : Nat} (hd : decode c.code pc = .ok (.if_icmp .eq o, 3)) (ho : 0 ≤ (pc : Int) + o) (hp : ((pc : Int) + o).toNat = pc') (hn : pc + 3 = pn) (kY : x.toInt = y.toInt → Goes p e below F T (mkF m pc' ls st)) (kN : ¬ x.toInt = y.toInt → Goes p e below F T (mkF m pn ls st)) : Goes p e below F T (mkF m pc ls (.int y :: .int x :: st)) :=
  gIcmpEq X hx hd ho hp hn (fun q => kY ((Int32.toInt_inj (x := x) (y := y)).mpr q)) (fun q => kN (fun z => q ((Int32.toInt_inj (x := x) (y := y)).mp z)))
theorem gIfEqT (X : Stand p l e R s m args below meth c T locs cells slots) (hx : p.tables.exec = Jvm.exec) {o : Int} {x : Int32} {pn : Nat} (hd : decode c.code pc = .ok (.ifCond .eq o, 3)) (ho : 0 ≤ (pc : Int) + o) (hp : ((pc : Int) + o).toNat = pc') (hn : pc + 3 = pn) (kY : x.toInt = (0 : Int) → Goes p e below F T (mkF m pc' ls st)) (kN : ¬ x.toInt = (0 : Int) → Goes p e below F T (mkF m pn ls st)) : Goes p e below F T (mkF m pc ls (.int x :: st)) :=
  gIfEq X hx hd ho hp hn (fun q => kY ((Int32.toInt_inj (x := x) (y := 0)).mpr q)) (fun q => kN (fun z => q ((Int32.toInt_inj (x := x) (y := 0)).mp z)))
theorem gIcmpNeT (X : Stand p l e R s m args below meth c T locs cells slots) (hx : p.tables.exec = Jvm.exec) {o : Int} {x y : Int32} {pn : Nat} (hd : decode c.code pc = .ok (.if_icmp .ne o, 3)) (ho : 0 ≤ (pc : Int) + o) (hp : ((pc : Int) + o).toNat = pc') (hn : pc + 3 = pn) (kY : ¬ x.toInt = y.toInt → Goes p e below F T (mkF m pc' ls st)) (kN : x.toInt = y.toInt → Goes p e below F T (mkF m pn ls st)) : Goes p e below F T (mkF m pc ls (.int y :: .int x :: st)) :=
  gIcmpNe X hx hd ho hp hn (fun q => kY (fun z => q ((Int32.toInt_inj (x := x) (y := y)).mp z))) (fun q => kN ((Int32.toInt_inj (x := x) (y := y)).mpr q))
theorem gIfNeT (X : Stand p l e R s m args below meth c T locs cells slots) (hx : p.tables.exec = Jvm.exec) {o : Int} {x : Int32} {pn : Nat} (hd : decode c.code pc = .ok (.ifCond .ne o, 3)) (ho : 0 ≤ (pc : Int) + o) (hp : ((pc : Int) + o).toNat = pc') (hn : pc + 3 = pn) (kY : ¬ x.toInt = (0 : Int) → Goes p e below F T (mkF m pc' ls st)) (kN : x.toInt = (0 : Int) → Goes p e below F T (mkF m pn ls st)) : Goes p e below F T (mkF m pc ls (.int x :: st)) :=
  gIfNe X hx hd ho hp hn (fun q => kY (fun z => q ((Int32.toInt_inj (x := x) (y := 0)).mp z))) (fun q => kN ((Int32.toInt_inj (x := x) (y := 0)).mpr q))
theorem gAcmp (X : Stand p l e R s m args below meth c T locs cells slots) (hx : p.tables.exec = Jvm.exec) {cd : ClassFile.ACond} {o : Int} {x y : Value} {pn : Nat} (hd : decode c.code pc = .ok (.if_acmp cd o, 3)) (h1 : x.isRef = true) (h2 : y.isRef = true) (ho : 0 ≤ (pc : Int) + o) (hp : ((pc : Int) + o).toNat = pc') (hn : pc + 3 = pn) (kS : x = y → Goes p e below F T (mkF m (match cd with | .eq => pc' | .ne => pn) ls st)) (kD : ¬ x = y → Goes p e below F T (mkF m (match cd with | .eq => pn | .ne => pc') ls st)) : Goes p e below F T (mkF m pc ls (y :: x :: st)) := by
  subst hn hp
  by_cases q : x = y
  · refine Goes.fore (fun _ k => acmp X hx rfl h1 h2 (same := true) rfl hd rfl (decide_eq_true q) ho rfl k) ?_
    have := kS q; cases cd <;> simpa [acV] using this
  · refine Goes.fore (fun _ k => acmp X hx rfl h1 h2 (same := false) rfl hd rfl (decide_eq_false q) ho rfl k) ?_
    have := kD q; cases cd <;> simpa [acV] using this
theorem gAcmpEq (X : Stand p l e R s m args below meth c T locs cells slots) (hx : p.tables.exec = Jvm.exec) {o : Int} {x y : Value} {pn : Nat} (hd : decode c.code pc = .ok (.if_acmp .eq o, 3)) (h1 : x.isRef = true) (h2 : y.isRef = true) (ho : 0 ≤ (pc : Int) + o) (hp : ((pc : Int) + o).toNat = pc') (hn : pc + 3 = pn) (kY : x = y → Goes p e below F T (mkF m pc' ls st)) (kN : ¬ x = y → Goes p e below F T (mkF m pn ls st)) : Goes p e below F T (mkF m pc ls (y :: x :: st)) := gAcmp X hx hd h1 h2 ho hp hn kY kN
theorem gAcmpNe (X : Stand p l e R s m args below meth c T locs cells slots) (hx : p.tables.exec = Jvm.exec) {o : Int} {x y : Value} {pn : Nat} (hd : decode c.code pc = .ok (.if_acmp .ne o, 3)) (h1 : x.isRef = true) (h2 : y.isRef = true) (ho : 0 ≤ (pc : Int) + o) (hp : ((pc : Int) + o).toNat = pc') (hn : pc + 3 = pn) (kY : ¬ x = y → Goes p e below F T (mkF m pc' ls st)) (kN : x = y → Goes p e below F T (mkF m pn ls st)) : Goes p e below F T (mkF m pc ls (y :: x :: st)) := gAcmp X hx hd h1 h2 ho hp hn kN kY
theorem gIfnullZ (X : Stand p l e R s m args below meth c T locs cells slots) (hx : p.tables.exec = Jvm.exec) {o : Int} (hd : decode c.code pc = .ok (.ifnull o, 3)) (ho : 0 ≤ (pc : Int) + o) (hp : ((pc : Int) + o).toNat = pc') (k : Goes p e below F T (mkF m pc' ls st)) : Goes p e below F T (mkF m pc ls (.null :: st)) := Goes.fore (fun _ q => XS.ifnullYes X.here hx rfl rfl hd rfl ho hp q) k
theorem gIfnullR (X : Stand p l e R s m args below meth c T locs cells slots) (hx : p.tables.exec = Jvm.exec) {o : Int} {b : Addr} (hd : decode c.code pc = .ok (.ifnull o, 3)) (hp : pc + 3 = pc') (k : Goes p e below F T (mkF m pc' ls st)) : Goes p e below F T (mkF m pc ls (.ref b :: st)) := by
  subst hp; exact Goes.fore (fun _ q => XS.ifnullNo X.here hx rfl hd rfl q) k
theorem gIfnonnullZ (X : Stand p l e R s m args below meth c T locs cells slots) (hx : p.tables.exec = Jvm.exec) {o : Int} (hd : decode c.code pc = .ok (.ifnonnull o, 3)) (hp : pc + 3 = pc') (k : Goes p e below F T (mkF m pc' ls st)) : Goes p e below F T (mkF m pc ls (.null :: st)) := by
  subst hp; exact Goes.fore (fun _ q => XS.ifnonnullNo X.here hx rfl hd rfl q) k
theorem gIfnonnullR (X : Stand p l e R s m args below meth c T locs cells slots) (hx : p.tables.exec = Jvm.exec) {o : Int} {b : Addr} (hd : decode c.code pc = .ok (.ifnonnull o, 3)) (ho : 0 ≤ (pc : Int) + o) (hp : ((pc : Int) + o).toNat = pc') (k : Goes p e below F T (mkF m pc' ls st)) : Goes p e below F T (mkF m pc ls (.ref b :: st)) := Goes.fore (fun _ q => XS.ifnonnullYes X.here hx rfl rfl hd rfl ho hp q) k
theorem gRet0 {v : Option Value} (X : Stand p l e R s m args below meth c T locs cells slots) (hx : p.tables.exec = Jvm.exec) (hlk : meth.locks = false) (hv : meth.sig.returnType = none → v = none) (hk : cells ≤ kc) (hs : slots ≤ ks) (hq : Q v T.heap locs) {g : JFrame}
    (k : ∀ fs, (∀ (f : JFrame) (acts : List Action), f.method = m → f.locked = none → f.entered = [] → (doReturn e (T.setTop f) acts v).1 = T.setFrames fs) → Steps p.tables e below (T.setTop g) (T.setFrames fs)) : Goes p e below (FinN s kc ks Q) T g := by
  obtain ⟨fs, hr, hrun, hended, hW, hsame⟩ := X.leave hv hlk
  exact ⟨_, _, k fs hr, hrun, hended, _, _, rfl, hq, ⟨_, rfl⟩, hW, hsame.mono hk hs⟩
theorem gRetV (X : Stand p l e R s m args below meth c T locs cells slots) (hx : p.tables.exec = Jvm.exec) (hlk : meth.locks = false) (hret : meth.sig.returnType = none) (hd : decode c.code pc = .ok (.return_, 1)) (hk : cells ≤ kc) (hs : slots ≤ ks) (hq : Q none T.heap locs) : Goes p e below (FinN s kc ks Q) T (mkF m pc ls []) :=
  gRet0 X hx hlk (fun _ => rfl) hk hs hq fun fs hr => X.returnOut hx hret hd hr
theorem gRetN (X : Stand p l e R s m args below meth c T locs cells slots) (hx : p.tables.exec = Jvm.exec) (hlk : meth.locks = false) {t : FieldType} (hret : meth.sig.returnType = some t) (ht : t = .boolean ∨ t = .byte ∨ t = .char ∨ t = .short) {z w : Int32} (hd : decode c.code pc = .ok (.ireturn, 1)) (hw : nar t z = w) (hk : cells ≤ kc) (hs : slots ≤ ks) (hq : Q (some (.int w)) T.heap locs) : Goes p e below (FinN s kc ks Q) T (mkF m pc ls (.int z :: st)) := by
  subst hw
  exact gRet0 X hx hlk (fun h => by rw [hret] at h; cases h) hk hs hq fun fs hr => retN X hx hret ht hd hr
theorem gRetI (X : Stand p l e R s m args below meth c T locs cells slots) (hx : p.tables.exec = Jvm.exec) (hlk : meth.locks = false) (hret : meth.sig.returnType = some .int) {z : Int32} (hd : decode c.code pc = .ok (.ireturn, 1)) (hk : cells ≤ kc) (hs : slots ≤ ks) (hq : Q (some (.int z)) T.heap locs) : Goes p e below (FinN s kc ks Q) T (mkF m pc ls (.int z :: st)) :=
  gRet0 X hx hlk (fun h => by rw [hret] at h; cases h) hk hs hq fun fs hr => retOut X hx hret rfl (Or.inl ⟨rfl, Or.inl rfl, z, rfl⟩) hd hr
theorem gRetJ (X : Stand p l e R s m args below meth c T locs cells slots) (hx : p.tables.exec = Jvm.exec) (hlk : meth.locks = false) (hret : meth.sig.returnType = some .long) {z : Int64} (hd : decode c.code pc = .ok (.lreturn, 1)) (hk : cells ≤ kc) (hs : slots ≤ ks) (hq : Q (some (.long z)) T.heap locs) : Goes p e below (FinN s kc ks Q) T (mkF m pc ls (.long z :: st)) :=
  gRet0 X hx hlk (fun h => by rw [hret] at h; cases h) hk hs hq fun fs hr => retOut X hx hret rfl (Or.inr (Or.inl ⟨rfl, rfl, z, rfl⟩)) hd hr
theorem gRetA (X : Stand p l e R s m args below meth c T locs cells slots) (hx : p.tables.exec = Jvm.exec) (hlk : meth.locks = false) {t : FieldType} (hret : meth.sig.returnType = some t) (ht : t.isReference = true) {v : Value} (hv : v.isRef = true) (hd : decode c.code pc = .ok (.areturn, 1)) (hk : cells ≤ kc) (hs : slots ≤ ks) (hq : Q (some v) T.heap locs) : Goes p e below (FinN s kc ks Q) T (mkF m pc ls (v :: st)) :=
  gRet0 X hx hlk (fun h => by rw [hret] at h; cases h) hk hs hq fun fs hr => retOut X hx hret (by cases t <;> first | rfl | cases ht) (Or.inr (Or.inr (Or.inr (Or.inr ⟨rfl, ht, hv⟩)))) hd hr
theorem gGetS (X : Stand p l e R s m args below meth c T locs cells slots) (hx : p.tables.exec = Jvm.exec) (hZ : Z.Warmed39 s.vm) {own R0 O n d : String} {i : Nat} (hown : s.vm.findClass own = some m.cls) (w : (Jvm.Cond.fieldLink own i R0 n d).before a0 Z = true) (via : Via Z R0 O n d) (eT : T.heap = h) {v : Value} (Fa : Sta Z h O n d v) (hd : decode c.code pc = .ok (.getstatic i, 3)) (hp : pc + 3 = pc')
    (k : ∀ T', Stand p l e R s m args below meth c T' locs cells slots → T'.heap = h → Goes p e below F T' (mkF m pc' ls (v :: st))) : Goes p e below F T (mkF m pc ls st) := by
  subst hp
  obtain ⟨T', X', e', st'⟩ := getS X hx hZ (host := "") hown w via eT Fa (g := mkF m pc ls st) rfl hd
  exact Goes.fore st' (k T' X' e')
theorem gGetF (X : Stand p l e R s m args below meth c T locs cells slots) (hx : p.tables.exec = Jvm.exec) (hZ : Z.Warmed39 s.vm) {own R0 O n d : String} {i : Nat} (hown : s.vm.findClass own = some m.cls) (w : (Jvm.Cond.fieldLink own i R0 n d).before a0 Z = true) (via : Via Z R0 O n d) (eT : T.heap = h) {a : Addr} {v : Value} (Fa : Fld Z h a O n d v) (hd : decode c.code pc = .ok (.getfield i, 3)) (hp : pc + 3 = pc')
    (k : ∀ T', Stand p l e R s m args below meth c T' locs cells slots → T'.heap = h → Goes p e below F T' (mkF m pc' ls (v :: st))) : Goes p e below F T (mkF m pc ls (.ref a :: st)) := by
  subst hp
  obtain ⟨T', X', e', st'⟩ := getF X hx hZ (host := "") hown (Or.inl w) via eT Fa (g := mkF m pc ls (.ref a :: st)) rfl rfl hd
  exact Goes.fore st' (k T' X' e')
theorem gCallS (X : Stand p l e R s m args below meth c T locs cells slots) (hx : p.tables.exec = Jvm.exec) (hZ : Z.Warmed39 s.vm) {y : MethodName} {bytes : ByteArray} {maxL : Nat} {ret : Option FieldType} {rm : Room} {own : String} {i : Nat} {Qc : Option Value → Heap → List Loc → Prop} (hown : s.vm.findClass own = some m.cls) (eT : T.heap = h) (hml : ls.size = c.maxLocals)
    (w1 : (Jvm.Cond.methodLink own i y).before a0 Z = true) (w2 : (Jvm.Cond.static y).before a0 Z = true) (w3 : (Jvm.Cond.initialized y.cls).before a0 Z = true) (w4 : (Jvm.Cond.code y bytes maxL ret).before a0 Z = true) (hy : y.cls ≠ "java/lang/invoke/MethodHandle" ∧ y.cls ≠ "java/lang/invoke/VarHandle")
    {argsL : List Value} {stk : List Value} (hC : Ctr l Z y bytes maxL ret [] rm argsL.toArray h Qc) (hlen : ∀ sig, parseMethodDescriptor y.desc = some sig → argsL.length = sig.parameters.length) (hd : decode c.code pc = .ok (.invokestatic i, 3)) (hp : pc + 3 = pc') (hst : stk = argsL.reverse ++ st)
    (hf : rm.frames + 1 ≤ R.frames) {W : Nat} (hW : (st.map fun v => v.category).sum ≤ W) (hlo : W + (maxL + 11) + rm.locals ≤ R.locals) (hce : cells + rm.cells ≤ R.cells) (hsl : slots + rm.slots ≤ R.slots)
    (k : ∀ T' v L, Stand p l e R s m args below meth c T' (locs ++ L) (cells + rm.cells) (slots + rm.slots) → Qc v T'.heap L → Goes p e below F T' (mkF m pc' ls (v.toList ++ st))) : Goes p e below F T (mkF m pc ls stk) := by
  subst hp hst
  obtain ⟨v, _, ⟨T', L', k', n'⟩, -, X', ⟨Lc, hQ, l1, y1, z1⟩, st'⟩ := Jvm.LawKit.callS X hx (y := y) hown (mvT hZ w1) (mvT hZ w2) (mvT hZ w3) (mvT hZ w4) hy (backOf (W := W) hC hZ w4 w3 hf hlo) (g := mkF m pc ls (argsL.reverse ++ st)) rfl hml (argsL := argsL) (rest := st) hlen rfl (by show 2 * 0 + _ ≤ _; omega) hd (fun _ _ => ⟨rfl, eT, hce, hsl⟩)
  dsimp only [Pt.U, Pt.locs, Pt.cells, Pt.slots] at X' l1 y1 z1 st' hQ
  subst l1 y1 z1
  exact Goes.fore st' (k T' v Lc X' hQ)
theorem gCallSJ (X : Stand p l e R s m args below meth c T locs cells slots) (hx : p.tables.exec = Jvm.exec) (hZ : Z.Warmed39 s.vm) {y : MethodName} {bytes : ByteArray} {maxL : Nat} {ret : Option FieldType} {rm : Room} {own : String} {i : Nat} {w : Value} (hown : s.vm.findClass own = some m.cls) (eT : T.heap = h) (hml : ls.size = c.maxLocals)
    (w1 : (Jvm.Cond.methodLink own i y).before a0 Z = true) (w2 : (Jvm.Cond.static y).before a0 Z = true) (w3 : (Jvm.Cond.initialized y.cls).before a0 Z = true) (w4 : (Jvm.Cond.code y bytes maxL ret).before a0 Z = true) (hy : y.cls ≠ "java/lang/invoke/MethodHandle" ∧ y.cls ≠ "java/lang/invoke/VarHandle")
    {argsL : List Value} {stk : List Value} (hC : Ctr l Z y bytes maxL ret [] rm argsL.toArray h (Just h w)) (hlen : ∀ sig, parseMethodDescriptor y.desc = some sig → argsL.length = sig.parameters.length) (hd : decode c.code pc = .ok (.invokestatic i, 3)) (hp : pc + 3 = pc') (hst : stk = argsL.reverse ++ st)
    (h0c : rm.cells = 0) (h0s : rm.slots = 0) (hf : rm.frames + 1 ≤ R.frames) {W : Nat} (hW : (st.map fun v => v.category).sum ≤ W) (hlo : W + (maxL + 11) + rm.locals ≤ R.locals) (hce : cells + rm.cells ≤ R.cells) (hsl : slots + rm.slots ≤ R.slots)
    (k : ∀ T', Stand p l e R s m args below meth c T' locs cells slots → T'.heap = h → Goes p e below F T' (mkF m pc' ls (w :: st))) : Goes p e below F T (mkF m pc ls stk) := by
  refine gCallS X hx hZ hown eT hml w1 w2 w3 w4 hy hC hlen hd hp hst hf hW hlo hce hsl ?_
  rintro T' v L X' ⟨rfl, e', rfl⟩
  rw [List.append_nil, h0c, h0s] at X'
  exact k T' X' e'
theorem gCallV (X : Stand p l e R s m args below meth c T locs cells slots) (hx : p.tables.exec = Jvm.exec) (hZ : Z.Warmed39 s.vm) {y : MethodName} {bytes : ByteArray} {maxL : Nat} {ret : Option FieldType} {rm : Room} {own : String} {i : Nat} {Qc : Option Value → Heap → List Loc → Prop} {C : String} {a : Addr} (hown : s.vm.findClass own = some m.cls) (eT : T.heap = h) (hml : ls.size = c.maxLocals) (E : Exa Z h a C)
    (w1 : (Jvm.Cond.methodLink own i y).before a0 Z = true) (w2 : (Jvm.Cond.declares y).before a0 Z = true) (w5 : (Jvm.Cond.selects C y y).before a0 Z = true) (w6 : (Jvm.Cond.instanceMethod y).before a0 Z = true) (w3 : (Jvm.Cond.initialized y.cls).before a0 Z = true) (w4 : (Jvm.Cond.code y bytes maxL ret).before a0 Z = true) (hy : y.cls ≠ "java/lang/invoke/MethodHandle" ∧ y.cls ≠ "java/lang/invoke/VarHandle")
    {argsL : List Value} {stk : List Value} (hC : Ctr l Z y bytes maxL ret [] rm (.ref a :: argsL).toArray h Qc) (hlen : ∀ sig, parseMethodDescriptor y.desc = some sig → argsL.length = sig.parameters.length) (hd : decode c.code pc = .ok (.invokevirtual i, 3)) (hp : pc + 3 = pc') (hst : stk = argsL.reverse ++ .ref a :: st)
    (hf : rm.frames + 1 ≤ R.frames) {W : Nat} (hW : (st.map fun v => v.category).sum ≤ W) (hlo : W + (maxL + 11) + rm.locals ≤ R.locals) (hce : cells + rm.cells ≤ R.cells) (hsl : slots + rm.slots ≤ R.slots)
    (k : ∀ T' v L, Stand p l e R s m args below meth c T' (locs ++ L) (cells + rm.cells) (slots + rm.slots) → Qc v T'.heap L → Goes p e below F T' (mkF m pc' ls (v.toList ++ st))) : Goes p e below F T (mkF m pc ls stk) := by
  subst hp hst
  obtain ⟨cq, kq, qa, qb, qc⟩ := isOf hZ eT E
  obtain ⟨v, _, ⟨T', L', k', n'⟩, -, X', ⟨Lc, hQ, l1, y1, z1⟩, st'⟩ := X.virtualBack hx (y := y) (z := y) hown (mvT hZ w1) (mvT hZ w2) (notFace_of_selects (args := #[]) (mvT hZ w5)) (mvT hZ w5) (mvT hZ w6) hy (backOf (W := W) hC hZ w4 w3 hf hlo) qa qc (g := mkF m pc ls (argsL.reverse ++ .ref a :: st)) rfl hml (Steps.refl _) (argsL := argsL) (rest := st) hlen rfl (by show 2 * 0 + _ ≤ _; omega) hd (fun _ _ => ⟨rfl, eT, hce, hsl⟩)
  dsimp only [Pt.U, Pt.locs, Pt.cells, Pt.slots] at X' l1 y1 z1 st' hQ
  subst l1 y1 z1
  exact Goes.tr st' (k T' v Lc X' hQ)
theorem gCallVJ (X : Stand p l e R s m args below meth c T locs cells slots) (hx : p.tables.exec = Jvm.exec) (hZ : Z.Warmed39 s.vm) {y : MethodName} {bytes : ByteArray} {maxL : Nat} {ret : Option FieldType} {rm : Room} {own : String} {i : Nat} {w : Value} {C : String} {a : Addr} (hown : s.vm.findClass own = some m.cls) (eT : T.heap = h) (hml : ls.size = c.maxLocals) (E : Exa Z h a C)
    (w1 : (Jvm.Cond.methodLink own i y).before a0 Z = true) (w2 : (Jvm.Cond.declares y).before a0 Z = true) (w5 : (Jvm.Cond.selects C y y).before a0 Z = true) (w6 : (Jvm.Cond.instanceMethod y).before a0 Z = true) (w3 : (Jvm.Cond.initialized y.cls).before a0 Z = true) (w4 : (Jvm.Cond.code y bytes maxL ret).before a0 Z = true) (hy : y.cls ≠ "java/lang/invoke/MethodHandle" ∧ y.cls ≠ "java/lang/invoke/VarHandle")
    {argsL : List Value} {stk : List Value} (hC : Ctr l Z y bytes maxL ret [] rm (.ref a :: argsL).toArray h (Just h w)) (hlen : ∀ sig, parseMethodDescriptor y.desc = some sig → argsL.length = sig.parameters.length) (hd : decode c.code pc = .ok (.invokevirtual i, 3)) (hp : pc + 3 = pc') (hst : stk = argsL.reverse ++ .ref a :: st)
    (h0c : rm.cells = 0) (h0s : rm.slots = 0) (hf : rm.frames + 1 ≤ R.frames) {W : Nat} (hW : (st.map fun v => v.category).sum ≤ W) (hlo : W + (maxL + 11) + rm.locals ≤ R.locals) (hce : cells + rm.cells ≤ R.cells) (hsl : slots + rm.slots ≤ R.slots)
    (k : ∀ T', Stand p l e R s m args below meth c T' locs cells slots → T'.heap = h → Goes p e below F T' (mkF m pc' ls (w :: st))) : Goes p e below F T (mkF m pc ls stk) := by
  refine gCallV X hx hZ hown eT hml E w1 w2 w5 w6 w3 w4 hy hC hlen hd hp hst hf hW hlo hce hsl ?_
  rintro T' v L X' ⟨rfl, e', rfl⟩
  rw [List.append_nil, h0c, h0s] at X'
  exact k T' X' e'
theorem gLIfEq (X : Stand p l e R s m args below meth c T locs cells slots) (hx : p.tables.exec = Jvm.exec) {o : Int} {x y : Int64} {pn : Nat} (hd : decode c.code pc = .ok (.ifCond .eq o, 3)) (ho : 0 ≤ (pc : Int) + o) (hp : ((pc : Int) + o).toNat = pc') (hn : pc + 3 = pn) (kY : x = y → Goes p e below F T (mkF m pc' ls st)) (kN : ¬ x = y → Goes p e below F T (mkF m pn ls st)) : Goes p e below F T (mkF m pc ls (.int (lcmpW x y) :: st)) := by
  have z := lw_eq x y
  refine gIf X hx hd ho hp hn (fun q => kY ?_) (fun q => kN ?_) <;> simp only [ifCond.holds, decide_eq_true_eq, decide_eq_false_iff_not, beq_iff_eq, bne_iff_ne, Int32.not_lt, Int32.not_le, Int32.lt_iff_toInt_lt, Int32.le_iff_toInt_le, Int64.lt_iff_toInt_lt, ← Int32.toInt_inj, beq_eq_false_iff_ne, bne_eq_false_iff_eq, ne_eq] at q z ⊢ <;> first | exact z.mp q | exact fun k => q (z.mpr k) | omega
theorem gLIfNe (X : Stand p l e R s m args below meth c T locs cells slots) (hx : p.tables.exec = Jvm.exec) {o : Int} {x y : Int64} {pn : Nat} (hd : decode c.code pc = .ok (.ifCond .ne o, 3)) (ho : 0 ≤ (pc : Int) + o) (hp : ((pc : Int) + o).toNat = pc') (hn : pc + 3 = pn) (kY : ¬ x = y → Goes p e below F T (mkF m pc' ls st)) (kN : x = y → Goes p e below F T (mkF m pn ls st)) : Goes p e below F T (mkF m pc ls (.int (lcmpW x y) :: st)) := by
  have z := lw_eq x y
  refine gIf X hx hd ho hp hn (fun q => kY ?_) (fun q => kN ?_) <;> simp only [ifCond.holds, decide_eq_true_eq, decide_eq_false_iff_not, beq_iff_eq, bne_iff_ne, Int32.not_lt, Int32.not_le, Int32.lt_iff_toInt_lt, Int32.le_iff_toInt_le, Int64.lt_iff_toInt_lt, ← Int32.toInt_inj, beq_eq_false_iff_ne, bne_eq_false_iff_eq, ne_eq] at q z ⊢ <;> first | exact z.mp q | exact fun k => q (z.mpr k) | omega
theorem gLIfLt (X : Stand p l e R s m args below meth c T locs cells slots) (hx : p.tables.exec = Jvm.exec) {o : Int} {x y : Int64} {pn : Nat} (hd : decode c.code pc = .ok (.ifCond .lt o, 3)) (ho : 0 ≤ (pc : Int) + o) (hp : ((pc : Int) + o).toNat = pc') (hn : pc + 3 = pn) (kY : x.toInt < y.toInt → Goes p e below F T (mkF m pc' ls st)) (kN : y.toInt ≤ x.toInt → Goes p e below F T (mkF m pn ls st)) : Goes p e below F T (mkF m pc ls (.int (lcmpW x y) :: st)) := by
  have z := lw_lt x y
  refine gIf X hx hd ho hp hn (fun q => kY ?_) (fun q => kN ?_) <;> simp only [ifCond.holds, decide_eq_true_eq, decide_eq_false_iff_not, beq_iff_eq, bne_iff_ne, Int32.not_lt, Int32.not_le, Int32.lt_iff_toInt_lt, Int32.le_iff_toInt_le, Int64.lt_iff_toInt_lt, ← Int32.toInt_inj, beq_eq_false_iff_ne, bne_eq_false_iff_eq, ne_eq] at q z ⊢ <;> first | exact z.mp q | exact fun k => q (z.mpr k) | omega
theorem gLIfGe (X : Stand p l e R s m args below meth c T locs cells slots) (hx : p.tables.exec = Jvm.exec) {o : Int} {x y : Int64} {pn : Nat} (hd : decode c.code pc = .ok (.ifCond .ge o, 3)) (ho : 0 ≤ (pc : Int) + o) (hp : ((pc : Int) + o).toNat = pc') (hn : pc + 3 = pn) (kY : y.toInt ≤ x.toInt → Goes p e below F T (mkF m pc' ls st)) (kN : x.toInt < y.toInt → Goes p e below F T (mkF m pn ls st)) : Goes p e below F T (mkF m pc ls (.int (lcmpW x y) :: st)) := by
  have z := lw_lt x y
  refine gIf X hx hd ho hp hn (fun q => kY ?_) (fun q => kN ?_) <;> simp only [ifCond.holds, decide_eq_true_eq, decide_eq_false_iff_not, beq_iff_eq, bne_iff_ne, Int32.not_lt, Int32.not_le, Int32.lt_iff_toInt_lt, Int32.le_iff_toInt_le, Int64.lt_iff_toInt_lt, ← Int32.toInt_inj, beq_eq_false_iff_ne, bne_eq_false_iff_eq, ne_eq] at q z ⊢ <;> first | exact z.mp q | exact fun k => q (z.mpr k) | omega
theorem gLIfGt (X : Stand p l e R s m args below meth c T locs cells slots) (hx : p.tables.exec = Jvm.exec) {o : Int} {x y : Int64} {pn : Nat} (hd : decode c.code pc = .ok (.ifCond .gt o, 3)) (ho : 0 ≤ (pc : Int) + o) (hp : ((pc : Int) + o).toNat = pc') (hn : pc + 3 = pn) (kY : y.toInt < x.toInt → Goes p e below F T (mkF m pc' ls st)) (kN : x.toInt ≤ y.toInt → Goes p e below F T (mkF m pn ls st)) : Goes p e below F T (mkF m pc ls (.int (lcmpW x y) :: st)) := by
  have z := lw_gt x y
  refine gIf X hx hd ho hp hn (fun q => kY ?_) (fun q => kN ?_) <;> simp only [ifCond.holds, decide_eq_true_eq, decide_eq_false_iff_not, beq_iff_eq, bne_iff_ne, Int32.not_lt, Int32.not_le, Int32.lt_iff_toInt_lt, Int32.le_iff_toInt_le, Int64.lt_iff_toInt_lt, ← Int32.toInt_inj, beq_eq_false_iff_ne, bne_eq_false_iff_eq, ne_eq] at q z ⊢ <;> first | exact z.mp q | exact fun k => q (z.mpr k) | omega
theorem gLIfLe (X : Stand p l e R s m args below meth c T locs cells slots) (hx : p.tables.exec = Jvm.exec) {o : Int} {x y : Int64} {pn : Nat} (hd : decode c.code pc = .ok (.ifCond .le o, 3)) (ho : 0 ≤ (pc : Int) + o) (hp : ((pc : Int) + o).toNat = pc') (hn : pc + 3 = pn) (kY : x.toInt ≤ y.toInt → Goes p e below F T (mkF m pc' ls st)) (kN : y.toInt < x.toInt → Goes p e below F T (mkF m pn ls st)) : Goes p e below F T (mkF m pc ls (.int (lcmpW x y) :: st)) := by
  have z := lw_gt x y
  refine gIf X hx hd ho hp hn (fun q => kY ?_) (fun q => kN ?_) <;> simp only [ifCond.holds, decide_eq_true_eq, decide_eq_false_iff_not, beq_iff_eq, bne_iff_ne, Int32.not_lt, Int32.not_le, Int32.lt_iff_toInt_lt, Int32.le_iff_toInt_le, Int64.lt_iff_toInt_lt, ← Int32.toInt_inj, beq_eq_false_iff_ne, bne_eq_false_iff_eq, ne_eq] at q z ⊢ <;> first | exact z.mp q | exact fun k => q (z.mpr k) | omega
theorem gNew (X : Stand p l e R s m args below meth c T locs cells slots) (hx : p.tables.exec = Jvm.exec) (hZ : Z.Warmed39 s.vm) {own C : String} {i n : Nat} (hown : s.vm.findClass own = some m.cls) (w : (Jvm.Cond.classLink own i C).before a0 Z = true) (wi : (Jvm.Cond.instantiable C n).before a0 Z = true) (wz : (Jvm.Cond.initialized C).before a0 Z = true) (eT : T.heap = h) (hd : decode c.code pc = .ok (.new i, 3)) (hp : pc + 3 = pc') (hc : cells + 1 ≤ R.cells) (hl : slots + n ≤ R.slots)
    (k : ∀ T' h' b, Stand p l e R s m args below meth c T' locs (cells + 1) (slots + n) → T'.heap = h' → b = h.size → Ext h h' → Exa Z h' b C → (∀ {O nm d : String} {ty : FieldType}, Laid Z a0 C O nm d → parseFieldDescriptor d = some ty → Fld Z h' b O nm d (defaultValue ty)) → Goes p e below F T' (mkF m pc' ls (.ref b :: st))) : Goes p e below F T (mkF m pc ls st) := by
  subst hp
  obtain ⟨T', h', X', e', E, A, D, -, st'⟩ := newO X hx hZ hown w wi wz eT (g := mkF m pc ls st) rfl hd hc hl
  exact Goes.fore st' (k T' h' _ X' e' rfl E A D)
theorem gPutF (X : Stand p l e R s m args below meth c T locs cells slots) (hx : p.tables.exec = Jvm.exec) (hZ : Z.Warmed39 s.vm) {own R0 O n d C : String} {i kk : Nat} {ty : FieldType} (hown : s.vm.findClass own = some m.cls) (w : (Jvm.Cond.fieldLink own i R0 n d).before a0 Z = true) (via : Via Z R0 O n d) (eT : T.heap = h) {a : Addr} {v old : Value} (Fa : Fld Z h a O n d old) (E : Exa Z h a C) (L : (Jvm.Cond.lays C O n d).before a0 Z = true ∨ ((Jvm.Cond.laysFinal C O n d).before a0 Z = true ∧ own = O ∧ meth.name = "<init>")) (wi : (Jvm.Cond.instantiable C kk).before a0 Z = true)
    (hty : parseFieldDescriptor d = some ty) (hn : narrow ty v = v) (hf : fits ty v = true) (hd : decode c.code pc = .ok (.putfield i, 3)) (hp : pc + 3 = pc')
    (k : ∀ T' h', Stand p l e R s m args below meth c T' (locs ++ [⟨a, RoadKit.slotOf Z O n d⟩]) cells slots → T'.heap = h' → Wr h h' a (RoadKit.slotOf Z O n d) v → Goes p e below F T' (mkF m pc' ls st)) : Goes p e below F T (mkF m pc ls (v :: .ref a :: st)) := by
  subst hp
  obtain ⟨T', h', X', e', W, st'⟩ := putF X hx hZ (host := "") hown (Or.inl w) via eT Fa E L wi hty hn hf (g := mkF m pc ls (v :: .ref a :: st)) rfl rfl hd
  exact Goes.fore st' (k T' h' X' e' W)
theorem gInitO (X : Stand p l e R s m args below meth c T locs cells slots) (hx : p.tables.exec = Jvm.exec) (hZ : Z.Warmed39 s.vm) {own : String} {i : Nat} (hown : s.vm.findClass own = some m.cls) (w1 : (Jvm.Cond.methodLink own i Lib.objectInit).before a0 Z = true) (w2 : (Jvm.Cond.instanceMethod Lib.objectInit).before a0 Z = true) (w3 : (Jvm.Cond.code Lib.objectInit ⟨#[0xb1]⟩ 1 none).before a0 Z = true) (eT : T.heap = h) (hml : ls.size = c.maxLocals) {a : Addr} (hd : decode c.code pc = .ok (.invokespecial i, 3)) (hp : pc + 3 = pc') (hf : 1 ≤ R.frames) {W : Nat} (hW : (st.map fun v => v.category).sum ≤ W) (hl : W + 12 ≤ R.locals)
    (k : ∀ T', Stand p l e R s m args below meth c T' locs cells slots → T'.heap = h → Goes p e below F T' (mkF m pc' ls st)) : Goes p e below F T (mkF m pc ls (.ref a :: st)) := by
  subst hp
  obtain ⟨T', X', e', st'⟩ := initO X hx hZ hown w1 w2 w3 eT (g := mkF m pc ls (.ref a :: st)) rfl hml rfl hd hf (W := W) (by show 2 * 0 + _ ≤ _; omega) hl
  exact Goes.fore st' (k T' X' e')
theorem gCallI (X : Stand p l e R s m args below meth c T locs cells slots) (hx : p.tables.exec = Jvm.exec) (hZ : Z.Warmed39 s.vm) {y : MethodName} {bytes : ByteArray} {maxL : Nat} {rm : Room} {own : String} {i : Nat} {Qc : Option Value → Heap → List Loc → Prop} {a : Addr} (hy1 : y.name = "<init>") (hown : s.vm.findClass own = some m.cls) (eT : T.heap = h) (hml : ls.size = c.maxLocals)
    (w1 : (Jvm.Cond.methodLink own i y).before a0 Z = true) (w2 : (Jvm.Cond.instanceMethod y).before a0 Z = true) (w3 : (Jvm.Cond.initialized y.cls).before a0 Z = true) (w4 : (Jvm.Cond.code y bytes maxL none).before a0 Z = true) (hy : y.cls ≠ "java/lang/invoke/MethodHandle" ∧ y.cls ≠ "java/lang/invoke/VarHandle")
    {argsL : List Value} {stk : List Value} (hC : Ctr l Z y bytes maxL none [] rm (.ref a :: argsL).toArray h Qc) (hlen : ∀ sig, parseMethodDescriptor y.desc = some sig → argsL.length = sig.parameters.length) (hd : decode c.code pc = .ok (.invokespecial i, 3)) (hp : pc + 3 = pc') (hst : stk = argsL.reverse ++ .ref a :: st)
    (hf : rm.frames + 1 ≤ R.frames) {W : Nat} (hW : (st.map fun v => v.category).sum ≤ W) (hlo : W + (maxL + 11) + rm.locals ≤ R.locals) (hce : cells + rm.cells ≤ R.cells) (hsl : slots + rm.slots ≤ R.slots)
    (k : ∀ T' v L, Stand p l e R s m args below meth c T' (locs ++ L) (cells + rm.cells) (slots + rm.slots) → Qc v T'.heap L → Goes p e below F T' (mkF m pc' ls (v.toList ++ st))) : Goes p e below F T (mkF m pc ls stk) := by
  subst hp hst
  obtain ⟨v, _, ⟨T', L', k', n'⟩, -, X', ⟨Lc, hQ, l1, y1, z1⟩, st'⟩ := X.specialBack hx (y := y) hy1 hown (mvT hZ w1) (mvT hZ w2) (mvT hZ w4) hy (backOf (W := W) hC hZ w4 w3 hf hlo) (g := mkF m pc ls (argsL.reverse ++ .ref a :: st)) rfl hml (Steps.refl _) (a := a) (argsL := argsL) (rest := st) hlen rfl (by show 2 * 0 + _ ≤ _; omega) hd (fun _ _ => ⟨rfl, eT, hce, hsl⟩)
  dsimp only [Pt.U, Pt.locs, Pt.cells, Pt.slots] at X' l1 y1 z1 st' hQ
  subst l1 y1 z1
  exact Goes.tr st' (k T' v Lc X' hQ)
end OwnLayer
theorem ow {Z : State} {a0 : Array Value} (hw : ∀ d ∈ tables_1, d.before a0 Z = true) (i : Nat) {d : Jvm.Cond} (h : tables_1[i]? = some d) : d.before a0 Z = true := hw _ (List.mem_of_getElem? h)
set_option maxRecDepth 65536
set_option maxHeartbeats 40000000
/-- a boolean as the machine holds it -/
def b2i (b : Bool) : Int32 := if b then 1 else 0
theorem b2_t {P : Prop} [Decidable P] (h : P) : b2i (decide P) = 1 := by simp [b2i, h]
theorem b2_f {P : Prop} [Decidable P] (h : ¬ P) : b2i (decide P) = 0 := by simp [b2i, h]
theorem b2_0 {b : Bool} : b2i b = 0 ↔ b = false := by cases b <;> simp [b2i]
theorem b2_n0 {b : Bool} : ¬ b2i b = 0 ↔ b = true := by cases b <;> simp [b2i]
theorem b2_inj {a b : Bool} : b2i a = b2i b ↔ a = b := by cases a <;> cases b <;> simp [b2i]
theorem b2_nar {b : Bool} : nar .boolean (b2i b) = b2i b := by cases b <;> rfl
theorem just_t {h0 h : Heap} {P : Prop} [Decidable P] (q : P) (e : h = h0) : Just h0 (.int (b2i (decide P))) (some (.int 1)) h [] := ⟨by rw [b2_t q], e, rfl⟩
theorem just_f {h0 h : Heap} {P : Prop} [Decidable P] (q : ¬ P) (e : h = h0) : Just h0 (.int (b2i (decide P))) (some (.int 0)) h [] := ⟨by rw [b2_f q], e, rfl⟩
/-- the law returns 1; what it wrote is new -/
def Law1 (h0 : Heap) (v : Option Value) (h : Heap) (L : List Loc) : Prop := v = some (.int 1) ∧ Fr h0.size L
section OwnArrays
variable {p : Program} {l : Launch} {e : Env} {R : Room} {s : State} {m : MethodId} {args : Array Value} {below : List Frame} {meth : Method} {c : Code} {T : State} {locs : List Loc} {cells slots : Nat}
variable {F : State → Outcome → Prop} {pc pc' : Nat} {ls : Array Slot} {st : List Value} {Z : State} {a0 : Array Value} {h : Heap} {a : Addr} {ck : ClassId} {n j : Int32} {vs : List Value} {dv : Value}
theorem gIaload (X : Stand p l e R s m args below meth c T locs cells slots) (hx : p.tables.exec = Jvm.exec) (hZ : Z.Warmed39 s.vm) (eT : T.heap = h) {v : Value} (A : Arv Z h a ck .int n vs dv) (h0 : ¬ j < 0) (h1 : j < n) (hv : vs.getD j.toNatClampNeg dv = v) (hd : decode c.code pc = .ok (.iaload, 1)) (hp : pc + 1 = pc') (k : Goes p e below F T (mkF m pc' ls (v :: st))) : Goes p e below F T (mkF m pc ls (.int j :: .ref a :: st)) := by
  subst hp
  obtain ⟨cl, Ar, q, S, N, H, _⟩ := A
  have hin := inb_of S ⟨h0, h1⟩
  exact Goes.fore (fun t q => X.iaload hx (j := j) (v := v) (by rw [eT]; exact Ar.1) (State.isArrayOf_alike hZ.alike Ar.2.1) Ar.2.2 hin (Has.at H hin hv) (g := mkF m pc ls (.int j :: .ref a :: st)) rfl rfl hd t q) k
theorem gCaload (X : Stand p l e R s m args below meth c T locs cells slots) (hx : p.tables.exec = Jvm.exec) (hZ : Z.Warmed39 s.vm) (eT : T.heap = h) {v : Value} (A : Arv Z h a ck .char n vs dv) (h0 : ¬ j < 0) (h1 : j < n) (hv : vs.getD j.toNatClampNeg dv = v) (hd : decode c.code pc = .ok (.caload, 1)) (hp : pc + 1 = pc') (k : Goes p e below F T (mkF m pc' ls (v :: st))) : Goes p e below F T (mkF m pc ls (.int j :: .ref a :: st)) := by
  subst hp
  obtain ⟨cl, Ar, q, S, N, H, _⟩ := A
  have hin := inb_of S ⟨h0, h1⟩
  exact Goes.fore (fun t q => X.caload hx (j := j) (v := v) (by rw [eT]; exact Ar.1) (State.isArrayOf_alike hZ.alike Ar.2.1) Ar.2.2 hin (Has.at H hin hv) (g := mkF m pc ls (.int j :: .ref a :: st)) rfl rfl hd t q) k
theorem gLaload (X : Stand p l e R s m args below meth c T locs cells slots) (hx : p.tables.exec = Jvm.exec) (hZ : Z.Warmed39 s.vm) (eT : T.heap = h) {v : Value} (A : Arv Z h a ck .long n vs dv) (h0 : ¬ j < 0) (h1 : j < n) (hv : vs.getD j.toNatClampNeg dv = v) (hd : decode c.code pc = .ok (.laload, 1)) (hp : pc + 1 = pc') (k : Goes p e below F T (mkF m pc' ls (v :: st))) : Goes p e below F T (mkF m pc ls (.int j :: .ref a :: st)) := by
  subst hp
  obtain ⟨cl, Ar, q, S, N, H, _⟩ := A
  have hin := inb_of S ⟨h0, h1⟩
  exact Goes.fore (fun t q => X.laload hx (j := j) (v := v) (by rw [eT]; exact Ar.1) (State.isArrayOf_alike hZ.alike Ar.2.1) Ar.2.2 hin (Has.at H hin hv) (g := mkF m pc ls (.int j :: .ref a :: st)) rfl rfl hd t q) k
theorem gBaload (X : Stand p l e R s m args below meth c T locs cells slots) (hx : p.tables.exec = Jvm.exec) (hZ : Z.Warmed39 s.vm) (eT : T.heap = h) {v : Value} (A : Arv Z h a ck .byte n vs dv) (h0 : ¬ j < 0) (h1 : j < n) (hv : vs.getD j.toNatClampNeg dv = v) (hd : decode c.code pc = .ok (.baload, 1)) (hp : pc + 1 = pc') (k : Goes p e below F T (mkF m pc' ls (v :: st))) : Goes p e below F T (mkF m pc ls (.int j :: .ref a :: st)) := by
  subst hp
  obtain ⟨cl, Ar, q, S, N, H, _⟩ := A
  have hin := inb_of S ⟨h0, h1⟩
  exact Goes.fore (fun t q => X.baloadBytes hx (j := j) (v := v) (by rw [eT]; exact Ar.1) (State.isArrayOf_alike hZ.alike Ar.2.1) Ar.2.2 hin (Has.at H hin hv) (g := mkF m pc ls (.int j :: .ref a :: st)) rfl rfl hd t q) k
theorem gAaload (X : Stand p l e R s m args below meth c T locs cells slots) (hx : p.tables.exec = Jvm.exec) (hZ : Z.Warmed39 s.vm) (eT : T.heap = h) {v : Value} {ty : FieldType} (hty : ty.isReference = true) (A : Arv Z h a ck ty n vs dv) (h0 : ¬ j < 0) (h1 : j < n) (hv : vs.getD j.toNatClampNeg dv = v) (hd : decode c.code pc = .ok (.aaload, 1)) (hp : pc + 1 = pc') (k : Goes p e below F T (mkF m pc' ls (v :: st))) : Goes p e below F T (mkF m pc ls (.int j :: .ref a :: st)) := by
  subst hp
  obtain ⟨cl, Ar, q, S, N, H, _⟩ := A
  have hin := inb_of S ⟨h0, h1⟩
  exact Goes.fore (fun t q => X.aaload hx (j := j) (v := v) (by rw [eT]; exact Ar.1) (State.isArrayOf_alike hZ.alike Ar.2.1) hty Ar.2.2 hin (Has.at H hin hv) (g := mkF m pc ls (.int j :: .ref a :: st)) rfl rfl hd t q) k
theorem gArrLen (X : Stand p l e R s m args below meth c T locs cells slots) (hx : p.tables.exec = Jvm.exec) (hZ : Z.Warmed39 s.vm) (eT : T.heap = h) {ty : FieldType} (A : Arv Z h a ck ty n vs dv) (hd : decode c.code pc = .ok (.arraylength, 1)) (hp : pc + 1 = pc') (k : Goes p e below F T (mkF m pc' ls (.int n :: st))) : Goes p e below F T (mkF m pc ls (.ref a :: st)) := by
  subst hp
  obtain ⟨cl, Ar, q, S, N, H, _⟩ := A
  refine Goes.fore (fun t q => X.arraylength hx (by rw [eT]; exact Ar.1) (State.isArrayOf_alike hZ.alike Ar.2.1) (g := mkF m pc ls (.ref a :: st)) rfl rfl hd t q) ?_
  rw [len_of S N]; exact k
theorem gIastore (X : Stand p l e R s m args below meth c T locs cells slots) (hx : p.tables.exec = Jvm.exec) (hZ : Z.Warmed39 s.vm) (eT : T.heap = h) {x : Int32} (A : Arv Z h a ck .int n vs dv) (h0 : ¬ j < 0) (h1 : j < n) (i : Nat) (hj : j.toNatClampNeg = i) (hi : i < vs.length) (hd : decode c.code pc = .ok (.iastore, 1)) (hp : pc + 1 = pc')
    (k : ∀ T' h', Stand p l e R s m args below meth c T' (locs ++ [⟨a, j.toNatClampNeg⟩]) cells slots → T'.heap = h' → Wr h h' a j.toNatClampNeg (.int x) → Arv Z h' a ck .int n (vs.set i (.int x)) dv → Goes p e below F T' (mkF m pc' ls st)) : Goes p e below F T (mkF m pc ls (.int x :: .int j :: .ref a :: st)) := by
  subst hp
  obtain ⟨cl, Ar, q, S, N, H, Gt⟩ := A
  obtain ⟨T', h', X', e', W, st'⟩ := stI X hx hZ eT Ar (j := j) (inb_of S ⟨h0, h1⟩) (g := mkF m pc ls (.int x :: .int j :: .ref a :: st)) rfl rfl hd
  exact Goes.fore st' (k T' h' X' e' W (Arv.set Ar q S N H Gt rfl W i hj hi))
theorem gCastore (X : Stand p l e R s m args below meth c T locs cells slots) (hx : p.tables.exec = Jvm.exec) (hZ : Z.Warmed39 s.vm) (eT : T.heap = h) {x : Int32} (A : Arv Z h a ck .char n vs dv) (h0 : ¬ j < 0) (h1 : j < n) (i : Nat) (hj : j.toNatClampNeg = i) (hi : i < vs.length) (hd : decode c.code pc = .ok (.castore, 1)) (hp : pc + 1 = pc')
    (k : ∀ T' h', Stand p l e R s m args below meth c T' (locs ++ [⟨a, j.toNatClampNeg⟩]) cells slots → T'.heap = h' → Wr h h' a j.toNatClampNeg (.int (nar .char x)) → Arv Z h' a ck .char n (vs.set i (.int (nar .char x))) dv → Goes p e below F T' (mkF m pc' ls st)) : Goes p e below F T (mkF m pc ls (.int x :: .int j :: .ref a :: st)) := by
  subst hp
  obtain ⟨cl, Ar, q, S, N, H, Gt⟩ := A
  obtain ⟨T', h', X', e', W, st'⟩ := stC X hx hZ eT Ar (j := j) (inb_of S ⟨h0, h1⟩) (g := mkF m pc ls (.int x :: .int j :: .ref a :: st)) rfl rfl hd
  exact Goes.fore st' (k T' h' X' e' W (Arv.set Ar q S N H Gt (fits_nar_char _) W i hj hi))
theorem gBastore (X : Stand p l e R s m args below meth c T locs cells slots) (hx : p.tables.exec = Jvm.exec) (hZ : Z.Warmed39 s.vm) (eT : T.heap = h) {x : Int32} (A : Arv Z h a ck .byte n vs dv) (h0 : ¬ j < 0) (h1 : j < n) (i : Nat) (hj : j.toNatClampNeg = i) (hi : i < vs.length) (hd : decode c.code pc = .ok (.bastore, 1)) (hp : pc + 1 = pc')
    (k : ∀ T' h', Stand p l e R s m args below meth c T' (locs ++ [⟨a, j.toNatClampNeg⟩]) cells slots → T'.heap = h' → Wr h h' a j.toNatClampNeg (.int (nar .byte x)) → Arv Z h' a ck .byte n (vs.set i (.int (nar .byte x))) dv → Goes p e below F T' (mkF m pc' ls st)) : Goes p e below F T (mkF m pc ls (.int x :: .int j :: .ref a :: st)) := by
  subst hp
  obtain ⟨cl, Ar, q, S, N, H, Gt⟩ := A
  obtain ⟨T', h', X', e', W, st'⟩ := stB X hx hZ eT Ar (j := j) (inb_of S ⟨h0, h1⟩) (g := mkF m pc ls (.int x :: .int j :: .ref a :: st)) rfl rfl hd
  exact Goes.fore st' (k T' h' X' e' W (Arv.set Ar q S N H Gt (fits_nar_byte _) W i hj hi))
theorem gLastore (X : Stand p l e R s m args below meth c T locs cells slots) (hx : p.tables.exec = Jvm.exec) (hZ : Z.Warmed39 s.vm) (eT : T.heap = h) {x : Int64} (A : Arv Z h a ck .long n vs dv) (h0 : ¬ j < 0) (h1 : j < n) (i : Nat) (hj : j.toNatClampNeg = i) (hi : i < vs.length) (hd : decode c.code pc = .ok (.lastore, 1)) (hp : pc + 1 = pc')
    (k : ∀ T' h', Stand p l e R s m args below meth c T' (locs ++ [⟨a, j.toNatClampNeg⟩]) cells slots → T'.heap = h' → Wr h h' a j.toNatClampNeg (.long x) → Arv Z h' a ck .long n (vs.set i (.long x)) dv → Goes p e below F T' (mkF m pc' ls st)) : Goes p e below F T (mkF m pc ls (.long x :: .int j :: .ref a :: st)) := by
  subst hp
  obtain ⟨cl, Ar, q, S, N, H, Gt⟩ := A
  obtain ⟨T', h', X', e', W, st'⟩ := stJ X hx hZ eT Ar (j := j) (inb_of S ⟨h0, h1⟩) (g := mkF m pc ls (.long x :: .int j :: .ref a :: st)) rfl rfl hd
  exact Goes.fore st' (k T' h' X' e' W (Arv.set Ar q S N H Gt rfl W i hj hi))
theorem gNewP (X : Stand p l e R s m args below meth c T locs cells slots) (hx : p.tables.exec = Jvm.exec) (hZ : Z.Warmed39 s.vm) {aty : ArrayType} (w : (Jvm.Cond.arrayClass (newarray.typeOf aty)).before a0 Z = true) (eT : T.heap = h) (hd : decode c.code pc = .ok (.newarray aty, 2)) (hn : ¬ n < 0) {cap : Nat} (hcap : n.toNatClampNeg ≤ cap) (hb : cap * 8 ≤ 536870912) (hc : cells + 1 ≤ R.cells) (hl : slots + cap ≤ R.slots) (N : Nat) (hp : pc + 2 = pc')
    (k : ∀ T' h' b cA, Stand p l e R s m args below meth c T' locs (cells + 1) (slots + cap) → T'.heap = h' → b = h.size → Ext h h' → Arv Z h' b cA (newarray.typeOf aty) n (List.replicate N (defaultValue (newarray.typeOf aty))) (defaultValue (newarray.typeOf aty)) → Goes p e below F T' (mkF m pc' ls (.ref b :: st))) : Goes p e below F T (mkF m pc ls (.int n :: st)) := by
  subst hp
  obtain ⟨T', h', cA, X', e', E, A, st'⟩ := newP X hx hZ w eT (g := mkF m pc ls (.int n :: st)) rfl hd rfl hn hcap hb hc hl
  exact Goes.fore st' (k T' h' _ cA X' e' rfl E ((Arv.new A hn).pad (pad_rep [] _ N)))
theorem gCast (X : Stand p l e R s m args below meth c T locs cells slots) (hx : p.tables.exec = Jvm.exec) (hZ : Z.Warmed39 s.vm) {own K : String} {i : Nat} (hown : s.vm.findClass own = some m.cls) (w : (Jvm.Cond.classLink own i K).before a0 Z = true) (eT : T.heap = h) (I : Ins Z h a K true) (hd : decode c.code pc = .ok (.checkcast i, 3)) (hp : pc + 3 = pc')
    (k : ∀ T', Stand p l e R s m args below meth c T' locs cells slots → T'.heap = h → Goes p e below F T' (mkF m pc' ls (.ref a :: st))) : Goes p e below F T (mkF m pc ls (.ref a :: st)) := by
  subst hp
  obtain ⟨T', X', e', st'⟩ := castY X hx hZ hown w eT I (g := mkF m pc ls (.ref a :: st)) rfl rfl hd
  exact Goes.fore st' (k T' X' e')
theorem gClone (X : Stand p l e R s m args below meth c T locs cells slots) (hx : p.tables.exec = Jvm.exec) (hZ : Z.Warmed39 s.vm) {own ad : String} {i : Nat} (hown : s.vm.findClass own = some m.cls) (w1 : (Jvm.Cond.methodLink own i ⟨ad, "clone", "()Ljava/lang/Object;"⟩).before a0 Z = true) (w2 : (Jvm.Cond.sameMethod ad "java/lang/Object" "clone" "()Ljava/lang/Object;").before a0 Z = true) (w3 : (Jvm.Cond.native ⟨"java/lang/Object", "clone", "()Ljava/lang/Object;"⟩).before a0 Z = true)
    (w4 : (Jvm.Cond.instanceMethod ⟨"java/lang/Object", "clone", "()Ljava/lang/Object;"⟩).before a0 Z = true) (w5 : (Jvm.Cond.selects ad ⟨ad, "clone", "()Ljava/lang/Object;"⟩ ⟨"java/lang/Object", "clone", "()Ljava/lang/Object;"⟩).before a0 Z = true) (w6 : (Jvm.Cond.castable ad "java/lang/Cloneable").before a0 Z = true) {ty : FieldType}
    (eT : T.heap = h) (A : Arv Z h a ck ty n vs dv) (E : Exa Z h a ad) (hml : ls.size = c.maxLocals) (hd : decode c.code pc = .ok (.invokevirtual i, 3)) (hf : 1 ≤ R.frames) {W cap : Nat} (hW : (st.map fun v => v.category).sum ≤ W) (hlo : W + 14 ≤ R.locals) (hcap : n.toNatClampNeg ≤ cap) (hc : cells + 1 ≤ R.cells) (hsl : slots + cap ≤ R.slots) (hp : pc + 3 = pc')
    (k : ∀ T' h' b, Stand p l e R s m args below meth c T' locs (cells + 1) (slots + cap) → T'.heap = h' → b = h.size → Ext h h' → Arv Z h' b ck ty n vs dv → Exa Z h' b ad → Goes p e below F T' (mkF m pc' ls (.ref b :: st))) : Goes p e below F T (mkF m pc ls (.ref a :: st)) := by
  subst hp
  obtain ⟨T', h', X', e', E', A', Ex, st'⟩ := cloneH X hx hZ hown w1 w2 w3 w4 w5 w6 eT A.arh E (g := mkF m pc ls (.ref a :: st)) rfl hml rfl hd hf (W := W) (cap := cap) (by show 2 * 0 + _ ≤ _; omega) hlo hcap hc hsl
  exact Goes.fore st' (k T' h' _ X' e' rfl E' A' Ex)
theorem gArrCopy (X : Stand p l e R s m args below meth c T locs cells slots) (hx : p.tables.exec = Jvm.exec) (hZ : Z.Warmed39 s.vm) {own : String} {i : Nat} (hown : s.vm.findClass own = some m.cls) (w1 : (Jvm.Cond.methodLink own i Jvm.Stand.acN).before a0 Z = true) (w2 : (Jvm.Cond.native Jvm.Stand.acN).before a0 Z = true) (w3 : (Jvm.Cond.static Jvm.Stand.acN).before a0 Z = true) (w4 : (Jvm.Cond.initialized "java/lang/System").before a0 Z = true) (eT : T.heap = h)
    {b : Addr} {cb : ClassId} {ty : FieldType} {n' sp dp nn : Int32} {vd : List Value} {dd : Value} (A : Arv Z h a ck ty n vs dv) (B : Arv Z h b cb ty n' vd dd) (hty : refKind ty = false) (h1 : ¬ sp < 0) (h2 : ¬ dp < 0) (h3 : ¬ nn < 0) (h4 : sp.toNatClampNeg + nn.toNatClampNeg ≤ n.toNatClampNeg) (h5 : dp.toNatClampNeg + nn.toNatClampNeg ≤ n'.toNatClampNeg) (hl : dp.toNatClampNeg + nn.toNatClampNeg ≤ vd.length) {n0 : Nat} (N : Fr n0 locs) (ge : n0 ≤ b)
    (hml : ls.size = c.maxLocals) (hd : decode c.code pc = .ok (.invokestatic i, 3)) (hp : pc + 3 = pc') (hf : 1 ≤ R.frames) {W : Nat} (hW : (st.map fun v => v.category).sum ≤ W) (hlo : W + (nativeFrameWords "java/lang/System" "arraycopy" 5 + 11) ≤ R.locals)
    (k : ∀ T' h' L, Stand p l e R s m args below meth c T' L cells slots → T'.heap = h' → Fr n0 L → Keep h h' [b] → Arv Z h' b cb ty n' (vd.take dp.toNatClampNeg ++ ((List.range nn.toNatClampNeg).map fun i => vs.getD (sp.toNatClampNeg + i) dv) ++ vd.drop (dp.toNatClampNeg + nn.toNatClampNeg)) dd → Goes p e below F T' (mkF m pc' ls st)) : Goes p e below F T (mkF m pc ls (.int nn :: .int dp :: .ref b :: .int sp :: .ref a :: st)) := by
  subst hp
  obtain ⟨T', h', L, X', e', N', K, A', st'⟩ := cpA X hx hZ hown w1 w2 w3 w4 eT A B (Or.inl ⟨rfl, hty⟩) h1 h2 h3 h4 h5 rfl hl N ge (g := mkF m pc ls (.int nn :: .int dp :: .ref b :: .int sp :: .ref a :: st)) rfl hml rfl hd hf (W := W) (by show 2 * 0 + _ ≤ _; omega) hlo
  exact Goes.fore st' (k T' h' L X' e' N' K A')
theorem gCallP (X : Stand p l e R s m args below meth c T locs cells slots) (hx : p.tables.exec = Jvm.exec) (hZ : Z.Warmed39 s.vm) {y : MethodName} {bytes : ByteArray} {maxL : Nat} {ret : Option FieldType} {rm : Room} {own : String} {i kk : Nat} {Qc : Option Value → Heap → List Loc → Prop} (hown : s.vm.findClass own = some m.cls) (eT : T.heap = h) (hml : ls.size = c.maxLocals) (E : Exa Z h a y.cls)
    (w1 : (Jvm.Cond.methodLink own i y).before a0 Z = true) (w6 : (Jvm.Cond.instanceMethod y).before a0 Z = true) (w5 : (Jvm.Cond.privateMethod y).before a0 Z = true) (wi : (Jvm.Cond.instantiable y.cls kk).before a0 Z = true) (w3 : (Jvm.Cond.initialized y.cls).before a0 Z = true) (w4 : (Jvm.Cond.code y bytes maxL ret).before a0 Z = true) (hy : y.cls ≠ "java/lang/invoke/MethodHandle" ∧ y.cls ≠ "java/lang/invoke/VarHandle")
    {argsL : List Value} {stk : List Value} (hC : Ctr l Z y bytes maxL ret [] rm (.ref a :: argsL).toArray h Qc) (hlen : ∀ sig, parseMethodDescriptor y.desc = some sig → argsL.length = sig.parameters.length) (hd : decode c.code pc = .ok (.invokevirtual i, 3)) (hp : pc + 3 = pc') (hst : stk = argsL.reverse ++ .ref a :: st)
    (hf : rm.frames + 1 ≤ R.frames) {W : Nat} (hW : (st.map fun v => v.category).sum ≤ W) (hlo : W + (maxL + 11) + rm.locals ≤ R.locals) (hce : cells + rm.cells ≤ R.cells) (hsl : slots + rm.slots ≤ R.slots)
    (k : ∀ T' v L, Stand p l e R s m args below meth c T' (locs ++ L) (cells + rm.cells) (slots + rm.slots) → Qc v T'.heap L → Goes p e below F T' (mkF m pc' ls (v.toList ++ st))) : Goes p e below F T (mkF m pc ls stk) := by
  subst hp hst
  obtain ⟨cq, q1, q2⟩ := E.cell
  have hpr : s.PrivateAt y := Cond.privateMethod_at (mvP hZ w5 (args := #[]))
  obtain ⟨cc, kc, hc1, hk1, -, hni, -, -⟩ := Cond.instantiable_spec (mvT (args := args) hZ wi)
  have hsel : (Jvm.Cond.selects y.cls y y).before args s = true := Jvm.Stand.selects_self_of_private hc1 hk1 (Bool.or_eq_false_iff.mp hni).1 hpr (mvT hZ w6) hy
  obtain ⟨v, _, ⟨T', L', k', n'⟩, -, X', ⟨Lc, hQ, l1, y1, z1⟩, st'⟩ := X.privateBack hx (y := y) hown (mvT hZ w1) (mvT hZ w6) hsel hpr (mvT hZ w4) hy (backOf (W := W) hC hZ w4 w3 hf hlo) (g := mkF m pc ls (argsL.reverse ++ .ref a :: st)) rfl hml (Steps.refl _) (a := a) (by rw [eT]; exact q1) q2 (argsL := argsL) (rest := st) hlen rfl (by show 2 * 0 + _ ≤ _; omega) hd (fun _ _ => ⟨rfl, eT, hce, hsl⟩)
  dsimp only [Pt.U, Pt.locs, Pt.cells, Pt.slots] at X' l1 y1 z1 st' hQ
  subst l1 y1 z1
  exact Goes.tr st' (k T' v Lc X' hQ)
theorem gInstY (X : Stand p l e R s m args below meth c T locs cells slots) (hx : p.tables.exec = Jvm.exec) (hZ : Z.Warmed39 s.vm) {own K : String} {i : Nat} (hown : s.vm.findClass own = some m.cls) (w : (Jvm.Cond.classLink own i K).before a0 Z = true) (eT : T.heap = h) (I : Ins Z h a K true) (hd : decode c.code pc = .ok (.instanceof i, 3)) (hp : pc + 3 = pc')
    (k : ∀ T', Stand p l e R s m args below meth c T' locs cells slots → T'.heap = h → Goes p e below F T' (mkF m pc' ls (.int 1 :: st))) : Goes p e below F T (mkF m pc ls (.ref a :: st)) := by
  subst hp
  obtain ⟨T', X', e', st'⟩ := instY X hx hZ hown w eT I (g := mkF m pc ls (.ref a :: st)) rfl rfl hd
  exact Goes.fore st' (k T' X' e')
end OwnArrays
section OwnWide
variable {p : Program} {l : Launch} {e : Env} {R : Room} {s : State} {m : MethodId} {args : Array Value} {below : List Frame} {meth : Method} {c : Code} {T : State} {locs : List Loc} {cells slots : Nat}
variable {F : State → Outcome → Prop} {kc ks : Nat} {Q : Option Value → Heap → List Loc → Prop} {pc pc' : Nat} {ls : Array Slot} {st : List Value} {Z : State} {a0 : Array Value} {h : Heap} {EL : List (String × Nat)} {vm0 : Vm} {k0 : Nat}
/-- it returns, Q holds, the frame is the wide one, and what is booked of the constants EL says its text still -/
def FinH (Z : State) (EL : List (String × Nat)) (s : State) (kc ks : Nat) (Q : Option Value → Heap → List Loc → Prop) (s₂ : State) (o : Outcome) : Prop := ∃ v L, o = .returned v ∧ Q v s₂.heap L ∧ CHr Z EL s.vm s.heap s₂.vm s₂.heap ∧ ReturnedEndW s o s₂ L kc ks
def CtrH (l : Launch) (Z : State) (EL : List (String × Nat)) (SL : List Addr) (y : MethodName) (bytes : ByteArray) (maxL : Nat) (ret : Option FieldType) (ws : List Jvm.Cond) (rm : Room) (as' : Array Value) (h0 : Heap) (Q : Option Value → Heap → List Loc → Prop) : Prop :=
  MetFree l y (head1 (Jvm.Cond.code y bytes maxL ret :: ws) rm) (fun a U => a = as' ∧ Z.Warmed39 U.vm ∧ U.heap = h0 ∧ CHv Z EL U.vm h0 ∧ ∀ x ∈ SL, Safe Z EL U.vm h0 x) (fun _ _ _ _ _ => True) (fun _ U o U' => ∃ v L, o = .returned v ∧ Q v U'.heap L ∧ CHr Z EL U.vm U.heap U'.vm U'.heap ∧ ReturnedEndW U o U' L rm.cells rm.slots)
theorem CtrH.of {SL : List Addr} {y : MethodName} {bytes : ByteArray} {maxL : Nat} {ret : Option FieldType} {ws : List Jvm.Cond} {rm : Room} {as' : Array Value} {h0 : Heap} (hp : plainFor y = true)
    (body : ∀ (p : Program) (e : Env) (s : State) (m : MethodId) (below : List Frame) (meth : Method) (c : Code) (s₁ : State), p.tables.exec = Jvm.exec → (∀ {pc : Nat} {r : Except ClassFile.DecodeError (ClassFile.Instr × Nat)}, ClassFile.decode bytes pc = r → ClassFile.decode c.code pc = r) → c.maxLocals = maxL → meth.sig.returnType = ret → (s.setVm s.vm).vm.findClass y.cls = some m.cls → meth.name = y.name → Z.Warmed39 (s.setVm s.vm).vm → meth.locks = false → Stand p l e rm (s.setVm s.vm) m as' below meth c s₁ [] 0 0 → s₁.heap = h0 → s.Since s.vm 0 → CHr Z EL s.vm s.heap s.vm h0 → (∀ x ∈ SL, Safe Z EL s.vm h0 x) → Goes p e below (FinH Z EL s rm.cells rm.slots Q) s₁ (entryFrame m as' maxL)) :
    CtrH l Z EL SL y bytes maxL ret ws rm as' h0 Q := by
  refine MetFree.of_bodySF hp hisR ?_
  intro p e s m args below meth c s₁ Bd hml hP hK
  obtain ⟨rfl, hZ, hh, hv, hs⟩ := hP
  have X : Stand p l e rm s m args below meth c s₁ [] 0 0 := Stand.of_body Bd
  refine body p e s m below meth c s₁ Bd.exec (fun h2 => hb Bd.bytes h2) hml Bd.returns (findClass_of_methodNamed Bd.named) (name_of_methodNamed Bd.named Bd.method).1 hZ Bd.notSynchronized X (by rw [← hh, Bd.state]; rfl) ((State.WarmedH.refl s).since 0) ?_ hs
  rw [hh]; exact CHr.refl hv
/-- the payer of such a contract; what is asked of the addresses SL goes on to the tables at hand -/
theorem backOfSG {SL : List Addr} {y : MethodName} {bytes : ByteArray} {maxL : Nat} {ret : Option FieldType} {rm : Room} {len W : Nat} {as' : Array Value}
    (hM : CtrH l Z EL SL y bytes maxL ret [] rm as' h Q) (hZ : Z.Warmed39 vm0) (wc : (Jvm.Cond.code y bytes maxL ret).before a0 Z = true) (wz : (Jvm.Cond.initialized y.cls).before a0 Z = true) (hf : rm.frames + 1 ≤ R.frames) (hl : W + (maxL + 11) + rm.locals ≤ R.locals) (hEL : EW Z a0 EL) (H : CHv Z EL vm0 h) (hsl : ∀ x ∈ SL, x < h.size ∧ Safe Z EL vm0 h x) :
    BackS l R p e below (s.setVm vm0) args y len W (fun A a => a = as' ∧ A.U.heap = h ∧ A.cells + rm.cells ≤ R.cells ∧ A.slots + rm.slots ≤ R.slots)
      (fun A _ v B => ∃ L, Q v B.U.heap L ∧ B.locs = A.locs ++ L ∧ B.cells = A.cells + rm.cells ∧ B.slots = A.slots + rm.slots ∧ CHr Z EL vm0 h B.U.vm B.U.heap) :=
  BackS.of_freeW (bytes := bytes) (maxL := maxL) (ret := ret) (E := fun _ first o t L k n => k = rm.cells ∧ n = rm.slots ∧ (∃ v, o = .returned v ∧ Q v t.heap L) ∧ CHr Z EL first.vm first.heap t.vm t.heap) hM hf hl
    (fun m meth c A a Y hp => have hU : Z.Warmed39 A.U.vm := wtrans (s := s.setVm vm0) hZ Y.warmed
      ⟨by show (Jvm.Cond.and _ .tt).before a A.U = true; rw [Cond.before_and, mv hU wc]; rfl, mv hU wc, mv hU wz, hp.2.2.1, hp.2.2.2⟩)
    (fun m meth c A a g mk Y hp => have q := CHv.at Y hZ hEL H
      ⟨hp.1, wtrans (s := s.setVm vm0) hZ Y.warmed, hp.2.1, q.1, fun x hx => q.safe (hsl x hx).1 (hsl x hx).2⟩) (fun _ _ _ _ _ _ _ _ _ => trivial)
    (fun _ _ _ _ ⟨v, L, h1, h2, h3, h4⟩ => ⟨L, _, _, h4, rfl, rfl, ⟨v, h1, h2⟩, h3⟩)
    (fun m meth c A a g mk v t L k n Y hp _ _ ⟨e1, e2, ⟨v', e3, e4⟩, e5⟩ => by
      cases e3; subst e1 e2
      refine ⟨L, e4, rfl, rfl, rfl, (CHv.at Y hZ hEL H).trans ?_⟩
      rw [← hp.2.1]; exact e5)
theorem gLdcO (X : Stand p l e R (s.setVm vm0) m args below meth c T locs cells slots) (hx : p.tables.exec = Jvm.exec) (hZ : Z.Warmed39 (s.setVm vm0).vm) {own text : String} {i : Nat} (hown : (s.setVm vm0).vm.findClass own = some m.cls) (w : (Jvm.Cond.stringLink own i text).before a0 Z = true) (wS : ∀ a ∈ Bundle.stringAtoms, a.before a0 Z = true) (eT : T.heap = h) (hS : s.Since vm0 k0) (hk : k0 ≤ h.size) (hEL : EW Z a0 EL) (H : CHr Z EL s.vm s.heap vm0 h)
    (hd : decode c.code pc = .ok (.ldc i, 2)) (hp : pc + 2 = pc') {n : Nat} (hn : 4 * text.toList.length ≤ n) (hbig : n ≤ 536870912) (hc : cells + 2 ≤ R.cells) (hl : slots + (n + 4) ≤ R.slots)
    (k : ∀ a T' h' k1, Stand p l e R (s.setVm T'.vm) m args below meth c T' locs (cells + 2) (slots + (n + 4)) → T'.heap = h' → Ext h h' → s.Since T'.vm k1 → k1 ≤ h'.size → Z.Warmed39 (s.setVm T'.vm).vm → (s.setVm T'.vm).vm.findClass own = some m.cls → CHr Z EL vm0 h T'.vm h' → CHr Z EL s.vm s.heap T'.vm h' → Goes p e below F T' (mkF m pc' ls (.ref a :: st))) : Goes p e below F T (mkF m pc ls st) := by
  subst hp
  obtain ⟨a, T', h', k1, X', e', E, hS', hk', hZ', ho', hC, -, st'⟩ := ldcOH X hx hZ hown w wS eT hS hk hEL H.1 (g := mkF m pc ls st) rfl hd hn hbig hc hl
  exact Goes.fore st' (k a T' h' k1 X' e' E hS' hk' hZ' ho' hC (H.trans hC))
theorem gLdcC (X : Stand p l e R (s.setVm vm0) m args below meth c T locs cells slots) (hx : p.tables.exec = Jvm.exec) (hZ : Z.Warmed39 (s.setVm vm0).vm) {own text : String} {i : Nat} (hown : (s.setVm vm0).vm.findClass own = some m.cls) (w : (Jvm.Cond.stringLink own i text).before a0 Z = true) (wS : ∀ a ∈ Bundle.stringAtoms, a.before a0 Z = true) (eT : T.heap = h) (hS : s.Since vm0 k0) (hk : k0 ≤ h.size) (hEL : EW Z a0 EL) (hmem : (own, i) ∈ EL) (H : CHr Z EL s.vm s.heap vm0 h)
    {vs : List Value} {z : Int32} (ht : (∀ c ∈ text.toList, c.toNat < 256) ∧ text.toList.map (fun c => Value.int (Jvm.Lit.byteI c.toNat.toUInt16)) = vs) (hz : ¬ z < 0) (hlz : z.toNatClampNeg = vs.length)
    (hd : decode c.code pc = .ok (.ldc i, 2)) (hp : pc + 2 = pc') {n : Nat} (hn : 4 * text.toList.length ≤ n) (hbig : n ≤ 536870912) (hc : cells + 2 ≤ R.cells) (hl : slots + (n + 4) ≤ R.slots)
    (k : ∀ a T' h' k1 b ck, Stand p l e R (s.setVm T'.vm) m args below meth c T' locs (cells + 2) (slots + (n + 4)) → T'.heap = h' → Ext h h' → s.Since T'.vm k1 → k1 ≤ h'.size → Z.Warmed39 (s.setVm T'.vm).vm → (s.setVm T'.vm).vm.findClass own = some m.cls → CHr Z EL vm0 h T'.vm h' → CHr Z EL s.vm s.heap T'.vm h' →
      Exa Z h' a "java/lang/String" → Fld Z h' a "java/lang/String" "coder" "B" (.int 0) → Fld Z h' a "java/lang/String" "value" "[B" (.ref b) → Arv Z h' b ck .byte z vs (.int 0) → (∀ x, Safe Z EL T'.vm h' x → x ≠ a ∧ x ≠ b) → Goes p e below F T' (mkF m pc' ls (.ref a :: st))) : Goes p e below F T (mkF m pc ls st) := by
  subst hp
  obtain ⟨a, T', h', k1, b, ck, X', e', E, hS', hk', hZ', ho', Ex, Fc, Fv, A, -, -, hC, -, hsafe, st'⟩ := ldcCH X hx hZ hown w wS eT hS hk hEL hmem H.1 ht hz hlz (g := mkF m pc ls st) rfl hd hn hbig hc hl
  exact Goes.fore st' (k a T' h' k1 b ck X' e' E hS' hk' hZ' ho' hC (H.trans hC) Ex Fc Fv A hsafe)
theorem gRetH0 {v : Option Value} (X : Stand p l e R (s.setVm vm0) m args below meth c T locs cells slots) (hx : p.tables.exec = Jvm.exec) (hlk : meth.locks = false) (hv : meth.sig.returnType = none → v = none) (eT : T.heap = h) (hS : s.Since vm0 k0) (hk : k0 ≤ h.size) (hZ : Z.Warmed39 (s.setVm vm0).vm) (hEL : EW Z a0 EL) (H : CHr Z EL s.vm s.heap vm0 h) (hkc : cells ≤ kc) (hks : slots ≤ ks) (hq : Q v T.heap locs) {g : JFrame}
    (k : ∀ fs, (∀ (f : JFrame) (acts : List Action), f.method = m → f.locked = none → f.entered = [] → (doReturn e (T.setTop f) acts v).1 = T.setFrames fs) → Steps p.tables e below (T.setTop g) (T.setFrames fs)) : Goes p e below (FinH Z EL s kc ks Q) T g := by
  obtain ⟨fs, hr, hrun, hended, hW⟩ := X.leaveW hS (by rw [eT]; exact hk) hv hlk
  refine ⟨_, _, k fs hr, hrun, hended, _, _, rfl, hq, ?_, hW.1, hW.2.1, hW.2.2.1, hW.2.2.2.mono hkc hks⟩
  have q := CHv.at X hZ hEL H.1
  have e2 : (T.setFrames fs).heap = h := eT
  rw [e2]
  exact H.trans q
theorem gRetHN (X : Stand p l e R (s.setVm vm0) m args below meth c T locs cells slots) (hx : p.tables.exec = Jvm.exec) (hlk : meth.locks = false) {t : FieldType} (hret : meth.sig.returnType = some t) (ht : t = .boolean ∨ t = .byte ∨ t = .char ∨ t = .short) {z w : Int32} (hd : decode c.code pc = .ok (.ireturn, 1)) (hw : nar t z = w) (eT : T.heap = h) (hS : s.Since vm0 k0) (hk : k0 ≤ h.size) (hZ : Z.Warmed39 (s.setVm vm0).vm) (hEL : EW Z a0 EL) (H : CHr Z EL s.vm s.heap vm0 h) (hkc : cells ≤ kc) (hks : slots ≤ ks) (hq : Q (some (.int w)) T.heap locs) : Goes p e below (FinH Z EL s kc ks Q) T (mkF m pc ls (.int z :: st)) := by
  subst hw
  exact gRetH0 X hx hlk (fun h => by rw [hret] at h; cases h) eT hS hk hZ hEL H hkc hks hq fun fs hr => retN X hx hret ht hd hr
theorem gRetHV (X : Stand p l e R (s.setVm vm0) m args below meth c T locs cells slots) (hx : p.tables.exec = Jvm.exec) (hlk : meth.locks = false) (hret : meth.sig.returnType = none) (hd : decode c.code pc = .ok (.return_, 1)) (eT : T.heap = h) (hS : s.Since vm0 k0) (hk : k0 ≤ h.size) (hZ : Z.Warmed39 (s.setVm vm0).vm) (hEL : EW Z a0 EL) (H : CHr Z EL s.vm s.heap vm0 h) (hkc : cells ≤ kc) (hks : slots ≤ ks) (hq : Q none T.heap locs) : Goes p e below (FinH Z EL s kc ks Q) T (mkF m pc ls []) :=
  gRetH0 X hx hlk (fun _ => rfl) eT hS hk hZ hEL H hkc hks hq fun fs hr => X.returnOut hx hret hd hr
theorem gRetHA (X : Stand p l e R (s.setVm vm0) m args below meth c T locs cells slots) (hx : p.tables.exec = Jvm.exec) (hlk : meth.locks = false) {t : FieldType} (hret : meth.sig.returnType = some t) (ht : t.isReference = true) {v : Value} (hv : v.isRef = true) (hd : decode c.code pc = .ok (.areturn, 1)) (eT : T.heap = h) (hS : s.Since vm0 k0) (hk : k0 ≤ h.size) (hZ : Z.Warmed39 (s.setVm vm0).vm) (hEL : EW Z a0 EL) (H : CHr Z EL s.vm s.heap vm0 h) (hkc : cells ≤ kc) (hks : slots ≤ ks) (hq : Q (some v) T.heap locs) : Goes p e below (FinH Z EL s kc ks Q) T (mkF m pc ls (v :: st)) :=
  gRetH0 X hx hlk (fun h => by rw [hret] at h; cases h) eT hS hk hZ hEL H hkc hks hq fun fs hr => retOut X hx hret (by cases t <;> first | rfl | cases ht) (Or.inr (Or.inr (Or.inr (Or.inr ⟨rfl, ht, hv⟩)))) hd hr
theorem gCallSH (X : Stand p l e R (s.setVm vm0) m args below meth c T locs cells slots) (hx : p.tables.exec = Jvm.exec) (hZ : Z.Warmed39 (s.setVm vm0).vm) {y : MethodName} {bytes : ByteArray} {maxL : Nat} {ret : Option FieldType} {rm : Room} {own : String} {i : Nat} {Qc : Option Value → Heap → List Loc → Prop} (hown : (s.setVm vm0).vm.findClass own = some m.cls) (eT : T.heap = h) (hml : ls.size = c.maxLocals) (hS : s.Since vm0 k0) (hk : k0 ≤ h.size) (hEL : EW Z a0 EL) (H : CHr Z EL s.vm s.heap vm0 h)
    (w1 : (Jvm.Cond.methodLink own i y).before a0 Z = true) (w2 : (Jvm.Cond.static y).before a0 Z = true) (w3 : (Jvm.Cond.initialized y.cls).before a0 Z = true) (w4 : (Jvm.Cond.code y bytes maxL ret).before a0 Z = true) (hy : y.cls ≠ "java/lang/invoke/MethodHandle" ∧ y.cls ≠ "java/lang/invoke/VarHandle")
    {SL : List Addr} (hsf : ∀ x ∈ SL, x < h.size ∧ Safe Z EL vm0 h x) {argsL : List Value} {stk : List Value} (hC : CtrH l Z EL SL y bytes maxL ret [] rm argsL.toArray h Qc) (hlen : ∀ sig, parseMethodDescriptor y.desc = some sig → argsL.length = sig.parameters.length) (hd : decode c.code pc = .ok (.invokestatic i, 3)) (hp : pc + 3 = pc') (hst : stk = argsL.reverse ++ st)
    (hf : rm.frames + 1 ≤ R.frames) {W : Nat} (hW : (st.map fun v => v.category).sum ≤ W) (hlo : W + (maxL + 11) + rm.locals ≤ R.locals) (hce : cells + rm.cells ≤ R.cells) (hsl : slots + rm.slots ≤ R.slots)
    (k : ∀ T' v L, Stand p l e R (s.setVm T'.vm) m args below meth c T' (locs ++ L) (cells + rm.cells) (slots + rm.slots) → s.Since T'.vm T'.heap.size → Z.Warmed39 (s.setVm T'.vm).vm → (s.setVm T'.vm).vm.findClass own = some m.cls → CHr Z EL vm0 h T'.vm T'.heap → CHr Z EL s.vm s.heap T'.vm T'.heap → Qc v T'.heap L → Goes p e below F T' (mkF m pc' ls (v.toList ++ st))) : Goes p e below F T (mkF m pc ls stk) := by
  subst hp hst
  obtain ⟨v, vm1, ⟨T', L', k', n'⟩, -, X', hS', hg', ⟨Lc, hQ, l1, y1, z1, hC2⟩, st'⟩ := callSS X hx (y := y) hown (mvT (s := s.setVm vm0) hZ w1) (mvT (s := s.setVm vm0) hZ w2) (mvT (s := s.setVm vm0) hZ w3) (mvT (s := s.setVm vm0) hZ w4) hy (backOfSG (s := s) (W := W) hC hZ w4 w3 hf hlo hEL H.1 hsf) (g := mkF m pc ls (argsL.reverse ++ st)) rfl hml (argsL := argsL) (rest := st) hlen rfl (by show 2 * 0 + _ ≤ _; omega) hd (fun _ _ => ⟨rfl, eT, hce, hsl⟩)
  dsimp only [Pt.U, Pt.locs, Pt.cells, Pt.slots] at X' l1 y1 z1 st' hQ hS' hg' hC2
  subst l1 y1 z1
  exact Goes.tr st' (k T' v Lc X' (foldS hS (by rw [eT]; exact hk) hS' hg') (State.Warmed39.trans (t := s.setVm vm0) hZ hS'.1) (by rw [show (s.setVm T'.vm).vm = T'.vm from rfl, hS'.1.alike.findClass]; exact hown) hC2 (H.trans hC2) hQ)
theorem gCallVH (X : Stand p l e R (s.setVm vm0) m args below meth c T locs cells slots) (hx : p.tables.exec = Jvm.exec) (hZ : Z.Warmed39 (s.setVm vm0).vm) {y : MethodName} {bytes : ByteArray} {maxL : Nat} {ret : Option FieldType} {rm : Room} {own : String} {i : Nat} {Qc : Option Value → Heap → List Loc → Prop} {C : String} {a : Addr} (hown : (s.setVm vm0).vm.findClass own = some m.cls) (eT : T.heap = h) (hml : ls.size = c.maxLocals) (hS : s.Since vm0 k0) (hk : k0 ≤ h.size) (hEL : EW Z a0 EL) (H : CHr Z EL s.vm s.heap vm0 h) (E : Exa Z h a C)
    (w1 : (Jvm.Cond.methodLink own i y).before a0 Z = true) (w2 : (Jvm.Cond.declares y).before a0 Z = true) (w5 : (Jvm.Cond.selects C y y).before a0 Z = true) (w6 : (Jvm.Cond.instanceMethod y).before a0 Z = true) (w3 : (Jvm.Cond.initialized y.cls).before a0 Z = true) (w4 : (Jvm.Cond.code y bytes maxL ret).before a0 Z = true) (hy : y.cls ≠ "java/lang/invoke/MethodHandle" ∧ y.cls ≠ "java/lang/invoke/VarHandle")
    {SL : List Addr} (hsf : ∀ x ∈ SL, x < h.size ∧ Safe Z EL vm0 h x) {argsL : List Value} {stk : List Value} (hC : CtrH l Z EL SL y bytes maxL ret [] rm (.ref a :: argsL).toArray h Qc) (hlen : ∀ sig, parseMethodDescriptor y.desc = some sig → argsL.length = sig.parameters.length) (hd : decode c.code pc = .ok (.invokevirtual i, 3)) (hp : pc + 3 = pc') (hst : stk = argsL.reverse ++ .ref a :: st)
    (hf : rm.frames + 1 ≤ R.frames) {W : Nat} (hW : (st.map fun v => v.category).sum ≤ W) (hlo : W + (maxL + 11) + rm.locals ≤ R.locals) (hce : cells + rm.cells ≤ R.cells) (hsl : slots + rm.slots ≤ R.slots)
    (k : ∀ T' v L, Stand p l e R (s.setVm T'.vm) m args below meth c T' (locs ++ L) (cells + rm.cells) (slots + rm.slots) → s.Since T'.vm T'.heap.size → Z.Warmed39 (s.setVm T'.vm).vm → (s.setVm T'.vm).vm.findClass own = some m.cls → CHr Z EL vm0 h T'.vm T'.heap → CHr Z EL s.vm s.heap T'.vm T'.heap → Qc v T'.heap L → Goes p e below F T' (mkF m pc' ls (v.toList ++ st))) : Goes p e below F T (mkF m pc ls stk) := by
  subst hp hst
  obtain ⟨cq, kq, qa, qb, qc⟩ := isOf (s := s.setVm vm0) hZ eT E
  obtain ⟨v, vm1, ⟨T', L', k', n'⟩, -, X', hS', hg', ⟨Lc, hQ, l1, y1, z1, hC2⟩, st'⟩ := X.virtualBackS hx (y := y) (z := y) hown (mvT (s := s.setVm vm0) hZ w1) (mvT (s := s.setVm vm0) hZ w2) (notFace_of_selects (args := #[]) (mvT (s := s.setVm vm0) hZ w5)) (mvT (s := s.setVm vm0) hZ w5) (mvT (s := s.setVm vm0) hZ w6) hy (backOfSG (s := s) (W := W) hC hZ w4 w3 hf hlo hEL H.1 hsf) qa qc (g := mkF m pc ls (argsL.reverse ++ .ref a :: st)) rfl hml (Steps.refl _) (argsL := argsL) (rest := st) hlen rfl (by show 2 * 0 + _ ≤ _; omega) hd (fun _ _ => ⟨rfl, eT, hce, hsl⟩)
  dsimp only [Pt.U, Pt.locs, Pt.cells, Pt.slots] at X' l1 y1 z1 st' hQ hS' hg' hC2
  subst l1 y1 z1
  exact Goes.tr st' (k T' v Lc X' (foldS hS (by rw [eT]; exact hk) hS' hg') (State.Warmed39.trans (t := s.setVm vm0) hZ hS'.1) (by rw [show (s.setVm T'.vm).vm = T'.vm from rfl, hS'.1.alike.findClass]; exact hown) hC2 (H.trans hC2) hQ)
theorem gCallIH (X : Stand p l e R (s.setVm vm0) m args below meth c T locs cells slots) (hx : p.tables.exec = Jvm.exec) (hZ : Z.Warmed39 (s.setVm vm0).vm) {y : MethodName} {bytes : ByteArray} {maxL : Nat} {rm : Room} {own : String} {i : Nat} {Qc : Option Value → Heap → List Loc → Prop} {a : Addr} (hy1 : y.name = "<init>") (hown : (s.setVm vm0).vm.findClass own = some m.cls) (eT : T.heap = h) (hml : ls.size = c.maxLocals) (hS : s.Since vm0 k0) (hk : k0 ≤ h.size) (hEL : EW Z a0 EL) (H : CHr Z EL s.vm s.heap vm0 h)
    (w1 : (Jvm.Cond.methodLink own i y).before a0 Z = true) (w2 : (Jvm.Cond.instanceMethod y).before a0 Z = true) (w3 : (Jvm.Cond.initialized y.cls).before a0 Z = true) (w4 : (Jvm.Cond.code y bytes maxL none).before a0 Z = true) (hy : y.cls ≠ "java/lang/invoke/MethodHandle" ∧ y.cls ≠ "java/lang/invoke/VarHandle")
    {SL : List Addr} (hsf : ∀ x ∈ SL, x < h.size ∧ Safe Z EL vm0 h x) {argsL : List Value} {stk : List Value} (hC : CtrH l Z EL SL y bytes maxL none [] rm (.ref a :: argsL).toArray h Qc) (hlen : ∀ sig, parseMethodDescriptor y.desc = some sig → argsL.length = sig.parameters.length) (hd : decode c.code pc = .ok (.invokespecial i, 3)) (hp : pc + 3 = pc') (hst : stk = argsL.reverse ++ .ref a :: st)
    (hf : rm.frames + 1 ≤ R.frames) {W : Nat} (hW : (st.map fun v => v.category).sum ≤ W) (hlo : W + (maxL + 11) + rm.locals ≤ R.locals) (hce : cells + rm.cells ≤ R.cells) (hsl : slots + rm.slots ≤ R.slots)
    (k : ∀ T' v L, Stand p l e R (s.setVm T'.vm) m args below meth c T' (locs ++ L) (cells + rm.cells) (slots + rm.slots) → s.Since T'.vm T'.heap.size → Z.Warmed39 (s.setVm T'.vm).vm → (s.setVm T'.vm).vm.findClass own = some m.cls → CHr Z EL vm0 h T'.vm T'.heap → CHr Z EL s.vm s.heap T'.vm T'.heap → Qc v T'.heap L → Goes p e below F T' (mkF m pc' ls (v.toList ++ st))) : Goes p e below F T (mkF m pc ls stk) := by
  subst hp hst
  obtain ⟨v, vm1, ⟨T', L', k', n'⟩, -, X', hS', hg', ⟨Lc, hQ, l1, y1, z1, hC2⟩, st'⟩ := X.specialBackS hx (y := y) hy1 hown (mvT (s := s.setVm vm0) hZ w1) (mvT (s := s.setVm vm0) hZ w2) (mvT (s := s.setVm vm0) hZ w4) hy (backOfSG (s := s) (W := W) hC hZ w4 w3 hf hlo hEL H.1 hsf) (g := mkF m pc ls (argsL.reverse ++ .ref a :: st)) rfl hml (Steps.refl _) (a := a) (argsL := argsL) (rest := st) hlen rfl (by show 2 * 0 + _ ≤ _; omega) hd (fun _ _ => ⟨rfl, eT, hce, hsl⟩)
  dsimp only [Pt.U, Pt.locs, Pt.cells, Pt.slots] at X' l1 y1 z1 st' hQ hS' hg' hC2
  subst l1 y1 z1
  exact Goes.tr st' (k T' v Lc X' (foldS hS (by rw [eT]; exact hk) hS' hg') (State.Warmed39.trans (t := s.setVm vm0) hZ hS'.1) (by rw [show (s.setVm T'.vm).vm = T'.vm from rfl, hS'.1.alike.findClass]; exact hown) hC2 (H.trans hC2) hQ)
theorem sl0 : ∀ x ∈ ([] : List Addr), x < h.size ∧ Safe Z EL vm0 h x := fun _ q => nomatch q
theorem sl1 {x : Addr} (q : x < h.size) (r : Safe Z EL vm0 h x) : ∀ y ∈ [x], y < h.size ∧ Safe Z EL vm0 h y := fun y z => by cases List.mem_singleton.mp z; exact ⟨q, r⟩
end OwnWide
theorem own_i2c (x : Int32) : x.toUInt32.toUInt16.toUInt32.toInt32 = x &&& 65535 := by
  apply Int32.toBitVec_inj.mp
  apply BitVec.eq_of_toNat_eq
  simp [BitVec.toNat_and]
  rw [show (65535 : Nat) = 2 ^ 16 - 1 from rfl, Nat.and_two_pow_sub_one_eq_mod]
theorem own_mask (x : Int32) : (x &&& 65535).toInt = x.toInt % 65536 := Jvm.Kit.i32_mask x 65535 (k := 16) (by decide) (by decide)
/-- compact strings are on -/
def Cpt (Z : State) (h : Heap) : Prop := ∃ cz : Int32, Sta Z h "java/lang/String" "COMPACT_STRINGS" "Z" (.int cz) ∧ ¬ cz.toInt = 0
theorem Cpt.ext {Z : State} {h h' : Heap} (E : Ext h h') (Fa : Cpt Z h) : Cpt Z h' := by obtain ⟨a, b, c⟩ := Fa; exact ⟨a, b.ext E, c⟩
theorem Cpt.wr {Z : State} {h h' : Heap} {a : Addr} {sl : Nat} {v : Value} (W : Wr h h' a sl v) (Fa : Cpt Z h) : Cpt Z h' := by obtain ⟨a, b, c⟩ := Fa; exact ⟨a, b.wr W, c⟩
theorem own_sta_keep {Z : State} {h h' : Heap} {C n d : String} {v : Value} {ws : List Addr} (Fa : Sta Z h C n d v) (K : Keep h h' ws) (q : ∀ x ∈ ws, ∀ cell : Cell, h[x]? = some cell → cell.vm.isStatics = false) : Sta Z h' C n d v := by
  obtain ⟨cf, i, k, f, st, cell, h1, h2, h3, h4, h5, h6, h7⟩ := Fa
  refine ⟨cf, i, k, f, st, cell, h1, h2, h3, h4, K.2.1 _ _ h5 (fun hm => ?_), h6, h7⟩
  have := q _ hm _ h5
  rw [h6] at this; cases this
theorem own_cpt_keep {Z : State} {h h' : Heap} {ws : List Addr} (Fa : Cpt Z h) (K : Keep h h' ws) (q : ∀ x ∈ ws, ∀ cell : Cell, h[x]? = some cell → cell.vm.isStatics = false) : Cpt Z h' := by
  obtain ⟨a, b, c⟩ := Fa; exact ⟨a, own_sta_keep b K q, c⟩
def Sio (Z : State) (h : Heap) : Prop := ∃ sf : Value, Sta Z h "jdk/internal/util/Preconditions" "SIOOBE_FORMATTER" "Ljava/util/function/BiFunction;" sf ∧ sf.isRef = true
theorem Sio.ext {Z : State} {h h' : Heap} (E : Ext h h') (Fa : Sio Z h) : Sio Z h' := by obtain ⟨a, b, c⟩ := Fa; exact ⟨a, b.ext E, c⟩
theorem Sio.wr {Z : State} {h h' : Heap} {a : Addr} {sl : Nat} {v : Value} (W : Wr h h' a sl v) (Fa : Sio Z h) : Sio Z h' := by obtain ⟨a, b, c⟩ := Fa; exact ⟨a, b.wr W, c⟩
theorem own_sio_keep {Z : State} {h h' : Heap} {ws : List Addr} (Fa : Sio Z h) (K : Keep h h' ws) (q : ∀ x ∈ ws, ∀ cell : Cell, h[x]? = some cell → cell.vm.isStatics = false) : Sio Z h' := by
  obtain ⟨a, b, c⟩ := Fa; exact ⟨a, own_sta_keep b K q, c⟩
theorem own_nb (x : Int32) : nar .byte x.toInt8.toInt32 = x.toInt8.toInt32 := by simp [nar]
theorem own_nc {c : Int32} (h : 0 ≤ c.toInt ∧ c.toInt ≤ 65535) : nar .char c = c := by
  show c.toUInt32.toUInt16.toUInt32.toInt32 = c
  rw [own_i2c]
  apply Int32.toInt_inj.mp
  rw [own_mask]; omega
theorem own_c8 {c : Int32} (h : 0 ≤ c.toInt ∧ c.toInt ≤ 255) : 0 ≤ c.toInt ∧ c.toInt ≤ 65535 := by omega
theorem own_mask8 (x : Int32) : (x &&& 255).toInt = x.toInt % 256 := Jvm.Kit.i32_mask x 255 (k := 8) (by decide) (by decide)
theorem own_b8 {c : Int32} : c.toInt8.toInt32.toInt = c.toInt.bmod 256 := by simp
theorem own_ch {c : Int32} (h : 0 ≤ c.toInt ∧ c.toInt ≤ 255) : (c.toInt8.toInt32 &&& 255).toUInt32.toUInt16.toUInt32.toInt32 = c := by
  rw [own_i2c]
  apply Int32.toInt_inj.mp
  rw [own_mask, own_mask8, own_b8, Int.bmod_def]; split <;> omega
theorem own_binj {a b : Int32} (ha : 0 ≤ a.toInt ∧ a.toInt ≤ 255) (hb : 0 ≤ b.toInt ∧ b.toInt ≤ 255) : a.toInt8.toInt32 = b.toInt8.toInt32 ↔ a.toInt = b.toInt := by
  constructor
  · intro q
    have := own_ch ha; rw [q, own_ch hb] at this; rw [this]
  · intro q; rw [Int32.toInt_inj.mp q]
abbrev rg (c : Int32) : Prop := 0 ≤ c.toInt ∧ c.toInt ≤ 255
abbrev sE (Z : State) (h : Heap) (a : Addr) : Prop := Exa Z h a "java/lang/String"
abbrev sC (Z : State) (h : Heap) (a : Addr) : Prop := Fld Z h a "java/lang/String" "coder" "B" (.int 0)
abbrev sV (Z : State) (h : Heap) (a t : Addr) : Prop := Fld Z h a "java/lang/String" "value" "[B" (.ref t)
abbrev sA (Z : State) (h : Heap) (t : Addr) (ck : ClassId) (n : Int32) (vs : List Value) : Prop := Arv Z h t ck .byte n vs (.int 0)
def SQd (Z : State) (h0 : Heap) (n : Int32) (vs : List Value) (v : Option Value) (h : Heap) (L : List Loc) : Prop := ∃ (a t : Addr) (ct : ClassId), v = some (.ref a) ∧ Fr h0.size L ∧ Keep h0 h [] ∧ sE Z h a ∧ sC Z h a ∧ sV Z h a t ∧ sA Z h t ct n vs
abbrev by8 (c : Int32) : Value := .int c.toInt8.toInt32
theorem own_beq {c : Int32} (h : 0 ≤ c.toInt ∧ c.toInt ≤ 255) {k : Int} (hk : 0 ≤ k ∧ k ≤ 127) : c.toInt8.toInt32.toInt = k ↔ c.toInt = k := by
  rw [own_b8, Int.bmod_def]; split <;> omega
theorem own_char (x : Int32) : 0 ≤ ((x &&& 255).toUInt32.toUInt16.toUInt32.toInt32).toInt ∧ ((x &&& 255).toUInt32.toUInt16.toUInt32.toInt32).toInt ≤ 255 := by
  rw [own_i2c, own_mask, own_mask8]; omega
theorem own_rem (x : Int32) : (x &&& 2147483647) % 6 = 0 ∨ (x &&& 2147483647) % 6 = 1 ∨ (x &&& 2147483647) % 6 = 2 ∨ (x &&& 2147483647) % 6 = 3 ∨ (x &&& 2147483647) % 6 = 4 ∨ (x &&& 2147483647) % 6 = 5 := by
  have e1 : (x &&& 2147483647).toInt = x.toInt % 2 ^ 31 := Jvm.Kit.i32_mask x 2147483647 (by decide) (by decide)
  have e2 : ((x &&& 2147483647) % 6).toInt = (x &&& 2147483647).toInt % 6 := Jvm.Kit.i32_rem_nonneg (by omega)
  simp only [← Int32.toInt_inj, e2]
  have t0 : (0 : Int32).toInt = 0 := rfl
  have t1 : (1 : Int32).toInt = 1 := rfl
  have t2 : (2 : Int32).toInt = 2 := rfl
  have t3 : (3 : Int32).toInt = 3 := rfl
  have t4 : (4 : Int32).toInt = 4 := rfl
  have t5 : (5 : Int32).toInt = 5 := rfl
  omega
theorem d24_0 : decode method_2_code 0 = .ok (.iload_n 0, 1) := by decide +kernel
theorem d24_1 : decode method_2_code 1 = .ok (.iload_n 1, 1) := by decide +kernel
theorem d24_2 : decode method_2_code 2 = .ok (.ishr, 1) := by decide +kernel
theorem d24_3 : decode method_2_code 3 = .ok (.iconst 1, 1) := by decide +kernel
theorem d24_4 : decode method_2_code 4 = .ok (.iand, 1) := by decide +kernel
theorem d24_5 : decode method_2_code 5 = .ok (.ifCond .eq 8, 3) := by decide +kernel
theorem d24_13 : decode method_2_code 13 = .ok (.iload_n 2, 1) := by decide +kernel
theorem d24_14 : decode method_2_code 14 = .ok (.sipush 255, 3) := by decide +kernel
theorem d24_17 : decode method_2_code 17 = .ok (.iand, 1) := by decide +kernel
theorem d24_18 : decode method_2_code 18 = .ok (.i2c, 1) := by decide +kernel
theorem d24_19 : decode method_2_code 19 = .ok (.ireturn, 1) := by decide +kernel
theorem d24_8 : decode method_2_code 8 = .ok (.bipush 47, 2) := by decide +kernel
theorem d24_10 : decode method_2_code 10 = .ok (.goto 9, 3) := by decide +kernel
abbrev mn1 : MethodName := ⟨"com/example/guildhall/guildhall/FqanParentOfPinLaw", "ch", "(III)C"⟩
theorem pn_1 : plainName "com/example/guildhall/guildhall/FqanParentOfPinLaw" = true := by first | (simp [plainName, overriddenIn]; done) | decide +kernel
theorem c_ch (l : Launch) (Z : State) (a0 : Array Value) (hw : ∀ d ∈ tables_1, d.before a0 Z = true) (p0 p1 p2 : Int32) (h0 : Heap)  :
    Ctr l Z mn1 method_2_code 3 (some .char) [] ⟨0, 0, 0, 0⟩ #[(.int p0), (.int p1), (.int p2)] h0 (fun v h L => ∃ z : Int32, v = some (.int z) ∧ rg z ∧ h = h0 ∧ L = []) := by
  refine Ctr.of (plainFor_of_name pn_1) ?_
  intro p e s m below meth c s₁ hx H hml hret hown hnm hZ hlk X0 e0
  refine Goes.cast (show entryFrame m _ _ = mkF m 0 #[.val (.int p0), .val (.int p1), .val (.int p2)] [] from rfl) ?_
  refine gLoadIN 1 X0 hx (H d24_0) rfl rfl ?_
  refine gLoadIN 2 X0 hx (H d24_1) rfl rfl ?_
  refine gIshr 3 X0 hx (H d24_2) rfl ?_
  refine gIconst 4 X0 hx (v := (1 : Int32)) (H d24_3) rfl rfl ?_
  refine gIand 5 X0 hx (H d24_4) rfl ?_
  refine gIfEqT X0 hx (H d24_5) (pc' := 13) (by decide) (by decide) (pn := 8) rfl (fun (c5 : ((p0 >>> (p1 &&& 31)) &&& (1 : Int32)).toInt = (0 : Int)) => ?_) (fun (c5 : ¬ ((p0 >>> (p1 &&& 31)) &&& (1 : Int32)).toInt = (0 : Int)) => ?_)
  · refine gLoadIN 14 X0 hx (H d24_13) rfl rfl ?_
    refine gSipush 17 X0 hx (v := (255 : Int32)) (H d24_14) rfl rfl ?_
    refine gIand 18 X0 hx (H d24_17) rfl ?_
    refine gI2c 19 X0 hx (H d24_18) rfl ?_
    generalize hg_z : ((p2 &&& (255 : Int32)).toUInt32.toUInt16.toUInt32.toInt32) = z
    have hz : rg z := by rw [← hg_z]; exact own_char _
    exact gRetN X0 hx hlk hret (by simp) (H d24_19) (w := z) (own_nc (own_c8 hz)) (by decide) (by decide) (⟨_, rfl, hz, e0, rfl⟩)
  · refine gBipush 10 X0 hx (v := (47 : Int32)) (H d24_8) rfl rfl ?_
    refine gGoto X0 hx (H d24_10) (pc' := 19) (by decide) (by decide) ?_
    exact gRetN X0 hx hlk hret (by simp) (H d24_19) (w := (47 : Int32)) rfl (by decide) (by decide) (⟨_, rfl, by decide, e0, rfl⟩)
theorem d3_0 : decode jdk_42_method_149_code 0 = .ok (.aload_n 0, 1) := by decide +kernel
theorem d3_1 : decode jdk_42_method_149_code 1 = .ok (.invokespecial 1, 3) := by decide +kernel
theorem d3_4 : decode jdk_42_method_149_code 4 = .ok (.iload_n 3, 1) := by decide +kernel
theorem d3_5 : decode jdk_42_method_149_code 5 = .ok (.ifCond .ne 22, 3) := by decide +kernel
theorem d3_8 : decode jdk_42_method_149_code 8 = .ok (.aload_n 0, 1) := by decide +kernel
theorem d3_9 : decode jdk_42_method_149_code 9 = .ok (.ldc 7, 2) := by decide +kernel
theorem d3_11 : decode jdk_42_method_149_code 11 = .ok (.getfield 9, 3) := by decide +kernel
theorem d3_14 : decode jdk_42_method_149_code 14 = .ok (.putfield 9, 3) := by decide +kernel
theorem d3_17 : decode jdk_42_method_149_code 17 = .ok (.aload_n 0, 1) := by decide +kernel
theorem d3_18 : decode jdk_42_method_149_code 18 = .ok (.ldc 7, 2) := by decide +kernel
theorem d3_20 : decode jdk_42_method_149_code 20 = .ok (.getfield 15, 3) := by decide +kernel
theorem d3_23 : decode jdk_42_method_149_code 23 = .ok (.putfield 15, 3) := by decide +kernel
theorem d3_26 : decode jdk_42_method_149_code 26 = .ok (.return_, 1) := by decide +kernel
abbrev mn8 : MethodName := ⟨"java/lang/String", "<init>", "([CIILjava/lang/Void;)V"⟩
theorem pn_4 : plainName "java/lang/String" = true := by first | (simp [plainName, overriddenIn]; done) | decide +kernel
theorem c_sinit_0v (l : Launch) (Z : State) (a0 : Array Value) (hw : ∀ d ∈ tables_1, d.before a0 Z = true) (a x : Addr) (cx : ClassId) (n0 : Nat) (h0 : Heap) (hEL : EW Z a0 [("java/lang/String", 7)]) (ga : n0 ≤ a) (E : sE Z h0 a) (C : sC Z h0 a) (V : Fld Z h0 a "java/lang/String" "value" "[B" .null) (A : Arv Z h0 x cx .char 0 [] (.int 0)) :
    CtrH l Z [("java/lang/String", 7)] [a] mn8 jdk_42_method_149_code 6 none [] ⟨2, 4, 8, 37⟩ #[(.ref a), (.ref x), (.int (0 : Int32)), (.int (0 : Int32)), .null] h0 (fun v h L => ∃ (t : Addr) (ct : ClassId), v = none ∧ Fr n0 L ∧ Keep h0 h [a] ∧ sE Z h a ∧ sC Z h a ∧ sV Z h a t ∧ sA Z h t ct 0 []) := by
  refine CtrH.of (plainFor_of_name pn_4) ?_
  intro p e s m below meth c s₁ hx H hml hret hown hnm hZ hlk X0 e0 hS H0 hSafe
  have wS : ∀ a ∈ Bundle.stringAtoms, a.before a0 Z = true := by
    intro d hd
    simp only [Bundle.stringAtoms, Bundle.sN, List.mem_cons, List.not_mem_nil, or_false] at hd
    rcases hd with rfl | rfl | rfl | rfl | rfl | rfl | rfl
    · exact (ow hw 11 rfl)
    · exact (ow hw 10 rfl)
    · exact (ow hw 23 rfl)
    · exact (ow hw 24 rfl)
    · exact (ow hw 25 rfl)
    · exact (ow hw 26 rfl)
    · exact (ow hw 27 rfl)
  refine Goes.cast (show entryFrame m _ _ = mkF m 0 #[.val (.ref a), .val (.ref x), .val (.int (0 : Int32)), .val (.int (0 : Int32)), .val .null, .unset] [] from rfl) ?_
  refine gLoadAN 1 X0 hx (H d3_0) rfl rfl rfl ?_
  refine gInitO X0 hx hZ hown (ow hw 19 rfl) (ow hw 20 rfl) (ow hw 21 rfl) e0 (by rw [hml]; rfl) (H d3_1) (pc' := 4) rfl (by decide) (W := 0) (Nat.le_of_eq rfl) (by decide) (fun T1 X1 e1 => ?_)
  refine gLoadIN 5 X1 hx (H d3_4) rfl rfl ?_
  refine gIfNeT X1 hx (H d3_5) (pc' := 27) (by decide) (by decide) (pn := 8) rfl (fun (c5 : ¬ (0 : Int) = (0 : Int)) => ?_) (fun (c5 : (0 : Int) = (0 : Int)) => ?_)
  · exact absurd c5 (by decide)
  · refine gLoadAN 9 X1 hx (H d3_8) rfl rfl rfl ?_
    refine gLdcC X1 hx hZ hown (ow hw 22 rfl) wS e1 hS (Nat.zero_le _) hEL (by simp) H0 (vs := []) (z := 0) ⟨by decide, by decide⟩ (by decide) (by decide) (H d3_9) (pc' := 11) rfl (n := 0) (by decide) (by decide) (by decide) (by decide) (fun a2 T2 h2 k2 b2 ck2 X2 e2 E2 hS hk2 hZ hown C2 H2 Ex2 Fc2 Fv2 A2 sf2 => ?_)
    have s2_0 := C2.safe E.lt (hSafe _ (by simp))
    have f2_0 := E.ext E2
    have f2_1 := C.ext E2
    have f2_2 := V.ext E2
    have zs2 : h0.size ≤ h2.size := Nat.le_trans (Nat.le_refl _) E2.1
    have K2 : Keep h0 h2 [a] := (Keep.refl h0 [a]).ext E2
    refine gGetF X2 hx hZ hown (ow hw 28 rfl) Via.refl e2 Fv2 (H d3_11) (pc' := 14) rfl (fun T3 X3 e3 => ?_)
    refine gPutF X3 hx hZ hown (ow hw 28 rfl) Via.refl e3 f2_2 f2_0 (Or.inr ⟨(ow hw 24 rfl), rfl, hnm⟩) (ow hw 10 rfl) (ty := (.array .byte)) (by decide) rfl rfl (H d3_14) (pc' := 17) rfl (fun T4 h4 X4 e4 W4 => ?_)
    have S4 := s2_0
    have H4 := H2.trans (CHr.wr W4 S4 H2.1)
    have hk4 := Nat.le_trans hk2 (Nat.le_of_eq W4.size.symm)
    have s4_0 := Safe.wr W4 S4 H2.1 s2_0
    have f4_0 := f2_0.wr W4
    have f4_1 := f2_1.other W4 (Or.inr (slot_ne (Or.inr (ow hw 25 rfl)) (Or.inr (ow hw 24 rfl)) (by decide) (t := .byte) (t' := (.array .byte)) (by decide) (by decide)))
    have f4_2 := f2_2.same W4
    have f4_3 := Ex2.wr W4
    have f4_4 := Fc2.other W4 (Or.inl (Ne.symm (sf2 _ s2_0).1))
    have f4_5 := Fv2.other W4 (Or.inl (Ne.symm (sf2 _ s2_0).1))
    have f4_6 := A2.other W4 (Ne.symm (sf2 _ s2_0).2)
    have zs4 : h0.size ≤ h4.size := by rw [W4.size]; exact zs2
    have N4 := Fr.snoc X4 (Fr.nil n0) ga
    have K4 : Keep h0 h4 [a] := K2.wr W4 (Or.inl (by simp))
    refine gLoadAN 18 X4 hx (H d3_17) rfl rfl rfl ?_
    refine gLdcC X4 hx hZ hown (ow hw 22 rfl) wS e4 hS hk4 hEL (by simp) H4 (vs := []) (z := 0) ⟨by decide, by decide⟩ (by decide) (by decide) (H d3_18) (pc' := 20) rfl (n := 0) (by decide) (by decide) (by decide) (by decide) (fun a5 T5 h5 k5 b5 ck5 X5 e5 E5 hS hk5 hZ hown C5 H5 Ex5 Fc5 Fv5 A5 sf5 => ?_)
    have s5_0 := C5.safe f4_0.lt s4_0
    have f5_0 := f4_0.ext E5
    have f5_1 := f4_1.ext E5
    have f5_2 := f4_2.ext E5
    have f5_3 := f4_3.ext E5
    have f5_4 := f4_4.ext E5
    have f5_5 := f4_5.ext E5
    have f5_6 := f4_6.ext E5
    have zs5 : h0.size ≤ h5.size := Nat.le_trans zs4 E5.1
    have K5 : Keep h0 h5 [a] := K4.ext E5
    refine gGetF X5 hx hZ hown (ow hw 29 rfl) Via.refl e5 Fc5 (H d3_20) (pc' := 23) rfl (fun T6 X6 e6 => ?_)
    refine gPutF X6 hx hZ hown (ow hw 29 rfl) Via.refl e6 f5_1 f5_0 (Or.inr ⟨(ow hw 25 rfl), rfl, hnm⟩) (ow hw 10 rfl) (ty := .byte) (by decide) rfl rfl (H d3_23) (pc' := 26) rfl (fun T7 h7 X7 e7 W7 => ?_)
    have S7 := s5_0
    have H7 := H5.trans (CHr.wr W7 S7 H5.1)
    have hk7 := Nat.le_trans hk5 (Nat.le_of_eq W7.size.symm)
    have s7_0 := Safe.wr W7 S7 H5.1 s5_0
    have f7_0 := f5_0.wr W7
    have f7_1 := f5_1.same W7
    have f7_2 := f5_2.other W7 (Or.inr (slot_ne (Or.inr (ow hw 24 rfl)) (Or.inr (ow hw 25 rfl)) (by decide) (t := (.array .byte)) (t' := .byte) (by decide) (by decide)))
    have f7_3 := f5_3.wr W7
    have f7_4 := f5_4.other W7 (Or.inl (Ne.symm (sf2 _ s2_0).1))
    have f7_5 := f5_5.other W7 (Or.inl (Ne.symm (sf2 _ s2_0).1))
    have f7_6 := f5_6.other W7 (Ne.symm (sf2 _ s2_0).2)
    have f7_7 := Ex5.wr W7
    have f7_8 := Fc5.other W7 (Or.inl (Ne.symm (sf5 _ s5_0).1))
    have f7_9 := Fv5.other W7 (Or.inl (Ne.symm (sf5 _ s5_0).1))
    have f7_10 := A5.other W7 (Ne.symm (sf5 _ s5_0).2)
    have zs7 : h0.size ≤ h7.size := by rw [W7.size]; exact zs5
    have N7 := Fr.snoc X7 N4 ga
    have K7 : Keep h0 h7 [a] := K5.wr W7 (Or.inl (by simp))
    exact gRetHV X7 hx hlk hret (H d3_26) e7 hS hk7 hZ hEL H7 (by decide) (by decide) (⟨b2, _, rfl, N7, by rw [e7]; exact K7, by rw [e7]; exact f7_0, by rw [e7]; exact f7_1, by rw [e7]; exact f7_2, by rw [e7]; exact f7_6⟩)
theorem d8_0 : decode jdk_42_method_3_code 0 = .ok (.aload_n 0, 1) := by decide +kernel
theorem d8_1 : decode jdk_42_method_3_code 1 = .ok (.aload_n 1, 1) := by decide +kernel
theorem d8_2 : decode jdk_42_method_3_code 2 = .ok (.iconst 0, 1) := by decide +kernel
theorem d8_3 : decode jdk_42_method_3_code 3 = .ok (.aload_n 1, 1) := by decide +kernel
theorem d8_4 : decode jdk_42_method_3_code 4 = .ok (.arraylength, 1) := by decide +kernel
theorem d8_5 : decode jdk_42_method_3_code 5 = .ok (.aconst_null, 1) := by decide +kernel
theorem d8_6 : decode jdk_42_method_3_code 6 = .ok (.invokespecial 27, 3) := by decide +kernel
theorem pd_24 : parseMethodDescriptor "([CIILjava/lang/Void;)V" = some ⟨[(.array .char), .int, .int, (.object "java/lang/Void")], none⟩ := by decide +kernel
theorem d8_9 : decode jdk_42_method_3_code 9 = .ok (.return_, 1) := by decide +kernel
abbrev mn7 : MethodName := ⟨"java/lang/String", "<init>", "([C)V"⟩
theorem c_sinit_0 (l : Launch) (Z : State) (a0 : Array Value) (hw : ∀ d ∈ tables_1, d.before a0 Z = true) (a x : Addr) (cx : ClassId) (n0 : Nat) (h0 : Heap) (hEL : EW Z a0 [("java/lang/String", 7)]) (ga : n0 ≤ a) (E : sE Z h0 a) (C : sC Z h0 a) (V : Fld Z h0 a "java/lang/String" "value" "[B" .null) (A : Arv Z h0 x cx .char 0 [] (.int 0)) :
    CtrH l Z [("java/lang/String", 7)] [a] mn7 jdk_42_method_3_code 2 none [] ⟨3, 4, 8, 54⟩ #[(.ref a), (.ref x)] h0 (fun v h L => ∃ (t : Addr) (ct : ClassId), v = none ∧ Fr n0 L ∧ Keep h0 h [a] ∧ sE Z h a ∧ sC Z h a ∧ sV Z h a t ∧ sA Z h t ct 0 []) := by
  refine CtrH.of (plainFor_of_name pn_4) ?_
  intro p e s m below meth c s₁ hx H hml hret hown hnm hZ hlk X0 e0 hS H0 hSafe
  refine Goes.cast (show entryFrame m _ _ = mkF m 0 #[.val (.ref a), .val (.ref x)] [] from rfl) ?_
  refine gLoadAN 1 X0 hx (H d8_0) rfl rfl rfl ?_
  refine gLoadAN 2 X0 hx (H d8_1) rfl rfl rfl ?_
  refine gIconst 3 X0 hx (v := (0 : Int32)) (H d8_2) rfl rfl ?_
  refine gLoadAN 4 X0 hx (H d8_3) rfl rfl rfl ?_
  refine gArrLen X0 hx hZ e0 A (H d8_4) (pc' := 5) rfl ?_
  refine gNull 6 X0 hx (H d8_5) rfl ?_
  refine gCallIH X0 hx hZ (y := mn8) rfl hown e0 (by rw [hml]; rfl) hS (Nat.zero_le _) hEL H0 (ow hw 15 rfl) (ow hw 16 rfl) (ow hw 11 rfl) (ow hw 18 rfl) (by decide) (sl1 E.lt (hSafe _ (by simp))) (argsL := [(.ref x), (.int (0 : Int32)), (.int (0 : Int32)), .null]) (st := []) (c_sinit_0v l Z a0 hw a x cx n0 h0 hEL ga E C V A) (lenOf pd_24 rfl) (H d8_6) (pc' := 9) rfl rfl (by decide) (W := 0) (Nat.le_of_eq rfl) (by decide) (by decide) (by decide) ?_
  intro T1 v1 L1 X1 hS hZ hown C1 H1 hQ1
  have s1_0 := C1.safe E.lt (hSafe _ (by simp))
  obtain ⟨t, ct, rfl, Nq, Kq, Eq, Cq, Vq, Aq⟩ := hQ1
  exact gRetHV X1 hx hlk hret (H d8_9) rfl hS (Nat.le_refl _) hZ hEL H1 (by decide) (by decide) (⟨t, ct, rfl, Nq, Kq, Eq, Cq, Vq, Aq⟩)
theorem d25_0 : decode method_3_code 0 = .ok (.iload_n 1, 1) := by decide +kernel
theorem d25_1 : decode method_3_code 1 = .ok (.ifCond .gt 14, 3) := by decide +kernel
theorem d25_4 : decode method_3_code 4 = .ok (.new 7, 3) := by decide +kernel
theorem d25_7 : decode method_3_code 7 = .ok (.dup, 1) := by decide +kernel
theorem d25_8 : decode method_3_code 8 = .ok (.iconst 0, 1) := by decide +kernel
theorem d25_9 : decode method_3_code 9 = .ok (.newarray .char, 2) := by decide +kernel
theorem d25_11 : decode method_3_code 11 = .ok (.invokespecial 9, 3) := by decide +kernel
theorem pd_21 : parseMethodDescriptor "([C)V" = some ⟨[(.array .char)], none⟩ := by decide +kernel
theorem d25_14 : decode method_3_code 14 = .ok (.areturn, 1) := by decide +kernel
abbrev mn3 : MethodName := ⟨"com/example/guildhall/guildhall/FqanParentOfPinLaw", "str", "([CI)Ljava/lang/String;"⟩
theorem c_mk_0 (l : Launch) (Z : State) (a0 : Array Value) (hw : ∀ d ∈ tables_1, d.before a0 Z = true) (x : Addr) (cx : ClassId) (ch0 ch1 ch2 ch3 ch4 : Int32) (h0 : Heap) (hEL : EW Z a0 [("java/lang/String", 7)]) (hCpt : Cpt Z h0) (A : Arv Z h0 x cx .char 5 [.int ch0, .int ch1, .int ch2, .int ch3, .int ch4] (.int 0)) (hch0 : rg ch0) (hch1 : rg ch1) (hch2 : rg ch2) (hch3 : rg ch3) (hch4 : rg ch4) :
    CtrH l Z [("java/lang/String", 7)] [] mn3 method_3_code 2 (some (.object "java/lang/String")) [] ⟨4, 6, 12, 68⟩ #[(.ref x), (.int (0 : Int32))] h0 (SQd Z h0 0 []) := by
  refine CtrH.of (plainFor_of_name pn_1) ?_
  intro p e s m below meth c s₁ hx H hml hret hown hnm hZ hlk X0 e0 hS H0 hSafe
  refine Goes.cast (show entryFrame m _ _ = mkF m 0 #[.val (.ref x), .val (.int (0 : Int32))] [] from rfl) ?_
  refine gLoadIN 1 X0 hx (H d25_0) rfl rfl ?_
  refine gIfGt X0 hx (H d25_1) (pc' := 15) (by decide) (by decide) (pn := 4) rfl (fun (c1 : (0 : Int) < (0 : Int)) => ?_) (fun (c1 : (0 : Int) ≤ (0 : Int)) => ?_)
  · exact absurd c1 (by decide)
  · refine gNew X0 hx hZ hown (ow hw 9 rfl) (ow hw 10 rfl) (ow hw 11 rfl) e0 (H d25_4) (pc' := 7) rfl (by decide) (by decide) (fun T1 h1 b1 X1 e1 g1 E1 A1 D1 => ?_)
    have ne_x_b1 : x ≠ b1 := Nat.ne_of_lt (Nat.lt_of_lt_of_eq A.lt g1.symm)
    have H1 := H0.trans (CHr.ext E1 H0.1)
    have hk1 := Nat.le_trans (Nat.zero_le _) E1.1
    have s1_b := Safe.ext E1 H0.1 (Safe.new (Nat.le_of_eq g1.symm))
    have f1_0 := hCpt.ext E1
    have f1_1 := A.ext E1
    have sz_b1 : h0.size ≤ b1 := Nat.le_trans (Nat.le_refl _) (Nat.le_of_eq g1.symm)
    have zs1 : h0.size ≤ h1.size := Nat.le_trans (Nat.le_refl _) E1.1
    have K1 : Keep h0 h1 [] := (Keep.refl h0 []).ext E1
    have F1_value : Fld Z h1 b1 "java/lang/String" "value" "[B" .null := D1 (Or.inr (ow hw 24 rfl)) (ty := (.array .byte)) (by decide)
    have F1_coder : Fld Z h1 b1 "java/lang/String" "coder" "B" (.int (0 : Int32)) := D1 (Or.inr (ow hw 25 rfl)) (ty := .byte) (by decide)
    refine gDup 8 X1 hx (H d25_7) rfl rfl ?_
    refine gIconst 9 X1 hx (v := (0 : Int32)) (H d25_8) rfl rfl ?_
    refine gNewP X1 hx hZ (ow hw 1 rfl) e1 (n := (0 : Int32)) (H d25_9) (by decide) (cap := 0) (by decide) (by decide) (by decide) (by decide) 0 (pc' := 11) rfl (fun T2 h2 b2 ck2 X2 e2 g2 E2 A2 => ?_)
    have ne_x_b2 : x ≠ b2 := Nat.ne_of_lt (Nat.lt_of_lt_of_eq f1_1.lt g2.symm)
    have ne_b1_b2 : b1 ≠ b2 := Nat.ne_of_lt (Nat.lt_of_lt_of_eq A1.lt g2.symm)
    have H2 := H1.trans (CHr.ext E2 H1.1)
    have hk2 := Nat.le_trans hk1 E2.1
    have s2_0 := Safe.ext E2 H1.1 s1_b
    have s2_b := Safe.ext E2 H1.1 (Safe.new (Nat.le_of_eq g2.symm))
    have f2_0 := f1_0.ext E2
    have f2_1 := f1_1.ext E2
    have f2_2 := A1.ext E2
    have f2_3 := F1_value.ext E2
    have f2_4 := F1_coder.ext E2
    have sz_b2 : h0.size ≤ b2 := Nat.le_trans zs1 (Nat.le_of_eq g2.symm)
    have zs2 : h0.size ≤ h2.size := Nat.le_trans zs1 E2.1
    have K2 : Keep h0 h2 [] := K1.ext E2
    have V2 : Arv Z h2 b2 ck2 .char (0 : Int32) [] (.int (0 : Int32)) := A2
    refine gCallIH X2 hx hZ (y := mn7) rfl hown e2 (by rw [hml]; rfl) hS hk2 hEL H2 (ow hw 12 rfl) (ow hw 13 rfl) (ow hw 11 rfl) (ow hw 14 rfl) (by decide) (sl1 f2_2.lt s2_0) (argsL := [(.ref b2)]) (st := [(.ref b1)]) (c_sinit_0 l Z a0 hw b1 b2 _ h0.size h2 hEL sz_b1 f2_2 f2_4 f2_3 V2) (lenOf pd_21 rfl) (H d25_11) (pc' := 14) rfl rfl (by decide) (W := 1) (Nat.le_of_eq rfl) (by decide) (by decide) (by decide) ?_
    intro T3 v3 L3 X3 hS hZ hown C3 H3 hQ3
    have s3_0 := C3.safe f2_2.lt s2_0
    have s3_1 := C3.safe V2.lt s2_b
    obtain ⟨t3, ct3, rfl, Nq3, Kq3, Eq3, Cq3, Vq3, Aq3⟩ := hQ3
    have N3 := Fr.app (Fr.nil h0.size) Nq3
    have f3_0 := own_cpt_keep f2_0 Kq3 (nsS (Exa.nostat f2_2) ns0)
    have f3_1 := f2_1.keep Kq3 (ninS ne_x_b1 nin0)
    have f3_2 := f2_2.keep Kq3
    have f3_5 := V2.keep Kq3 (ninS (Ne.symm ne_b1_b2) nin0)
    have zs3 := Nat.le_trans zs2 Kq3.1
    have K3 : Keep h0 T3.heap [] := K2.trans Kq3 (allS (Or.inr sz_b1) all0)
    exact gRetHA X3 hx hlk hret rfl rfl (H d25_14) rfl hS (Nat.le_refl _) hZ hEL H3 (by decide) (by decide) (⟨b1, t3, ct3, rfl, N3, K3, Eq3, Cq3, Vq3, Aq3⟩)
theorem d20_0 : decode jdk_52_method_21_code 0 = .ok (.iconst 0, 1) := by decide +kernel
theorem d20_1 : decode jdk_52_method_21_code 1 = .ok (.istore 5, 2) := by decide +kernel
theorem d20_3 : decode jdk_52_method_21_code 3 = .ok (.iload 5, 2) := by decide +kernel
theorem d20_5 : decode jdk_52_method_21_code 5 = .ok (.iload 4, 2) := by decide +kernel
theorem d20_7 : decode jdk_52_method_21_code 7 = .ok (.if_icmp .ge 37, 3) := by decide +kernel
theorem d20_10 : decode jdk_52_method_21_code 10 = .ok (.aload_n 0, 1) := by decide +kernel
theorem d20_11 : decode jdk_52_method_21_code 11 = .ok (.iload_n 1, 1) := by decide +kernel
theorem d20_12 : decode jdk_52_method_21_code 12 = .ok (.caload, 1) := by decide +kernel
theorem d20_13 : decode jdk_52_method_21_code 13 = .ok (.istore 6, 2) := by decide +kernel
theorem d20_15 : decode jdk_52_method_21_code 15 = .ok (.iload 6, 2) := by decide +kernel
theorem d20_17 : decode jdk_52_method_21_code 17 = .ok (.sipush 255, 3) := by decide +kernel
theorem d20_20 : decode jdk_52_method_21_code 20 = .ok (.if_icmp .le 6, 3) := by decide +kernel
theorem d20_26 : decode jdk_52_method_21_code 26 = .ok (.aload_n 2, 1) := by decide +kernel
theorem d20_27 : decode jdk_52_method_21_code 27 = .ok (.iload_n 3, 1) := by decide +kernel
theorem d20_28 : decode jdk_52_method_21_code 28 = .ok (.iload 6, 2) := by decide +kernel
theorem d20_30 : decode jdk_52_method_21_code 30 = .ok (.i2b, 1) := by decide +kernel
theorem d20_31 : decode jdk_52_method_21_code 31 = .ok (.bastore, 1) := by decide +kernel
theorem d20_32 : decode jdk_52_method_21_code 32 = .ok (.iinc 1 1, 3) := by decide +kernel
theorem d20_35 : decode jdk_52_method_21_code 35 = .ok (.iinc 3 1, 3) := by decide +kernel
theorem d20_38 : decode jdk_52_method_21_code 38 = .ok (.iinc 5 1, 3) := by decide +kernel
theorem d20_41 : decode jdk_52_method_21_code 41 = .ok (.goto (-38), 3) := by decide +kernel
theorem d20_44 : decode jdk_52_method_21_code 44 = .ok (.iload 4, 2) := by decide +kernel
theorem d20_46 : decode jdk_52_method_21_code 46 = .ok (.ireturn, 1) := by decide +kernel
abbrev mn23 : MethodName := ⟨"java/lang/StringUTF16", "compress", "([CI[BII)I"⟩
theorem pn_6 : plainName "java/lang/StringUTF16" = true := by first | (simp [plainName, overriddenIn]; done) | decide +kernel
theorem c_compress_1i (l : Launch) (Z : State) (a0 : Array Value) (hw : ∀ d ∈ tables_1, d.before a0 Z = true) (x t : Addr) (cx ct : ClassId) (n0 : Nat) (ch0 : Int32) (h0 : Heap) (gt : n0 ≤ t) (hne : x ≠ t) (A : Arv Z h0 x cx .char 1 [.int ch0] (.int 0)) (B : Arv Z h0 t ct .byte 1 [.int 0] (.int 0)) (hch0 : rg ch0) :
    Ctr l Z mn23 jdk_52_method_21_code 7 (some .int) [] ⟨0, 0, 0, 0⟩ #[(.ref x), (.int (0 : Int32)), (.ref t), (.int (0 : Int32)), (.int (1 : Int32))] h0 (fun v h L => v = some (.int 1) ∧ Fr n0 L ∧ Keep h0 h [t] ∧ sA Z h t ct 1 [by8 ch0]) := by
  refine Ctr.of (plainFor_of_name pn_6) ?_
  intro p e s m below meth c s₁ hx H hml hret hown hnm hZ hlk X0 e0
  refine Goes.cast (show entryFrame m _ _ = mkF m 0 #[.val (.ref x), .val (.int (0 : Int32)), .val (.ref t), .val (.int (0 : Int32)), .val (.int (1 : Int32)), .unset, .unset] [] from rfl) ?_
  refine gIconst 1 X0 hx (v := (0 : Int32)) (H d20_0) rfl rfl ?_
  refine gStoreI 3 X0 hx (H d20_1) (l' := #[.val (.ref x), .val (.int (0 : Int32)), .val (.ref t), .val (.int (0 : Int32)), .val (.int (1 : Int32)), .val (.int (0 : Int32)), .unset]) rfl rfl ?_
  refine gLoadI 5 X0 hx (H d20_3) rfl rfl ?_
  refine gLoadI 7 X0 hx (H d20_5) rfl rfl ?_
  refine gIcmpGe X0 hx (H d20_7) (pc' := 44) (by decide) (by decide) (pn := 10) rfl (fun (c7 : (1 : Int) ≤ (0 : Int)) => ?_) (fun (c7 : (0 : Int) < (1 : Int)) => ?_)
  · exact absurd c7 (by decide)
  · refine gLoadAN 11 X0 hx (H d20_10) rfl rfl rfl ?_
    refine gLoadIN 12 X0 hx (H d20_11) rfl rfl ?_
    refine gCaload X0 hx hZ e0 A (j := (0 : Int32)) (v := (.int ch0)) (by decide) (by decide) rfl (H d20_12) (pc' := 13) rfl ?_
    refine gStoreI 15 X0 hx (H d20_13) (l' := #[.val (.ref x), .val (.int (0 : Int32)), .val (.ref t), .val (.int (0 : Int32)), .val (.int (1 : Int32)), .val (.int (0 : Int32)), .val (.int ch0)]) rfl rfl ?_
    refine gLoadI 17 X0 hx (H d20_15) rfl rfl ?_
    refine gSipush 20 X0 hx (v := (255 : Int32)) (H d20_17) rfl rfl ?_
    refine gIcmpLe X0 hx (H d20_20) (pc' := 26) (by decide) (by decide) (pn := 23) rfl (fun (c20 : ch0.toInt ≤ (255 : Int)) => ?_) (fun (c20 : (255 : Int) < ch0.toInt) => ?_)
    · refine gLoadAN 27 X0 hx (H d20_26) rfl rfl rfl ?_
      refine gLoadIN 28 X0 hx (H d20_27) rfl rfl ?_
      refine gLoadI 30 X0 hx (H d20_28) rfl rfl ?_
      refine gI2b 31 X0 hx (H d20_30) rfl ?_
      refine gBastore X0 hx hZ e0 (x := (ch0.toInt8.toInt32)) B (j := (0 : Int32)) (by decide) (by decide) 0 (by decide) (by simp) (H d20_31) (pc' := 32) rfl (fun T1 h1 X1 e1 W1 A1 => ?_)
      have f1_0 := A.other W1 hne
      have zs1 : h0.size ≤ h1.size := by rw [W1.size]; exact (Nat.le_refl _)
      have N1 := Fr.snoc X1 (Fr.nil n0) gt
      have K1 : Keep h0 h1 [t] := (Keep.refl h0 [t]).wr W1 (Or.inl (by simp))
      have V1 : Arv Z h1 t _ .byte (1 : Int32) [(.int (ch0.toInt8.toInt32))] (.int 0) := (by have q := A1; rw [own_nb] at q; exact q)
      refine gIinc X1 hx (v := (1 : Int32)) (H d20_32) (l' := #[.val (.ref x), .val (.int (1 : Int32)), .val (.ref t), .val (.int (0 : Int32)), .val (.int (1 : Int32)), .val (.int (0 : Int32)), .val (.int ch0)]) (pc' := 35) rfl rfl rfl rfl ?_
      refine gIinc X1 hx (v := (1 : Int32)) (H d20_35) (l' := #[.val (.ref x), .val (.int (1 : Int32)), .val (.ref t), .val (.int (1 : Int32)), .val (.int (1 : Int32)), .val (.int (0 : Int32)), .val (.int ch0)]) (pc' := 38) rfl rfl rfl rfl ?_
      refine gIinc X1 hx (v := (1 : Int32)) (H d20_38) (l' := #[.val (.ref x), .val (.int (1 : Int32)), .val (.ref t), .val (.int (1 : Int32)), .val (.int (1 : Int32)), .val (.int (1 : Int32)), .val (.int ch0)]) (pc' := 41) rfl rfl rfl rfl ?_
      refine gGoto X1 hx (H d20_41) (pc' := 3) (by decide) (by decide) ?_
      refine gLoadI 5 X1 hx (H d20_3) rfl rfl ?_
      refine gLoadI 7 X1 hx (H d20_5) rfl rfl ?_
      refine gIcmpGe X1 hx (H d20_7) (pc' := 44) (by decide) (by decide) (pn := 10) rfl (fun (c7' : (1 : Int) ≤ (1 : Int)) => ?_) (fun (c7' : (1 : Int) < (1 : Int)) => ?_)
      · refine gLoadI 46 X1 hx (H d20_44) rfl rfl ?_
        exact gRetI X1 hx hlk hret (H d20_46) (by decide) (by decide) (⟨rfl, N1, by rw [e1]; exact K1, by rw [e1]; exact V1⟩)
      · exact absurd c7' (by decide)
    · exact absurd c20 (by omega)
theorem d19_0 : decode jdk_52_method_16_code 0 = .ok (.iload_n 2, 1) := by decide +kernel
theorem d19_1 : decode jdk_52_method_16_code 1 = .ok (.newarray .byte, 2) := by decide +kernel
theorem d19_3 : decode jdk_52_method_16_code 3 = .ok (.astore_n 3, 1) := by decide +kernel
theorem d19_4 : decode jdk_52_method_16_code 4 = .ok (.aload_n 0, 1) := by decide +kernel
theorem d19_5 : decode jdk_52_method_16_code 5 = .ok (.iload_n 1, 1) := by decide +kernel
theorem d19_6 : decode jdk_52_method_16_code 6 = .ok (.aload_n 3, 1) := by decide +kernel
theorem d19_7 : decode jdk_52_method_16_code 7 = .ok (.iconst 0, 1) := by decide +kernel
theorem d19_8 : decode jdk_52_method_16_code 8 = .ok (.iload_n 2, 1) := by decide +kernel
theorem d19_9 : decode jdk_52_method_16_code 9 = .ok (.invokestatic 115, 3) := by decide +kernel
theorem pd_25 : parseMethodDescriptor "([CI[BII)I" = some ⟨[(.array .char), .int, (.array .byte), .int, .int], some .int⟩ := by decide +kernel
theorem d19_12 : decode jdk_52_method_16_code 12 = .ok (.istore 4, 2) := by decide +kernel
theorem d19_14 : decode jdk_52_method_16_code 14 = .ok (.iload 4, 2) := by decide +kernel
theorem d19_16 : decode jdk_52_method_16_code 16 = .ok (.iload_n 2, 1) := by decide +kernel
theorem d19_17 : decode jdk_52_method_16_code 17 = .ok (.if_icmp .eq 40, 3) := by decide +kernel
theorem d19_57 : decode jdk_52_method_16_code 57 = .ok (.aload_n 3, 1) := by decide +kernel
theorem d19_58 : decode jdk_52_method_16_code 58 = .ok (.areturn, 1) := by decide +kernel
abbrev mn22 : MethodName := ⟨"java/lang/StringUTF16", "compress", "([CII)[B"⟩
theorem c_compress_1 (l : Launch) (Z : State) (a0 : Array Value) (hw : ∀ d ∈ tables_1, d.before a0 Z = true) (x : Addr) (cx : ClassId) (ch0 : Int32) (h0 : Heap) (A : Arv Z h0 x cx .char 1 [.int ch0] (.int 0)) (hch0 : rg ch0) :
    Ctr l Z mn22 jdk_52_method_16_code 6 (some (.array .byte)) [] ⟨1, 1, 1, 18⟩ #[(.ref x), (.int (0 : Int32)), (.int (1 : Int32))] h0 (fun v h L => ∃ (t : Addr) (ct : ClassId), v = some (.ref t) ∧ h0.size ≤ t ∧ Fr h0.size L ∧ Keep h0 h [] ∧ sA Z h t ct 1 [by8 ch0]) := by
  refine Ctr.of (plainFor_of_name pn_6) ?_
  intro p e s m below meth c s₁ hx H hml hret hown hnm hZ hlk X0 e0
  refine Goes.cast (show entryFrame m _ _ = mkF m 0 #[.val (.ref x), .val (.int (0 : Int32)), .val (.int (1 : Int32)), .unset, .unset, .unset] [] from rfl) ?_
  refine gLoadIN 1 X0 hx (H d19_0) rfl rfl ?_
  refine gNewP X0 hx hZ (ow hw 23 rfl) e0 (n := (1 : Int32)) (H d19_1) (by decide) (cap := 1) (by decide) (by decide) (by decide) (by decide) 1 (pc' := 3) rfl (fun T1 h1 b1 ck1 X1 e1 g1 E1 A1 => ?_)
  have ne_x_b1 : x ≠ b1 := Nat.ne_of_lt (Nat.lt_of_lt_of_eq A.lt g1.symm)
  have f1_0 := A.ext E1
  have sz_b1 : h0.size ≤ b1 := Nat.le_trans (Nat.le_refl _) (Nat.le_of_eq g1.symm)
  have zs1 : h0.size ≤ h1.size := Nat.le_trans (Nat.le_refl _) E1.1
  have K1 : Keep h0 h1 [] := (Keep.refl h0 []).ext E1
  have V1 : Arv Z h1 b1 ck1 .byte (1 : Int32) [(.int (0 : Int32))] (.int (0 : Int32)) := A1
  refine gStoreAN 4 X1 hx (H d19_3) (l' := #[.val (.ref x), .val (.int (0 : Int32)), .val (.int (1 : Int32)), .val (.ref b1), .unset, .unset]) rfl rfl rfl ?_
  refine gLoadAN 5 X1 hx (H d19_4) rfl rfl rfl ?_
  refine gLoadIN 6 X1 hx (H d19_5) rfl rfl ?_
  refine gLoadAN 7 X1 hx (H d19_6) rfl rfl rfl ?_
  refine gIconst 8 X1 hx (v := (0 : Int32)) (H d19_7) rfl rfl ?_
  refine gLoadIN 9 X1 hx (H d19_8) rfl rfl ?_
  refine gCallS X1 hx hZ (y := mn23) hown e1 (by rw [hml]; rfl) (ow hw 75 rfl) (ow hw 76 rfl) (ow hw 73 rfl) (ow hw 77 rfl) (by decide) (argsL := [(.ref x), (.int (0 : Int32)), (.ref b1), (.int (0 : Int32)), (.int (1 : Int32))]) (st := []) (c_compress_1i l Z a0 hw x b1 cx ck1 h0.size ch0 h1 sz_b1 ne_x_b1 f1_0 V1 hch0) (lenOf pd_25 rfl) (H d19_9) (pc' := 12) rfl rfl (by decide) (W := 0) (Nat.le_of_eq rfl) (by decide) (by decide) (by decide) ?_
  intro T2 v2 L2 X2 hQ2
  obtain ⟨rfl, Nq2, Kq2, Aq2⟩ := hQ2
  have N2 := Fr.app (Fr.nil h0.size) Nq2
  have K2 : Keep h0 T2.heap [] := K1.trans Kq2 (allS (Or.inr sz_b1) all0)
  refine gStoreI 14 X2 hx (H d19_12) (l' := #[.val (.ref x), .val (.int (0 : Int32)), .val (.int (1 : Int32)), .val (.ref b1), .val (.int (1 : Int32)), .unset]) rfl rfl ?_
  refine gLoadI 16 X2 hx (H d19_14) rfl rfl ?_
  refine gLoadIN 17 X2 hx (H d19_16) rfl rfl ?_
  refine gIcmpEqT X2 hx (H d19_17) (pc' := 57) (by decide) (by decide) (pn := 20) rfl (fun (c17 : (1 : Int) = (1 : Int)) => ?_) (fun (c17 : ¬ (1 : Int) = (1 : Int)) => ?_)
  · refine gLoadAN 58 X2 hx (H d19_57) rfl rfl rfl ?_
    exact gRetA X2 hx hlk hret rfl rfl (H d19_58) (by decide) (by decide) (⟨b1, _, rfl, sz_b1, N2, K2, Aq2⟩)
  · exact absurd c17 (by decide)
theorem d18_0 : decode jdk_52_method_15_code 0 = .ok (.iload_n 1, 1) := by decide +kernel
theorem d18_1 : decode jdk_52_method_15_code 1 = .ok (.aload_n 0, 1) := by decide +kernel
theorem d18_2 : decode jdk_52_method_15_code 2 = .ok (.arraylength, 1) := by decide +kernel
theorem d18_3 : decode jdk_52_method_15_code 3 = .ok (.isub, 1) := by decide +kernel
theorem d18_4 : decode jdk_52_method_15_code 4 = .ok (.bipush 31, 2) := by decide +kernel
theorem d18_6 : decode jdk_52_method_15_code 6 = .ok (.iushr, 1) := by decide +kernel
theorem d18_7 : decode jdk_52_method_15_code 7 = .ok (.i2b, 1) := by decide +kernel
theorem d18_8 : decode jdk_52_method_15_code 8 = .ok (.ireturn, 1) := by decide +kernel
abbrev mn21 : MethodName := ⟨"java/lang/StringUTF16", "coderFromArrayLen", "([BI)B"⟩
theorem c_cfal_1 (l : Launch) (Z : State) (a0 : Array Value) (hw : ∀ d ∈ tables_1, d.before a0 Z = true) (t : Addr) (ck : ClassId) (ch0 : Int32) (h0 : Heap) (A : sA Z h0 t ck 1 [by8 ch0]) :
    Ctr l Z mn21 jdk_52_method_15_code 2 (some .byte) [] ⟨0, 0, 0, 0⟩ #[(.ref t), (.int (1 : Int32))] h0 (Just h0 (.int 0)) := by
  refine Ctr.of (plainFor_of_name pn_6) ?_
  intro p e s m below meth c s₁ hx H hml hret hown hnm hZ hlk X0 e0
  refine Goes.cast (show entryFrame m _ _ = mkF m 0 #[.val (.ref t), .val (.int (1 : Int32))] [] from rfl) ?_
  refine gLoadIN 1 X0 hx (H d18_0) rfl rfl ?_
  refine gLoadAN 2 X0 hx (H d18_1) rfl rfl rfl ?_
  refine gArrLen X0 hx hZ e0 A (H d18_2) (pc' := 3) rfl ?_
  refine gIsub 4 X0 hx (H d18_3) rfl ?_
  show Goes p e below _ s₁ (mkF m 4 #[.val (.ref t), .val (.int (1 : Int32))] [(.int (0 : Int32))])
  refine gBipush 6 X0 hx (v := (31 : Int32)) (H d18_4) rfl rfl ?_
  refine gIushr 7 X0 hx (H d18_6) rfl ?_
  show Goes p e below _ s₁ (mkF m 7 #[.val (.ref t), .val (.int (1 : Int32))] [(.int (0 : Int32))])
  refine gI2b 8 X0 hx (H d18_7) rfl ?_
  show Goes p e below _ s₁ (mkF m 8 #[.val (.ref t), .val (.int (1 : Int32))] [(.int (0 : Int32))])
  exact gRetN X0 hx hlk hret (by simp) (H d18_8) (w := (0 : Int32)) rfl (by decide) (by decide) (⟨rfl, e0, rfl⟩)
theorem d3_27 : decode jdk_42_method_149_code 27 = .ok (.getstatic 38, 3) := by decide +kernel
theorem d3_30 : decode jdk_42_method_149_code 30 = .ok (.ifCond .eq 28, 3) := by decide +kernel
theorem d3_33 : decode jdk_42_method_149_code 33 = .ok (.aload_n 1, 1) := by decide +kernel
theorem d3_34 : decode jdk_42_method_149_code 34 = .ok (.iload_n 2, 1) := by decide +kernel
theorem d3_35 : decode jdk_42_method_149_code 35 = .ok (.iload_n 3, 1) := by decide +kernel
theorem d3_36 : decode jdk_42_method_149_code 36 = .ok (.invokestatic 177, 3) := by decide +kernel
theorem pd_23 : parseMethodDescriptor "([CII)[B" = some ⟨[(.array .char), .int, .int], some (.array .byte)⟩ := by decide +kernel
theorem d3_39 : decode jdk_42_method_149_code 39 = .ok (.astore 5, 2) := by decide +kernel
theorem d3_41 : decode jdk_42_method_149_code 41 = .ok (.aload_n 0, 1) := by decide +kernel
theorem d3_42 : decode jdk_42_method_149_code 42 = .ok (.aload 5, 2) := by decide +kernel
theorem d3_44 : decode jdk_42_method_149_code 44 = .ok (.iload_n 3, 1) := by decide +kernel
theorem d3_45 : decode jdk_42_method_149_code 45 = .ok (.invokestatic 47, 3) := by decide +kernel
theorem pd_16 : parseMethodDescriptor "([BI)B" = some ⟨[(.array .byte), .int], some .byte⟩ := by decide +kernel
theorem d3_48 : decode jdk_42_method_149_code 48 = .ok (.putfield 15, 3) := by decide +kernel
theorem d3_51 : decode jdk_42_method_149_code 51 = .ok (.aload_n 0, 1) := by decide +kernel
theorem d3_52 : decode jdk_42_method_149_code 52 = .ok (.aload 5, 2) := by decide +kernel
theorem d3_54 : decode jdk_42_method_149_code 54 = .ok (.putfield 9, 3) := by decide +kernel
theorem d3_57 : decode jdk_42_method_149_code 57 = .ok (.return_, 1) := by decide +kernel
theorem c_sinit_1v (l : Launch) (Z : State) (a0 : Array Value) (hw : ∀ d ∈ tables_1, d.before a0 Z = true) (a x : Addr) (cx : ClassId) (n0 : Nat) (ch0 : Int32) (h0 : Heap) (hCpt : Cpt Z h0) (ga : n0 ≤ a) (gz : n0 ≤ h0.size) (hax : x ≠ a) (E : sE Z h0 a) (C : sC Z h0 a) (V : Fld Z h0 a "java/lang/String" "value" "[B" .null) (A : Arv Z h0 x cx .char 1 [.int ch0] (.int 0)) (hch0 : rg ch0) :
    Ctr l Z mn8 jdk_42_method_149_code 6 none [] ⟨2, 1, 1, 37⟩ #[(.ref a), (.ref x), (.int (0 : Int32)), (.int (1 : Int32)), .null] h0 (fun v h L => ∃ (t : Addr) (ct : ClassId), v = none ∧ Fr n0 L ∧ Keep h0 h [a] ∧ h0.size ≤ t ∧ sE Z h a ∧ sC Z h a ∧ sV Z h a t ∧ sA Z h t ct 1 [by8 ch0]) := by
  refine Ctr.of (plainFor_of_name pn_4) ?_
  intro p e s m below meth c s₁ hx H hml hret hown hnm hZ hlk X0 e0
  refine Goes.cast (show entryFrame m _ _ = mkF m 0 #[.val (.ref a), .val (.ref x), .val (.int (0 : Int32)), .val (.int (1 : Int32)), .val .null, .unset] [] from rfl) ?_
  have hCpt0 := hCpt
  obtain ⟨cz, SC, hcz⟩ := hCpt0
  refine gLoadAN 1 X0 hx (H d3_0) rfl rfl rfl ?_
  refine gInitO X0 hx hZ hown (ow hw 19 rfl) (ow hw 20 rfl) (ow hw 21 rfl) e0 (by rw [hml]; rfl) (H d3_1) (pc' := 4) rfl (by decide) (W := 0) (Nat.le_of_eq rfl) (by decide) (fun T1 X1 e1 => ?_)
  refine gLoadIN 5 X1 hx (H d3_4) rfl rfl ?_
  refine gIfNeT X1 hx (H d3_5) (pc' := 27) (by decide) (by decide) (pn := 8) rfl (fun (c5 : ¬ (1 : Int) = (0 : Int)) => ?_) (fun (c5 : (1 : Int) = (0 : Int)) => ?_)
  · refine gGetS X1 hx hZ hown (ow hw 49 rfl) Via.refl e1 SC (H d3_27) (pc' := 30) rfl (fun T2 X2 e2 => ?_)
    refine gIfEqT X2 hx (H d3_30) (pc' := 58) (by decide) (by decide) (pn := 33) rfl (fun (c30 : cz.toInt = (0 : Int)) => ?_) (fun (c30 : ¬ cz.toInt = (0 : Int)) => ?_)
    · exact absurd c30 hcz
    · refine gLoadAN 34 X2 hx (H d3_33) rfl rfl rfl ?_
      refine gLoadIN 35 X2 hx (H d3_34) rfl rfl ?_
      refine gLoadIN 36 X2 hx (H d3_35) rfl rfl ?_
      refine gCallS X2 hx hZ (y := mn22) hown e2 (by rw [hml]; rfl) (ow hw 71 rfl) (ow hw 72 rfl) (ow hw 73 rfl) (ow hw 74 rfl) (by decide) (argsL := [(.ref x), (.int (0 : Int32)), (.int (1 : Int32))]) (st := []) (c_compress_1 l Z a0 hw x cx ch0 h0 A hch0) (lenOf pd_23 rfl) (H d3_36) (pc' := 39) rfl rfl (by decide) (W := 0) (Nat.le_of_eq rfl) (by decide) (by decide) (by decide) ?_
      intro T3 v3 L3 X3 hQ3
      obtain ⟨t3, ct3, rfl, gt3, Nq3, Kq3, Aq3⟩ := hQ3
      have N3 := Fr.app (Fr.nil n0) (fun y hy => Nat.le_trans gz (Nq3 y hy))
      have K3 : Keep h0 T3.heap [a] := (Keep.refl h0 [a]).trans Kq3 all0
      have f3_0 := own_sta_keep SC Kq3 ns0
      have f3_1 := E.keep Kq3
      have f3_2 := C.keep Kq3 nin0
      have f3_3 := V.keep Kq3 nin0
      have nt3 : t3 ≠ a := Ne.symm (Nat.ne_of_lt (Nat.lt_of_lt_of_le E.lt gt3))
      refine gStoreA 41 X3 hx (H d3_39) (l' := #[.val (.ref a), .val (.ref x), .val (.int (0 : Int32)), .val (.int (1 : Int32)), .val .null, .val (.ref t3)]) rfl rfl rfl ?_
      refine gLoadAN 42 X3 hx (H d3_41) rfl rfl rfl ?_
      refine gLoadA 44 X3 hx (H d3_42) rfl rfl rfl ?_
      refine gLoadIN 45 X3 hx (H d3_44) rfl rfl ?_
      refine gCallSJ X3 hx hZ (y := mn21) hown rfl (by rw [hml]; rfl) (ow hw 78 rfl) (ow hw 79 rfl) (ow hw 73 rfl) (ow hw 80 rfl) (by decide) (argsL := [(.ref t3), (.int (1 : Int32))]) (st := [(.ref a)]) (c_cfal_1 l Z a0 hw t3 ct3 ch0 _ Aq3) (lenOf pd_16 rfl) (H d3_45) (pc' := 48) rfl rfl rfl rfl (by decide) (W := 1) (Nat.le_of_eq rfl) (by decide) (by decide) (by decide) ?_
      intro T4 X4 e4
      refine gPutF X4 hx hZ hown (ow hw 29 rfl) Via.refl e4 f3_2 f3_1 (Or.inr ⟨(ow hw 25 rfl), rfl, hnm⟩) (ow hw 10 rfl) (ty := .byte) (by decide) rfl rfl (H d3_48) (pc' := 51) rfl (fun T5 h5 X5 e5 W5 => ?_)
      have f5_0 := f3_0.wr W5
      have f5_1 := f3_1.wr W5
      have f5_2 := f3_2.same W5
      have f5_3 := f3_3.other W5 (Or.inr (slot_ne (Or.inr (ow hw 24 rfl)) (Or.inr (ow hw 25 rfl)) (by decide) (t := (.array .byte)) (t' := .byte) (by decide) (by decide)))
      have f5_4 := Aq3.other W5 nt3
      have zs5 : h0.size ≤ h5.size := by rw [W5.size]; exact Kq3.1
      have N5 := Fr.snoc X5 N3 ga
      have K5 : Keep h0 h5 [a] := K3.wr W5 (Or.inl (by simp))
      refine gLoadAN 52 X5 hx (H d3_51) rfl rfl rfl ?_
      refine gLoadA 54 X5 hx (H d3_52) rfl rfl rfl ?_
      refine gPutF X5 hx hZ hown (ow hw 28 rfl) Via.refl e5 f5_3 f5_1 (Or.inr ⟨(ow hw 24 rfl), rfl, hnm⟩) (ow hw 10 rfl) (ty := (.array .byte)) (by decide) rfl rfl (H d3_54) (pc' := 57) rfl (fun T6 h6 X6 e6 W6 => ?_)
      have f6_0 := f5_0.wr W6
      have f6_1 := f5_1.wr W6
      have f6_2 := f5_2.other W6 (Or.inr (slot_ne (Or.inr (ow hw 25 rfl)) (Or.inr (ow hw 24 rfl)) (by decide) (t := .byte) (t' := (.array .byte)) (by decide) (by decide)))
      have f6_3 := f5_3.same W6
      have f6_4 := f5_4.other W6 nt3
      have zs6 : h0.size ≤ h6.size := by rw [W6.size]; exact zs5
      have N6 := Fr.snoc X6 N5 ga
      have K6 : Keep h0 h6 [a] := K5.wr W6 (Or.inl (by simp))
      exact gRetV X6 hx hlk hret (H d3_57) (by decide) (by decide) (⟨t3, ct3, rfl, N6, by rw [e6]; exact K6, gt3, by rw [e6]; exact f6_1, by rw [e6]; exact f6_2, by rw [e6]; exact f6_3, by rw [e6]; exact f6_4⟩)
  · exact absurd c5 (by decide)
theorem c_sinit_1 (l : Launch) (Z : State) (a0 : Array Value) (hw : ∀ d ∈ tables_1, d.before a0 Z = true) (a x : Addr) (cx : ClassId) (n0 : Nat) (ch0 : Int32) (h0 : Heap) (hCpt : Cpt Z h0) (ga : n0 ≤ a) (gz : n0 ≤ h0.size) (hax : x ≠ a) (E : sE Z h0 a) (C : sC Z h0 a) (V : Fld Z h0 a "java/lang/String" "value" "[B" .null) (A : Arv Z h0 x cx .char 1 [.int ch0] (.int 0)) (hch0 : rg ch0) :
    Ctr l Z mn7 jdk_42_method_3_code 2 none [] ⟨3, 1, 1, 54⟩ #[(.ref a), (.ref x)] h0 (fun v h L => ∃ (t : Addr) (ct : ClassId), v = none ∧ Fr n0 L ∧ Keep h0 h [a] ∧ h0.size ≤ t ∧ sE Z h a ∧ sC Z h a ∧ sV Z h a t ∧ sA Z h t ct 1 [by8 ch0]) := by
  refine Ctr.of (plainFor_of_name pn_4) ?_
  intro p e s m below meth c s₁ hx H hml hret hown hnm hZ hlk X0 e0
  refine Goes.cast (show entryFrame m _ _ = mkF m 0 #[.val (.ref a), .val (.ref x)] [] from rfl) ?_
  refine gLoadAN 1 X0 hx (H d8_0) rfl rfl rfl ?_
  refine gLoadAN 2 X0 hx (H d8_1) rfl rfl rfl ?_
  refine gIconst 3 X0 hx (v := (0 : Int32)) (H d8_2) rfl rfl ?_
  refine gLoadAN 4 X0 hx (H d8_3) rfl rfl rfl ?_
  refine gArrLen X0 hx hZ e0 A (H d8_4) (pc' := 5) rfl ?_
  refine gNull 6 X0 hx (H d8_5) rfl ?_
  refine gCallI X0 hx hZ (y := mn8) rfl hown e0 (by rw [hml]; rfl) (ow hw 15 rfl) (ow hw 16 rfl) (ow hw 11 rfl) (ow hw 18 rfl) (by decide) (argsL := [(.ref x), (.int (0 : Int32)), (.int (1 : Int32)), .null]) (st := []) (c_sinit_1v l Z a0 hw a x cx n0 ch0 h0 hCpt ga gz hax E C V A hch0) (lenOf pd_24 rfl) (H d8_6) (pc' := 9) rfl rfl (by decide) (W := 0) (Nat.le_of_eq rfl) (by decide) (by decide) (by decide) ?_
  intro T1 v1 L1 X1 hQ1
  obtain ⟨t, ct, rfl, Nq, Kq, gt, Eq, Cq, Vq, Aq⟩ := hQ1
  exact gRetV X1 hx hlk hret (H d8_9) (by decide) (by decide) (⟨t, ct, rfl, Nq, Kq, gt, Eq, Cq, Vq, Aq⟩)
theorem d25_15 : decode method_3_code 15 = .ok (.iload_n 1, 1) := by decide +kernel
theorem d25_16 : decode method_3_code 16 = .ok (.iconst 1, 1) := by decide +kernel
theorem d25_17 : decode method_3_code 17 = .ok (.if_icmp .ne 20, 3) := by decide +kernel
theorem d25_20 : decode method_3_code 20 = .ok (.new 7, 3) := by decide +kernel
theorem d25_23 : decode method_3_code 23 = .ok (.dup, 1) := by decide +kernel
theorem d25_24 : decode method_3_code 24 = .ok (.iconst 1, 1) := by decide +kernel
theorem d25_25 : decode method_3_code 25 = .ok (.newarray .char, 2) := by decide +kernel
theorem d25_27 : decode method_3_code 27 = .ok (.dup, 1) := by decide +kernel
theorem d25_28 : decode method_3_code 28 = .ok (.iconst 0, 1) := by decide +kernel
theorem d25_29 : decode method_3_code 29 = .ok (.aload_n 0, 1) := by decide +kernel
theorem d25_30 : decode method_3_code 30 = .ok (.iconst 0, 1) := by decide +kernel
theorem d25_31 : decode method_3_code 31 = .ok (.caload, 1) := by decide +kernel
theorem d25_32 : decode method_3_code 32 = .ok (.castore, 1) := by decide +kernel
theorem d25_33 : decode method_3_code 33 = .ok (.invokespecial 9, 3) := by decide +kernel
theorem d25_36 : decode method_3_code 36 = .ok (.areturn, 1) := by decide +kernel
theorem c_mk_1 (l : Launch) (Z : State) (a0 : Array Value) (hw : ∀ d ∈ tables_1, d.before a0 Z = true) (x : Addr) (cx : ClassId) (ch0 ch1 ch2 ch3 ch4 : Int32) (h0 : Heap) (hCpt : Cpt Z h0) (A : Arv Z h0 x cx .char 5 [.int ch0, .int ch1, .int ch2, .int ch3, .int ch4] (.int 0)) (hch0 : rg ch0) (hch1 : rg ch1) (hch2 : rg ch2) (hch3 : rg ch3) (hch4 : rg ch4) :
    Ctr l Z mn3 method_3_code 2 (some (.object "java/lang/String")) [] ⟨4, 3, 6, 68⟩ #[(.ref x), (.int (1 : Int32))] h0 (SQd Z h0 1 [by8 ch0]) := by
  refine Ctr.of (plainFor_of_name pn_1) ?_
  intro p e s m below meth c s₁ hx H hml hret hown hnm hZ hlk X0 e0
  refine Goes.cast (show entryFrame m _ _ = mkF m 0 #[.val (.ref x), .val (.int (1 : Int32))] [] from rfl) ?_
  refine gLoadIN 1 X0 hx (H d25_0) rfl rfl ?_
  refine gIfGt X0 hx (H d25_1) (pc' := 15) (by decide) (by decide) (pn := 4) rfl (fun (c1 : (0 : Int) < (1 : Int)) => ?_) (fun (c1 : (1 : Int) ≤ (0 : Int)) => ?_)
  · refine gLoadIN 16 X0 hx (H d25_15) rfl rfl ?_
    refine gIconst 17 X0 hx (v := (1 : Int32)) (H d25_16) rfl rfl ?_
    refine gIcmpNeT X0 hx (H d25_17) (pc' := 37) (by decide) (by decide) (pn := 20) rfl (fun (c17 : ¬ (1 : Int) = (1 : Int)) => ?_) (fun (c17 : (1 : Int) = (1 : Int)) => ?_)
    · exact absurd c17 (by decide)
    · refine gNew X0 hx hZ hown (ow hw 9 rfl) (ow hw 10 rfl) (ow hw 11 rfl) e0 (H d25_20) (pc' := 23) rfl (by decide) (by decide) (fun T1 h1 b1 X1 e1 g1 E1 A1 D1 => ?_)
      have ne_x_b1 : x ≠ b1 := Nat.ne_of_lt (Nat.lt_of_lt_of_eq A.lt g1.symm)
      have f1_0 := hCpt.ext E1
      have f1_1 := A.ext E1
      have sz_b1 : h0.size ≤ b1 := Nat.le_trans (Nat.le_refl _) (Nat.le_of_eq g1.symm)
      have zs1 : h0.size ≤ h1.size := Nat.le_trans (Nat.le_refl _) E1.1
      have K1 : Keep h0 h1 [] := (Keep.refl h0 []).ext E1
      have F1_value : Fld Z h1 b1 "java/lang/String" "value" "[B" .null := D1 (Or.inr (ow hw 24 rfl)) (ty := (.array .byte)) (by decide)
      have F1_coder : Fld Z h1 b1 "java/lang/String" "coder" "B" (.int (0 : Int32)) := D1 (Or.inr (ow hw 25 rfl)) (ty := .byte) (by decide)
      refine gDup 24 X1 hx (H d25_23) rfl rfl ?_
      refine gIconst 25 X1 hx (v := (1 : Int32)) (H d25_24) rfl rfl ?_
      refine gNewP X1 hx hZ (ow hw 1 rfl) e1 (n := (1 : Int32)) (H d25_25) (by decide) (cap := 1) (by decide) (by decide) (by decide) (by decide) 1 (pc' := 27) rfl (fun T2 h2 b2 ck2 X2 e2 g2 E2 A2 => ?_)
      have ne_x_b2 : x ≠ b2 := Nat.ne_of_lt (Nat.lt_of_lt_of_eq f1_1.lt g2.symm)
      have ne_b1_b2 : b1 ≠ b2 := Nat.ne_of_lt (Nat.lt_of_lt_of_eq A1.lt g2.symm)
      have f2_0 := f1_0.ext E2
      have f2_1 := f1_1.ext E2
      have f2_2 := A1.ext E2
      have f2_3 := F1_value.ext E2
      have f2_4 := F1_coder.ext E2
      have sz_b2 : h0.size ≤ b2 := Nat.le_trans zs1 (Nat.le_of_eq g2.symm)
      have zs2 : h0.size ≤ h2.size := Nat.le_trans zs1 E2.1
      have K2 : Keep h0 h2 [] := K1.ext E2
      have V2 : Arv Z h2 b2 ck2 .char (1 : Int32) [(.int (0 : Int32))] (.int (0 : Int32)) := A2
      refine gDup 28 X2 hx (H d25_27) rfl rfl ?_
      refine gIconst 29 X2 hx (v := (0 : Int32)) (H d25_28) rfl rfl ?_
      refine gLoadAN 30 X2 hx (H d25_29) rfl rfl rfl ?_
      refine gIconst 31 X2 hx (v := (0 : Int32)) (H d25_30) rfl rfl ?_
      refine gCaload X2 hx hZ e2 f2_1 (j := (0 : Int32)) (v := (.int ch0)) (by decide) (by decide) rfl (H d25_31) (pc' := 32) rfl ?_
      refine gCastore X2 hx hZ e2 (x := ch0) V2 (j := (0 : Int32)) (by decide) (by decide) 0 (by decide) (by simp) (H d25_32) (pc' := 33) rfl (fun T3 h3 X3 e3 W3 A3 => ?_)
      have f3_0 := f2_0.wr W3
      have f3_1 := f2_1.other W3 ne_x_b2
      have f3_2 := f2_2.wr W3
      have f3_3 := f2_3.other W3 (Or.inl ne_b1_b2)
      have f3_4 := f2_4.other W3 (Or.inl ne_b1_b2)
      have zs3 : h0.size ≤ h3.size := by rw [W3.size]; exact zs2
      have N3 := Fr.snoc X3 (Fr.nil h0.size) sz_b2
      have K3 : Keep h0 h3 [] := K2.wr W3 (Or.inr sz_b2)
      have V3 : Arv Z h3 b2 _ .char (1 : Int32) [(.int ch0)] (.int (0 : Int32)) := (by have q := A3; rw [own_nc (own_c8 hch0)] at q; exact q)
      refine gCallI X3 hx hZ (y := mn7) rfl hown e3 (by rw [hml]; rfl) (ow hw 12 rfl) (ow hw 13 rfl) (ow hw 11 rfl) (ow hw 14 rfl) (by decide) (argsL := [(.ref b2)]) (st := [(.ref b1)]) (c_sinit_1 l Z a0 hw b1 b2 _ h0.size ch0 h3 f3_0 sz_b1 zs3 (Ne.symm ne_b1_b2) f3_2 f3_4 f3_3 V3 hch0) (lenOf pd_21 rfl) (H d25_33) (pc' := 36) rfl rfl (by decide) (W := 1) (Nat.le_of_eq rfl) (by decide) (by decide) (by decide) ?_
      intro T4 v4 L4 X4 hQ4
      obtain ⟨t4, ct4, rfl, Nq4, Kq4, gt4, Eq4, Cq4, Vq4, Aq4⟩ := hQ4
      have N4 := Fr.app N3 Nq4
      have f4_0 := own_cpt_keep f3_0 Kq4 (nsS (Exa.nostat f3_2) ns0)
      have f4_1 := f3_1.keep Kq4 (ninS ne_x_b1 nin0)
      have f4_2 := f3_2.keep Kq4
      have f4_5 := V3.keep Kq4 (ninS (Ne.symm ne_b1_b2) nin0)
      have zs4 := Nat.le_trans zs3 Kq4.1
      have K4 : Keep h0 T4.heap [] := K3.trans Kq4 (allS (Or.inr sz_b1) all0)
      exact gRetA X4 hx hlk hret rfl rfl (H d25_36) (by decide) (by decide) (⟨b1, t4, ct4, rfl, N4, K4, Eq4, Cq4, Vq4, Aq4⟩)
  · exact absurd c1 (by decide)
theorem c_compress_2i (l : Launch) (Z : State) (a0 : Array Value) (hw : ∀ d ∈ tables_1, d.before a0 Z = true) (x t : Addr) (cx ct : ClassId) (n0 : Nat) (ch0 ch1 : Int32) (h0 : Heap) (gt : n0 ≤ t) (hne : x ≠ t) (A : Arv Z h0 x cx .char 2 [.int ch0, .int ch1] (.int 0)) (B : Arv Z h0 t ct .byte 2 [.int 0, .int 0] (.int 0)) (hch0 : rg ch0) (hch1 : rg ch1) :
    Ctr l Z mn23 jdk_52_method_21_code 7 (some .int) [] ⟨0, 0, 0, 0⟩ #[(.ref x), (.int (0 : Int32)), (.ref t), (.int (0 : Int32)), (.int (2 : Int32))] h0 (fun v h L => v = some (.int 2) ∧ Fr n0 L ∧ Keep h0 h [t] ∧ sA Z h t ct 2 [by8 ch0, by8 ch1]) := by
  refine Ctr.of (plainFor_of_name pn_6) ?_
  intro p e s m below meth c s₁ hx H hml hret hown hnm hZ hlk X0 e0
  refine Goes.cast (show entryFrame m _ _ = mkF m 0 #[.val (.ref x), .val (.int (0 : Int32)), .val (.ref t), .val (.int (0 : Int32)), .val (.int (2 : Int32)), .unset, .unset] [] from rfl) ?_
  refine gIconst 1 X0 hx (v := (0 : Int32)) (H d20_0) rfl rfl ?_
  refine gStoreI 3 X0 hx (H d20_1) (l' := #[.val (.ref x), .val (.int (0 : Int32)), .val (.ref t), .val (.int (0 : Int32)), .val (.int (2 : Int32)), .val (.int (0 : Int32)), .unset]) rfl rfl ?_
  refine gLoadI 5 X0 hx (H d20_3) rfl rfl ?_
  refine gLoadI 7 X0 hx (H d20_5) rfl rfl ?_
  refine gIcmpGe X0 hx (H d20_7) (pc' := 44) (by decide) (by decide) (pn := 10) rfl (fun (c7 : (2 : Int) ≤ (0 : Int)) => ?_) (fun (c7 : (0 : Int) < (2 : Int)) => ?_)
  · exact absurd c7 (by decide)
  · refine gLoadAN 11 X0 hx (H d20_10) rfl rfl rfl ?_
    refine gLoadIN 12 X0 hx (H d20_11) rfl rfl ?_
    refine gCaload X0 hx hZ e0 A (j := (0 : Int32)) (v := (.int ch0)) (by decide) (by decide) rfl (H d20_12) (pc' := 13) rfl ?_
    refine gStoreI 15 X0 hx (H d20_13) (l' := #[.val (.ref x), .val (.int (0 : Int32)), .val (.ref t), .val (.int (0 : Int32)), .val (.int (2 : Int32)), .val (.int (0 : Int32)), .val (.int ch0)]) rfl rfl ?_
    refine gLoadI 17 X0 hx (H d20_15) rfl rfl ?_
    refine gSipush 20 X0 hx (v := (255 : Int32)) (H d20_17) rfl rfl ?_
    refine gIcmpLe X0 hx (H d20_20) (pc' := 26) (by decide) (by decide) (pn := 23) rfl (fun (c20 : ch0.toInt ≤ (255 : Int)) => ?_) (fun (c20 : (255 : Int) < ch0.toInt) => ?_)
    · refine gLoadAN 27 X0 hx (H d20_26) rfl rfl rfl ?_
      refine gLoadIN 28 X0 hx (H d20_27) rfl rfl ?_
      refine gLoadI 30 X0 hx (H d20_28) rfl rfl ?_
      refine gI2b 31 X0 hx (H d20_30) rfl ?_
      refine gBastore X0 hx hZ e0 (x := (ch0.toInt8.toInt32)) B (j := (0 : Int32)) (by decide) (by decide) 0 (by decide) (by simp) (H d20_31) (pc' := 32) rfl (fun T1 h1 X1 e1 W1 A1 => ?_)
      have f1_0 := A.other W1 hne
      have zs1 : h0.size ≤ h1.size := by rw [W1.size]; exact (Nat.le_refl _)
      have N1 := Fr.snoc X1 (Fr.nil n0) gt
      have K1 : Keep h0 h1 [t] := (Keep.refl h0 [t]).wr W1 (Or.inl (by simp))
      have V1 : Arv Z h1 t _ .byte (2 : Int32) [(.int (ch0.toInt8.toInt32)), (.int (0 : Int32))] (.int 0) := (by have q := A1; rw [own_nb] at q; exact q)
      refine gIinc X1 hx (v := (1 : Int32)) (H d20_32) (l' := #[.val (.ref x), .val (.int (1 : Int32)), .val (.ref t), .val (.int (0 : Int32)), .val (.int (2 : Int32)), .val (.int (0 : Int32)), .val (.int ch0)]) (pc' := 35) rfl rfl rfl rfl ?_
      refine gIinc X1 hx (v := (1 : Int32)) (H d20_35) (l' := #[.val (.ref x), .val (.int (1 : Int32)), .val (.ref t), .val (.int (1 : Int32)), .val (.int (2 : Int32)), .val (.int (0 : Int32)), .val (.int ch0)]) (pc' := 38) rfl rfl rfl rfl ?_
      refine gIinc X1 hx (v := (1 : Int32)) (H d20_38) (l' := #[.val (.ref x), .val (.int (1 : Int32)), .val (.ref t), .val (.int (1 : Int32)), .val (.int (2 : Int32)), .val (.int (1 : Int32)), .val (.int ch0)]) (pc' := 41) rfl rfl rfl rfl ?_
      refine gGoto X1 hx (H d20_41) (pc' := 3) (by decide) (by decide) ?_
      refine gLoadI 5 X1 hx (H d20_3) rfl rfl ?_
      refine gLoadI 7 X1 hx (H d20_5) rfl rfl ?_
      refine gIcmpGe X1 hx (H d20_7) (pc' := 44) (by decide) (by decide) (pn := 10) rfl (fun (c7' : (2 : Int) ≤ (1 : Int)) => ?_) (fun (c7' : (1 : Int) < (2 : Int)) => ?_)
      · exact absurd c7' (by decide)
      · refine gLoadAN 11 X1 hx (H d20_10) rfl rfl rfl ?_
        refine gLoadIN 12 X1 hx (H d20_11) rfl rfl ?_
        refine gCaload X1 hx hZ e1 f1_0 (j := (1 : Int32)) (v := (.int ch1)) (by decide) (by decide) rfl (H d20_12) (pc' := 13) rfl ?_
        refine gStoreI 15 X1 hx (H d20_13) (l' := #[.val (.ref x), .val (.int (1 : Int32)), .val (.ref t), .val (.int (1 : Int32)), .val (.int (2 : Int32)), .val (.int (1 : Int32)), .val (.int ch1)]) rfl rfl ?_
        refine gLoadI 17 X1 hx (H d20_15) rfl rfl ?_
        refine gSipush 20 X1 hx (v := (255 : Int32)) (H d20_17) rfl rfl ?_
        refine gIcmpLe X1 hx (H d20_20) (pc' := 26) (by decide) (by decide) (pn := 23) rfl (fun (c20' : ch1.toInt ≤ (255 : Int)) => ?_) (fun (c20' : (255 : Int) < ch1.toInt) => ?_)
        · refine gLoadAN 27 X1 hx (H d20_26) rfl rfl rfl ?_
          refine gLoadIN 28 X1 hx (H d20_27) rfl rfl ?_
          refine gLoadI 30 X1 hx (H d20_28) rfl rfl ?_
          refine gI2b 31 X1 hx (H d20_30) rfl ?_
          refine gBastore X1 hx hZ e1 (x := (ch1.toInt8.toInt32)) V1 (j := (1 : Int32)) (by decide) (by decide) 1 (by decide) (by simp) (H d20_31) (pc' := 32) rfl (fun T2 h2 X2 e2 W2 A2 => ?_)
          have f2_0 := f1_0.other W2 hne
          have zs2 : h0.size ≤ h2.size := by rw [W2.size]; exact zs1
          have N2 := Fr.snoc X2 N1 gt
          have K2 : Keep h0 h2 [t] := K1.wr W2 (Or.inl (by simp))
          have V2 : Arv Z h2 t _ .byte (2 : Int32) [(.int (ch0.toInt8.toInt32)), (.int (ch1.toInt8.toInt32))] (.int 0) := (by have q := A2; rw [own_nb] at q; exact q)
          refine gIinc X2 hx (v := (1 : Int32)) (H d20_32) (l' := #[.val (.ref x), .val (.int (2 : Int32)), .val (.ref t), .val (.int (1 : Int32)), .val (.int (2 : Int32)), .val (.int (1 : Int32)), .val (.int ch1)]) (pc' := 35) rfl rfl rfl rfl ?_
          refine gIinc X2 hx (v := (1 : Int32)) (H d20_35) (l' := #[.val (.ref x), .val (.int (2 : Int32)), .val (.ref t), .val (.int (2 : Int32)), .val (.int (2 : Int32)), .val (.int (1 : Int32)), .val (.int ch1)]) (pc' := 38) rfl rfl rfl rfl ?_
          refine gIinc X2 hx (v := (1 : Int32)) (H d20_38) (l' := #[.val (.ref x), .val (.int (2 : Int32)), .val (.ref t), .val (.int (2 : Int32)), .val (.int (2 : Int32)), .val (.int (2 : Int32)), .val (.int ch1)]) (pc' := 41) rfl rfl rfl rfl ?_
          refine gGoto X2 hx (H d20_41) (pc' := 3) (by decide) (by decide) ?_
          refine gLoadI 5 X2 hx (H d20_3) rfl rfl ?_
          refine gLoadI 7 X2 hx (H d20_5) rfl rfl ?_
          refine gIcmpGe X2 hx (H d20_7) (pc' := 44) (by decide) (by decide) (pn := 10) rfl (fun (c7'' : (2 : Int) ≤ (2 : Int)) => ?_) (fun (c7'' : (2 : Int) < (2 : Int)) => ?_)
          · refine gLoadI 46 X2 hx (H d20_44) rfl rfl ?_
            exact gRetI X2 hx hlk hret (H d20_46) (by decide) (by decide) (⟨rfl, N2, by rw [e2]; exact K2, by rw [e2]; exact V2⟩)
          · exact absurd c7'' (by decide)
        · exact absurd c20' (by omega)
    · exact absurd c20 (by omega)
theorem c_compress_2 (l : Launch) (Z : State) (a0 : Array Value) (hw : ∀ d ∈ tables_1, d.before a0 Z = true) (x : Addr) (cx : ClassId) (ch0 ch1 : Int32) (h0 : Heap) (A : Arv Z h0 x cx .char 2 [.int ch0, .int ch1] (.int 0)) (hch0 : rg ch0) (hch1 : rg ch1) :
    Ctr l Z mn22 jdk_52_method_16_code 6 (some (.array .byte)) [] ⟨1, 1, 2, 18⟩ #[(.ref x), (.int (0 : Int32)), (.int (2 : Int32))] h0 (fun v h L => ∃ (t : Addr) (ct : ClassId), v = some (.ref t) ∧ h0.size ≤ t ∧ Fr h0.size L ∧ Keep h0 h [] ∧ sA Z h t ct 2 [by8 ch0, by8 ch1]) := by
  refine Ctr.of (plainFor_of_name pn_6) ?_
  intro p e s m below meth c s₁ hx H hml hret hown hnm hZ hlk X0 e0
  refine Goes.cast (show entryFrame m _ _ = mkF m 0 #[.val (.ref x), .val (.int (0 : Int32)), .val (.int (2 : Int32)), .unset, .unset, .unset] [] from rfl) ?_
  refine gLoadIN 1 X0 hx (H d19_0) rfl rfl ?_
  refine gNewP X0 hx hZ (ow hw 23 rfl) e0 (n := (2 : Int32)) (H d19_1) (by decide) (cap := 2) (by decide) (by decide) (by decide) (by decide) 2 (pc' := 3) rfl (fun T1 h1 b1 ck1 X1 e1 g1 E1 A1 => ?_)
  have ne_x_b1 : x ≠ b1 := Nat.ne_of_lt (Nat.lt_of_lt_of_eq A.lt g1.symm)
  have f1_0 := A.ext E1
  have sz_b1 : h0.size ≤ b1 := Nat.le_trans (Nat.le_refl _) (Nat.le_of_eq g1.symm)
  have zs1 : h0.size ≤ h1.size := Nat.le_trans (Nat.le_refl _) E1.1
  have K1 : Keep h0 h1 [] := (Keep.refl h0 []).ext E1
  have V1 : Arv Z h1 b1 ck1 .byte (2 : Int32) [(.int (0 : Int32)), (.int (0 : Int32))] (.int (0 : Int32)) := A1
  refine gStoreAN 4 X1 hx (H d19_3) (l' := #[.val (.ref x), .val (.int (0 : Int32)), .val (.int (2 : Int32)), .val (.ref b1), .unset, .unset]) rfl rfl rfl ?_
  refine gLoadAN 5 X1 hx (H d19_4) rfl rfl rfl ?_
  refine gLoadIN 6 X1 hx (H d19_5) rfl rfl ?_
  refine gLoadAN 7 X1 hx (H d19_6) rfl rfl rfl ?_
  refine gIconst 8 X1 hx (v := (0 : Int32)) (H d19_7) rfl rfl ?_
  refine gLoadIN 9 X1 hx (H d19_8) rfl rfl ?_
  refine gCallS X1 hx hZ (y := mn23) hown e1 (by rw [hml]; rfl) (ow hw 75 rfl) (ow hw 76 rfl) (ow hw 73 rfl) (ow hw 77 rfl) (by decide) (argsL := [(.ref x), (.int (0 : Int32)), (.ref b1), (.int (0 : Int32)), (.int (2 : Int32))]) (st := []) (c_compress_2i l Z a0 hw x b1 cx ck1 h0.size ch0 ch1 h1 sz_b1 ne_x_b1 f1_0 V1 hch0 hch1) (lenOf pd_25 rfl) (H d19_9) (pc' := 12) rfl rfl (by decide) (W := 0) (Nat.le_of_eq rfl) (by decide) (by decide) (by decide) ?_
  intro T2 v2 L2 X2 hQ2
  obtain ⟨rfl, Nq2, Kq2, Aq2⟩ := hQ2
  have N2 := Fr.app (Fr.nil h0.size) Nq2
  have K2 : Keep h0 T2.heap [] := K1.trans Kq2 (allS (Or.inr sz_b1) all0)
  refine gStoreI 14 X2 hx (H d19_12) (l' := #[.val (.ref x), .val (.int (0 : Int32)), .val (.int (2 : Int32)), .val (.ref b1), .val (.int (2 : Int32)), .unset]) rfl rfl ?_
  refine gLoadI 16 X2 hx (H d19_14) rfl rfl ?_
  refine gLoadIN 17 X2 hx (H d19_16) rfl rfl ?_
  refine gIcmpEqT X2 hx (H d19_17) (pc' := 57) (by decide) (by decide) (pn := 20) rfl (fun (c17 : (2 : Int) = (2 : Int)) => ?_) (fun (c17 : ¬ (2 : Int) = (2 : Int)) => ?_)
  · refine gLoadAN 58 X2 hx (H d19_57) rfl rfl rfl ?_
    exact gRetA X2 hx hlk hret rfl rfl (H d19_58) (by decide) (by decide) (⟨b1, _, rfl, sz_b1, N2, K2, Aq2⟩)
  · exact absurd c17 (by decide)
theorem c_cfal_2 (l : Launch) (Z : State) (a0 : Array Value) (hw : ∀ d ∈ tables_1, d.before a0 Z = true) (t : Addr) (ck : ClassId) (ch0 ch1 : Int32) (h0 : Heap) (A : sA Z h0 t ck 2 [by8 ch0, by8 ch1]) :
    Ctr l Z mn21 jdk_52_method_15_code 2 (some .byte) [] ⟨0, 0, 0, 0⟩ #[(.ref t), (.int (2 : Int32))] h0 (Just h0 (.int 0)) := by
  refine Ctr.of (plainFor_of_name pn_6) ?_
  intro p e s m below meth c s₁ hx H hml hret hown hnm hZ hlk X0 e0
  refine Goes.cast (show entryFrame m _ _ = mkF m 0 #[.val (.ref t), .val (.int (2 : Int32))] [] from rfl) ?_
  refine gLoadIN 1 X0 hx (H d18_0) rfl rfl ?_
  refine gLoadAN 2 X0 hx (H d18_1) rfl rfl rfl ?_
  refine gArrLen X0 hx hZ e0 A (H d18_2) (pc' := 3) rfl ?_
  refine gIsub 4 X0 hx (H d18_3) rfl ?_
  show Goes p e below _ s₁ (mkF m 4 #[.val (.ref t), .val (.int (2 : Int32))] [(.int (0 : Int32))])
  refine gBipush 6 X0 hx (v := (31 : Int32)) (H d18_4) rfl rfl ?_
  refine gIushr 7 X0 hx (H d18_6) rfl ?_
  show Goes p e below _ s₁ (mkF m 7 #[.val (.ref t), .val (.int (2 : Int32))] [(.int (0 : Int32))])
  refine gI2b 8 X0 hx (H d18_7) rfl ?_
  show Goes p e below _ s₁ (mkF m 8 #[.val (.ref t), .val (.int (2 : Int32))] [(.int (0 : Int32))])
  exact gRetN X0 hx hlk hret (by simp) (H d18_8) (w := (0 : Int32)) rfl (by decide) (by decide) (⟨rfl, e0, rfl⟩)
theorem c_sinit_2v (l : Launch) (Z : State) (a0 : Array Value) (hw : ∀ d ∈ tables_1, d.before a0 Z = true) (a x : Addr) (cx : ClassId) (n0 : Nat) (ch0 ch1 : Int32) (h0 : Heap) (hCpt : Cpt Z h0) (ga : n0 ≤ a) (gz : n0 ≤ h0.size) (hax : x ≠ a) (E : sE Z h0 a) (C : sC Z h0 a) (V : Fld Z h0 a "java/lang/String" "value" "[B" .null) (A : Arv Z h0 x cx .char 2 [.int ch0, .int ch1] (.int 0)) (hch0 : rg ch0) (hch1 : rg ch1) :
    Ctr l Z mn8 jdk_42_method_149_code 6 none [] ⟨2, 1, 2, 37⟩ #[(.ref a), (.ref x), (.int (0 : Int32)), (.int (2 : Int32)), .null] h0 (fun v h L => ∃ (t : Addr) (ct : ClassId), v = none ∧ Fr n0 L ∧ Keep h0 h [a] ∧ h0.size ≤ t ∧ sE Z h a ∧ sC Z h a ∧ sV Z h a t ∧ sA Z h t ct 2 [by8 ch0, by8 ch1]) := by
  refine Ctr.of (plainFor_of_name pn_4) ?_
  intro p e s m below meth c s₁ hx H hml hret hown hnm hZ hlk X0 e0
  refine Goes.cast (show entryFrame m _ _ = mkF m 0 #[.val (.ref a), .val (.ref x), .val (.int (0 : Int32)), .val (.int (2 : Int32)), .val .null, .unset] [] from rfl) ?_
  have hCpt0 := hCpt
  obtain ⟨cz, SC, hcz⟩ := hCpt0
  refine gLoadAN 1 X0 hx (H d3_0) rfl rfl rfl ?_
  refine gInitO X0 hx hZ hown (ow hw 19 rfl) (ow hw 20 rfl) (ow hw 21 rfl) e0 (by rw [hml]; rfl) (H d3_1) (pc' := 4) rfl (by decide) (W := 0) (Nat.le_of_eq rfl) (by decide) (fun T1 X1 e1 => ?_)
  refine gLoadIN 5 X1 hx (H d3_4) rfl rfl ?_
  refine gIfNeT X1 hx (H d3_5) (pc' := 27) (by decide) (by decide) (pn := 8) rfl (fun (c5 : ¬ (2 : Int) = (0 : Int)) => ?_) (fun (c5 : (2 : Int) = (0 : Int)) => ?_)
  · refine gGetS X1 hx hZ hown (ow hw 49 rfl) Via.refl e1 SC (H d3_27) (pc' := 30) rfl (fun T2 X2 e2 => ?_)
    refine gIfEqT X2 hx (H d3_30) (pc' := 58) (by decide) (by decide) (pn := 33) rfl (fun (c30 : cz.toInt = (0 : Int)) => ?_) (fun (c30 : ¬ cz.toInt = (0 : Int)) => ?_)
    · exact absurd c30 hcz
    · refine gLoadAN 34 X2 hx (H d3_33) rfl rfl rfl ?_
      refine gLoadIN 35 X2 hx (H d3_34) rfl rfl ?_
      refine gLoadIN 36 X2 hx (H d3_35) rfl rfl ?_
      refine gCallS X2 hx hZ (y := mn22) hown e2 (by rw [hml]; rfl) (ow hw 71 rfl) (ow hw 72 rfl) (ow hw 73 rfl) (ow hw 74 rfl) (by decide) (argsL := [(.ref x), (.int (0 : Int32)), (.int (2 : Int32))]) (st := []) (c_compress_2 l Z a0 hw x cx ch0 ch1 h0 A hch0 hch1) (lenOf pd_23 rfl) (H d3_36) (pc' := 39) rfl rfl (by decide) (W := 0) (Nat.le_of_eq rfl) (by decide) (by decide) (by decide) ?_
      intro T3 v3 L3 X3 hQ3
      obtain ⟨t3, ct3, rfl, gt3, Nq3, Kq3, Aq3⟩ := hQ3
      have N3 := Fr.app (Fr.nil n0) (fun y hy => Nat.le_trans gz (Nq3 y hy))
      have K3 : Keep h0 T3.heap [a] := (Keep.refl h0 [a]).trans Kq3 all0
      have f3_0 := own_sta_keep SC Kq3 ns0
      have f3_1 := E.keep Kq3
      have f3_2 := C.keep Kq3 nin0
      have f3_3 := V.keep Kq3 nin0
      have nt3 : t3 ≠ a := Ne.symm (Nat.ne_of_lt (Nat.lt_of_lt_of_le E.lt gt3))
      refine gStoreA 41 X3 hx (H d3_39) (l' := #[.val (.ref a), .val (.ref x), .val (.int (0 : Int32)), .val (.int (2 : Int32)), .val .null, .val (.ref t3)]) rfl rfl rfl ?_
      refine gLoadAN 42 X3 hx (H d3_41) rfl rfl rfl ?_
      refine gLoadA 44 X3 hx (H d3_42) rfl rfl rfl ?_
      refine gLoadIN 45 X3 hx (H d3_44) rfl rfl ?_
      refine gCallSJ X3 hx hZ (y := mn21) hown rfl (by rw [hml]; rfl) (ow hw 78 rfl) (ow hw 79 rfl) (ow hw 73 rfl) (ow hw 80 rfl) (by decide) (argsL := [(.ref t3), (.int (2 : Int32))]) (st := [(.ref a)]) (c_cfal_2 l Z a0 hw t3 ct3 ch0 ch1 _ Aq3) (lenOf pd_16 rfl) (H d3_45) (pc' := 48) rfl rfl rfl rfl (by decide) (W := 1) (Nat.le_of_eq rfl) (by decide) (by decide) (by decide) ?_
      intro T4 X4 e4
      refine gPutF X4 hx hZ hown (ow hw 29 rfl) Via.refl e4 f3_2 f3_1 (Or.inr ⟨(ow hw 25 rfl), rfl, hnm⟩) (ow hw 10 rfl) (ty := .byte) (by decide) rfl rfl (H d3_48) (pc' := 51) rfl (fun T5 h5 X5 e5 W5 => ?_)
      have f5_0 := f3_0.wr W5
      have f5_1 := f3_1.wr W5
      have f5_2 := f3_2.same W5
      have f5_3 := f3_3.other W5 (Or.inr (slot_ne (Or.inr (ow hw 24 rfl)) (Or.inr (ow hw 25 rfl)) (by decide) (t := (.array .byte)) (t' := .byte) (by decide) (by decide)))
      have f5_4 := Aq3.other W5 nt3
      have zs5 : h0.size ≤ h5.size := by rw [W5.size]; exact Kq3.1
      have N5 := Fr.snoc X5 N3 ga
      have K5 : Keep h0 h5 [a] := K3.wr W5 (Or.inl (by simp))
      refine gLoadAN 52 X5 hx (H d3_51) rfl rfl rfl ?_
      refine gLoadA 54 X5 hx (H d3_52) rfl rfl rfl ?_
      refine gPutF X5 hx hZ hown (ow hw 28 rfl) Via.refl e5 f5_3 f5_1 (Or.inr ⟨(ow hw 24 rfl), rfl, hnm⟩) (ow hw 10 rfl) (ty := (.array .byte)) (by decide) rfl rfl (H d3_54) (pc' := 57) rfl (fun T6 h6 X6 e6 W6 => ?_)
      have f6_0 := f5_0.wr W6
      have f6_1 := f5_1.wr W6
      have f6_2 := f5_2.other W6 (Or.inr (slot_ne (Or.inr (ow hw 25 rfl)) (Or.inr (ow hw 24 rfl)) (by decide) (t := .byte) (t' := (.array .byte)) (by decide) (by decide)))
      have f6_3 := f5_3.same W6
      have f6_4 := f5_4.other W6 nt3
      have zs6 : h0.size ≤ h6.size := by rw [W6.size]; exact zs5
      have N6 := Fr.snoc X6 N5 ga
      have K6 : Keep h0 h6 [a] := K5.wr W6 (Or.inl (by simp))
      exact gRetV X6 hx hlk hret (H d3_57) (by decide) (by decide) (⟨t3, ct3, rfl, N6, by rw [e6]; exact K6, gt3, by rw [e6]; exact f6_1, by rw [e6]; exact f6_2, by rw [e6]; exact f6_3, by rw [e6]; exact f6_4⟩)
  · exact absurd c5 (by decide)
theorem c_sinit_2 (l : Launch) (Z : State) (a0 : Array Value) (hw : ∀ d ∈ tables_1, d.before a0 Z = true) (a x : Addr) (cx : ClassId) (n0 : Nat) (ch0 ch1 : Int32) (h0 : Heap) (hCpt : Cpt Z h0) (ga : n0 ≤ a) (gz : n0 ≤ h0.size) (hax : x ≠ a) (E : sE Z h0 a) (C : sC Z h0 a) (V : Fld Z h0 a "java/lang/String" "value" "[B" .null) (A : Arv Z h0 x cx .char 2 [.int ch0, .int ch1] (.int 0)) (hch0 : rg ch0) (hch1 : rg ch1) :
    Ctr l Z mn7 jdk_42_method_3_code 2 none [] ⟨3, 1, 2, 54⟩ #[(.ref a), (.ref x)] h0 (fun v h L => ∃ (t : Addr) (ct : ClassId), v = none ∧ Fr n0 L ∧ Keep h0 h [a] ∧ h0.size ≤ t ∧ sE Z h a ∧ sC Z h a ∧ sV Z h a t ∧ sA Z h t ct 2 [by8 ch0, by8 ch1]) := by
  refine Ctr.of (plainFor_of_name pn_4) ?_
  intro p e s m below meth c s₁ hx H hml hret hown hnm hZ hlk X0 e0
  refine Goes.cast (show entryFrame m _ _ = mkF m 0 #[.val (.ref a), .val (.ref x)] [] from rfl) ?_
  refine gLoadAN 1 X0 hx (H d8_0) rfl rfl rfl ?_
  refine gLoadAN 2 X0 hx (H d8_1) rfl rfl rfl ?_
  refine gIconst 3 X0 hx (v := (0 : Int32)) (H d8_2) rfl rfl ?_
  refine gLoadAN 4 X0 hx (H d8_3) rfl rfl rfl ?_
  refine gArrLen X0 hx hZ e0 A (H d8_4) (pc' := 5) rfl ?_
  refine gNull 6 X0 hx (H d8_5) rfl ?_
  refine gCallI X0 hx hZ (y := mn8) rfl hown e0 (by rw [hml]; rfl) (ow hw 15 rfl) (ow hw 16 rfl) (ow hw 11 rfl) (ow hw 18 rfl) (by decide) (argsL := [(.ref x), (.int (0 : Int32)), (.int (2 : Int32)), .null]) (st := []) (c_sinit_2v l Z a0 hw a x cx n0 ch0 ch1 h0 hCpt ga gz hax E C V A hch0 hch1) (lenOf pd_24 rfl) (H d8_6) (pc' := 9) rfl rfl (by decide) (W := 0) (Nat.le_of_eq rfl) (by decide) (by decide) (by decide) ?_
  intro T1 v1 L1 X1 hQ1
  obtain ⟨t, ct, rfl, Nq, Kq, gt, Eq, Cq, Vq, Aq⟩ := hQ1
  exact gRetV X1 hx hlk hret (H d8_9) (by decide) (by decide) (⟨t, ct, rfl, Nq, Kq, gt, Eq, Cq, Vq, Aq⟩)
theorem d25_37 : decode method_3_code 37 = .ok (.iload_n 1, 1) := by decide +kernel
theorem d25_38 : decode method_3_code 38 = .ok (.iconst 2, 1) := by decide +kernel
theorem d25_39 : decode method_3_code 39 = .ok (.if_icmp .ne 26, 3) := by decide +kernel
theorem d25_42 : decode method_3_code 42 = .ok (.new 7, 3) := by decide +kernel
theorem d25_45 : decode method_3_code 45 = .ok (.dup, 1) := by decide +kernel
theorem d25_46 : decode method_3_code 46 = .ok (.iconst 2, 1) := by decide +kernel
theorem d25_47 : decode method_3_code 47 = .ok (.newarray .char, 2) := by decide +kernel
theorem d25_49 : decode method_3_code 49 = .ok (.dup, 1) := by decide +kernel
theorem d25_50 : decode method_3_code 50 = .ok (.iconst 0, 1) := by decide +kernel
theorem d25_51 : decode method_3_code 51 = .ok (.aload_n 0, 1) := by decide +kernel
theorem d25_52 : decode method_3_code 52 = .ok (.iconst 0, 1) := by decide +kernel
theorem d25_53 : decode method_3_code 53 = .ok (.caload, 1) := by decide +kernel
theorem d25_54 : decode method_3_code 54 = .ok (.castore, 1) := by decide +kernel
theorem d25_55 : decode method_3_code 55 = .ok (.dup, 1) := by decide +kernel
theorem d25_56 : decode method_3_code 56 = .ok (.iconst 1, 1) := by decide +kernel
theorem d25_57 : decode method_3_code 57 = .ok (.aload_n 0, 1) := by decide +kernel
theorem d25_58 : decode method_3_code 58 = .ok (.iconst 1, 1) := by decide +kernel
theorem d25_59 : decode method_3_code 59 = .ok (.caload, 1) := by decide +kernel
theorem d25_60 : decode method_3_code 60 = .ok (.castore, 1) := by decide +kernel
theorem d25_61 : decode method_3_code 61 = .ok (.invokespecial 9, 3) := by decide +kernel
theorem d25_64 : decode method_3_code 64 = .ok (.areturn, 1) := by decide +kernel
theorem c_mk_2 (l : Launch) (Z : State) (a0 : Array Value) (hw : ∀ d ∈ tables_1, d.before a0 Z = true) (x : Addr) (cx : ClassId) (ch0 ch1 ch2 ch3 ch4 : Int32) (h0 : Heap) (hCpt : Cpt Z h0) (A : Arv Z h0 x cx .char 5 [.int ch0, .int ch1, .int ch2, .int ch3, .int ch4] (.int 0)) (hch0 : rg ch0) (hch1 : rg ch1) (hch2 : rg ch2) (hch3 : rg ch3) (hch4 : rg ch4) :
    Ctr l Z mn3 method_3_code 2 (some (.object "java/lang/String")) [] ⟨4, 3, 8, 68⟩ #[(.ref x), (.int (2 : Int32))] h0 (SQd Z h0 2 [by8 ch0, by8 ch1]) := by
  refine Ctr.of (plainFor_of_name pn_1) ?_
  intro p e s m below meth c s₁ hx H hml hret hown hnm hZ hlk X0 e0
  refine Goes.cast (show entryFrame m _ _ = mkF m 0 #[.val (.ref x), .val (.int (2 : Int32))] [] from rfl) ?_
  refine gLoadIN 1 X0 hx (H d25_0) rfl rfl ?_
  refine gIfGt X0 hx (H d25_1) (pc' := 15) (by decide) (by decide) (pn := 4) rfl (fun (c1 : (0 : Int) < (2 : Int)) => ?_) (fun (c1 : (2 : Int) ≤ (0 : Int)) => ?_)
  · refine gLoadIN 16 X0 hx (H d25_15) rfl rfl ?_
    refine gIconst 17 X0 hx (v := (1 : Int32)) (H d25_16) rfl rfl ?_
    refine gIcmpNeT X0 hx (H d25_17) (pc' := 37) (by decide) (by decide) (pn := 20) rfl (fun (c17 : ¬ (2 : Int) = (1 : Int)) => ?_) (fun (c17 : (2 : Int) = (1 : Int)) => ?_)
    · refine gLoadIN 38 X0 hx (H d25_37) rfl rfl ?_
      refine gIconst 39 X0 hx (v := (2 : Int32)) (H d25_38) rfl rfl ?_
      refine gIcmpNeT X0 hx (H d25_39) (pc' := 65) (by decide) (by decide) (pn := 42) rfl (fun (c39 : ¬ (2 : Int) = (2 : Int)) => ?_) (fun (c39 : (2 : Int) = (2 : Int)) => ?_)
      · exact absurd c39 (by decide)
      · refine gNew X0 hx hZ hown (ow hw 9 rfl) (ow hw 10 rfl) (ow hw 11 rfl) e0 (H d25_42) (pc' := 45) rfl (by decide) (by decide) (fun T1 h1 b1 X1 e1 g1 E1 A1 D1 => ?_)
        have ne_x_b1 : x ≠ b1 := Nat.ne_of_lt (Nat.lt_of_lt_of_eq A.lt g1.symm)
        have f1_0 := hCpt.ext E1
        have f1_1 := A.ext E1
        have sz_b1 : h0.size ≤ b1 := Nat.le_trans (Nat.le_refl _) (Nat.le_of_eq g1.symm)
        have zs1 : h0.size ≤ h1.size := Nat.le_trans (Nat.le_refl _) E1.1
        have K1 : Keep h0 h1 [] := (Keep.refl h0 []).ext E1
        have F1_value : Fld Z h1 b1 "java/lang/String" "value" "[B" .null := D1 (Or.inr (ow hw 24 rfl)) (ty := (.array .byte)) (by decide)
        have F1_coder : Fld Z h1 b1 "java/lang/String" "coder" "B" (.int (0 : Int32)) := D1 (Or.inr (ow hw 25 rfl)) (ty := .byte) (by decide)
        refine gDup 46 X1 hx (H d25_45) rfl rfl ?_
        refine gIconst 47 X1 hx (v := (2 : Int32)) (H d25_46) rfl rfl ?_
        refine gNewP X1 hx hZ (ow hw 1 rfl) e1 (n := (2 : Int32)) (H d25_47) (by decide) (cap := 2) (by decide) (by decide) (by decide) (by decide) 2 (pc' := 49) rfl (fun T2 h2 b2 ck2 X2 e2 g2 E2 A2 => ?_)
        have ne_x_b2 : x ≠ b2 := Nat.ne_of_lt (Nat.lt_of_lt_of_eq f1_1.lt g2.symm)
        have ne_b1_b2 : b1 ≠ b2 := Nat.ne_of_lt (Nat.lt_of_lt_of_eq A1.lt g2.symm)
        have f2_0 := f1_0.ext E2
        have f2_1 := f1_1.ext E2
        have f2_2 := A1.ext E2
        have f2_3 := F1_value.ext E2
        have f2_4 := F1_coder.ext E2
        have sz_b2 : h0.size ≤ b2 := Nat.le_trans zs1 (Nat.le_of_eq g2.symm)
        have zs2 : h0.size ≤ h2.size := Nat.le_trans zs1 E2.1
        have K2 : Keep h0 h2 [] := K1.ext E2
        have V2 : Arv Z h2 b2 ck2 .char (2 : Int32) [(.int (0 : Int32)), (.int (0 : Int32))] (.int (0 : Int32)) := A2
        refine gDup 50 X2 hx (H d25_49) rfl rfl ?_
        refine gIconst 51 X2 hx (v := (0 : Int32)) (H d25_50) rfl rfl ?_
        refine gLoadAN 52 X2 hx (H d25_51) rfl rfl rfl ?_
        refine gIconst 53 X2 hx (v := (0 : Int32)) (H d25_52) rfl rfl ?_
        refine gCaload X2 hx hZ e2 f2_1 (j := (0 : Int32)) (v := (.int ch0)) (by decide) (by decide) rfl (H d25_53) (pc' := 54) rfl ?_
        refine gCastore X2 hx hZ e2 (x := ch0) V2 (j := (0 : Int32)) (by decide) (by decide) 0 (by decide) (by simp) (H d25_54) (pc' := 55) rfl (fun T3 h3 X3 e3 W3 A3 => ?_)
        have f3_0 := f2_0.wr W3
        have f3_1 := f2_1.other W3 ne_x_b2
        have f3_2 := f2_2.wr W3
        have f3_3 := f2_3.other W3 (Or.inl ne_b1_b2)
        have f3_4 := f2_4.other W3 (Or.inl ne_b1_b2)
        have zs3 : h0.size ≤ h3.size := by rw [W3.size]; exact zs2
        have N3 := Fr.snoc X3 (Fr.nil h0.size) sz_b2
        have K3 : Keep h0 h3 [] := K2.wr W3 (Or.inr sz_b2)
        have V3 : Arv Z h3 b2 _ .char (2 : Int32) [(.int ch0), (.int (0 : Int32))] (.int (0 : Int32)) := (by have q := A3; rw [own_nc (own_c8 hch0)] at q; exact q)
        refine gDup 56 X3 hx (H d25_55) rfl rfl ?_
        refine gIconst 57 X3 hx (v := (1 : Int32)) (H d25_56) rfl rfl ?_
        refine gLoadAN 58 X3 hx (H d25_57) rfl rfl rfl ?_
        refine gIconst 59 X3 hx (v := (1 : Int32)) (H d25_58) rfl rfl ?_
        refine gCaload X3 hx hZ e3 f3_1 (j := (1 : Int32)) (v := (.int ch1)) (by decide) (by decide) rfl (H d25_59) (pc' := 60) rfl ?_
        refine gCastore X3 hx hZ e3 (x := ch1) V3 (j := (1 : Int32)) (by decide) (by decide) 1 (by decide) (by simp) (H d25_60) (pc' := 61) rfl (fun T4 h4 X4 e4 W4 A4 => ?_)
        have f4_0 := f3_0.wr W4
        have f4_1 := f3_1.other W4 ne_x_b2
        have f4_2 := f3_2.wr W4
        have f4_3 := f3_3.other W4 (Or.inl ne_b1_b2)
        have f4_4 := f3_4.other W4 (Or.inl ne_b1_b2)
        have zs4 : h0.size ≤ h4.size := by rw [W4.size]; exact zs3
        have N4 := Fr.snoc X4 N3 sz_b2
        have K4 : Keep h0 h4 [] := K3.wr W4 (Or.inr sz_b2)
        have V4 : Arv Z h4 b2 _ .char (2 : Int32) [(.int ch0), (.int ch1)] (.int (0 : Int32)) := (by have q := A4; rw [own_nc (own_c8 hch1)] at q; exact q)
        refine gCallI X4 hx hZ (y := mn7) rfl hown e4 (by rw [hml]; rfl) (ow hw 12 rfl) (ow hw 13 rfl) (ow hw 11 rfl) (ow hw 14 rfl) (by decide) (argsL := [(.ref b2)]) (st := [(.ref b1)]) (c_sinit_2 l Z a0 hw b1 b2 _ h0.size ch0 ch1 h4 f4_0 sz_b1 zs4 (Ne.symm ne_b1_b2) f4_2 f4_4 f4_3 V4 hch0 hch1) (lenOf pd_21 rfl) (H d25_61) (pc' := 64) rfl rfl (by decide) (W := 1) (Nat.le_of_eq rfl) (by decide) (by decide) (by decide) ?_
        intro T5 v5 L5 X5 hQ5
        obtain ⟨t5, ct5, rfl, Nq5, Kq5, gt5, Eq5, Cq5, Vq5, Aq5⟩ := hQ5
        have N5 := Fr.app N4 Nq5
        have f5_0 := own_cpt_keep f4_0 Kq5 (nsS (Exa.nostat f4_2) ns0)
        have f5_1 := f4_1.keep Kq5 (ninS ne_x_b1 nin0)
        have f5_2 := f4_2.keep Kq5
        have f5_5 := V4.keep Kq5 (ninS (Ne.symm ne_b1_b2) nin0)
        have zs5 := Nat.le_trans zs4 Kq5.1
        have K5 : Keep h0 T5.heap [] := K4.trans Kq5 (allS (Or.inr sz_b1) all0)
        exact gRetA X5 hx hlk hret rfl rfl (H d25_64) (by decide) (by decide) (⟨b1, t5, ct5, rfl, N5, K5, Eq5, Cq5, Vq5, Aq5⟩)
    · exact absurd c17 (by decide)
  · exact absurd c1 (by decide)
theorem c_compress_3i (l : Launch) (Z : State) (a0 : Array Value) (hw : ∀ d ∈ tables_1, d.before a0 Z = true) (x t : Addr) (cx ct : ClassId) (n0 : Nat) (ch0 ch1 ch2 : Int32) (h0 : Heap) (gt : n0 ≤ t) (hne : x ≠ t) (A : Arv Z h0 x cx .char 3 [.int ch0, .int ch1, .int ch2] (.int 0)) (B : Arv Z h0 t ct .byte 3 [.int 0, .int 0, .int 0] (.int 0)) (hch0 : rg ch0) (hch1 : rg ch1) (hch2 : rg ch2) :
    Ctr l Z mn23 jdk_52_method_21_code 7 (some .int) [] ⟨0, 0, 0, 0⟩ #[(.ref x), (.int (0 : Int32)), (.ref t), (.int (0 : Int32)), (.int (3 : Int32))] h0 (fun v h L => v = some (.int 3) ∧ Fr n0 L ∧ Keep h0 h [t] ∧ sA Z h t ct 3 [by8 ch0, by8 ch1, by8 ch2]) := by
  refine Ctr.of (plainFor_of_name pn_6) ?_
  intro p e s m below meth c s₁ hx H hml hret hown hnm hZ hlk X0 e0
  refine Goes.cast (show entryFrame m _ _ = mkF m 0 #[.val (.ref x), .val (.int (0 : Int32)), .val (.ref t), .val (.int (0 : Int32)), .val (.int (3 : Int32)), .unset, .unset] [] from rfl) ?_
  refine gIconst 1 X0 hx (v := (0 : Int32)) (H d20_0) rfl rfl ?_
  refine gStoreI 3 X0 hx (H d20_1) (l' := #[.val (.ref x), .val (.int (0 : Int32)), .val (.ref t), .val (.int (0 : Int32)), .val (.int (3 : Int32)), .val (.int (0 : Int32)), .unset]) rfl rfl ?_
  refine gLoadI 5 X0 hx (H d20_3) rfl rfl ?_
  refine gLoadI 7 X0 hx (H d20_5) rfl rfl ?_
  refine gIcmpGe X0 hx (H d20_7) (pc' := 44) (by decide) (by decide) (pn := 10) rfl (fun (c7 : (3 : Int) ≤ (0 : Int)) => ?_) (fun (c7 : (0 : Int) < (3 : Int)) => ?_)
  · exact absurd c7 (by decide)
  · refine gLoadAN 11 X0 hx (H d20_10) rfl rfl rfl ?_
    refine gLoadIN 12 X0 hx (H d20_11) rfl rfl ?_
    refine gCaload X0 hx hZ e0 A (j := (0 : Int32)) (v := (.int ch0)) (by decide) (by decide) rfl (H d20_12) (pc' := 13) rfl ?_
    refine gStoreI 15 X0 hx (H d20_13) (l' := #[.val (.ref x), .val (.int (0 : Int32)), .val (.ref t), .val (.int (0 : Int32)), .val (.int (3 : Int32)), .val (.int (0 : Int32)), .val (.int ch0)]) rfl rfl ?_
    refine gLoadI 17 X0 hx (H d20_15) rfl rfl ?_
    refine gSipush 20 X0 hx (v := (255 : Int32)) (H d20_17) rfl rfl ?_
    refine gIcmpLe X0 hx (H d20_20) (pc' := 26) (by decide) (by decide) (pn := 23) rfl (fun (c20 : ch0.toInt ≤ (255 : Int)) => ?_) (fun (c20 : (255 : Int) < ch0.toInt) => ?_)
    · refine gLoadAN 27 X0 hx (H d20_26) rfl rfl rfl ?_
      refine gLoadIN 28 X0 hx (H d20_27) rfl rfl ?_
      refine gLoadI 30 X0 hx (H d20_28) rfl rfl ?_
      refine gI2b 31 X0 hx (H d20_30) rfl ?_
      refine gBastore X0 hx hZ e0 (x := (ch0.toInt8.toInt32)) B (j := (0 : Int32)) (by decide) (by decide) 0 (by decide) (by simp) (H d20_31) (pc' := 32) rfl (fun T1 h1 X1 e1 W1 A1 => ?_)
      have f1_0 := A.other W1 hne
      have zs1 : h0.size ≤ h1.size := by rw [W1.size]; exact (Nat.le_refl _)
      have N1 := Fr.snoc X1 (Fr.nil n0) gt
      have K1 : Keep h0 h1 [t] := (Keep.refl h0 [t]).wr W1 (Or.inl (by simp))
      have V1 : Arv Z h1 t _ .byte (3 : Int32) [(.int (ch0.toInt8.toInt32)), (.int (0 : Int32)), (.int (0 : Int32))] (.int 0) := (by have q := A1; rw [own_nb] at q; exact q)
      refine gIinc X1 hx (v := (1 : Int32)) (H d20_32) (l' := #[.val (.ref x), .val (.int (1 : Int32)), .val (.ref t), .val (.int (0 : Int32)), .val (.int (3 : Int32)), .val (.int (0 : Int32)), .val (.int ch0)]) (pc' := 35) rfl rfl rfl rfl ?_
      refine gIinc X1 hx (v := (1 : Int32)) (H d20_35) (l' := #[.val (.ref x), .val (.int (1 : Int32)), .val (.ref t), .val (.int (1 : Int32)), .val (.int (3 : Int32)), .val (.int (0 : Int32)), .val (.int ch0)]) (pc' := 38) rfl rfl rfl rfl ?_
      refine gIinc X1 hx (v := (1 : Int32)) (H d20_38) (l' := #[.val (.ref x), .val (.int (1 : Int32)), .val (.ref t), .val (.int (1 : Int32)), .val (.int (3 : Int32)), .val (.int (1 : Int32)), .val (.int ch0)]) (pc' := 41) rfl rfl rfl rfl ?_
      refine gGoto X1 hx (H d20_41) (pc' := 3) (by decide) (by decide) ?_
      refine gLoadI 5 X1 hx (H d20_3) rfl rfl ?_
      refine gLoadI 7 X1 hx (H d20_5) rfl rfl ?_
      refine gIcmpGe X1 hx (H d20_7) (pc' := 44) (by decide) (by decide) (pn := 10) rfl (fun (c7' : (3 : Int) ≤ (1 : Int)) => ?_) (fun (c7' : (1 : Int) < (3 : Int)) => ?_)
      · exact absurd c7' (by decide)
      · refine gLoadAN 11 X1 hx (H d20_10) rfl rfl rfl ?_
        refine gLoadIN 12 X1 hx (H d20_11) rfl rfl ?_
        refine gCaload X1 hx hZ e1 f1_0 (j := (1 : Int32)) (v := (.int ch1)) (by decide) (by decide) rfl (H d20_12) (pc' := 13) rfl ?_
        refine gStoreI 15 X1 hx (H d20_13) (l' := #[.val (.ref x), .val (.int (1 : Int32)), .val (.ref t), .val (.int (1 : Int32)), .val (.int (3 : Int32)), .val (.int (1 : Int32)), .val (.int ch1)]) rfl rfl ?_
        refine gLoadI 17 X1 hx (H d20_15) rfl rfl ?_
        refine gSipush 20 X1 hx (v := (255 : Int32)) (H d20_17) rfl rfl ?_
        refine gIcmpLe X1 hx (H d20_20) (pc' := 26) (by decide) (by decide) (pn := 23) rfl (fun (c20' : ch1.toInt ≤ (255 : Int)) => ?_) (fun (c20' : (255 : Int) < ch1.toInt) => ?_)
        · refine gLoadAN 27 X1 hx (H d20_26) rfl rfl rfl ?_
          refine gLoadIN 28 X1 hx (H d20_27) rfl rfl ?_
          refine gLoadI 30 X1 hx (H d20_28) rfl rfl ?_
          refine gI2b 31 X1 hx (H d20_30) rfl ?_
          refine gBastore X1 hx hZ e1 (x := (ch1.toInt8.toInt32)) V1 (j := (1 : Int32)) (by decide) (by decide) 1 (by decide) (by simp) (H d20_31) (pc' := 32) rfl (fun T2 h2 X2 e2 W2 A2 => ?_)
          have f2_0 := f1_0.other W2 hne
          have zs2 : h0.size ≤ h2.size := by rw [W2.size]; exact zs1
          have N2 := Fr.snoc X2 N1 gt
          have K2 : Keep h0 h2 [t] := K1.wr W2 (Or.inl (by simp))
          have V2 : Arv Z h2 t _ .byte (3 : Int32) [(.int (ch0.toInt8.toInt32)), (.int (ch1.toInt8.toInt32)), (.int (0 : Int32))] (.int 0) := (by have q := A2; rw [own_nb] at q; exact q)
          refine gIinc X2 hx (v := (1 : Int32)) (H d20_32) (l' := #[.val (.ref x), .val (.int (2 : Int32)), .val (.ref t), .val (.int (1 : Int32)), .val (.int (3 : Int32)), .val (.int (1 : Int32)), .val (.int ch1)]) (pc' := 35) rfl rfl rfl rfl ?_
          refine gIinc X2 hx (v := (1 : Int32)) (H d20_35) (l' := #[.val (.ref x), .val (.int (2 : Int32)), .val (.ref t), .val (.int (2 : Int32)), .val (.int (3 : Int32)), .val (.int (1 : Int32)), .val (.int ch1)]) (pc' := 38) rfl rfl rfl rfl ?_
          refine gIinc X2 hx (v := (1 : Int32)) (H d20_38) (l' := #[.val (.ref x), .val (.int (2 : Int32)), .val (.ref t), .val (.int (2 : Int32)), .val (.int (3 : Int32)), .val (.int (2 : Int32)), .val (.int ch1)]) (pc' := 41) rfl rfl rfl rfl ?_
          refine gGoto X2 hx (H d20_41) (pc' := 3) (by decide) (by decide) ?_
          refine gLoadI 5 X2 hx (H d20_3) rfl rfl ?_
          refine gLoadI 7 X2 hx (H d20_5) rfl rfl ?_
          refine gIcmpGe X2 hx (H d20_7) (pc' := 44) (by decide) (by decide) (pn := 10) rfl (fun (c7'' : (3 : Int) ≤ (2 : Int)) => ?_) (fun (c7'' : (2 : Int) < (3 : Int)) => ?_)
          · exact absurd c7'' (by decide)
          · refine gLoadAN 11 X2 hx (H d20_10) rfl rfl rfl ?_
            refine gLoadIN 12 X2 hx (H d20_11) rfl rfl ?_
            refine gCaload X2 hx hZ e2 f2_0 (j := (2 : Int32)) (v := (.int ch2)) (by decide) (by decide) rfl (H d20_12) (pc' := 13) rfl ?_
            refine gStoreI 15 X2 hx (H d20_13) (l' := #[.val (.ref x), .val (.int (2 : Int32)), .val (.ref t), .val (.int (2 : Int32)), .val (.int (3 : Int32)), .val (.int (2 : Int32)), .val (.int ch2)]) rfl rfl ?_
            refine gLoadI 17 X2 hx (H d20_15) rfl rfl ?_
            refine gSipush 20 X2 hx (v := (255 : Int32)) (H d20_17) rfl rfl ?_
            refine gIcmpLe X2 hx (H d20_20) (pc' := 26) (by decide) (by decide) (pn := 23) rfl (fun (c20'' : ch2.toInt ≤ (255 : Int)) => ?_) (fun (c20'' : (255 : Int) < ch2.toInt) => ?_)
            · refine gLoadAN 27 X2 hx (H d20_26) rfl rfl rfl ?_
              refine gLoadIN 28 X2 hx (H d20_27) rfl rfl ?_
              refine gLoadI 30 X2 hx (H d20_28) rfl rfl ?_
              refine gI2b 31 X2 hx (H d20_30) rfl ?_
              refine gBastore X2 hx hZ e2 (x := (ch2.toInt8.toInt32)) V2 (j := (2 : Int32)) (by decide) (by decide) 2 (by decide) (by simp) (H d20_31) (pc' := 32) rfl (fun T3 h3 X3 e3 W3 A3 => ?_)
              have f3_0 := f2_0.other W3 hne
              have zs3 : h0.size ≤ h3.size := by rw [W3.size]; exact zs2
              have N3 := Fr.snoc X3 N2 gt
              have K3 : Keep h0 h3 [t] := K2.wr W3 (Or.inl (by simp))
              have V3 : Arv Z h3 t _ .byte (3 : Int32) [(.int (ch0.toInt8.toInt32)), (.int (ch1.toInt8.toInt32)), (.int (ch2.toInt8.toInt32))] (.int 0) := (by have q := A3; rw [own_nb] at q; exact q)
              refine gIinc X3 hx (v := (1 : Int32)) (H d20_32) (l' := #[.val (.ref x), .val (.int (3 : Int32)), .val (.ref t), .val (.int (2 : Int32)), .val (.int (3 : Int32)), .val (.int (2 : Int32)), .val (.int ch2)]) (pc' := 35) rfl rfl rfl rfl ?_
              refine gIinc X3 hx (v := (1 : Int32)) (H d20_35) (l' := #[.val (.ref x), .val (.int (3 : Int32)), .val (.ref t), .val (.int (3 : Int32)), .val (.int (3 : Int32)), .val (.int (2 : Int32)), .val (.int ch2)]) (pc' := 38) rfl rfl rfl rfl ?_
              refine gIinc X3 hx (v := (1 : Int32)) (H d20_38) (l' := #[.val (.ref x), .val (.int (3 : Int32)), .val (.ref t), .val (.int (3 : Int32)), .val (.int (3 : Int32)), .val (.int (3 : Int32)), .val (.int ch2)]) (pc' := 41) rfl rfl rfl rfl ?_
              refine gGoto X3 hx (H d20_41) (pc' := 3) (by decide) (by decide) ?_
              refine gLoadI 5 X3 hx (H d20_3) rfl rfl ?_
              refine gLoadI 7 X3 hx (H d20_5) rfl rfl ?_
              refine gIcmpGe X3 hx (H d20_7) (pc' := 44) (by decide) (by decide) (pn := 10) rfl (fun (c7''' : (3 : Int) ≤ (3 : Int)) => ?_) (fun (c7''' : (3 : Int) < (3 : Int)) => ?_)
              · refine gLoadI 46 X3 hx (H d20_44) rfl rfl ?_
                exact gRetI X3 hx hlk hret (H d20_46) (by decide) (by decide) (⟨rfl, N3, by rw [e3]; exact K3, by rw [e3]; exact V3⟩)
              · exact absurd c7''' (by decide)
            · exact absurd c20'' (by omega)
        · exact absurd c20' (by omega)
    · exact absurd c20 (by omega)
theorem c_compress_3 (l : Launch) (Z : State) (a0 : Array Value) (hw : ∀ d ∈ tables_1, d.before a0 Z = true) (x : Addr) (cx : ClassId) (ch0 ch1 ch2 : Int32) (h0 : Heap) (A : Arv Z h0 x cx .char 3 [.int ch0, .int ch1, .int ch2] (.int 0)) (hch0 : rg ch0) (hch1 : rg ch1) (hch2 : rg ch2) :
    Ctr l Z mn22 jdk_52_method_16_code 6 (some (.array .byte)) [] ⟨1, 1, 3, 18⟩ #[(.ref x), (.int (0 : Int32)), (.int (3 : Int32))] h0 (fun v h L => ∃ (t : Addr) (ct : ClassId), v = some (.ref t) ∧ h0.size ≤ t ∧ Fr h0.size L ∧ Keep h0 h [] ∧ sA Z h t ct 3 [by8 ch0, by8 ch1, by8 ch2]) := by
  refine Ctr.of (plainFor_of_name pn_6) ?_
  intro p e s m below meth c s₁ hx H hml hret hown hnm hZ hlk X0 e0
  refine Goes.cast (show entryFrame m _ _ = mkF m 0 #[.val (.ref x), .val (.int (0 : Int32)), .val (.int (3 : Int32)), .unset, .unset, .unset] [] from rfl) ?_
  refine gLoadIN 1 X0 hx (H d19_0) rfl rfl ?_
  refine gNewP X0 hx hZ (ow hw 23 rfl) e0 (n := (3 : Int32)) (H d19_1) (by decide) (cap := 3) (by decide) (by decide) (by decide) (by decide) 3 (pc' := 3) rfl (fun T1 h1 b1 ck1 X1 e1 g1 E1 A1 => ?_)
  have ne_x_b1 : x ≠ b1 := Nat.ne_of_lt (Nat.lt_of_lt_of_eq A.lt g1.symm)
  have f1_0 := A.ext E1
  have sz_b1 : h0.size ≤ b1 := Nat.le_trans (Nat.le_refl _) (Nat.le_of_eq g1.symm)
  have zs1 : h0.size ≤ h1.size := Nat.le_trans (Nat.le_refl _) E1.1
  have K1 : Keep h0 h1 [] := (Keep.refl h0 []).ext E1
  have V1 : Arv Z h1 b1 ck1 .byte (3 : Int32) [(.int (0 : Int32)), (.int (0 : Int32)), (.int (0 : Int32))] (.int (0 : Int32)) := A1
  refine gStoreAN 4 X1 hx (H d19_3) (l' := #[.val (.ref x), .val (.int (0 : Int32)), .val (.int (3 : Int32)), .val (.ref b1), .unset, .unset]) rfl rfl rfl ?_
  refine gLoadAN 5 X1 hx (H d19_4) rfl rfl rfl ?_
  refine gLoadIN 6 X1 hx (H d19_5) rfl rfl ?_
  refine gLoadAN 7 X1 hx (H d19_6) rfl rfl rfl ?_
  refine gIconst 8 X1 hx (v := (0 : Int32)) (H d19_7) rfl rfl ?_
  refine gLoadIN 9 X1 hx (H d19_8) rfl rfl ?_
  refine gCallS X1 hx hZ (y := mn23) hown e1 (by rw [hml]; rfl) (ow hw 75 rfl) (ow hw 76 rfl) (ow hw 73 rfl) (ow hw 77 rfl) (by decide) (argsL := [(.ref x), (.int (0 : Int32)), (.ref b1), (.int (0 : Int32)), (.int (3 : Int32))]) (st := []) (c_compress_3i l Z a0 hw x b1 cx ck1 h0.size ch0 ch1 ch2 h1 sz_b1 ne_x_b1 f1_0 V1 hch0 hch1 hch2) (lenOf pd_25 rfl) (H d19_9) (pc' := 12) rfl rfl (by decide) (W := 0) (Nat.le_of_eq rfl) (by decide) (by decide) (by decide) ?_
  intro T2 v2 L2 X2 hQ2
  obtain ⟨rfl, Nq2, Kq2, Aq2⟩ := hQ2
  have N2 := Fr.app (Fr.nil h0.size) Nq2
  have K2 : Keep h0 T2.heap [] := K1.trans Kq2 (allS (Or.inr sz_b1) all0)
  refine gStoreI 14 X2 hx (H d19_12) (l' := #[.val (.ref x), .val (.int (0 : Int32)), .val (.int (3 : Int32)), .val (.ref b1), .val (.int (3 : Int32)), .unset]) rfl rfl ?_
  refine gLoadI 16 X2 hx (H d19_14) rfl rfl ?_
  refine gLoadIN 17 X2 hx (H d19_16) rfl rfl ?_
  refine gIcmpEqT X2 hx (H d19_17) (pc' := 57) (by decide) (by decide) (pn := 20) rfl (fun (c17 : (3 : Int) = (3 : Int)) => ?_) (fun (c17 : ¬ (3 : Int) = (3 : Int)) => ?_)
  · refine gLoadAN 58 X2 hx (H d19_57) rfl rfl rfl ?_
    exact gRetA X2 hx hlk hret rfl rfl (H d19_58) (by decide) (by decide) (⟨b1, _, rfl, sz_b1, N2, K2, Aq2⟩)
  · exact absurd c17 (by decide)
theorem c_cfal_3 (l : Launch) (Z : State) (a0 : Array Value) (hw : ∀ d ∈ tables_1, d.before a0 Z = true) (t : Addr) (ck : ClassId) (ch0 ch1 ch2 : Int32) (h0 : Heap) (A : sA Z h0 t ck 3 [by8 ch0, by8 ch1, by8 ch2]) :
    Ctr l Z mn21 jdk_52_method_15_code 2 (some .byte) [] ⟨0, 0, 0, 0⟩ #[(.ref t), (.int (3 : Int32))] h0 (Just h0 (.int 0)) := by
  refine Ctr.of (plainFor_of_name pn_6) ?_
  intro p e s m below meth c s₁ hx H hml hret hown hnm hZ hlk X0 e0
  refine Goes.cast (show entryFrame m _ _ = mkF m 0 #[.val (.ref t), .val (.int (3 : Int32))] [] from rfl) ?_
  refine gLoadIN 1 X0 hx (H d18_0) rfl rfl ?_
  refine gLoadAN 2 X0 hx (H d18_1) rfl rfl rfl ?_
  refine gArrLen X0 hx hZ e0 A (H d18_2) (pc' := 3) rfl ?_
  refine gIsub 4 X0 hx (H d18_3) rfl ?_
  show Goes p e below _ s₁ (mkF m 4 #[.val (.ref t), .val (.int (3 : Int32))] [(.int (0 : Int32))])
  refine gBipush 6 X0 hx (v := (31 : Int32)) (H d18_4) rfl rfl ?_
  refine gIushr 7 X0 hx (H d18_6) rfl ?_
  show Goes p e below _ s₁ (mkF m 7 #[.val (.ref t), .val (.int (3 : Int32))] [(.int (0 : Int32))])
  refine gI2b 8 X0 hx (H d18_7) rfl ?_
  show Goes p e below _ s₁ (mkF m 8 #[.val (.ref t), .val (.int (3 : Int32))] [(.int (0 : Int32))])
  exact gRetN X0 hx hlk hret (by simp) (H d18_8) (w := (0 : Int32)) rfl (by decide) (by decide) (⟨rfl, e0, rfl⟩)
theorem c_sinit_3v (l : Launch) (Z : State) (a0 : Array Value) (hw : ∀ d ∈ tables_1, d.before a0 Z = true) (a x : Addr) (cx : ClassId) (n0 : Nat) (ch0 ch1 ch2 : Int32) (h0 : Heap) (hCpt : Cpt Z h0) (ga : n0 ≤ a) (gz : n0 ≤ h0.size) (hax : x ≠ a) (E : sE Z h0 a) (C : sC Z h0 a) (V : Fld Z h0 a "java/lang/String" "value" "[B" .null) (A : Arv Z h0 x cx .char 3 [.int ch0, .int ch1, .int ch2] (.int 0)) (hch0 : rg ch0) (hch1 : rg ch1) (hch2 : rg ch2) :
    Ctr l Z mn8 jdk_42_method_149_code 6 none [] ⟨2, 1, 3, 37⟩ #[(.ref a), (.ref x), (.int (0 : Int32)), (.int (3 : Int32)), .null] h0 (fun v h L => ∃ (t : Addr) (ct : ClassId), v = none ∧ Fr n0 L ∧ Keep h0 h [a] ∧ h0.size ≤ t ∧ sE Z h a ∧ sC Z h a ∧ sV Z h a t ∧ sA Z h t ct 3 [by8 ch0, by8 ch1, by8 ch2]) := by
  refine Ctr.of (plainFor_of_name pn_4) ?_
  intro p e s m below meth c s₁ hx H hml hret hown hnm hZ hlk X0 e0
  refine Goes.cast (show entryFrame m _ _ = mkF m 0 #[.val (.ref a), .val (.ref x), .val (.int (0 : Int32)), .val (.int (3 : Int32)), .val .null, .unset] [] from rfl) ?_
  have hCpt0 := hCpt
  obtain ⟨cz, SC, hcz⟩ := hCpt0
  refine gLoadAN 1 X0 hx (H d3_0) rfl rfl rfl ?_
  refine gInitO X0 hx hZ hown (ow hw 19 rfl) (ow hw 20 rfl) (ow hw 21 rfl) e0 (by rw [hml]; rfl) (H d3_1) (pc' := 4) rfl (by decide) (W := 0) (Nat.le_of_eq rfl) (by decide) (fun T1 X1 e1 => ?_)
  refine gLoadIN 5 X1 hx (H d3_4) rfl rfl ?_
  refine gIfNeT X1 hx (H d3_5) (pc' := 27) (by decide) (by decide) (pn := 8) rfl (fun (c5 : ¬ (3 : Int) = (0 : Int)) => ?_) (fun (c5 : (3 : Int) = (0 : Int)) => ?_)
  · refine gGetS X1 hx hZ hown (ow hw 49 rfl) Via.refl e1 SC (H d3_27) (pc' := 30) rfl (fun T2 X2 e2 => ?_)
    refine gIfEqT X2 hx (H d3_30) (pc' := 58) (by decide) (by decide) (pn := 33) rfl (fun (c30 : cz.toInt = (0 : Int)) => ?_) (fun (c30 : ¬ cz.toInt = (0 : Int)) => ?_)
    · exact absurd c30 hcz
    · refine gLoadAN 34 X2 hx (H d3_33) rfl rfl rfl ?_
      refine gLoadIN 35 X2 hx (H d3_34) rfl rfl ?_
      refine gLoadIN 36 X2 hx (H d3_35) rfl rfl ?_
      refine gCallS X2 hx hZ (y := mn22) hown e2 (by rw [hml]; rfl) (ow hw 71 rfl) (ow hw 72 rfl) (ow hw 73 rfl) (ow hw 74 rfl) (by decide) (argsL := [(.ref x), (.int (0 : Int32)), (.int (3 : Int32))]) (st := []) (c_compress_3 l Z a0 hw x cx ch0 ch1 ch2 h0 A hch0 hch1 hch2) (lenOf pd_23 rfl) (H d3_36) (pc' := 39) rfl rfl (by decide) (W := 0) (Nat.le_of_eq rfl) (by decide) (by decide) (by decide) ?_
      intro T3 v3 L3 X3 hQ3
      obtain ⟨t3, ct3, rfl, gt3, Nq3, Kq3, Aq3⟩ := hQ3
      have N3 := Fr.app (Fr.nil n0) (fun y hy => Nat.le_trans gz (Nq3 y hy))
      have K3 : Keep h0 T3.heap [a] := (Keep.refl h0 [a]).trans Kq3 all0
      have f3_0 := own_sta_keep SC Kq3 ns0
      have f3_1 := E.keep Kq3
      have f3_2 := C.keep Kq3 nin0
      have f3_3 := V.keep Kq3 nin0
      have nt3 : t3 ≠ a := Ne.symm (Nat.ne_of_lt (Nat.lt_of_lt_of_le E.lt gt3))
      refine gStoreA 41 X3 hx (H d3_39) (l' := #[.val (.ref a), .val (.ref x), .val (.int (0 : Int32)), .val (.int (3 : Int32)), .val .null, .val (.ref t3)]) rfl rfl rfl ?_
      refine gLoadAN 42 X3 hx (H d3_41) rfl rfl rfl ?_
      refine gLoadA 44 X3 hx (H d3_42) rfl rfl rfl ?_
      refine gLoadIN 45 X3 hx (H d3_44) rfl rfl ?_
      refine gCallSJ X3 hx hZ (y := mn21) hown rfl (by rw [hml]; rfl) (ow hw 78 rfl) (ow hw 79 rfl) (ow hw 73 rfl) (ow hw 80 rfl) (by decide) (argsL := [(.ref t3), (.int (3 : Int32))]) (st := [(.ref a)]) (c_cfal_3 l Z a0 hw t3 ct3 ch0 ch1 ch2 _ Aq3) (lenOf pd_16 rfl) (H d3_45) (pc' := 48) rfl rfl rfl rfl (by decide) (W := 1) (Nat.le_of_eq rfl) (by decide) (by decide) (by decide) ?_
      intro T4 X4 e4
      refine gPutF X4 hx hZ hown (ow hw 29 rfl) Via.refl e4 f3_2 f3_1 (Or.inr ⟨(ow hw 25 rfl), rfl, hnm⟩) (ow hw 10 rfl) (ty := .byte) (by decide) rfl rfl (H d3_48) (pc' := 51) rfl (fun T5 h5 X5 e5 W5 => ?_)
      have f5_0 := f3_0.wr W5
      have f5_1 := f3_1.wr W5
      have f5_2 := f3_2.same W5
      have f5_3 := f3_3.other W5 (Or.inr (slot_ne (Or.inr (ow hw 24 rfl)) (Or.inr (ow hw 25 rfl)) (by decide) (t := (.array .byte)) (t' := .byte) (by decide) (by decide)))
      have f5_4 := Aq3.other W5 nt3
      have zs5 : h0.size ≤ h5.size := by rw [W5.size]; exact Kq3.1
      have N5 := Fr.snoc X5 N3 ga
      have K5 : Keep h0 h5 [a] := K3.wr W5 (Or.inl (by simp))
      refine gLoadAN 52 X5 hx (H d3_51) rfl rfl rfl ?_
      refine gLoadA 54 X5 hx (H d3_52) rfl rfl rfl ?_
      refine gPutF X5 hx hZ hown (ow hw 28 rfl) Via.refl e5 f5_3 f5_1 (Or.inr ⟨(ow hw 24 rfl), rfl, hnm⟩) (ow hw 10 rfl) (ty := (.array .byte)) (by decide) rfl rfl (H d3_54) (pc' := 57) rfl (fun T6 h6 X6 e6 W6 => ?_)
      have f6_0 := f5_0.wr W6
      have f6_1 := f5_1.wr W6
      have f6_2 := f5_2.other W6 (Or.inr (slot_ne (Or.inr (ow hw 25 rfl)) (Or.inr (ow hw 24 rfl)) (by decide) (t := .byte) (t' := (.array .byte)) (by decide) (by decide)))
      have f6_3 := f5_3.same W6
      have f6_4 := f5_4.other W6 nt3
      have zs6 : h0.size ≤ h6.size := by rw [W6.size]; exact zs5
      have N6 := Fr.snoc X6 N5 ga
      have K6 : Keep h0 h6 [a] := K5.wr W6 (Or.inl (by simp))
      exact gRetV X6 hx hlk hret (H d3_57) (by decide) (by decide) (⟨t3, ct3, rfl, N6, by rw [e6]; exact K6, gt3, by rw [e6]; exact f6_1, by rw [e6]; exact f6_2, by rw [e6]; exact f6_3, by rw [e6]; exact f6_4⟩)
  · exact absurd c5 (by decide)
theorem c_sinit_3 (l : Launch) (Z : State) (a0 : Array Value) (hw : ∀ d ∈ tables_1, d.before a0 Z = true) (a x : Addr) (cx : ClassId) (n0 : Nat) (ch0 ch1 ch2 : Int32) (h0 : Heap) (hCpt : Cpt Z h0) (ga : n0 ≤ a) (gz : n0 ≤ h0.size) (hax : x ≠ a) (E : sE Z h0 a) (C : sC Z h0 a) (V : Fld Z h0 a "java/lang/String" "value" "[B" .null) (A : Arv Z h0 x cx .char 3 [.int ch0, .int ch1, .int ch2] (.int 0)) (hch0 : rg ch0) (hch1 : rg ch1) (hch2 : rg ch2) :
    Ctr l Z mn7 jdk_42_method_3_code 2 none [] ⟨3, 1, 3, 54⟩ #[(.ref a), (.ref x)] h0 (fun v h L => ∃ (t : Addr) (ct : ClassId), v = none ∧ Fr n0 L ∧ Keep h0 h [a] ∧ h0.size ≤ t ∧ sE Z h a ∧ sC Z h a ∧ sV Z h a t ∧ sA Z h t ct 3 [by8 ch0, by8 ch1, by8 ch2]) := by
  refine Ctr.of (plainFor_of_name pn_4) ?_
  intro p e s m below meth c s₁ hx H hml hret hown hnm hZ hlk X0 e0
  refine Goes.cast (show entryFrame m _ _ = mkF m 0 #[.val (.ref a), .val (.ref x)] [] from rfl) ?_
  refine gLoadAN 1 X0 hx (H d8_0) rfl rfl rfl ?_
  refine gLoadAN 2 X0 hx (H d8_1) rfl rfl rfl ?_
  refine gIconst 3 X0 hx (v := (0 : Int32)) (H d8_2) rfl rfl ?_
  refine gLoadAN 4 X0 hx (H d8_3) rfl rfl rfl ?_
  refine gArrLen X0 hx hZ e0 A (H d8_4) (pc' := 5) rfl ?_
  refine gNull 6 X0 hx (H d8_5) rfl ?_
  refine gCallI X0 hx hZ (y := mn8) rfl hown e0 (by rw [hml]; rfl) (ow hw 15 rfl) (ow hw 16 rfl) (ow hw 11 rfl) (ow hw 18 rfl) (by decide) (argsL := [(.ref x), (.int (0 : Int32)), (.int (3 : Int32)), .null]) (st := []) (c_sinit_3v l Z a0 hw a x cx n0 ch0 ch1 ch2 h0 hCpt ga gz hax E C V A hch0 hch1 hch2) (lenOf pd_24 rfl) (H d8_6) (pc' := 9) rfl rfl (by decide) (W := 0) (Nat.le_of_eq rfl) (by decide) (by decide) (by decide) ?_
  intro T1 v1 L1 X1 hQ1
  obtain ⟨t, ct, rfl, Nq, Kq, gt, Eq, Cq, Vq, Aq⟩ := hQ1
  exact gRetV X1 hx hlk hret (H d8_9) (by decide) (by decide) (⟨t, ct, rfl, Nq, Kq, gt, Eq, Cq, Vq, Aq⟩)
theorem d25_65 : decode method_3_code 65 = .ok (.iload_n 1, 1) := by decide +kernel
theorem d25_66 : decode method_3_code 66 = .ok (.iconst 3, 1) := by decide +kernel
theorem d25_67 : decode method_3_code 67 = .ok (.if_icmp .ne 32, 3) := by decide +kernel
theorem d25_70 : decode method_3_code 70 = .ok (.new 7, 3) := by decide +kernel
theorem d25_73 : decode method_3_code 73 = .ok (.dup, 1) := by decide +kernel
theorem d25_74 : decode method_3_code 74 = .ok (.iconst 3, 1) := by decide +kernel
theorem d25_75 : decode method_3_code 75 = .ok (.newarray .char, 2) := by decide +kernel
theorem d25_77 : decode method_3_code 77 = .ok (.dup, 1) := by decide +kernel
theorem d25_78 : decode method_3_code 78 = .ok (.iconst 0, 1) := by decide +kernel
theorem d25_79 : decode method_3_code 79 = .ok (.aload_n 0, 1) := by decide +kernel
theorem d25_80 : decode method_3_code 80 = .ok (.iconst 0, 1) := by decide +kernel
theorem d25_81 : decode method_3_code 81 = .ok (.caload, 1) := by decide +kernel
theorem d25_82 : decode method_3_code 82 = .ok (.castore, 1) := by decide +kernel
theorem d25_83 : decode method_3_code 83 = .ok (.dup, 1) := by decide +kernel
theorem d25_84 : decode method_3_code 84 = .ok (.iconst 1, 1) := by decide +kernel
theorem d25_85 : decode method_3_code 85 = .ok (.aload_n 0, 1) := by decide +kernel
theorem d25_86 : decode method_3_code 86 = .ok (.iconst 1, 1) := by decide +kernel
theorem d25_87 : decode method_3_code 87 = .ok (.caload, 1) := by decide +kernel
theorem d25_88 : decode method_3_code 88 = .ok (.castore, 1) := by decide +kernel
theorem d25_89 : decode method_3_code 89 = .ok (.dup, 1) := by decide +kernel
theorem d25_90 : decode method_3_code 90 = .ok (.iconst 2, 1) := by decide +kernel
theorem d25_91 : decode method_3_code 91 = .ok (.aload_n 0, 1) := by decide +kernel
theorem d25_92 : decode method_3_code 92 = .ok (.iconst 2, 1) := by decide +kernel
theorem d25_93 : decode method_3_code 93 = .ok (.caload, 1) := by decide +kernel
theorem d25_94 : decode method_3_code 94 = .ok (.castore, 1) := by decide +kernel
theorem d25_95 : decode method_3_code 95 = .ok (.invokespecial 9, 3) := by decide +kernel
theorem d25_98 : decode method_3_code 98 = .ok (.areturn, 1) := by decide +kernel
theorem c_mk_3 (l : Launch) (Z : State) (a0 : Array Value) (hw : ∀ d ∈ tables_1, d.before a0 Z = true) (x : Addr) (cx : ClassId) (ch0 ch1 ch2 ch3 ch4 : Int32) (h0 : Heap) (hCpt : Cpt Z h0) (A : Arv Z h0 x cx .char 5 [.int ch0, .int ch1, .int ch2, .int ch3, .int ch4] (.int 0)) (hch0 : rg ch0) (hch1 : rg ch1) (hch2 : rg ch2) (hch3 : rg ch3) (hch4 : rg ch4) :
    Ctr l Z mn3 method_3_code 2 (some (.object "java/lang/String")) [] ⟨4, 3, 10, 68⟩ #[(.ref x), (.int (3 : Int32))] h0 (SQd Z h0 3 [by8 ch0, by8 ch1, by8 ch2]) := by
  refine Ctr.of (plainFor_of_name pn_1) ?_
  intro p e s m below meth c s₁ hx H hml hret hown hnm hZ hlk X0 e0
  refine Goes.cast (show entryFrame m _ _ = mkF m 0 #[.val (.ref x), .val (.int (3 : Int32))] [] from rfl) ?_
  refine gLoadIN 1 X0 hx (H d25_0) rfl rfl ?_
  refine gIfGt X0 hx (H d25_1) (pc' := 15) (by decide) (by decide) (pn := 4) rfl (fun (c1 : (0 : Int) < (3 : Int)) => ?_) (fun (c1 : (3 : Int) ≤ (0 : Int)) => ?_)
  · refine gLoadIN 16 X0 hx (H d25_15) rfl rfl ?_
    refine gIconst 17 X0 hx (v := (1 : Int32)) (H d25_16) rfl rfl ?_
    refine gIcmpNeT X0 hx (H d25_17) (pc' := 37) (by decide) (by decide) (pn := 20) rfl (fun (c17 : ¬ (3 : Int) = (1 : Int)) => ?_) (fun (c17 : (3 : Int) = (1 : Int)) => ?_)
    · refine gLoadIN 38 X0 hx (H d25_37) rfl rfl ?_
      refine gIconst 39 X0 hx (v := (2 : Int32)) (H d25_38) rfl rfl ?_
      refine gIcmpNeT X0 hx (H d25_39) (pc' := 65) (by decide) (by decide) (pn := 42) rfl (fun (c39 : ¬ (3 : Int) = (2 : Int)) => ?_) (fun (c39 : (3 : Int) = (2 : Int)) => ?_)
      · refine gLoadIN 66 X0 hx (H d25_65) rfl rfl ?_
        refine gIconst 67 X0 hx (v := (3 : Int32)) (H d25_66) rfl rfl ?_
        refine gIcmpNeT X0 hx (H d25_67) (pc' := 99) (by decide) (by decide) (pn := 70) rfl (fun (c67 : ¬ (3 : Int) = (3 : Int)) => ?_) (fun (c67 : (3 : Int) = (3 : Int)) => ?_)
        · exact absurd c67 (by decide)
        · refine gNew X0 hx hZ hown (ow hw 9 rfl) (ow hw 10 rfl) (ow hw 11 rfl) e0 (H d25_70) (pc' := 73) rfl (by decide) (by decide) (fun T1 h1 b1 X1 e1 g1 E1 A1 D1 => ?_)
          have ne_x_b1 : x ≠ b1 := Nat.ne_of_lt (Nat.lt_of_lt_of_eq A.lt g1.symm)
          have f1_0 := hCpt.ext E1
          have f1_1 := A.ext E1
          have sz_b1 : h0.size ≤ b1 := Nat.le_trans (Nat.le_refl _) (Nat.le_of_eq g1.symm)
          have zs1 : h0.size ≤ h1.size := Nat.le_trans (Nat.le_refl _) E1.1
          have K1 : Keep h0 h1 [] := (Keep.refl h0 []).ext E1
          have F1_value : Fld Z h1 b1 "java/lang/String" "value" "[B" .null := D1 (Or.inr (ow hw 24 rfl)) (ty := (.array .byte)) (by decide)
          have F1_coder : Fld Z h1 b1 "java/lang/String" "coder" "B" (.int (0 : Int32)) := D1 (Or.inr (ow hw 25 rfl)) (ty := .byte) (by decide)
          refine gDup 74 X1 hx (H d25_73) rfl rfl ?_
          refine gIconst 75 X1 hx (v := (3 : Int32)) (H d25_74) rfl rfl ?_
          refine gNewP X1 hx hZ (ow hw 1 rfl) e1 (n := (3 : Int32)) (H d25_75) (by decide) (cap := 3) (by decide) (by decide) (by decide) (by decide) 3 (pc' := 77) rfl (fun T2 h2 b2 ck2 X2 e2 g2 E2 A2 => ?_)
          have ne_x_b2 : x ≠ b2 := Nat.ne_of_lt (Nat.lt_of_lt_of_eq f1_1.lt g2.symm)
          have ne_b1_b2 : b1 ≠ b2 := Nat.ne_of_lt (Nat.lt_of_lt_of_eq A1.lt g2.symm)
          have f2_0 := f1_0.ext E2
          have f2_1 := f1_1.ext E2
          have f2_2 := A1.ext E2
          have f2_3 := F1_value.ext E2
          have f2_4 := F1_coder.ext E2
          have sz_b2 : h0.size ≤ b2 := Nat.le_trans zs1 (Nat.le_of_eq g2.symm)
          have zs2 : h0.size ≤ h2.size := Nat.le_trans zs1 E2.1
          have K2 : Keep h0 h2 [] := K1.ext E2
          have V2 : Arv Z h2 b2 ck2 .char (3 : Int32) [(.int (0 : Int32)), (.int (0 : Int32)), (.int (0 : Int32))] (.int (0 : Int32)) := A2
          refine gDup 78 X2 hx (H d25_77) rfl rfl ?_
          refine gIconst 79 X2 hx (v := (0 : Int32)) (H d25_78) rfl rfl ?_
          refine gLoadAN 80 X2 hx (H d25_79) rfl rfl rfl ?_
          refine gIconst 81 X2 hx (v := (0 : Int32)) (H d25_80) rfl rfl ?_
          refine gCaload X2 hx hZ e2 f2_1 (j := (0 : Int32)) (v := (.int ch0)) (by decide) (by decide) rfl (H d25_81) (pc' := 82) rfl ?_
          refine gCastore X2 hx hZ e2 (x := ch0) V2 (j := (0 : Int32)) (by decide) (by decide) 0 (by decide) (by simp) (H d25_82) (pc' := 83) rfl (fun T3 h3 X3 e3 W3 A3 => ?_)
          have f3_0 := f2_0.wr W3
          have f3_1 := f2_1.other W3 ne_x_b2
          have f3_2 := f2_2.wr W3
          have f3_3 := f2_3.other W3 (Or.inl ne_b1_b2)
          have f3_4 := f2_4.other W3 (Or.inl ne_b1_b2)
          have zs3 : h0.size ≤ h3.size := by rw [W3.size]; exact zs2
          have N3 := Fr.snoc X3 (Fr.nil h0.size) sz_b2
          have K3 : Keep h0 h3 [] := K2.wr W3 (Or.inr sz_b2)
          have V3 : Arv Z h3 b2 _ .char (3 : Int32) [(.int ch0), (.int (0 : Int32)), (.int (0 : Int32))] (.int (0 : Int32)) := (by have q := A3; rw [own_nc (own_c8 hch0)] at q; exact q)
          refine gDup 84 X3 hx (H d25_83) rfl rfl ?_
          refine gIconst 85 X3 hx (v := (1 : Int32)) (H d25_84) rfl rfl ?_
          refine gLoadAN 86 X3 hx (H d25_85) rfl rfl rfl ?_
          refine gIconst 87 X3 hx (v := (1 : Int32)) (H d25_86) rfl rfl ?_
          refine gCaload X3 hx hZ e3 f3_1 (j := (1 : Int32)) (v := (.int ch1)) (by decide) (by decide) rfl (H d25_87) (pc' := 88) rfl ?_
          refine gCastore X3 hx hZ e3 (x := ch1) V3 (j := (1 : Int32)) (by decide) (by decide) 1 (by decide) (by simp) (H d25_88) (pc' := 89) rfl (fun T4 h4 X4 e4 W4 A4 => ?_)
          have f4_0 := f3_0.wr W4
          have f4_1 := f3_1.other W4 ne_x_b2
          have f4_2 := f3_2.wr W4
          have f4_3 := f3_3.other W4 (Or.inl ne_b1_b2)
          have f4_4 := f3_4.other W4 (Or.inl ne_b1_b2)
          have zs4 : h0.size ≤ h4.size := by rw [W4.size]; exact zs3
          have N4 := Fr.snoc X4 N3 sz_b2
          have K4 : Keep h0 h4 [] := K3.wr W4 (Or.inr sz_b2)
          have V4 : Arv Z h4 b2 _ .char (3 : Int32) [(.int ch0), (.int ch1), (.int (0 : Int32))] (.int (0 : Int32)) := (by have q := A4; rw [own_nc (own_c8 hch1)] at q; exact q)
          refine gDup 90 X4 hx (H d25_89) rfl rfl ?_
          refine gIconst 91 X4 hx (v := (2 : Int32)) (H d25_90) rfl rfl ?_
          refine gLoadAN 92 X4 hx (H d25_91) rfl rfl rfl ?_
          refine gIconst 93 X4 hx (v := (2 : Int32)) (H d25_92) rfl rfl ?_
          refine gCaload X4 hx hZ e4 f4_1 (j := (2 : Int32)) (v := (.int ch2)) (by decide) (by decide) rfl (H d25_93) (pc' := 94) rfl ?_
          refine gCastore X4 hx hZ e4 (x := ch2) V4 (j := (2 : Int32)) (by decide) (by decide) 2 (by decide) (by simp) (H d25_94) (pc' := 95) rfl (fun T5 h5 X5 e5 W5 A5 => ?_)
          have f5_0 := f4_0.wr W5
          have f5_1 := f4_1.other W5 ne_x_b2
          have f5_2 := f4_2.wr W5
          have f5_3 := f4_3.other W5 (Or.inl ne_b1_b2)
          have f5_4 := f4_4.other W5 (Or.inl ne_b1_b2)
          have zs5 : h0.size ≤ h5.size := by rw [W5.size]; exact zs4
          have N5 := Fr.snoc X5 N4 sz_b2
          have K5 : Keep h0 h5 [] := K4.wr W5 (Or.inr sz_b2)
          have V5 : Arv Z h5 b2 _ .char (3 : Int32) [(.int ch0), (.int ch1), (.int ch2)] (.int (0 : Int32)) := (by have q := A5; rw [own_nc (own_c8 hch2)] at q; exact q)
          refine gCallI X5 hx hZ (y := mn7) rfl hown e5 (by rw [hml]; rfl) (ow hw 12 rfl) (ow hw 13 rfl) (ow hw 11 rfl) (ow hw 14 rfl) (by decide) (argsL := [(.ref b2)]) (st := [(.ref b1)]) (c_sinit_3 l Z a0 hw b1 b2 _ h0.size ch0 ch1 ch2 h5 f5_0 sz_b1 zs5 (Ne.symm ne_b1_b2) f5_2 f5_4 f5_3 V5 hch0 hch1 hch2) (lenOf pd_21 rfl) (H d25_95) (pc' := 98) rfl rfl (by decide) (W := 1) (Nat.le_of_eq rfl) (by decide) (by decide) (by decide) ?_
          intro T6 v6 L6 X6 hQ6
          obtain ⟨t6, ct6, rfl, Nq6, Kq6, gt6, Eq6, Cq6, Vq6, Aq6⟩ := hQ6
          have N6 := Fr.app N5 Nq6
          have f6_0 := own_cpt_keep f5_0 Kq6 (nsS (Exa.nostat f5_2) ns0)
          have f6_1 := f5_1.keep Kq6 (ninS ne_x_b1 nin0)
          have f6_2 := f5_2.keep Kq6
          have f6_5 := V5.keep Kq6 (ninS (Ne.symm ne_b1_b2) nin0)
          have zs6 := Nat.le_trans zs5 Kq6.1
          have K6 : Keep h0 T6.heap [] := K5.trans Kq6 (allS (Or.inr sz_b1) all0)
          exact gRetA X6 hx hlk hret rfl rfl (H d25_98) (by decide) (by decide) (⟨b1, t6, ct6, rfl, N6, K6, Eq6, Cq6, Vq6, Aq6⟩)
      · exact absurd c39 (by decide)
    · exact absurd c17 (by decide)
  · exact absurd c1 (by decide)
theorem c_compress_4i (l : Launch) (Z : State) (a0 : Array Value) (hw : ∀ d ∈ tables_1, d.before a0 Z = true) (x t : Addr) (cx ct : ClassId) (n0 : Nat) (ch0 ch1 ch2 ch3 : Int32) (h0 : Heap) (gt : n0 ≤ t) (hne : x ≠ t) (A : Arv Z h0 x cx .char 4 [.int ch0, .int ch1, .int ch2, .int ch3] (.int 0)) (B : Arv Z h0 t ct .byte 4 [.int 0, .int 0, .int 0, .int 0] (.int 0)) (hch0 : rg ch0) (hch1 : rg ch1) (hch2 : rg ch2) (hch3 : rg ch3) :
    Ctr l Z mn23 jdk_52_method_21_code 7 (some .int) [] ⟨0, 0, 0, 0⟩ #[(.ref x), (.int (0 : Int32)), (.ref t), (.int (0 : Int32)), (.int (4 : Int32))] h0 (fun v h L => v = some (.int 4) ∧ Fr n0 L ∧ Keep h0 h [t] ∧ sA Z h t ct 4 [by8 ch0, by8 ch1, by8 ch2, by8 ch3]) := by
  refine Ctr.of (plainFor_of_name pn_6) ?_
  intro p e s m below meth c s₁ hx H hml hret hown hnm hZ hlk X0 e0
  refine Goes.cast (show entryFrame m _ _ = mkF m 0 #[.val (.ref x), .val (.int (0 : Int32)), .val (.ref t), .val (.int (0 : Int32)), .val (.int (4 : Int32)), .unset, .unset] [] from rfl) ?_
  refine gIconst 1 X0 hx (v := (0 : Int32)) (H d20_0) rfl rfl ?_
  refine gStoreI 3 X0 hx (H d20_1) (l' := #[.val (.ref x), .val (.int (0 : Int32)), .val (.ref t), .val (.int (0 : Int32)), .val (.int (4 : Int32)), .val (.int (0 : Int32)), .unset]) rfl rfl ?_
  refine gLoadI 5 X0 hx (H d20_3) rfl rfl ?_
  refine gLoadI 7 X0 hx (H d20_5) rfl rfl ?_
  refine gIcmpGe X0 hx (H d20_7) (pc' := 44) (by decide) (by decide) (pn := 10) rfl (fun (c7 : (4 : Int) ≤ (0 : Int)) => ?_) (fun (c7 : (0 : Int) < (4 : Int)) => ?_)
  · exact absurd c7 (by decide)
  · refine gLoadAN 11 X0 hx (H d20_10) rfl rfl rfl ?_
    refine gLoadIN 12 X0 hx (H d20_11) rfl rfl ?_
    refine gCaload X0 hx hZ e0 A (j := (0 : Int32)) (v := (.int ch0)) (by decide) (by decide) rfl (H d20_12) (pc' := 13) rfl ?_
    refine gStoreI 15 X0 hx (H d20_13) (l' := #[.val (.ref x), .val (.int (0 : Int32)), .val (.ref t), .val (.int (0 : Int32)), .val (.int (4 : Int32)), .val (.int (0 : Int32)), .val (.int ch0)]) rfl rfl ?_
    refine gLoadI 17 X0 hx (H d20_15) rfl rfl ?_
    refine gSipush 20 X0 hx (v := (255 : Int32)) (H d20_17) rfl rfl ?_
    refine gIcmpLe X0 hx (H d20_20) (pc' := 26) (by decide) (by decide) (pn := 23) rfl (fun (c20 : ch0.toInt ≤ (255 : Int)) => ?_) (fun (c20 : (255 : Int) < ch0.toInt) => ?_)
    · refine gLoadAN 27 X0 hx (H d20_26) rfl rfl rfl ?_
      refine gLoadIN 28 X0 hx (H d20_27) rfl rfl ?_
      refine gLoadI 30 X0 hx (H d20_28) rfl rfl ?_
      refine gI2b 31 X0 hx (H d20_30) rfl ?_
      refine gBastore X0 hx hZ e0 (x := (ch0.toInt8.toInt32)) B (j := (0 : Int32)) (by decide) (by decide) 0 (by decide) (by simp) (H d20_31) (pc' := 32) rfl (fun T1 h1 X1 e1 W1 A1 => ?_)
      have f1_0 := A.other W1 hne
      have zs1 : h0.size ≤ h1.size := by rw [W1.size]; exact (Nat.le_refl _)
      have N1 := Fr.snoc X1 (Fr.nil n0) gt
      have K1 : Keep h0 h1 [t] := (Keep.refl h0 [t]).wr W1 (Or.inl (by simp))
      have V1 : Arv Z h1 t _ .byte (4 : Int32) [(.int (ch0.toInt8.toInt32)), (.int (0 : Int32)), (.int (0 : Int32)), (.int (0 : Int32))] (.int 0) := (by have q := A1; rw [own_nb] at q; exact q)
      refine gIinc X1 hx (v := (1 : Int32)) (H d20_32) (l' := #[.val (.ref x), .val (.int (1 : Int32)), .val (.ref t), .val (.int (0 : Int32)), .val (.int (4 : Int32)), .val (.int (0 : Int32)), .val (.int ch0)]) (pc' := 35) rfl rfl rfl rfl ?_
      refine gIinc X1 hx (v := (1 : Int32)) (H d20_35) (l' := #[.val (.ref x), .val (.int (1 : Int32)), .val (.ref t), .val (.int (1 : Int32)), .val (.int (4 : Int32)), .val (.int (0 : Int32)), .val (.int ch0)]) (pc' := 38) rfl rfl rfl rfl ?_
      refine gIinc X1 hx (v := (1 : Int32)) (H d20_38) (l' := #[.val (.ref x), .val (.int (1 : Int32)), .val (.ref t), .val (.int (1 : Int32)), .val (.int (4 : Int32)), .val (.int (1 : Int32)), .val (.int ch0)]) (pc' := 41) rfl rfl rfl rfl ?_
      refine gGoto X1 hx (H d20_41) (pc' := 3) (by decide) (by decide) ?_
      refine gLoadI 5 X1 hx (H d20_3) rfl rfl ?_
      refine gLoadI 7 X1 hx (H d20_5) rfl rfl ?_
      refine gIcmpGe X1 hx (H d20_7) (pc' := 44) (by decide) (by decide) (pn := 10) rfl (fun (c7' : (4 : Int) ≤ (1 : Int)) => ?_) (fun (c7' : (1 : Int) < (4 : Int)) => ?_)
      · exact absurd c7' (by decide)
      · refine gLoadAN 11 X1 hx (H d20_10) rfl rfl rfl ?_
        refine gLoadIN 12 X1 hx (H d20_11) rfl rfl ?_
        refine gCaload X1 hx hZ e1 f1_0 (j := (1 : Int32)) (v := (.int ch1)) (by decide) (by decide) rfl (H d20_12) (pc' := 13) rfl ?_
        refine gStoreI 15 X1 hx (H d20_13) (l' := #[.val (.ref x), .val (.int (1 : Int32)), .val (.ref t), .val (.int (1 : Int32)), .val (.int (4 : Int32)), .val (.int (1 : Int32)), .val (.int ch1)]) rfl rfl ?_
        refine gLoadI 17 X1 hx (H d20_15) rfl rfl ?_
        refine gSipush 20 X1 hx (v := (255 : Int32)) (H d20_17) rfl rfl ?_
        refine gIcmpLe X1 hx (H d20_20) (pc' := 26) (by decide) (by decide) (pn := 23) rfl (fun (c20' : ch1.toInt ≤ (255 : Int)) => ?_) (fun (c20' : (255 : Int) < ch1.toInt) => ?_)
        · refine gLoadAN 27 X1 hx (H d20_26) rfl rfl rfl ?_
          refine gLoadIN 28 X1 hx (H d20_27) rfl rfl ?_
          refine gLoadI 30 X1 hx (H d20_28) rfl rfl ?_
          refine gI2b 31 X1 hx (H d20_30) rfl ?_
          refine gBastore X1 hx hZ e1 (x := (ch1.toInt8.toInt32)) V1 (j := (1 : Int32)) (by decide) (by decide) 1 (by decide) (by simp) (H d20_31) (pc' := 32) rfl (fun T2 h2 X2 e2 W2 A2 => ?_)
          have f2_0 := f1_0.other W2 hne
          have zs2 : h0.size ≤ h2.size := by rw [W2.size]; exact zs1
          have N2 := Fr.snoc X2 N1 gt
          have K2 : Keep h0 h2 [t] := K1.wr W2 (Or.inl (by simp))
          have V2 : Arv Z h2 t _ .byte (4 : Int32) [(.int (ch0.toInt8.toInt32)), (.int (ch1.toInt8.toInt32)), (.int (0 : Int32)), (.int (0 : Int32))] (.int 0) := (by have q := A2; rw [own_nb] at q; exact q)
          refine gIinc X2 hx (v := (1 : Int32)) (H d20_32) (l' := #[.val (.ref x), .val (.int (2 : Int32)), .val (.ref t), .val (.int (1 : Int32)), .val (.int (4 : Int32)), .val (.int (1 : Int32)), .val (.int ch1)]) (pc' := 35) rfl rfl rfl rfl ?_
          refine gIinc X2 hx (v := (1 : Int32)) (H d20_35) (l' := #[.val (.ref x), .val (.int (2 : Int32)), .val (.ref t), .val (.int (2 : Int32)), .val (.int (4 : Int32)), .val (.int (1 : Int32)), .val (.int ch1)]) (pc' := 38) rfl rfl rfl rfl ?_
          refine gIinc X2 hx (v := (1 : Int32)) (H d20_38) (l' := #[.val (.ref x), .val (.int (2 : Int32)), .val (.ref t), .val (.int (2 : Int32)), .val (.int (4 : Int32)), .val (.int (2 : Int32)), .val (.int ch1)]) (pc' := 41) rfl rfl rfl rfl ?_
          refine gGoto X2 hx (H d20_41) (pc' := 3) (by decide) (by decide) ?_
          refine gLoadI 5 X2 hx (H d20_3) rfl rfl ?_
          refine gLoadI 7 X2 hx (H d20_5) rfl rfl ?_
          refine gIcmpGe X2 hx (H d20_7) (pc' := 44) (by decide) (by decide) (pn := 10) rfl (fun (c7'' : (4 : Int) ≤ (2 : Int)) => ?_) (fun (c7'' : (2 : Int) < (4 : Int)) => ?_)
          · exact absurd c7'' (by decide)
          · refine gLoadAN 11 X2 hx (H d20_10) rfl rfl rfl ?_
            refine gLoadIN 12 X2 hx (H d20_11) rfl rfl ?_
            refine gCaload X2 hx hZ e2 f2_0 (j := (2 : Int32)) (v := (.int ch2)) (by decide) (by decide) rfl (H d20_12) (pc' := 13) rfl ?_
            refine gStoreI 15 X2 hx (H d20_13) (l' := #[.val (.ref x), .val (.int (2 : Int32)), .val (.ref t), .val (.int (2 : Int32)), .val (.int (4 : Int32)), .val (.int (2 : Int32)), .val (.int ch2)]) rfl rfl ?_
            refine gLoadI 17 X2 hx (H d20_15) rfl rfl ?_
            refine gSipush 20 X2 hx (v := (255 : Int32)) (H d20_17) rfl rfl ?_
            refine gIcmpLe X2 hx (H d20_20) (pc' := 26) (by decide) (by decide) (pn := 23) rfl (fun (c20'' : ch2.toInt ≤ (255 : Int)) => ?_) (fun (c20'' : (255 : Int) < ch2.toInt) => ?_)
            · refine gLoadAN 27 X2 hx (H d20_26) rfl rfl rfl ?_
              refine gLoadIN 28 X2 hx (H d20_27) rfl rfl ?_
              refine gLoadI 30 X2 hx (H d20_28) rfl rfl ?_
              refine gI2b 31 X2 hx (H d20_30) rfl ?_
              refine gBastore X2 hx hZ e2 (x := (ch2.toInt8.toInt32)) V2 (j := (2 : Int32)) (by decide) (by decide) 2 (by decide) (by simp) (H d20_31) (pc' := 32) rfl (fun T3 h3 X3 e3 W3 A3 => ?_)
              have f3_0 := f2_0.other W3 hne
              have zs3 : h0.size ≤ h3.size := by rw [W3.size]; exact zs2
              have N3 := Fr.snoc X3 N2 gt
              have K3 : Keep h0 h3 [t] := K2.wr W3 (Or.inl (by simp))
              have V3 : Arv Z h3 t _ .byte (4 : Int32) [(.int (ch0.toInt8.toInt32)), (.int (ch1.toInt8.toInt32)), (.int (ch2.toInt8.toInt32)), (.int (0 : Int32))] (.int 0) := (by have q := A3; rw [own_nb] at q; exact q)
              refine gIinc X3 hx (v := (1 : Int32)) (H d20_32) (l' := #[.val (.ref x), .val (.int (3 : Int32)), .val (.ref t), .val (.int (2 : Int32)), .val (.int (4 : Int32)), .val (.int (2 : Int32)), .val (.int ch2)]) (pc' := 35) rfl rfl rfl rfl ?_
              refine gIinc X3 hx (v := (1 : Int32)) (H d20_35) (l' := #[.val (.ref x), .val (.int (3 : Int32)), .val (.ref t), .val (.int (3 : Int32)), .val (.int (4 : Int32)), .val (.int (2 : Int32)), .val (.int ch2)]) (pc' := 38) rfl rfl rfl rfl ?_
              refine gIinc X3 hx (v := (1 : Int32)) (H d20_38) (l' := #[.val (.ref x), .val (.int (3 : Int32)), .val (.ref t), .val (.int (3 : Int32)), .val (.int (4 : Int32)), .val (.int (3 : Int32)), .val (.int ch2)]) (pc' := 41) rfl rfl rfl rfl ?_
              refine gGoto X3 hx (H d20_41) (pc' := 3) (by decide) (by decide) ?_
              refine gLoadI 5 X3 hx (H d20_3) rfl rfl ?_
              refine gLoadI 7 X3 hx (H d20_5) rfl rfl ?_
              refine gIcmpGe X3 hx (H d20_7) (pc' := 44) (by decide) (by decide) (pn := 10) rfl (fun (c7''' : (4 : Int) ≤ (3 : Int)) => ?_) (fun (c7''' : (3 : Int) < (4 : Int)) => ?_)
              · exact absurd c7''' (by decide)
              · refine gLoadAN 11 X3 hx (H d20_10) rfl rfl rfl ?_
                refine gLoadIN 12 X3 hx (H d20_11) rfl rfl ?_
                refine gCaload X3 hx hZ e3 f3_0 (j := (3 : Int32)) (v := (.int ch3)) (by decide) (by decide) rfl (H d20_12) (pc' := 13) rfl ?_
                refine gStoreI 15 X3 hx (H d20_13) (l' := #[.val (.ref x), .val (.int (3 : Int32)), .val (.ref t), .val (.int (3 : Int32)), .val (.int (4 : Int32)), .val (.int (3 : Int32)), .val (.int ch3)]) rfl rfl ?_
                refine gLoadI 17 X3 hx (H d20_15) rfl rfl ?_
                refine gSipush 20 X3 hx (v := (255 : Int32)) (H d20_17) rfl rfl ?_
                refine gIcmpLe X3 hx (H d20_20) (pc' := 26) (by decide) (by decide) (pn := 23) rfl (fun (c20''' : ch3.toInt ≤ (255 : Int)) => ?_) (fun (c20''' : (255 : Int) < ch3.toInt) => ?_)
                · refine gLoadAN 27 X3 hx (H d20_26) rfl rfl rfl ?_
                  refine gLoadIN 28 X3 hx (H d20_27) rfl rfl ?_
                  refine gLoadI 30 X3 hx (H d20_28) rfl rfl ?_
                  refine gI2b 31 X3 hx (H d20_30) rfl ?_
                  refine gBastore X3 hx hZ e3 (x := (ch3.toInt8.toInt32)) V3 (j := (3 : Int32)) (by decide) (by decide) 3 (by decide) (by simp) (H d20_31) (pc' := 32) rfl (fun T4 h4 X4 e4 W4 A4 => ?_)
                  have f4_0 := f3_0.other W4 hne
                  have zs4 : h0.size ≤ h4.size := by rw [W4.size]; exact zs3
                  have N4 := Fr.snoc X4 N3 gt
                  have K4 : Keep h0 h4 [t] := K3.wr W4 (Or.inl (by simp))
                  have V4 : Arv Z h4 t _ .byte (4 : Int32) [(.int (ch0.toInt8.toInt32)), (.int (ch1.toInt8.toInt32)), (.int (ch2.toInt8.toInt32)), (.int (ch3.toInt8.toInt32))] (.int 0) := (by have q := A4; rw [own_nb] at q; exact q)
                  refine gIinc X4 hx (v := (1 : Int32)) (H d20_32) (l' := #[.val (.ref x), .val (.int (4 : Int32)), .val (.ref t), .val (.int (3 : Int32)), .val (.int (4 : Int32)), .val (.int (3 : Int32)), .val (.int ch3)]) (pc' := 35) rfl rfl rfl rfl ?_
                  refine gIinc X4 hx (v := (1 : Int32)) (H d20_35) (l' := #[.val (.ref x), .val (.int (4 : Int32)), .val (.ref t), .val (.int (4 : Int32)), .val (.int (4 : Int32)), .val (.int (3 : Int32)), .val (.int ch3)]) (pc' := 38) rfl rfl rfl rfl ?_
                  refine gIinc X4 hx (v := (1 : Int32)) (H d20_38) (l' := #[.val (.ref x), .val (.int (4 : Int32)), .val (.ref t), .val (.int (4 : Int32)), .val (.int (4 : Int32)), .val (.int (4 : Int32)), .val (.int ch3)]) (pc' := 41) rfl rfl rfl rfl ?_
                  refine gGoto X4 hx (H d20_41) (pc' := 3) (by decide) (by decide) ?_
                  refine gLoadI 5 X4 hx (H d20_3) rfl rfl ?_
                  refine gLoadI 7 X4 hx (H d20_5) rfl rfl ?_
                  refine gIcmpGe X4 hx (H d20_7) (pc' := 44) (by decide) (by decide) (pn := 10) rfl (fun (c7'''' : (4 : Int) ≤ (4 : Int)) => ?_) (fun (c7'''' : (4 : Int) < (4 : Int)) => ?_)
                  · refine gLoadI 46 X4 hx (H d20_44) rfl rfl ?_
                    exact gRetI X4 hx hlk hret (H d20_46) (by decide) (by decide) (⟨rfl, N4, by rw [e4]; exact K4, by rw [e4]; exact V4⟩)
                  · exact absurd c7'''' (by decide)
                · exact absurd c20''' (by omega)
            · exact absurd c20'' (by omega)
        · exact absurd c20' (by omega)
    · exact absurd c20 (by omega)
theorem c_compress_4 (l : Launch) (Z : State) (a0 : Array Value) (hw : ∀ d ∈ tables_1, d.before a0 Z = true) (x : Addr) (cx : ClassId) (ch0 ch1 ch2 ch3 : Int32) (h0 : Heap) (A : Arv Z h0 x cx .char 4 [.int ch0, .int ch1, .int ch2, .int ch3] (.int 0)) (hch0 : rg ch0) (hch1 : rg ch1) (hch2 : rg ch2) (hch3 : rg ch3) :
    Ctr l Z mn22 jdk_52_method_16_code 6 (some (.array .byte)) [] ⟨1, 1, 4, 18⟩ #[(.ref x), (.int (0 : Int32)), (.int (4 : Int32))] h0 (fun v h L => ∃ (t : Addr) (ct : ClassId), v = some (.ref t) ∧ h0.size ≤ t ∧ Fr h0.size L ∧ Keep h0 h [] ∧ sA Z h t ct 4 [by8 ch0, by8 ch1, by8 ch2, by8 ch3]) := by
  refine Ctr.of (plainFor_of_name pn_6) ?_
  intro p e s m below meth c s₁ hx H hml hret hown hnm hZ hlk X0 e0
  refine Goes.cast (show entryFrame m _ _ = mkF m 0 #[.val (.ref x), .val (.int (0 : Int32)), .val (.int (4 : Int32)), .unset, .unset, .unset] [] from rfl) ?_
  refine gLoadIN 1 X0 hx (H d19_0) rfl rfl ?_
  refine gNewP X0 hx hZ (ow hw 23 rfl) e0 (n := (4 : Int32)) (H d19_1) (by decide) (cap := 4) (by decide) (by decide) (by decide) (by decide) 4 (pc' := 3) rfl (fun T1 h1 b1 ck1 X1 e1 g1 E1 A1 => ?_)
  have ne_x_b1 : x ≠ b1 := Nat.ne_of_lt (Nat.lt_of_lt_of_eq A.lt g1.symm)
  have f1_0 := A.ext E1
  have sz_b1 : h0.size ≤ b1 := Nat.le_trans (Nat.le_refl _) (Nat.le_of_eq g1.symm)
  have zs1 : h0.size ≤ h1.size := Nat.le_trans (Nat.le_refl _) E1.1
  have K1 : Keep h0 h1 [] := (Keep.refl h0 []).ext E1
  have V1 : Arv Z h1 b1 ck1 .byte (4 : Int32) [(.int (0 : Int32)), (.int (0 : Int32)), (.int (0 : Int32)), (.int (0 : Int32))] (.int (0 : Int32)) := A1
  refine gStoreAN 4 X1 hx (H d19_3) (l' := #[.val (.ref x), .val (.int (0 : Int32)), .val (.int (4 : Int32)), .val (.ref b1), .unset, .unset]) rfl rfl rfl ?_
  refine gLoadAN 5 X1 hx (H d19_4) rfl rfl rfl ?_
  refine gLoadIN 6 X1 hx (H d19_5) rfl rfl ?_
  refine gLoadAN 7 X1 hx (H d19_6) rfl rfl rfl ?_
  refine gIconst 8 X1 hx (v := (0 : Int32)) (H d19_7) rfl rfl ?_
  refine gLoadIN 9 X1 hx (H d19_8) rfl rfl ?_
  refine gCallS X1 hx hZ (y := mn23) hown e1 (by rw [hml]; rfl) (ow hw 75 rfl) (ow hw 76 rfl) (ow hw 73 rfl) (ow hw 77 rfl) (by decide) (argsL := [(.ref x), (.int (0 : Int32)), (.ref b1), (.int (0 : Int32)), (.int (4 : Int32))]) (st := []) (c_compress_4i l Z a0 hw x b1 cx ck1 h0.size ch0 ch1 ch2 ch3 h1 sz_b1 ne_x_b1 f1_0 V1 hch0 hch1 hch2 hch3) (lenOf pd_25 rfl) (H d19_9) (pc' := 12) rfl rfl (by decide) (W := 0) (Nat.le_of_eq rfl) (by decide) (by decide) (by decide) ?_
  intro T2 v2 L2 X2 hQ2
  obtain ⟨rfl, Nq2, Kq2, Aq2⟩ := hQ2
  have N2 := Fr.app (Fr.nil h0.size) Nq2
  have K2 : Keep h0 T2.heap [] := K1.trans Kq2 (allS (Or.inr sz_b1) all0)
  refine gStoreI 14 X2 hx (H d19_12) (l' := #[.val (.ref x), .val (.int (0 : Int32)), .val (.int (4 : Int32)), .val (.ref b1), .val (.int (4 : Int32)), .unset]) rfl rfl ?_
  refine gLoadI 16 X2 hx (H d19_14) rfl rfl ?_
  refine gLoadIN 17 X2 hx (H d19_16) rfl rfl ?_
  refine gIcmpEqT X2 hx (H d19_17) (pc' := 57) (by decide) (by decide) (pn := 20) rfl (fun (c17 : (4 : Int) = (4 : Int)) => ?_) (fun (c17 : ¬ (4 : Int) = (4 : Int)) => ?_)
  · refine gLoadAN 58 X2 hx (H d19_57) rfl rfl rfl ?_
    exact gRetA X2 hx hlk hret rfl rfl (H d19_58) (by decide) (by decide) (⟨b1, _, rfl, sz_b1, N2, K2, Aq2⟩)
  · exact absurd c17 (by decide)
theorem c_cfal_4 (l : Launch) (Z : State) (a0 : Array Value) (hw : ∀ d ∈ tables_1, d.before a0 Z = true) (t : Addr) (ck : ClassId) (ch0 ch1 ch2 ch3 : Int32) (h0 : Heap) (A : sA Z h0 t ck 4 [by8 ch0, by8 ch1, by8 ch2, by8 ch3]) :
    Ctr l Z mn21 jdk_52_method_15_code 2 (some .byte) [] ⟨0, 0, 0, 0⟩ #[(.ref t), (.int (4 : Int32))] h0 (Just h0 (.int 0)) := by
  refine Ctr.of (plainFor_of_name pn_6) ?_
  intro p e s m below meth c s₁ hx H hml hret hown hnm hZ hlk X0 e0
  refine Goes.cast (show entryFrame m _ _ = mkF m 0 #[.val (.ref t), .val (.int (4 : Int32))] [] from rfl) ?_
  refine gLoadIN 1 X0 hx (H d18_0) rfl rfl ?_
  refine gLoadAN 2 X0 hx (H d18_1) rfl rfl rfl ?_
  refine gArrLen X0 hx hZ e0 A (H d18_2) (pc' := 3) rfl ?_
  refine gIsub 4 X0 hx (H d18_3) rfl ?_
  show Goes p e below _ s₁ (mkF m 4 #[.val (.ref t), .val (.int (4 : Int32))] [(.int (0 : Int32))])
  refine gBipush 6 X0 hx (v := (31 : Int32)) (H d18_4) rfl rfl ?_
  refine gIushr 7 X0 hx (H d18_6) rfl ?_
  show Goes p e below _ s₁ (mkF m 7 #[.val (.ref t), .val (.int (4 : Int32))] [(.int (0 : Int32))])
  refine gI2b 8 X0 hx (H d18_7) rfl ?_
  show Goes p e below _ s₁ (mkF m 8 #[.val (.ref t), .val (.int (4 : Int32))] [(.int (0 : Int32))])
  exact gRetN X0 hx hlk hret (by simp) (H d18_8) (w := (0 : Int32)) rfl (by decide) (by decide) (⟨rfl, e0, rfl⟩)
theorem c_sinit_4v (l : Launch) (Z : State) (a0 : Array Value) (hw : ∀ d ∈ tables_1, d.before a0 Z = true) (a x : Addr) (cx : ClassId) (n0 : Nat) (ch0 ch1 ch2 ch3 : Int32) (h0 : Heap) (hCpt : Cpt Z h0) (ga : n0 ≤ a) (gz : n0 ≤ h0.size) (hax : x ≠ a) (E : sE Z h0 a) (C : sC Z h0 a) (V : Fld Z h0 a "java/lang/String" "value" "[B" .null) (A : Arv Z h0 x cx .char 4 [.int ch0, .int ch1, .int ch2, .int ch3] (.int 0)) (hch0 : rg ch0) (hch1 : rg ch1) (hch2 : rg ch2) (hch3 : rg ch3) :
    Ctr l Z mn8 jdk_42_method_149_code 6 none [] ⟨2, 1, 4, 37⟩ #[(.ref a), (.ref x), (.int (0 : Int32)), (.int (4 : Int32)), .null] h0 (fun v h L => ∃ (t : Addr) (ct : ClassId), v = none ∧ Fr n0 L ∧ Keep h0 h [a] ∧ h0.size ≤ t ∧ sE Z h a ∧ sC Z h a ∧ sV Z h a t ∧ sA Z h t ct 4 [by8 ch0, by8 ch1, by8 ch2, by8 ch3]) := by
  refine Ctr.of (plainFor_of_name pn_4) ?_
  intro p e s m below meth c s₁ hx H hml hret hown hnm hZ hlk X0 e0
  refine Goes.cast (show entryFrame m _ _ = mkF m 0 #[.val (.ref a), .val (.ref x), .val (.int (0 : Int32)), .val (.int (4 : Int32)), .val .null, .unset] [] from rfl) ?_
  have hCpt0 := hCpt
  obtain ⟨cz, SC, hcz⟩ := hCpt0
  refine gLoadAN 1 X0 hx (H d3_0) rfl rfl rfl ?_
  refine gInitO X0 hx hZ hown (ow hw 19 rfl) (ow hw 20 rfl) (ow hw 21 rfl) e0 (by rw [hml]; rfl) (H d3_1) (pc' := 4) rfl (by decide) (W := 0) (Nat.le_of_eq rfl) (by decide) (fun T1 X1 e1 => ?_)
  refine gLoadIN 5 X1 hx (H d3_4) rfl rfl ?_
  refine gIfNeT X1 hx (H d3_5) (pc' := 27) (by decide) (by decide) (pn := 8) rfl (fun (c5 : ¬ (4 : Int) = (0 : Int)) => ?_) (fun (c5 : (4 : Int) = (0 : Int)) => ?_)
  · refine gGetS X1 hx hZ hown (ow hw 49 rfl) Via.refl e1 SC (H d3_27) (pc' := 30) rfl (fun T2 X2 e2 => ?_)
    refine gIfEqT X2 hx (H d3_30) (pc' := 58) (by decide) (by decide) (pn := 33) rfl (fun (c30 : cz.toInt = (0 : Int)) => ?_) (fun (c30 : ¬ cz.toInt = (0 : Int)) => ?_)
    · exact absurd c30 hcz
    · refine gLoadAN 34 X2 hx (H d3_33) rfl rfl rfl ?_
      refine gLoadIN 35 X2 hx (H d3_34) rfl rfl ?_
      refine gLoadIN 36 X2 hx (H d3_35) rfl rfl ?_
      refine gCallS X2 hx hZ (y := mn22) hown e2 (by rw [hml]; rfl) (ow hw 71 rfl) (ow hw 72 rfl) (ow hw 73 rfl) (ow hw 74 rfl) (by decide) (argsL := [(.ref x), (.int (0 : Int32)), (.int (4 : Int32))]) (st := []) (c_compress_4 l Z a0 hw x cx ch0 ch1 ch2 ch3 h0 A hch0 hch1 hch2 hch3) (lenOf pd_23 rfl) (H d3_36) (pc' := 39) rfl rfl (by decide) (W := 0) (Nat.le_of_eq rfl) (by decide) (by decide) (by decide) ?_
      intro T3 v3 L3 X3 hQ3
      obtain ⟨t3, ct3, rfl, gt3, Nq3, Kq3, Aq3⟩ := hQ3
      have N3 := Fr.app (Fr.nil n0) (fun y hy => Nat.le_trans gz (Nq3 y hy))
      have K3 : Keep h0 T3.heap [a] := (Keep.refl h0 [a]).trans Kq3 all0
      have f3_0 := own_sta_keep SC Kq3 ns0
      have f3_1 := E.keep Kq3
      have f3_2 := C.keep Kq3 nin0
      have f3_3 := V.keep Kq3 nin0
      have nt3 : t3 ≠ a := Ne.symm (Nat.ne_of_lt (Nat.lt_of_lt_of_le E.lt gt3))
      refine gStoreA 41 X3 hx (H d3_39) (l' := #[.val (.ref a), .val (.ref x), .val (.int (0 : Int32)), .val (.int (4 : Int32)), .val .null, .val (.ref t3)]) rfl rfl rfl ?_
      refine gLoadAN 42 X3 hx (H d3_41) rfl rfl rfl ?_
      refine gLoadA 44 X3 hx (H d3_42) rfl rfl rfl ?_
      refine gLoadIN 45 X3 hx (H d3_44) rfl rfl ?_
      refine gCallSJ X3 hx hZ (y := mn21) hown rfl (by rw [hml]; rfl) (ow hw 78 rfl) (ow hw 79 rfl) (ow hw 73 rfl) (ow hw 80 rfl) (by decide) (argsL := [(.ref t3), (.int (4 : Int32))]) (st := [(.ref a)]) (c_cfal_4 l Z a0 hw t3 ct3 ch0 ch1 ch2 ch3 _ Aq3) (lenOf pd_16 rfl) (H d3_45) (pc' := 48) rfl rfl rfl rfl (by decide) (W := 1) (Nat.le_of_eq rfl) (by decide) (by decide) (by decide) ?_
      intro T4 X4 e4
      refine gPutF X4 hx hZ hown (ow hw 29 rfl) Via.refl e4 f3_2 f3_1 (Or.inr ⟨(ow hw 25 rfl), rfl, hnm⟩) (ow hw 10 rfl) (ty := .byte) (by decide) rfl rfl (H d3_48) (pc' := 51) rfl (fun T5 h5 X5 e5 W5 => ?_)
      have f5_0 := f3_0.wr W5
      have f5_1 := f3_1.wr W5
      have f5_2 := f3_2.same W5
      have f5_3 := f3_3.other W5 (Or.inr (slot_ne (Or.inr (ow hw 24 rfl)) (Or.inr (ow hw 25 rfl)) (by decide) (t := (.array .byte)) (t' := .byte) (by decide) (by decide)))
      have f5_4 := Aq3.other W5 nt3
      have zs5 : h0.size ≤ h5.size := by rw [W5.size]; exact Kq3.1
      have N5 := Fr.snoc X5 N3 ga
      have K5 : Keep h0 h5 [a] := K3.wr W5 (Or.inl (by simp))
      refine gLoadAN 52 X5 hx (H d3_51) rfl rfl rfl ?_
      refine gLoadA 54 X5 hx (H d3_52) rfl rfl rfl ?_
      refine gPutF X5 hx hZ hown (ow hw 28 rfl) Via.refl e5 f5_3 f5_1 (Or.inr ⟨(ow hw 24 rfl), rfl, hnm⟩) (ow hw 10 rfl) (ty := (.array .byte)) (by decide) rfl rfl (H d3_54) (pc' := 57) rfl (fun T6 h6 X6 e6 W6 => ?_)
      have f6_0 := f5_0.wr W6
      have f6_1 := f5_1.wr W6
      have f6_2 := f5_2.other W6 (Or.inr (slot_ne (Or.inr (ow hw 25 rfl)) (Or.inr (ow hw 24 rfl)) (by decide) (t := .byte) (t' := (.array .byte)) (by decide) (by decide)))
      have f6_3 := f5_3.same W6
      have f6_4 := f5_4.other W6 nt3
      have zs6 : h0.size ≤ h6.size := by rw [W6.size]; exact zs5
      have N6 := Fr.snoc X6 N5 ga
      have K6 : Keep h0 h6 [a] := K5.wr W6 (Or.inl (by simp))
      exact gRetV X6 hx hlk hret (H d3_57) (by decide) (by decide) (⟨t3, ct3, rfl, N6, by rw [e6]; exact K6, gt3, by rw [e6]; exact f6_1, by rw [e6]; exact f6_2, by rw [e6]; exact f6_3, by rw [e6]; exact f6_4⟩)
  · exact absurd c5 (by decide)
theorem c_sinit_4 (l : Launch) (Z : State) (a0 : Array Value) (hw : ∀ d ∈ tables_1, d.before a0 Z = true) (a x : Addr) (cx : ClassId) (n0 : Nat) (ch0 ch1 ch2 ch3 : Int32) (h0 : Heap) (hCpt : Cpt Z h0) (ga : n0 ≤ a) (gz : n0 ≤ h0.size) (hax : x ≠ a) (E : sE Z h0 a) (C : sC Z h0 a) (V : Fld Z h0 a "java/lang/String" "value" "[B" .null) (A : Arv Z h0 x cx .char 4 [.int ch0, .int ch1, .int ch2, .int ch3] (.int 0)) (hch0 : rg ch0) (hch1 : rg ch1) (hch2 : rg ch2) (hch3 : rg ch3) :
    Ctr l Z mn7 jdk_42_method_3_code 2 none [] ⟨3, 1, 4, 54⟩ #[(.ref a), (.ref x)] h0 (fun v h L => ∃ (t : Addr) (ct : ClassId), v = none ∧ Fr n0 L ∧ Keep h0 h [a] ∧ h0.size ≤ t ∧ sE Z h a ∧ sC Z h a ∧ sV Z h a t ∧ sA Z h t ct 4 [by8 ch0, by8 ch1, by8 ch2, by8 ch3]) := by
  refine Ctr.of (plainFor_of_name pn_4) ?_
  intro p e s m below meth c s₁ hx H hml hret hown hnm hZ hlk X0 e0
  refine Goes.cast (show entryFrame m _ _ = mkF m 0 #[.val (.ref a), .val (.ref x)] [] from rfl) ?_
  refine gLoadAN 1 X0 hx (H d8_0) rfl rfl rfl ?_
  refine gLoadAN 2 X0 hx (H d8_1) rfl rfl rfl ?_
  refine gIconst 3 X0 hx (v := (0 : Int32)) (H d8_2) rfl rfl ?_
  refine gLoadAN 4 X0 hx (H d8_3) rfl rfl rfl ?_
  refine gArrLen X0 hx hZ e0 A (H d8_4) (pc' := 5) rfl ?_
  refine gNull 6 X0 hx (H d8_5) rfl ?_
  refine gCallI X0 hx hZ (y := mn8) rfl hown e0 (by rw [hml]; rfl) (ow hw 15 rfl) (ow hw 16 rfl) (ow hw 11 rfl) (ow hw 18 rfl) (by decide) (argsL := [(.ref x), (.int (0 : Int32)), (.int (4 : Int32)), .null]) (st := []) (c_sinit_4v l Z a0 hw a x cx n0 ch0 ch1 ch2 ch3 h0 hCpt ga gz hax E C V A hch0 hch1 hch2 hch3) (lenOf pd_24 rfl) (H d8_6) (pc' := 9) rfl rfl (by decide) (W := 0) (Nat.le_of_eq rfl) (by decide) (by decide) (by decide) ?_
  intro T1 v1 L1 X1 hQ1
  obtain ⟨t, ct, rfl, Nq, Kq, gt, Eq, Cq, Vq, Aq⟩ := hQ1
  exact gRetV X1 hx hlk hret (H d8_9) (by decide) (by decide) (⟨t, ct, rfl, Nq, Kq, gt, Eq, Cq, Vq, Aq⟩)
theorem d25_99 : decode method_3_code 99 = .ok (.iload_n 1, 1) := by decide +kernel
theorem d25_100 : decode method_3_code 100 = .ok (.iconst 4, 1) := by decide +kernel
theorem d25_101 : decode method_3_code 101 = .ok (.if_icmp .ne 38, 3) := by decide +kernel
theorem d25_104 : decode method_3_code 104 = .ok (.new 7, 3) := by decide +kernel
theorem d25_107 : decode method_3_code 107 = .ok (.dup, 1) := by decide +kernel
theorem d25_108 : decode method_3_code 108 = .ok (.iconst 4, 1) := by decide +kernel
theorem d25_109 : decode method_3_code 109 = .ok (.newarray .char, 2) := by decide +kernel
theorem d25_111 : decode method_3_code 111 = .ok (.dup, 1) := by decide +kernel
theorem d25_112 : decode method_3_code 112 = .ok (.iconst 0, 1) := by decide +kernel
theorem d25_113 : decode method_3_code 113 = .ok (.aload_n 0, 1) := by decide +kernel
theorem d25_114 : decode method_3_code 114 = .ok (.iconst 0, 1) := by decide +kernel
theorem d25_115 : decode method_3_code 115 = .ok (.caload, 1) := by decide +kernel
theorem d25_116 : decode method_3_code 116 = .ok (.castore, 1) := by decide +kernel
theorem d25_117 : decode method_3_code 117 = .ok (.dup, 1) := by decide +kernel
theorem d25_118 : decode method_3_code 118 = .ok (.iconst 1, 1) := by decide +kernel
theorem d25_119 : decode method_3_code 119 = .ok (.aload_n 0, 1) := by decide +kernel
theorem d25_120 : decode method_3_code 120 = .ok (.iconst 1, 1) := by decide +kernel
theorem d25_121 : decode method_3_code 121 = .ok (.caload, 1) := by decide +kernel
theorem d25_122 : decode method_3_code 122 = .ok (.castore, 1) := by decide +kernel
theorem d25_123 : decode method_3_code 123 = .ok (.dup, 1) := by decide +kernel
theorem d25_124 : decode method_3_code 124 = .ok (.iconst 2, 1) := by decide +kernel
theorem d25_125 : decode method_3_code 125 = .ok (.aload_n 0, 1) := by decide +kernel
theorem d25_126 : decode method_3_code 126 = .ok (.iconst 2, 1) := by decide +kernel
theorem d25_127 : decode method_3_code 127 = .ok (.caload, 1) := by decide +kernel
theorem d25_128 : decode method_3_code 128 = .ok (.castore, 1) := by decide +kernel
theorem d25_129 : decode method_3_code 129 = .ok (.dup, 1) := by decide +kernel
theorem d25_130 : decode method_3_code 130 = .ok (.iconst 3, 1) := by decide +kernel
theorem d25_131 : decode method_3_code 131 = .ok (.aload_n 0, 1) := by decide +kernel
theorem d25_132 : decode method_3_code 132 = .ok (.iconst 3, 1) := by decide +kernel
theorem d25_133 : decode method_3_code 133 = .ok (.caload, 1) := by decide +kernel
theorem d25_134 : decode method_3_code 134 = .ok (.castore, 1) := by decide +kernel
theorem d25_135 : decode method_3_code 135 = .ok (.invokespecial 9, 3) := by decide +kernel
theorem d25_138 : decode method_3_code 138 = .ok (.areturn, 1) := by decide +kernel
theorem c_mk_4 (l : Launch) (Z : State) (a0 : Array Value) (hw : ∀ d ∈ tables_1, d.before a0 Z = true) (x : Addr) (cx : ClassId) (ch0 ch1 ch2 ch3 ch4 : Int32) (h0 : Heap) (hCpt : Cpt Z h0) (A : Arv Z h0 x cx .char 5 [.int ch0, .int ch1, .int ch2, .int ch3, .int ch4] (.int 0)) (hch0 : rg ch0) (hch1 : rg ch1) (hch2 : rg ch2) (hch3 : rg ch3) (hch4 : rg ch4) :
    Ctr l Z mn3 method_3_code 2 (some (.object "java/lang/String")) [] ⟨4, 3, 12, 68⟩ #[(.ref x), (.int (4 : Int32))] h0 (SQd Z h0 4 [by8 ch0, by8 ch1, by8 ch2, by8 ch3]) := by
  refine Ctr.of (plainFor_of_name pn_1) ?_
  intro p e s m below meth c s₁ hx H hml hret hown hnm hZ hlk X0 e0
  refine Goes.cast (show entryFrame m _ _ = mkF m 0 #[.val (.ref x), .val (.int (4 : Int32))] [] from rfl) ?_
  refine gLoadIN 1 X0 hx (H d25_0) rfl rfl ?_
  refine gIfGt X0 hx (H d25_1) (pc' := 15) (by decide) (by decide) (pn := 4) rfl (fun (c1 : (0 : Int) < (4 : Int)) => ?_) (fun (c1 : (4 : Int) ≤ (0 : Int)) => ?_)
  · refine gLoadIN 16 X0 hx (H d25_15) rfl rfl ?_
    refine gIconst 17 X0 hx (v := (1 : Int32)) (H d25_16) rfl rfl ?_
    refine gIcmpNeT X0 hx (H d25_17) (pc' := 37) (by decide) (by decide) (pn := 20) rfl (fun (c17 : ¬ (4 : Int) = (1 : Int)) => ?_) (fun (c17 : (4 : Int) = (1 : Int)) => ?_)
    · refine gLoadIN 38 X0 hx (H d25_37) rfl rfl ?_
      refine gIconst 39 X0 hx (v := (2 : Int32)) (H d25_38) rfl rfl ?_
      refine gIcmpNeT X0 hx (H d25_39) (pc' := 65) (by decide) (by decide) (pn := 42) rfl (fun (c39 : ¬ (4 : Int) = (2 : Int)) => ?_) (fun (c39 : (4 : Int) = (2 : Int)) => ?_)
      · refine gLoadIN 66 X0 hx (H d25_65) rfl rfl ?_
        refine gIconst 67 X0 hx (v := (3 : Int32)) (H d25_66) rfl rfl ?_
        refine gIcmpNeT X0 hx (H d25_67) (pc' := 99) (by decide) (by decide) (pn := 70) rfl (fun (c67 : ¬ (4 : Int) = (3 : Int)) => ?_) (fun (c67 : (4 : Int) = (3 : Int)) => ?_)
        · refine gLoadIN 100 X0 hx (H d25_99) rfl rfl ?_
          refine gIconst 101 X0 hx (v := (4 : Int32)) (H d25_100) rfl rfl ?_
          refine gIcmpNeT X0 hx (H d25_101) (pc' := 139) (by decide) (by decide) (pn := 104) rfl (fun (c101 : ¬ (4 : Int) = (4 : Int)) => ?_) (fun (c101 : (4 : Int) = (4 : Int)) => ?_)
          · exact absurd c101 (by decide)
          · refine gNew X0 hx hZ hown (ow hw 9 rfl) (ow hw 10 rfl) (ow hw 11 rfl) e0 (H d25_104) (pc' := 107) rfl (by decide) (by decide) (fun T1 h1 b1 X1 e1 g1 E1 A1 D1 => ?_)
            have ne_x_b1 : x ≠ b1 := Nat.ne_of_lt (Nat.lt_of_lt_of_eq A.lt g1.symm)
            have f1_0 := hCpt.ext E1
            have f1_1 := A.ext E1
            have sz_b1 : h0.size ≤ b1 := Nat.le_trans (Nat.le_refl _) (Nat.le_of_eq g1.symm)
            have zs1 : h0.size ≤ h1.size := Nat.le_trans (Nat.le_refl _) E1.1
            have K1 : Keep h0 h1 [] := (Keep.refl h0 []).ext E1
            have F1_value : Fld Z h1 b1 "java/lang/String" "value" "[B" .null := D1 (Or.inr (ow hw 24 rfl)) (ty := (.array .byte)) (by decide)
            have F1_coder : Fld Z h1 b1 "java/lang/String" "coder" "B" (.int (0 : Int32)) := D1 (Or.inr (ow hw 25 rfl)) (ty := .byte) (by decide)
            refine gDup 108 X1 hx (H d25_107) rfl rfl ?_
            refine gIconst 109 X1 hx (v := (4 : Int32)) (H d25_108) rfl rfl ?_
            refine gNewP X1 hx hZ (ow hw 1 rfl) e1 (n := (4 : Int32)) (H d25_109) (by decide) (cap := 4) (by decide) (by decide) (by decide) (by decide) 4 (pc' := 111) rfl (fun T2 h2 b2 ck2 X2 e2 g2 E2 A2 => ?_)
            have ne_x_b2 : x ≠ b2 := Nat.ne_of_lt (Nat.lt_of_lt_of_eq f1_1.lt g2.symm)
            have ne_b1_b2 : b1 ≠ b2 := Nat.ne_of_lt (Nat.lt_of_lt_of_eq A1.lt g2.symm)
            have f2_0 := f1_0.ext E2
            have f2_1 := f1_1.ext E2
            have f2_2 := A1.ext E2
            have f2_3 := F1_value.ext E2
            have f2_4 := F1_coder.ext E2
            have sz_b2 : h0.size ≤ b2 := Nat.le_trans zs1 (Nat.le_of_eq g2.symm)
            have zs2 : h0.size ≤ h2.size := Nat.le_trans zs1 E2.1
            have K2 : Keep h0 h2 [] := K1.ext E2
            have V2 : Arv Z h2 b2 ck2 .char (4 : Int32) [(.int (0 : Int32)), (.int (0 : Int32)), (.int (0 : Int32)), (.int (0 : Int32))] (.int (0 : Int32)) := A2
            refine gDup 112 X2 hx (H d25_111) rfl rfl ?_
            refine gIconst 113 X2 hx (v := (0 : Int32)) (H d25_112) rfl rfl ?_
            refine gLoadAN 114 X2 hx (H d25_113) rfl rfl rfl ?_
            refine gIconst 115 X2 hx (v := (0 : Int32)) (H d25_114) rfl rfl ?_
            refine gCaload X2 hx hZ e2 f2_1 (j := (0 : Int32)) (v := (.int ch0)) (by decide) (by decide) rfl (H d25_115) (pc' := 116) rfl ?_
            refine gCastore X2 hx hZ e2 (x := ch0) V2 (j := (0 : Int32)) (by decide) (by decide) 0 (by decide) (by simp) (H d25_116) (pc' := 117) rfl (fun T3 h3 X3 e3 W3 A3 => ?_)
            have f3_0 := f2_0.wr W3
            have f3_1 := f2_1.other W3 ne_x_b2
            have f3_2 := f2_2.wr W3
            have f3_3 := f2_3.other W3 (Or.inl ne_b1_b2)
            have f3_4 := f2_4.other W3 (Or.inl ne_b1_b2)
            have zs3 : h0.size ≤ h3.size := by rw [W3.size]; exact zs2
            have N3 := Fr.snoc X3 (Fr.nil h0.size) sz_b2
            have K3 : Keep h0 h3 [] := K2.wr W3 (Or.inr sz_b2)
            have V3 : Arv Z h3 b2 _ .char (4 : Int32) [(.int ch0), (.int (0 : Int32)), (.int (0 : Int32)), (.int (0 : Int32))] (.int (0 : Int32)) := (by have q := A3; rw [own_nc (own_c8 hch0)] at q; exact q)
            refine gDup 118 X3 hx (H d25_117) rfl rfl ?_
            refine gIconst 119 X3 hx (v := (1 : Int32)) (H d25_118) rfl rfl ?_
            refine gLoadAN 120 X3 hx (H d25_119) rfl rfl rfl ?_
            refine gIconst 121 X3 hx (v := (1 : Int32)) (H d25_120) rfl rfl ?_
            refine gCaload X3 hx hZ e3 f3_1 (j := (1 : Int32)) (v := (.int ch1)) (by decide) (by decide) rfl (H d25_121) (pc' := 122) rfl ?_
            refine gCastore X3 hx hZ e3 (x := ch1) V3 (j := (1 : Int32)) (by decide) (by decide) 1 (by decide) (by simp) (H d25_122) (pc' := 123) rfl (fun T4 h4 X4 e4 W4 A4 => ?_)
            have f4_0 := f3_0.wr W4
            have f4_1 := f3_1.other W4 ne_x_b2
            have f4_2 := f3_2.wr W4
            have f4_3 := f3_3.other W4 (Or.inl ne_b1_b2)
            have f4_4 := f3_4.other W4 (Or.inl ne_b1_b2)
            have zs4 : h0.size ≤ h4.size := by rw [W4.size]; exact zs3
            have N4 := Fr.snoc X4 N3 sz_b2
            have K4 : Keep h0 h4 [] := K3.wr W4 (Or.inr sz_b2)
            have V4 : Arv Z h4 b2 _ .char (4 : Int32) [(.int ch0), (.int ch1), (.int (0 : Int32)), (.int (0 : Int32))] (.int (0 : Int32)) := (by have q := A4; rw [own_nc (own_c8 hch1)] at q; exact q)
            refine gDup 124 X4 hx (H d25_123) rfl rfl ?_
            refine gIconst 125 X4 hx (v := (2 : Int32)) (H d25_124) rfl rfl ?_
            refine gLoadAN 126 X4 hx (H d25_125) rfl rfl rfl ?_
            refine gIconst 127 X4 hx (v := (2 : Int32)) (H d25_126) rfl rfl ?_
            refine gCaload X4 hx hZ e4 f4_1 (j := (2 : Int32)) (v := (.int ch2)) (by decide) (by decide) rfl (H d25_127) (pc' := 128) rfl ?_
            refine gCastore X4 hx hZ e4 (x := ch2) V4 (j := (2 : Int32)) (by decide) (by decide) 2 (by decide) (by simp) (H d25_128) (pc' := 129) rfl (fun T5 h5 X5 e5 W5 A5 => ?_)
            have f5_0 := f4_0.wr W5
            have f5_1 := f4_1.other W5 ne_x_b2
            have f5_2 := f4_2.wr W5
            have f5_3 := f4_3.other W5 (Or.inl ne_b1_b2)
            have f5_4 := f4_4.other W5 (Or.inl ne_b1_b2)
            have zs5 : h0.size ≤ h5.size := by rw [W5.size]; exact zs4
            have N5 := Fr.snoc X5 N4 sz_b2
            have K5 : Keep h0 h5 [] := K4.wr W5 (Or.inr sz_b2)
            have V5 : Arv Z h5 b2 _ .char (4 : Int32) [(.int ch0), (.int ch1), (.int ch2), (.int (0 : Int32))] (.int (0 : Int32)) := (by have q := A5; rw [own_nc (own_c8 hch2)] at q; exact q)
            refine gDup 130 X5 hx (H d25_129) rfl rfl ?_
            refine gIconst 131 X5 hx (v := (3 : Int32)) (H d25_130) rfl rfl ?_
            refine gLoadAN 132 X5 hx (H d25_131) rfl rfl rfl ?_
            refine gIconst 133 X5 hx (v := (3 : Int32)) (H d25_132) rfl rfl ?_
            refine gCaload X5 hx hZ e5 f5_1 (j := (3 : Int32)) (v := (.int ch3)) (by decide) (by decide) rfl (H d25_133) (pc' := 134) rfl ?_
            refine gCastore X5 hx hZ e5 (x := ch3) V5 (j := (3 : Int32)) (by decide) (by decide) 3 (by decide) (by simp) (H d25_134) (pc' := 135) rfl (fun T6 h6 X6 e6 W6 A6 => ?_)
            have f6_0 := f5_0.wr W6
            have f6_1 := f5_1.other W6 ne_x_b2
            have f6_2 := f5_2.wr W6
            have f6_3 := f5_3.other W6 (Or.inl ne_b1_b2)
            have f6_4 := f5_4.other W6 (Or.inl ne_b1_b2)
            have zs6 : h0.size ≤ h6.size := by rw [W6.size]; exact zs5
            have N6 := Fr.snoc X6 N5 sz_b2
            have K6 : Keep h0 h6 [] := K5.wr W6 (Or.inr sz_b2)
            have V6 : Arv Z h6 b2 _ .char (4 : Int32) [(.int ch0), (.int ch1), (.int ch2), (.int ch3)] (.int (0 : Int32)) := (by have q := A6; rw [own_nc (own_c8 hch3)] at q; exact q)
            refine gCallI X6 hx hZ (y := mn7) rfl hown e6 (by rw [hml]; rfl) (ow hw 12 rfl) (ow hw 13 rfl) (ow hw 11 rfl) (ow hw 14 rfl) (by decide) (argsL := [(.ref b2)]) (st := [(.ref b1)]) (c_sinit_4 l Z a0 hw b1 b2 _ h0.size ch0 ch1 ch2 ch3 h6 f6_0 sz_b1 zs6 (Ne.symm ne_b1_b2) f6_2 f6_4 f6_3 V6 hch0 hch1 hch2 hch3) (lenOf pd_21 rfl) (H d25_135) (pc' := 138) rfl rfl (by decide) (W := 1) (Nat.le_of_eq rfl) (by decide) (by decide) (by decide) ?_
            intro T7 v7 L7 X7 hQ7
            obtain ⟨t7, ct7, rfl, Nq7, Kq7, gt7, Eq7, Cq7, Vq7, Aq7⟩ := hQ7
            have N7 := Fr.app N6 Nq7
            have f7_0 := own_cpt_keep f6_0 Kq7 (nsS (Exa.nostat f6_2) ns0)
            have f7_1 := f6_1.keep Kq7 (ninS ne_x_b1 nin0)
            have f7_2 := f6_2.keep Kq7
            have f7_5 := V6.keep Kq7 (ninS (Ne.symm ne_b1_b2) nin0)
            have zs7 := Nat.le_trans zs6 Kq7.1
            have K7 : Keep h0 T7.heap [] := K6.trans Kq7 (allS (Or.inr sz_b1) all0)
            exact gRetA X7 hx hlk hret rfl rfl (H d25_138) (by decide) (by decide) (⟨b1, t7, ct7, rfl, N7, K7, Eq7, Cq7, Vq7, Aq7⟩)
        · exact absurd c67 (by decide)
      · exact absurd c39 (by decide)
    · exact absurd c17 (by decide)
  · exact absurd c1 (by decide)
theorem c_compress_5i (l : Launch) (Z : State) (a0 : Array Value) (hw : ∀ d ∈ tables_1, d.before a0 Z = true) (x t : Addr) (cx ct : ClassId) (n0 : Nat) (ch0 ch1 ch2 ch3 ch4 : Int32) (h0 : Heap) (gt : n0 ≤ t) (hne : x ≠ t) (A : Arv Z h0 x cx .char 5 [.int ch0, .int ch1, .int ch2, .int ch3, .int ch4] (.int 0)) (B : Arv Z h0 t ct .byte 5 [.int 0, .int 0, .int 0, .int 0, .int 0] (.int 0)) (hch0 : rg ch0) (hch1 : rg ch1) (hch2 : rg ch2) (hch3 : rg ch3) (hch4 : rg ch4) :
    Ctr l Z mn23 jdk_52_method_21_code 7 (some .int) [] ⟨0, 0, 0, 0⟩ #[(.ref x), (.int (0 : Int32)), (.ref t), (.int (0 : Int32)), (.int (5 : Int32))] h0 (fun v h L => v = some (.int 5) ∧ Fr n0 L ∧ Keep h0 h [t] ∧ sA Z h t ct 5 [by8 ch0, by8 ch1, by8 ch2, by8 ch3, by8 ch4]) := by
  refine Ctr.of (plainFor_of_name pn_6) ?_
  intro p e s m below meth c s₁ hx H hml hret hown hnm hZ hlk X0 e0
  refine Goes.cast (show entryFrame m _ _ = mkF m 0 #[.val (.ref x), .val (.int (0 : Int32)), .val (.ref t), .val (.int (0 : Int32)), .val (.int (5 : Int32)), .unset, .unset] [] from rfl) ?_
  refine gIconst 1 X0 hx (v := (0 : Int32)) (H d20_0) rfl rfl ?_
  refine gStoreI 3 X0 hx (H d20_1) (l' := #[.val (.ref x), .val (.int (0 : Int32)), .val (.ref t), .val (.int (0 : Int32)), .val (.int (5 : Int32)), .val (.int (0 : Int32)), .unset]) rfl rfl ?_
  refine gLoadI 5 X0 hx (H d20_3) rfl rfl ?_
  refine gLoadI 7 X0 hx (H d20_5) rfl rfl ?_
  refine gIcmpGe X0 hx (H d20_7) (pc' := 44) (by decide) (by decide) (pn := 10) rfl (fun (c7 : (5 : Int) ≤ (0 : Int)) => ?_) (fun (c7 : (0 : Int) < (5 : Int)) => ?_)
  · exact absurd c7 (by decide)
  · refine gLoadAN 11 X0 hx (H d20_10) rfl rfl rfl ?_
    refine gLoadIN 12 X0 hx (H d20_11) rfl rfl ?_
    refine gCaload X0 hx hZ e0 A (j := (0 : Int32)) (v := (.int ch0)) (by decide) (by decide) rfl (H d20_12) (pc' := 13) rfl ?_
    refine gStoreI 15 X0 hx (H d20_13) (l' := #[.val (.ref x), .val (.int (0 : Int32)), .val (.ref t), .val (.int (0 : Int32)), .val (.int (5 : Int32)), .val (.int (0 : Int32)), .val (.int ch0)]) rfl rfl ?_
    refine gLoadI 17 X0 hx (H d20_15) rfl rfl ?_
    refine gSipush 20 X0 hx (v := (255 : Int32)) (H d20_17) rfl rfl ?_
    refine gIcmpLe X0 hx (H d20_20) (pc' := 26) (by decide) (by decide) (pn := 23) rfl (fun (c20 : ch0.toInt ≤ (255 : Int)) => ?_) (fun (c20 : (255 : Int) < ch0.toInt) => ?_)
    · refine gLoadAN 27 X0 hx (H d20_26) rfl rfl rfl ?_
      refine gLoadIN 28 X0 hx (H d20_27) rfl rfl ?_
      refine gLoadI 30 X0 hx (H d20_28) rfl rfl ?_
      refine gI2b 31 X0 hx (H d20_30) rfl ?_
      refine gBastore X0 hx hZ e0 (x := (ch0.toInt8.toInt32)) B (j := (0 : Int32)) (by decide) (by decide) 0 (by decide) (by simp) (H d20_31) (pc' := 32) rfl (fun T1 h1 X1 e1 W1 A1 => ?_)
      have f1_0 := A.other W1 hne
      have zs1 : h0.size ≤ h1.size := by rw [W1.size]; exact (Nat.le_refl _)
      have N1 := Fr.snoc X1 (Fr.nil n0) gt
      have K1 : Keep h0 h1 [t] := (Keep.refl h0 [t]).wr W1 (Or.inl (by simp))
      have V1 : Arv Z h1 t _ .byte (5 : Int32) [(.int (ch0.toInt8.toInt32)), (.int (0 : Int32)), (.int (0 : Int32)), (.int (0 : Int32)), (.int (0 : Int32))] (.int 0) := (by have q := A1; rw [own_nb] at q; exact q)
      refine gIinc X1 hx (v := (1 : Int32)) (H d20_32) (l' := #[.val (.ref x), .val (.int (1 : Int32)), .val (.ref t), .val (.int (0 : Int32)), .val (.int (5 : Int32)), .val (.int (0 : Int32)), .val (.int ch0)]) (pc' := 35) rfl rfl rfl rfl ?_
      refine gIinc X1 hx (v := (1 : Int32)) (H d20_35) (l' := #[.val (.ref x), .val (.int (1 : Int32)), .val (.ref t), .val (.int (1 : Int32)), .val (.int (5 : Int32)), .val (.int (0 : Int32)), .val (.int ch0)]) (pc' := 38) rfl rfl rfl rfl ?_
      refine gIinc X1 hx (v := (1 : Int32)) (H d20_38) (l' := #[.val (.ref x), .val (.int (1 : Int32)), .val (.ref t), .val (.int (1 : Int32)), .val (.int (5 : Int32)), .val (.int (1 : Int32)), .val (.int ch0)]) (pc' := 41) rfl rfl rfl rfl ?_
      refine gGoto X1 hx (H d20_41) (pc' := 3) (by decide) (by decide) ?_
      refine gLoadI 5 X1 hx (H d20_3) rfl rfl ?_
      refine gLoadI 7 X1 hx (H d20_5) rfl rfl ?_
      refine gIcmpGe X1 hx (H d20_7) (pc' := 44) (by decide) (by decide) (pn := 10) rfl (fun (c7' : (5 : Int) ≤ (1 : Int)) => ?_) (fun (c7' : (1 : Int) < (5 : Int)) => ?_)
      · exact absurd c7' (by decide)
      · refine gLoadAN 11 X1 hx (H d20_10) rfl rfl rfl ?_
        refine gLoadIN 12 X1 hx (H d20_11) rfl rfl ?_
        refine gCaload X1 hx hZ e1 f1_0 (j := (1 : Int32)) (v := (.int ch1)) (by decide) (by decide) rfl (H d20_12) (pc' := 13) rfl ?_
        refine gStoreI 15 X1 hx (H d20_13) (l' := #[.val (.ref x), .val (.int (1 : Int32)), .val (.ref t), .val (.int (1 : Int32)), .val (.int (5 : Int32)), .val (.int (1 : Int32)), .val (.int ch1)]) rfl rfl ?_
        refine gLoadI 17 X1 hx (H d20_15) rfl rfl ?_
        refine gSipush 20 X1 hx (v := (255 : Int32)) (H d20_17) rfl rfl ?_
        refine gIcmpLe X1 hx (H d20_20) (pc' := 26) (by decide) (by decide) (pn := 23) rfl (fun (c20' : ch1.toInt ≤ (255 : Int)) => ?_) (fun (c20' : (255 : Int) < ch1.toInt) => ?_)
        · refine gLoadAN 27 X1 hx (H d20_26) rfl rfl rfl ?_
          refine gLoadIN 28 X1 hx (H d20_27) rfl rfl ?_
          refine gLoadI 30 X1 hx (H d20_28) rfl rfl ?_
          refine gI2b 31 X1 hx (H d20_30) rfl ?_
          refine gBastore X1 hx hZ e1 (x := (ch1.toInt8.toInt32)) V1 (j := (1 : Int32)) (by decide) (by decide) 1 (by decide) (by simp) (H d20_31) (pc' := 32) rfl (fun T2 h2 X2 e2 W2 A2 => ?_)
          have f2_0 := f1_0.other W2 hne
          have zs2 : h0.size ≤ h2.size := by rw [W2.size]; exact zs1
          have N2 := Fr.snoc X2 N1 gt
          have K2 : Keep h0 h2 [t] := K1.wr W2 (Or.inl (by simp))
          have V2 : Arv Z h2 t _ .byte (5 : Int32) [(.int (ch0.toInt8.toInt32)), (.int (ch1.toInt8.toInt32)), (.int (0 : Int32)), (.int (0 : Int32)), (.int (0 : Int32))] (.int 0) := (by have q := A2; rw [own_nb] at q; exact q)
          refine gIinc X2 hx (v := (1 : Int32)) (H d20_32) (l' := #[.val (.ref x), .val (.int (2 : Int32)), .val (.ref t), .val (.int (1 : Int32)), .val (.int (5 : Int32)), .val (.int (1 : Int32)), .val (.int ch1)]) (pc' := 35) rfl rfl rfl rfl ?_
          refine gIinc X2 hx (v := (1 : Int32)) (H d20_35) (l' := #[.val (.ref x), .val (.int (2 : Int32)), .val (.ref t), .val (.int (2 : Int32)), .val (.int (5 : Int32)), .val (.int (1 : Int32)), .val (.int ch1)]) (pc' := 38) rfl rfl rfl rfl ?_
          refine gIinc X2 hx (v := (1 : Int32)) (H d20_38) (l' := #[.val (.ref x), .val (.int (2 : Int32)), .val (.ref t), .val (.int (2 : Int32)), .val (.int (5 : Int32)), .val (.int (2 : Int32)), .val (.int ch1)]) (pc' := 41) rfl rfl rfl rfl ?_
          refine gGoto X2 hx (H d20_41) (pc' := 3) (by decide) (by decide) ?_
          refine gLoadI 5 X2 hx (H d20_3) rfl rfl ?_
          refine gLoadI 7 X2 hx (H d20_5) rfl rfl ?_
          refine gIcmpGe X2 hx (H d20_7) (pc' := 44) (by decide) (by decide) (pn := 10) rfl (fun (c7'' : (5 : Int) ≤ (2 : Int)) => ?_) (fun (c7'' : (2 : Int) < (5 : Int)) => ?_)
          · exact absurd c7'' (by decide)
          · refine gLoadAN 11 X2 hx (H d20_10) rfl rfl rfl ?_
            refine gLoadIN 12 X2 hx (H d20_11) rfl rfl ?_
            refine gCaload X2 hx hZ e2 f2_0 (j := (2 : Int32)) (v := (.int ch2)) (by decide) (by decide) rfl (H d20_12) (pc' := 13) rfl ?_
            refine gStoreI 15 X2 hx (H d20_13) (l' := #[.val (.ref x), .val (.int (2 : Int32)), .val (.ref t), .val (.int (2 : Int32)), .val (.int (5 : Int32)), .val (.int (2 : Int32)), .val (.int ch2)]) rfl rfl ?_
            refine gLoadI 17 X2 hx (H d20_15) rfl rfl ?_
            refine gSipush 20 X2 hx (v := (255 : Int32)) (H d20_17) rfl rfl ?_
            refine gIcmpLe X2 hx (H d20_20) (pc' := 26) (by decide) (by decide) (pn := 23) rfl (fun (c20'' : ch2.toInt ≤ (255 : Int)) => ?_) (fun (c20'' : (255 : Int) < ch2.toInt) => ?_)
            · refine gLoadAN 27 X2 hx (H d20_26) rfl rfl rfl ?_
              refine gLoadIN 28 X2 hx (H d20_27) rfl rfl ?_
              refine gLoadI 30 X2 hx (H d20_28) rfl rfl ?_
              refine gI2b 31 X2 hx (H d20_30) rfl ?_
              refine gBastore X2 hx hZ e2 (x := (ch2.toInt8.toInt32)) V2 (j := (2 : Int32)) (by decide) (by decide) 2 (by decide) (by simp) (H d20_31) (pc' := 32) rfl (fun T3 h3 X3 e3 W3 A3 => ?_)
              have f3_0 := f2_0.other W3 hne
              have zs3 : h0.size ≤ h3.size := by rw [W3.size]; exact zs2
              have N3 := Fr.snoc X3 N2 gt
              have K3 : Keep h0 h3 [t] := K2.wr W3 (Or.inl (by simp))
              have V3 : Arv Z h3 t _ .byte (5 : Int32) [(.int (ch0.toInt8.toInt32)), (.int (ch1.toInt8.toInt32)), (.int (ch2.toInt8.toInt32)), (.int (0 : Int32)), (.int (0 : Int32))] (.int 0) := (by have q := A3; rw [own_nb] at q; exact q)
              refine gIinc X3 hx (v := (1 : Int32)) (H d20_32) (l' := #[.val (.ref x), .val (.int (3 : Int32)), .val (.ref t), .val (.int (2 : Int32)), .val (.int (5 : Int32)), .val (.int (2 : Int32)), .val (.int ch2)]) (pc' := 35) rfl rfl rfl rfl ?_
              refine gIinc X3 hx (v := (1 : Int32)) (H d20_35) (l' := #[.val (.ref x), .val (.int (3 : Int32)), .val (.ref t), .val (.int (3 : Int32)), .val (.int (5 : Int32)), .val (.int (2 : Int32)), .val (.int ch2)]) (pc' := 38) rfl rfl rfl rfl ?_
              refine gIinc X3 hx (v := (1 : Int32)) (H d20_38) (l' := #[.val (.ref x), .val (.int (3 : Int32)), .val (.ref t), .val (.int (3 : Int32)), .val (.int (5 : Int32)), .val (.int (3 : Int32)), .val (.int ch2)]) (pc' := 41) rfl rfl rfl rfl ?_
              refine gGoto X3 hx (H d20_41) (pc' := 3) (by decide) (by decide) ?_
              refine gLoadI 5 X3 hx (H d20_3) rfl rfl ?_
              refine gLoadI 7 X3 hx (H d20_5) rfl rfl ?_
              refine gIcmpGe X3 hx (H d20_7) (pc' := 44) (by decide) (by decide) (pn := 10) rfl (fun (c7''' : (5 : Int) ≤ (3 : Int)) => ?_) (fun (c7''' : (3 : Int) < (5 : Int)) => ?_)
              · exact absurd c7''' (by decide)
              · refine gLoadAN 11 X3 hx (H d20_10) rfl rfl rfl ?_
                refine gLoadIN 12 X3 hx (H d20_11) rfl rfl ?_
                refine gCaload X3 hx hZ e3 f3_0 (j := (3 : Int32)) (v := (.int ch3)) (by decide) (by decide) rfl (H d20_12) (pc' := 13) rfl ?_
                refine gStoreI 15 X3 hx (H d20_13) (l' := #[.val (.ref x), .val (.int (3 : Int32)), .val (.ref t), .val (.int (3 : Int32)), .val (.int (5 : Int32)), .val (.int (3 : Int32)), .val (.int ch3)]) rfl rfl ?_
                refine gLoadI 17 X3 hx (H d20_15) rfl rfl ?_
                refine gSipush 20 X3 hx (v := (255 : Int32)) (H d20_17) rfl rfl ?_
                refine gIcmpLe X3 hx (H d20_20) (pc' := 26) (by decide) (by decide) (pn := 23) rfl (fun (c20''' : ch3.toInt ≤ (255 : Int)) => ?_) (fun (c20''' : (255 : Int) < ch3.toInt) => ?_)
                · refine gLoadAN 27 X3 hx (H d20_26) rfl rfl rfl ?_
                  refine gLoadIN 28 X3 hx (H d20_27) rfl rfl ?_
                  refine gLoadI 30 X3 hx (H d20_28) rfl rfl ?_
                  refine gI2b 31 X3 hx (H d20_30) rfl ?_
                  refine gBastore X3 hx hZ e3 (x := (ch3.toInt8.toInt32)) V3 (j := (3 : Int32)) (by decide) (by decide) 3 (by decide) (by simp) (H d20_31) (pc' := 32) rfl (fun T4 h4 X4 e4 W4 A4 => ?_)
                  have f4_0 := f3_0.other W4 hne
                  have zs4 : h0.size ≤ h4.size := by rw [W4.size]; exact zs3
                  have N4 := Fr.snoc X4 N3 gt
                  have K4 : Keep h0 h4 [t] := K3.wr W4 (Or.inl (by simp))
                  have V4 : Arv Z h4 t _ .byte (5 : Int32) [(.int (ch0.toInt8.toInt32)), (.int (ch1.toInt8.toInt32)), (.int (ch2.toInt8.toInt32)), (.int (ch3.toInt8.toInt32)), (.int (0 : Int32))] (.int 0) := (by have q := A4; rw [own_nb] at q; exact q)
                  refine gIinc X4 hx (v := (1 : Int32)) (H d20_32) (l' := #[.val (.ref x), .val (.int (4 : Int32)), .val (.ref t), .val (.int (3 : Int32)), .val (.int (5 : Int32)), .val (.int (3 : Int32)), .val (.int ch3)]) (pc' := 35) rfl rfl rfl rfl ?_
                  refine gIinc X4 hx (v := (1 : Int32)) (H d20_35) (l' := #[.val (.ref x), .val (.int (4 : Int32)), .val (.ref t), .val (.int (4 : Int32)), .val (.int (5 : Int32)), .val (.int (3 : Int32)), .val (.int ch3)]) (pc' := 38) rfl rfl rfl rfl ?_
                  refine gIinc X4 hx (v := (1 : Int32)) (H d20_38) (l' := #[.val (.ref x), .val (.int (4 : Int32)), .val (.ref t), .val (.int (4 : Int32)), .val (.int (5 : Int32)), .val (.int (4 : Int32)), .val (.int ch3)]) (pc' := 41) rfl rfl rfl rfl ?_
                  refine gGoto X4 hx (H d20_41) (pc' := 3) (by decide) (by decide) ?_
                  refine gLoadI 5 X4 hx (H d20_3) rfl rfl ?_
                  refine gLoadI 7 X4 hx (H d20_5) rfl rfl ?_
                  refine gIcmpGe X4 hx (H d20_7) (pc' := 44) (by decide) (by decide) (pn := 10) rfl (fun (c7'''' : (5 : Int) ≤ (4 : Int)) => ?_) (fun (c7'''' : (4 : Int) < (5 : Int)) => ?_)
                  · exact absurd c7'''' (by decide)
                  · refine gLoadAN 11 X4 hx (H d20_10) rfl rfl rfl ?_
                    refine gLoadIN 12 X4 hx (H d20_11) rfl rfl ?_
                    refine gCaload X4 hx hZ e4 f4_0 (j := (4 : Int32)) (v := (.int ch4)) (by decide) (by decide) rfl (H d20_12) (pc' := 13) rfl ?_
                    refine gStoreI 15 X4 hx (H d20_13) (l' := #[.val (.ref x), .val (.int (4 : Int32)), .val (.ref t), .val (.int (4 : Int32)), .val (.int (5 : Int32)), .val (.int (4 : Int32)), .val (.int ch4)]) rfl rfl ?_
                    refine gLoadI 17 X4 hx (H d20_15) rfl rfl ?_
                    refine gSipush 20 X4 hx (v := (255 : Int32)) (H d20_17) rfl rfl ?_
                    refine gIcmpLe X4 hx (H d20_20) (pc' := 26) (by decide) (by decide) (pn := 23) rfl (fun (c20'''' : ch4.toInt ≤ (255 : Int)) => ?_) (fun (c20'''' : (255 : Int) < ch4.toInt) => ?_)
                    · refine gLoadAN 27 X4 hx (H d20_26) rfl rfl rfl ?_
                      refine gLoadIN 28 X4 hx (H d20_27) rfl rfl ?_
                      refine gLoadI 30 X4 hx (H d20_28) rfl rfl ?_
                      refine gI2b 31 X4 hx (H d20_30) rfl ?_
                      refine gBastore X4 hx hZ e4 (x := (ch4.toInt8.toInt32)) V4 (j := (4 : Int32)) (by decide) (by decide) 4 (by decide) (by simp) (H d20_31) (pc' := 32) rfl (fun T5 h5 X5 e5 W5 A5 => ?_)
                      have f5_0 := f4_0.other W5 hne
                      have zs5 : h0.size ≤ h5.size := by rw [W5.size]; exact zs4
                      have N5 := Fr.snoc X5 N4 gt
                      have K5 : Keep h0 h5 [t] := K4.wr W5 (Or.inl (by simp))
                      have V5 : Arv Z h5 t _ .byte (5 : Int32) [(.int (ch0.toInt8.toInt32)), (.int (ch1.toInt8.toInt32)), (.int (ch2.toInt8.toInt32)), (.int (ch3.toInt8.toInt32)), (.int (ch4.toInt8.toInt32))] (.int 0) := (by have q := A5; rw [own_nb] at q; exact q)
                      refine gIinc X5 hx (v := (1 : Int32)) (H d20_32) (l' := #[.val (.ref x), .val (.int (5 : Int32)), .val (.ref t), .val (.int (4 : Int32)), .val (.int (5 : Int32)), .val (.int (4 : Int32)), .val (.int ch4)]) (pc' := 35) rfl rfl rfl rfl ?_
                      refine gIinc X5 hx (v := (1 : Int32)) (H d20_35) (l' := #[.val (.ref x), .val (.int (5 : Int32)), .val (.ref t), .val (.int (5 : Int32)), .val (.int (5 : Int32)), .val (.int (4 : Int32)), .val (.int ch4)]) (pc' := 38) rfl rfl rfl rfl ?_
                      refine gIinc X5 hx (v := (1 : Int32)) (H d20_38) (l' := #[.val (.ref x), .val (.int (5 : Int32)), .val (.ref t), .val (.int (5 : Int32)), .val (.int (5 : Int32)), .val (.int (5 : Int32)), .val (.int ch4)]) (pc' := 41) rfl rfl rfl rfl ?_
                      refine gGoto X5 hx (H d20_41) (pc' := 3) (by decide) (by decide) ?_
                      refine gLoadI 5 X5 hx (H d20_3) rfl rfl ?_
                      refine gLoadI 7 X5 hx (H d20_5) rfl rfl ?_
                      refine gIcmpGe X5 hx (H d20_7) (pc' := 44) (by decide) (by decide) (pn := 10) rfl (fun (c7''''' : (5 : Int) ≤ (5 : Int)) => ?_) (fun (c7''''' : (5 : Int) < (5 : Int)) => ?_)
                      · refine gLoadI 46 X5 hx (H d20_44) rfl rfl ?_
                        exact gRetI X5 hx hlk hret (H d20_46) (by decide) (by decide) (⟨rfl, N5, by rw [e5]; exact K5, by rw [e5]; exact V5⟩)
                      · exact absurd c7''''' (by decide)
                    · exact absurd c20'''' (by omega)
                · exact absurd c20''' (by omega)
            · exact absurd c20'' (by omega)
        · exact absurd c20' (by omega)
    · exact absurd c20 (by omega)
theorem c_compress_5 (l : Launch) (Z : State) (a0 : Array Value) (hw : ∀ d ∈ tables_1, d.before a0 Z = true) (x : Addr) (cx : ClassId) (ch0 ch1 ch2 ch3 ch4 : Int32) (h0 : Heap) (A : Arv Z h0 x cx .char 5 [.int ch0, .int ch1, .int ch2, .int ch3, .int ch4] (.int 0)) (hch0 : rg ch0) (hch1 : rg ch1) (hch2 : rg ch2) (hch3 : rg ch3) (hch4 : rg ch4) :
    Ctr l Z mn22 jdk_52_method_16_code 6 (some (.array .byte)) [] ⟨1, 1, 5, 18⟩ #[(.ref x), (.int (0 : Int32)), (.int (5 : Int32))] h0 (fun v h L => ∃ (t : Addr) (ct : ClassId), v = some (.ref t) ∧ h0.size ≤ t ∧ Fr h0.size L ∧ Keep h0 h [] ∧ sA Z h t ct 5 [by8 ch0, by8 ch1, by8 ch2, by8 ch3, by8 ch4]) := by
  refine Ctr.of (plainFor_of_name pn_6) ?_
  intro p e s m below meth c s₁ hx H hml hret hown hnm hZ hlk X0 e0
  refine Goes.cast (show entryFrame m _ _ = mkF m 0 #[.val (.ref x), .val (.int (0 : Int32)), .val (.int (5 : Int32)), .unset, .unset, .unset] [] from rfl) ?_
  refine gLoadIN 1 X0 hx (H d19_0) rfl rfl ?_
  refine gNewP X0 hx hZ (ow hw 23 rfl) e0 (n := (5 : Int32)) (H d19_1) (by decide) (cap := 5) (by decide) (by decide) (by decide) (by decide) 5 (pc' := 3) rfl (fun T1 h1 b1 ck1 X1 e1 g1 E1 A1 => ?_)
  have ne_x_b1 : x ≠ b1 := Nat.ne_of_lt (Nat.lt_of_lt_of_eq A.lt g1.symm)
  have f1_0 := A.ext E1
  have sz_b1 : h0.size ≤ b1 := Nat.le_trans (Nat.le_refl _) (Nat.le_of_eq g1.symm)
  have zs1 : h0.size ≤ h1.size := Nat.le_trans (Nat.le_refl _) E1.1
  have K1 : Keep h0 h1 [] := (Keep.refl h0 []).ext E1
  have V1 : Arv Z h1 b1 ck1 .byte (5 : Int32) [(.int (0 : Int32)), (.int (0 : Int32)), (.int (0 : Int32)), (.int (0 : Int32)), (.int (0 : Int32))] (.int (0 : Int32)) := A1
  refine gStoreAN 4 X1 hx (H d19_3) (l' := #[.val (.ref x), .val (.int (0 : Int32)), .val (.int (5 : Int32)), .val (.ref b1), .unset, .unset]) rfl rfl rfl ?_
  refine gLoadAN 5 X1 hx (H d19_4) rfl rfl rfl ?_
  refine gLoadIN 6 X1 hx (H d19_5) rfl rfl ?_
  refine gLoadAN 7 X1 hx (H d19_6) rfl rfl rfl ?_
  refine gIconst 8 X1 hx (v := (0 : Int32)) (H d19_7) rfl rfl ?_
  refine gLoadIN 9 X1 hx (H d19_8) rfl rfl ?_
  refine gCallS X1 hx hZ (y := mn23) hown e1 (by rw [hml]; rfl) (ow hw 75 rfl) (ow hw 76 rfl) (ow hw 73 rfl) (ow hw 77 rfl) (by decide) (argsL := [(.ref x), (.int (0 : Int32)), (.ref b1), (.int (0 : Int32)), (.int (5 : Int32))]) (st := []) (c_compress_5i l Z a0 hw x b1 cx ck1 h0.size ch0 ch1 ch2 ch3 ch4 h1 sz_b1 ne_x_b1 f1_0 V1 hch0 hch1 hch2 hch3 hch4) (lenOf pd_25 rfl) (H d19_9) (pc' := 12) rfl rfl (by decide) (W := 0) (Nat.le_of_eq rfl) (by decide) (by decide) (by decide) ?_
  intro T2 v2 L2 X2 hQ2
  obtain ⟨rfl, Nq2, Kq2, Aq2⟩ := hQ2
  have N2 := Fr.app (Fr.nil h0.size) Nq2
  have K2 : Keep h0 T2.heap [] := K1.trans Kq2 (allS (Or.inr sz_b1) all0)
  refine gStoreI 14 X2 hx (H d19_12) (l' := #[.val (.ref x), .val (.int (0 : Int32)), .val (.int (5 : Int32)), .val (.ref b1), .val (.int (5 : Int32)), .unset]) rfl rfl ?_
  refine gLoadI 16 X2 hx (H d19_14) rfl rfl ?_
  refine gLoadIN 17 X2 hx (H d19_16) rfl rfl ?_
  refine gIcmpEqT X2 hx (H d19_17) (pc' := 57) (by decide) (by decide) (pn := 20) rfl (fun (c17 : (5 : Int) = (5 : Int)) => ?_) (fun (c17 : ¬ (5 : Int) = (5 : Int)) => ?_)
  · refine gLoadAN 58 X2 hx (H d19_57) rfl rfl rfl ?_
    exact gRetA X2 hx hlk hret rfl rfl (H d19_58) (by decide) (by decide) (⟨b1, _, rfl, sz_b1, N2, K2, Aq2⟩)
  · exact absurd c17 (by decide)
theorem c_cfal_5 (l : Launch) (Z : State) (a0 : Array Value) (hw : ∀ d ∈ tables_1, d.before a0 Z = true) (t : Addr) (ck : ClassId) (ch0 ch1 ch2 ch3 ch4 : Int32) (h0 : Heap) (A : sA Z h0 t ck 5 [by8 ch0, by8 ch1, by8 ch2, by8 ch3, by8 ch4]) :
    Ctr l Z mn21 jdk_52_method_15_code 2 (some .byte) [] ⟨0, 0, 0, 0⟩ #[(.ref t), (.int (5 : Int32))] h0 (Just h0 (.int 0)) := by
  refine Ctr.of (plainFor_of_name pn_6) ?_
  intro p e s m below meth c s₁ hx H hml hret hown hnm hZ hlk X0 e0
  refine Goes.cast (show entryFrame m _ _ = mkF m 0 #[.val (.ref t), .val (.int (5 : Int32))] [] from rfl) ?_
  refine gLoadIN 1 X0 hx (H d18_0) rfl rfl ?_
  refine gLoadAN 2 X0 hx (H d18_1) rfl rfl rfl ?_
  refine gArrLen X0 hx hZ e0 A (H d18_2) (pc' := 3) rfl ?_
  refine gIsub 4 X0 hx (H d18_3) rfl ?_
  show Goes p e below _ s₁ (mkF m 4 #[.val (.ref t), .val (.int (5 : Int32))] [(.int (0 : Int32))])
  refine gBipush 6 X0 hx (v := (31 : Int32)) (H d18_4) rfl rfl ?_
  refine gIushr 7 X0 hx (H d18_6) rfl ?_
  show Goes p e below _ s₁ (mkF m 7 #[.val (.ref t), .val (.int (5 : Int32))] [(.int (0 : Int32))])
  refine gI2b 8 X0 hx (H d18_7) rfl ?_
  show Goes p e below _ s₁ (mkF m 8 #[.val (.ref t), .val (.int (5 : Int32))] [(.int (0 : Int32))])
  exact gRetN X0 hx hlk hret (by simp) (H d18_8) (w := (0 : Int32)) rfl (by decide) (by decide) (⟨rfl, e0, rfl⟩)
theorem c_sinit_5v (l : Launch) (Z : State) (a0 : Array Value) (hw : ∀ d ∈ tables_1, d.before a0 Z = true) (a x : Addr) (cx : ClassId) (n0 : Nat) (ch0 ch1 ch2 ch3 ch4 : Int32) (h0 : Heap) (hCpt : Cpt Z h0) (ga : n0 ≤ a) (gz : n0 ≤ h0.size) (hax : x ≠ a) (E : sE Z h0 a) (C : sC Z h0 a) (V : Fld Z h0 a "java/lang/String" "value" "[B" .null) (A : Arv Z h0 x cx .char 5 [.int ch0, .int ch1, .int ch2, .int ch3, .int ch4] (.int 0)) (hch0 : rg ch0) (hch1 : rg ch1) (hch2 : rg ch2) (hch3 : rg ch3) (hch4 : rg ch4) :
    Ctr l Z mn8 jdk_42_method_149_code 6 none [] ⟨2, 1, 5, 37⟩ #[(.ref a), (.ref x), (.int (0 : Int32)), (.int (5 : Int32)), .null] h0 (fun v h L => ∃ (t : Addr) (ct : ClassId), v = none ∧ Fr n0 L ∧ Keep h0 h [a] ∧ h0.size ≤ t ∧ sE Z h a ∧ sC Z h a ∧ sV Z h a t ∧ sA Z h t ct 5 [by8 ch0, by8 ch1, by8 ch2, by8 ch3, by8 ch4]) := by
  refine Ctr.of (plainFor_of_name pn_4) ?_
  intro p e s m below meth c s₁ hx H hml hret hown hnm hZ hlk X0 e0
  refine Goes.cast (show entryFrame m _ _ = mkF m 0 #[.val (.ref a), .val (.ref x), .val (.int (0 : Int32)), .val (.int (5 : Int32)), .val .null, .unset] [] from rfl) ?_
  have hCpt0 := hCpt
  obtain ⟨cz, SC, hcz⟩ := hCpt0
  refine gLoadAN 1 X0 hx (H d3_0) rfl rfl rfl ?_
  refine gInitO X0 hx hZ hown (ow hw 19 rfl) (ow hw 20 rfl) (ow hw 21 rfl) e0 (by rw [hml]; rfl) (H d3_1) (pc' := 4) rfl (by decide) (W := 0) (Nat.le_of_eq rfl) (by decide) (fun T1 X1 e1 => ?_)
  refine gLoadIN 5 X1 hx (H d3_4) rfl rfl ?_
  refine gIfNeT X1 hx (H d3_5) (pc' := 27) (by decide) (by decide) (pn := 8) rfl (fun (c5 : ¬ (5 : Int) = (0 : Int)) => ?_) (fun (c5 : (5 : Int) = (0 : Int)) => ?_)
  · refine gGetS X1 hx hZ hown (ow hw 49 rfl) Via.refl e1 SC (H d3_27) (pc' := 30) rfl (fun T2 X2 e2 => ?_)
    refine gIfEqT X2 hx (H d3_30) (pc' := 58) (by decide) (by decide) (pn := 33) rfl (fun (c30 : cz.toInt = (0 : Int)) => ?_) (fun (c30 : ¬ cz.toInt = (0 : Int)) => ?_)
    · exact absurd c30 hcz
    · refine gLoadAN 34 X2 hx (H d3_33) rfl rfl rfl ?_
      refine gLoadIN 35 X2 hx (H d3_34) rfl rfl ?_
      refine gLoadIN 36 X2 hx (H d3_35) rfl rfl ?_
      refine gCallS X2 hx hZ (y := mn22) hown e2 (by rw [hml]; rfl) (ow hw 71 rfl) (ow hw 72 rfl) (ow hw 73 rfl) (ow hw 74 rfl) (by decide) (argsL := [(.ref x), (.int (0 : Int32)), (.int (5 : Int32))]) (st := []) (c_compress_5 l Z a0 hw x cx ch0 ch1 ch2 ch3 ch4 h0 A hch0 hch1 hch2 hch3 hch4) (lenOf pd_23 rfl) (H d3_36) (pc' := 39) rfl rfl (by decide) (W := 0) (Nat.le_of_eq rfl) (by decide) (by decide) (by decide) ?_
      intro T3 v3 L3 X3 hQ3
      obtain ⟨t3, ct3, rfl, gt3, Nq3, Kq3, Aq3⟩ := hQ3
      have N3 := Fr.app (Fr.nil n0) (fun y hy => Nat.le_trans gz (Nq3 y hy))
      have K3 : Keep h0 T3.heap [a] := (Keep.refl h0 [a]).trans Kq3 all0
      have f3_0 := own_sta_keep SC Kq3 ns0
      have f3_1 := E.keep Kq3
      have f3_2 := C.keep Kq3 nin0
      have f3_3 := V.keep Kq3 nin0
      have nt3 : t3 ≠ a := Ne.symm (Nat.ne_of_lt (Nat.lt_of_lt_of_le E.lt gt3))
      refine gStoreA 41 X3 hx (H d3_39) (l' := #[.val (.ref a), .val (.ref x), .val (.int (0 : Int32)), .val (.int (5 : Int32)), .val .null, .val (.ref t3)]) rfl rfl rfl ?_
      refine gLoadAN 42 X3 hx (H d3_41) rfl rfl rfl ?_
      refine gLoadA 44 X3 hx (H d3_42) rfl rfl rfl ?_
      refine gLoadIN 45 X3 hx (H d3_44) rfl rfl ?_
      refine gCallSJ X3 hx hZ (y := mn21) hown rfl (by rw [hml]; rfl) (ow hw 78 rfl) (ow hw 79 rfl) (ow hw 73 rfl) (ow hw 80 rfl) (by decide) (argsL := [(.ref t3), (.int (5 : Int32))]) (st := [(.ref a)]) (c_cfal_5 l Z a0 hw t3 ct3 ch0 ch1 ch2 ch3 ch4 _ Aq3) (lenOf pd_16 rfl) (H d3_45) (pc' := 48) rfl rfl rfl rfl (by decide) (W := 1) (Nat.le_of_eq rfl) (by decide) (by decide) (by decide) ?_
      intro T4 X4 e4
      refine gPutF X4 hx hZ hown (ow hw 29 rfl) Via.refl e4 f3_2 f3_1 (Or.inr ⟨(ow hw 25 rfl), rfl, hnm⟩) (ow hw 10 rfl) (ty := .byte) (by decide) rfl rfl (H d3_48) (pc' := 51) rfl (fun T5 h5 X5 e5 W5 => ?_)
      have f5_0 := f3_0.wr W5
      have f5_1 := f3_1.wr W5
      have f5_2 := f3_2.same W5
      have f5_3 := f3_3.other W5 (Or.inr (slot_ne (Or.inr (ow hw 24 rfl)) (Or.inr (ow hw 25 rfl)) (by decide) (t := (.array .byte)) (t' := .byte) (by decide) (by decide)))
      have f5_4 := Aq3.other W5 nt3
      have zs5 : h0.size ≤ h5.size := by rw [W5.size]; exact Kq3.1
      have N5 := Fr.snoc X5 N3 ga
      have K5 : Keep h0 h5 [a] := K3.wr W5 (Or.inl (by simp))
      refine gLoadAN 52 X5 hx (H d3_51) rfl rfl rfl ?_
      refine gLoadA 54 X5 hx (H d3_52) rfl rfl rfl ?_
      refine gPutF X5 hx hZ hown (ow hw 28 rfl) Via.refl e5 f5_3 f5_1 (Or.inr ⟨(ow hw 24 rfl), rfl, hnm⟩) (ow hw 10 rfl) (ty := (.array .byte)) (by decide) rfl rfl (H d3_54) (pc' := 57) rfl (fun T6 h6 X6 e6 W6 => ?_)
      have f6_0 := f5_0.wr W6
      have f6_1 := f5_1.wr W6
      have f6_2 := f5_2.other W6 (Or.inr (slot_ne (Or.inr (ow hw 25 rfl)) (Or.inr (ow hw 24 rfl)) (by decide) (t := .byte) (t' := (.array .byte)) (by decide) (by decide)))
      have f6_3 := f5_3.same W6
      have f6_4 := f5_4.other W6 nt3
      have zs6 : h0.size ≤ h6.size := by rw [W6.size]; exact zs5
      have N6 := Fr.snoc X6 N5 ga
      have K6 : Keep h0 h6 [a] := K5.wr W6 (Or.inl (by simp))
      exact gRetV X6 hx hlk hret (H d3_57) (by decide) (by decide) (⟨t3, ct3, rfl, N6, by rw [e6]; exact K6, gt3, by rw [e6]; exact f6_1, by rw [e6]; exact f6_2, by rw [e6]; exact f6_3, by rw [e6]; exact f6_4⟩)
  · exact absurd c5 (by decide)
theorem c_sinit_5 (l : Launch) (Z : State) (a0 : Array Value) (hw : ∀ d ∈ tables_1, d.before a0 Z = true) (a x : Addr) (cx : ClassId) (n0 : Nat) (ch0 ch1 ch2 ch3 ch4 : Int32) (h0 : Heap) (hCpt : Cpt Z h0) (ga : n0 ≤ a) (gz : n0 ≤ h0.size) (hax : x ≠ a) (E : sE Z h0 a) (C : sC Z h0 a) (V : Fld Z h0 a "java/lang/String" "value" "[B" .null) (A : Arv Z h0 x cx .char 5 [.int ch0, .int ch1, .int ch2, .int ch3, .int ch4] (.int 0)) (hch0 : rg ch0) (hch1 : rg ch1) (hch2 : rg ch2) (hch3 : rg ch3) (hch4 : rg ch4) :
    Ctr l Z mn7 jdk_42_method_3_code 2 none [] ⟨3, 1, 5, 54⟩ #[(.ref a), (.ref x)] h0 (fun v h L => ∃ (t : Addr) (ct : ClassId), v = none ∧ Fr n0 L ∧ Keep h0 h [a] ∧ h0.size ≤ t ∧ sE Z h a ∧ sC Z h a ∧ sV Z h a t ∧ sA Z h t ct 5 [by8 ch0, by8 ch1, by8 ch2, by8 ch3, by8 ch4]) := by
  refine Ctr.of (plainFor_of_name pn_4) ?_
  intro p e s m below meth c s₁ hx H hml hret hown hnm hZ hlk X0 e0
  refine Goes.cast (show entryFrame m _ _ = mkF m 0 #[.val (.ref a), .val (.ref x)] [] from rfl) ?_
  refine gLoadAN 1 X0 hx (H d8_0) rfl rfl rfl ?_
  refine gLoadAN 2 X0 hx (H d8_1) rfl rfl rfl ?_
  refine gIconst 3 X0 hx (v := (0 : Int32)) (H d8_2) rfl rfl ?_
  refine gLoadAN 4 X0 hx (H d8_3) rfl rfl rfl ?_
  refine gArrLen X0 hx hZ e0 A (H d8_4) (pc' := 5) rfl ?_
  refine gNull 6 X0 hx (H d8_5) rfl ?_
  refine gCallI X0 hx hZ (y := mn8) rfl hown e0 (by rw [hml]; rfl) (ow hw 15 rfl) (ow hw 16 rfl) (ow hw 11 rfl) (ow hw 18 rfl) (by decide) (argsL := [(.ref x), (.int (0 : Int32)), (.int (5 : Int32)), .null]) (st := []) (c_sinit_5v l Z a0 hw a x cx n0 ch0 ch1 ch2 ch3 ch4 h0 hCpt ga gz hax E C V A hch0 hch1 hch2 hch3 hch4) (lenOf pd_24 rfl) (H d8_6) (pc' := 9) rfl rfl (by decide) (W := 0) (Nat.le_of_eq rfl) (by decide) (by decide) (by decide) ?_
  intro T1 v1 L1 X1 hQ1
  obtain ⟨t, ct, rfl, Nq, Kq, gt, Eq, Cq, Vq, Aq⟩ := hQ1
  exact gRetV X1 hx hlk hret (H d8_9) (by decide) (by decide) (⟨t, ct, rfl, Nq, Kq, gt, Eq, Cq, Vq, Aq⟩)
theorem d25_139 : decode method_3_code 139 = .ok (.new 7, 3) := by decide +kernel
theorem d25_142 : decode method_3_code 142 = .ok (.dup, 1) := by decide +kernel
theorem d25_143 : decode method_3_code 143 = .ok (.iconst 5, 1) := by decide +kernel
theorem d25_144 : decode method_3_code 144 = .ok (.newarray .char, 2) := by decide +kernel
theorem d25_146 : decode method_3_code 146 = .ok (.dup, 1) := by decide +kernel
theorem d25_147 : decode method_3_code 147 = .ok (.iconst 0, 1) := by decide +kernel
theorem d25_148 : decode method_3_code 148 = .ok (.aload_n 0, 1) := by decide +kernel
theorem d25_149 : decode method_3_code 149 = .ok (.iconst 0, 1) := by decide +kernel
theorem d25_150 : decode method_3_code 150 = .ok (.caload, 1) := by decide +kernel
theorem d25_151 : decode method_3_code 151 = .ok (.castore, 1) := by decide +kernel
theorem d25_152 : decode method_3_code 152 = .ok (.dup, 1) := by decide +kernel
theorem d25_153 : decode method_3_code 153 = .ok (.iconst 1, 1) := by decide +kernel
theorem d25_154 : decode method_3_code 154 = .ok (.aload_n 0, 1) := by decide +kernel
theorem d25_155 : decode method_3_code 155 = .ok (.iconst 1, 1) := by decide +kernel
theorem d25_156 : decode method_3_code 156 = .ok (.caload, 1) := by decide +kernel
theorem d25_157 : decode method_3_code 157 = .ok (.castore, 1) := by decide +kernel
theorem d25_158 : decode method_3_code 158 = .ok (.dup, 1) := by decide +kernel
theorem d25_159 : decode method_3_code 159 = .ok (.iconst 2, 1) := by decide +kernel
theorem d25_160 : decode method_3_code 160 = .ok (.aload_n 0, 1) := by decide +kernel
theorem d25_161 : decode method_3_code 161 = .ok (.iconst 2, 1) := by decide +kernel
theorem d25_162 : decode method_3_code 162 = .ok (.caload, 1) := by decide +kernel
theorem d25_163 : decode method_3_code 163 = .ok (.castore, 1) := by decide +kernel
theorem d25_164 : decode method_3_code 164 = .ok (.dup, 1) := by decide +kernel
theorem d25_165 : decode method_3_code 165 = .ok (.iconst 3, 1) := by decide +kernel
theorem d25_166 : decode method_3_code 166 = .ok (.aload_n 0, 1) := by decide +kernel
theorem d25_167 : decode method_3_code 167 = .ok (.iconst 3, 1) := by decide +kernel
theorem d25_168 : decode method_3_code 168 = .ok (.caload, 1) := by decide +kernel
theorem d25_169 : decode method_3_code 169 = .ok (.castore, 1) := by decide +kernel
theorem d25_170 : decode method_3_code 170 = .ok (.dup, 1) := by decide +kernel
theorem d25_171 : decode method_3_code 171 = .ok (.iconst 4, 1) := by decide +kernel
theorem d25_172 : decode method_3_code 172 = .ok (.aload_n 0, 1) := by decide +kernel
theorem d25_173 : decode method_3_code 173 = .ok (.iconst 4, 1) := by decide +kernel
theorem d25_174 : decode method_3_code 174 = .ok (.caload, 1) := by decide +kernel
theorem d25_175 : decode method_3_code 175 = .ok (.castore, 1) := by decide +kernel
theorem d25_176 : decode method_3_code 176 = .ok (.invokespecial 9, 3) := by decide +kernel
theorem d25_179 : decode method_3_code 179 = .ok (.areturn, 1) := by decide +kernel
theorem c_mk_5 (l : Launch) (Z : State) (a0 : Array Value) (hw : ∀ d ∈ tables_1, d.before a0 Z = true) (x : Addr) (cx : ClassId) (ch0 ch1 ch2 ch3 ch4 : Int32) (h0 : Heap) (hCpt : Cpt Z h0) (A : Arv Z h0 x cx .char 5 [.int ch0, .int ch1, .int ch2, .int ch3, .int ch4] (.int 0)) (hch0 : rg ch0) (hch1 : rg ch1) (hch2 : rg ch2) (hch3 : rg ch3) (hch4 : rg ch4) :
    Ctr l Z mn3 method_3_code 2 (some (.object "java/lang/String")) [] ⟨4, 3, 14, 68⟩ #[(.ref x), (.int (5 : Int32))] h0 (SQd Z h0 5 [by8 ch0, by8 ch1, by8 ch2, by8 ch3, by8 ch4]) := by
  refine Ctr.of (plainFor_of_name pn_1) ?_
  intro p e s m below meth c s₁ hx H hml hret hown hnm hZ hlk X0 e0
  refine Goes.cast (show entryFrame m _ _ = mkF m 0 #[.val (.ref x), .val (.int (5 : Int32))] [] from rfl) ?_
  refine gLoadIN 1 X0 hx (H d25_0) rfl rfl ?_
  refine gIfGt X0 hx (H d25_1) (pc' := 15) (by decide) (by decide) (pn := 4) rfl (fun (c1 : (0 : Int) < (5 : Int)) => ?_) (fun (c1 : (5 : Int) ≤ (0 : Int)) => ?_)
  · refine gLoadIN 16 X0 hx (H d25_15) rfl rfl ?_
    refine gIconst 17 X0 hx (v := (1 : Int32)) (H d25_16) rfl rfl ?_
    refine gIcmpNeT X0 hx (H d25_17) (pc' := 37) (by decide) (by decide) (pn := 20) rfl (fun (c17 : ¬ (5 : Int) = (1 : Int)) => ?_) (fun (c17 : (5 : Int) = (1 : Int)) => ?_)
    · refine gLoadIN 38 X0 hx (H d25_37) rfl rfl ?_
      refine gIconst 39 X0 hx (v := (2 : Int32)) (H d25_38) rfl rfl ?_
      refine gIcmpNeT X0 hx (H d25_39) (pc' := 65) (by decide) (by decide) (pn := 42) rfl (fun (c39 : ¬ (5 : Int) = (2 : Int)) => ?_) (fun (c39 : (5 : Int) = (2 : Int)) => ?_)
      · refine gLoadIN 66 X0 hx (H d25_65) rfl rfl ?_
        refine gIconst 67 X0 hx (v := (3 : Int32)) (H d25_66) rfl rfl ?_
        refine gIcmpNeT X0 hx (H d25_67) (pc' := 99) (by decide) (by decide) (pn := 70) rfl (fun (c67 : ¬ (5 : Int) = (3 : Int)) => ?_) (fun (c67 : (5 : Int) = (3 : Int)) => ?_)
        · refine gLoadIN 100 X0 hx (H d25_99) rfl rfl ?_
          refine gIconst 101 X0 hx (v := (4 : Int32)) (H d25_100) rfl rfl ?_
          refine gIcmpNeT X0 hx (H d25_101) (pc' := 139) (by decide) (by decide) (pn := 104) rfl (fun (c101 : ¬ (5 : Int) = (4 : Int)) => ?_) (fun (c101 : (5 : Int) = (4 : Int)) => ?_)
          · refine gNew X0 hx hZ hown (ow hw 9 rfl) (ow hw 10 rfl) (ow hw 11 rfl) e0 (H d25_139) (pc' := 142) rfl (by decide) (by decide) (fun T1 h1 b1 X1 e1 g1 E1 A1 D1 => ?_)
            have ne_x_b1 : x ≠ b1 := Nat.ne_of_lt (Nat.lt_of_lt_of_eq A.lt g1.symm)
            have f1_0 := hCpt.ext E1
            have f1_1 := A.ext E1
            have sz_b1 : h0.size ≤ b1 := Nat.le_trans (Nat.le_refl _) (Nat.le_of_eq g1.symm)
            have zs1 : h0.size ≤ h1.size := Nat.le_trans (Nat.le_refl _) E1.1
            have K1 : Keep h0 h1 [] := (Keep.refl h0 []).ext E1
            have F1_value : Fld Z h1 b1 "java/lang/String" "value" "[B" .null := D1 (Or.inr (ow hw 24 rfl)) (ty := (.array .byte)) (by decide)
            have F1_coder : Fld Z h1 b1 "java/lang/String" "coder" "B" (.int (0 : Int32)) := D1 (Or.inr (ow hw 25 rfl)) (ty := .byte) (by decide)
            refine gDup 143 X1 hx (H d25_142) rfl rfl ?_
            refine gIconst 144 X1 hx (v := (5 : Int32)) (H d25_143) rfl rfl ?_
            refine gNewP X1 hx hZ (ow hw 1 rfl) e1 (n := (5 : Int32)) (H d25_144) (by decide) (cap := 5) (by decide) (by decide) (by decide) (by decide) 5 (pc' := 146) rfl (fun T2 h2 b2 ck2 X2 e2 g2 E2 A2 => ?_)
            have ne_x_b2 : x ≠ b2 := Nat.ne_of_lt (Nat.lt_of_lt_of_eq f1_1.lt g2.symm)
            have ne_b1_b2 : b1 ≠ b2 := Nat.ne_of_lt (Nat.lt_of_lt_of_eq A1.lt g2.symm)
            have f2_0 := f1_0.ext E2
            have f2_1 := f1_1.ext E2
            have f2_2 := A1.ext E2
            have f2_3 := F1_value.ext E2
            have f2_4 := F1_coder.ext E2
            have sz_b2 : h0.size ≤ b2 := Nat.le_trans zs1 (Nat.le_of_eq g2.symm)
            have zs2 : h0.size ≤ h2.size := Nat.le_trans zs1 E2.1
            have K2 : Keep h0 h2 [] := K1.ext E2
            have V2 : Arv Z h2 b2 ck2 .char (5 : Int32) [(.int (0 : Int32)), (.int (0 : Int32)), (.int (0 : Int32)), (.int (0 : Int32)), (.int (0 : Int32))] (.int (0 : Int32)) := A2
            refine gDup 147 X2 hx (H d25_146) rfl rfl ?_
            refine gIconst 148 X2 hx (v := (0 : Int32)) (H d25_147) rfl rfl ?_
            refine gLoadAN 149 X2 hx (H d25_148) rfl rfl rfl ?_
            refine gIconst 150 X2 hx (v := (0 : Int32)) (H d25_149) rfl rfl ?_
            refine gCaload X2 hx hZ e2 f2_1 (j := (0 : Int32)) (v := (.int ch0)) (by decide) (by decide) rfl (H d25_150) (pc' := 151) rfl ?_
            refine gCastore X2 hx hZ e2 (x := ch0) V2 (j := (0 : Int32)) (by decide) (by decide) 0 (by decide) (by simp) (H d25_151) (pc' := 152) rfl (fun T3 h3 X3 e3 W3 A3 => ?_)
            have f3_0 := f2_0.wr W3
            have f3_1 := f2_1.other W3 ne_x_b2
            have f3_2 := f2_2.wr W3
            have f3_3 := f2_3.other W3 (Or.inl ne_b1_b2)
            have f3_4 := f2_4.other W3 (Or.inl ne_b1_b2)
            have zs3 : h0.size ≤ h3.size := by rw [W3.size]; exact zs2
            have N3 := Fr.snoc X3 (Fr.nil h0.size) sz_b2
            have K3 : Keep h0 h3 [] := K2.wr W3 (Or.inr sz_b2)
            have V3 : Arv Z h3 b2 _ .char (5 : Int32) [(.int ch0), (.int (0 : Int32)), (.int (0 : Int32)), (.int (0 : Int32)), (.int (0 : Int32))] (.int (0 : Int32)) := (by have q := A3; rw [own_nc (own_c8 hch0)] at q; exact q)
            refine gDup 153 X3 hx (H d25_152) rfl rfl ?_
            refine gIconst 154 X3 hx (v := (1 : Int32)) (H d25_153) rfl rfl ?_
            refine gLoadAN 155 X3 hx (H d25_154) rfl rfl rfl ?_
            refine gIconst 156 X3 hx (v := (1 : Int32)) (H d25_155) rfl rfl ?_
            refine gCaload X3 hx hZ e3 f3_1 (j := (1 : Int32)) (v := (.int ch1)) (by decide) (by decide) rfl (H d25_156) (pc' := 157) rfl ?_
            refine gCastore X3 hx hZ e3 (x := ch1) V3 (j := (1 : Int32)) (by decide) (by decide) 1 (by decide) (by simp) (H d25_157) (pc' := 158) rfl (fun T4 h4 X4 e4 W4 A4 => ?_)
            have f4_0 := f3_0.wr W4
            have f4_1 := f3_1.other W4 ne_x_b2
            have f4_2 := f3_2.wr W4
            have f4_3 := f3_3.other W4 (Or.inl ne_b1_b2)
            have f4_4 := f3_4.other W4 (Or.inl ne_b1_b2)
            have zs4 : h0.size ≤ h4.size := by rw [W4.size]; exact zs3
            have N4 := Fr.snoc X4 N3 sz_b2
            have K4 : Keep h0 h4 [] := K3.wr W4 (Or.inr sz_b2)
            have V4 : Arv Z h4 b2 _ .char (5 : Int32) [(.int ch0), (.int ch1), (.int (0 : Int32)), (.int (0 : Int32)), (.int (0 : Int32))] (.int (0 : Int32)) := (by have q := A4; rw [own_nc (own_c8 hch1)] at q; exact q)
            refine gDup 159 X4 hx (H d25_158) rfl rfl ?_
            refine gIconst 160 X4 hx (v := (2 : Int32)) (H d25_159) rfl rfl ?_
            refine gLoadAN 161 X4 hx (H d25_160) rfl rfl rfl ?_
            refine gIconst 162 X4 hx (v := (2 : Int32)) (H d25_161) rfl rfl ?_
            refine gCaload X4 hx hZ e4 f4_1 (j := (2 : Int32)) (v := (.int ch2)) (by decide) (by decide) rfl (H d25_162) (pc' := 163) rfl ?_
            refine gCastore X4 hx hZ e4 (x := ch2) V4 (j := (2 : Int32)) (by decide) (by decide) 2 (by decide) (by simp) (H d25_163) (pc' := 164) rfl (fun T5 h5 X5 e5 W5 A5 => ?_)
            have f5_0 := f4_0.wr W5
            have f5_1 := f4_1.other W5 ne_x_b2
            have f5_2 := f4_2.wr W5
            have f5_3 := f4_3.other W5 (Or.inl ne_b1_b2)
            have f5_4 := f4_4.other W5 (Or.inl ne_b1_b2)
            have zs5 : h0.size ≤ h5.size := by rw [W5.size]; exact zs4
            have N5 := Fr.snoc X5 N4 sz_b2
            have K5 : Keep h0 h5 [] := K4.wr W5 (Or.inr sz_b2)
            have V5 : Arv Z h5 b2 _ .char (5 : Int32) [(.int ch0), (.int ch1), (.int ch2), (.int (0 : Int32)), (.int (0 : Int32))] (.int (0 : Int32)) := (by have q := A5; rw [own_nc (own_c8 hch2)] at q; exact q)
            refine gDup 165 X5 hx (H d25_164) rfl rfl ?_
            refine gIconst 166 X5 hx (v := (3 : Int32)) (H d25_165) rfl rfl ?_
            refine gLoadAN 167 X5 hx (H d25_166) rfl rfl rfl ?_
            refine gIconst 168 X5 hx (v := (3 : Int32)) (H d25_167) rfl rfl ?_
            refine gCaload X5 hx hZ e5 f5_1 (j := (3 : Int32)) (v := (.int ch3)) (by decide) (by decide) rfl (H d25_168) (pc' := 169) rfl ?_
            refine gCastore X5 hx hZ e5 (x := ch3) V5 (j := (3 : Int32)) (by decide) (by decide) 3 (by decide) (by simp) (H d25_169) (pc' := 170) rfl (fun T6 h6 X6 e6 W6 A6 => ?_)
            have f6_0 := f5_0.wr W6
            have f6_1 := f5_1.other W6 ne_x_b2
            have f6_2 := f5_2.wr W6
            have f6_3 := f5_3.other W6 (Or.inl ne_b1_b2)
            have f6_4 := f5_4.other W6 (Or.inl ne_b1_b2)
            have zs6 : h0.size ≤ h6.size := by rw [W6.size]; exact zs5
            have N6 := Fr.snoc X6 N5 sz_b2
            have K6 : Keep h0 h6 [] := K5.wr W6 (Or.inr sz_b2)
            have V6 : Arv Z h6 b2 _ .char (5 : Int32) [(.int ch0), (.int ch1), (.int ch2), (.int ch3), (.int (0 : Int32))] (.int (0 : Int32)) := (by have q := A6; rw [own_nc (own_c8 hch3)] at q; exact q)
            refine gDup 171 X6 hx (H d25_170) rfl rfl ?_
            refine gIconst 172 X6 hx (v := (4 : Int32)) (H d25_171) rfl rfl ?_
            refine gLoadAN 173 X6 hx (H d25_172) rfl rfl rfl ?_
            refine gIconst 174 X6 hx (v := (4 : Int32)) (H d25_173) rfl rfl ?_
            refine gCaload X6 hx hZ e6 f6_1 (j := (4 : Int32)) (v := (.int ch4)) (by decide) (by decide) rfl (H d25_174) (pc' := 175) rfl ?_
            refine gCastore X6 hx hZ e6 (x := ch4) V6 (j := (4 : Int32)) (by decide) (by decide) 4 (by decide) (by simp) (H d25_175) (pc' := 176) rfl (fun T7 h7 X7 e7 W7 A7 => ?_)
            have f7_0 := f6_0.wr W7
            have f7_1 := f6_1.other W7 ne_x_b2
            have f7_2 := f6_2.wr W7
            have f7_3 := f6_3.other W7 (Or.inl ne_b1_b2)
            have f7_4 := f6_4.other W7 (Or.inl ne_b1_b2)
            have zs7 : h0.size ≤ h7.size := by rw [W7.size]; exact zs6
            have N7 := Fr.snoc X7 N6 sz_b2
            have K7 : Keep h0 h7 [] := K6.wr W7 (Or.inr sz_b2)
            have V7 : Arv Z h7 b2 _ .char (5 : Int32) [(.int ch0), (.int ch1), (.int ch2), (.int ch3), (.int ch4)] (.int (0 : Int32)) := (by have q := A7; rw [own_nc (own_c8 hch4)] at q; exact q)
            refine gCallI X7 hx hZ (y := mn7) rfl hown e7 (by rw [hml]; rfl) (ow hw 12 rfl) (ow hw 13 rfl) (ow hw 11 rfl) (ow hw 14 rfl) (by decide) (argsL := [(.ref b2)]) (st := [(.ref b1)]) (c_sinit_5 l Z a0 hw b1 b2 _ h0.size ch0 ch1 ch2 ch3 ch4 h7 f7_0 sz_b1 zs7 (Ne.symm ne_b1_b2) f7_2 f7_4 f7_3 V7 hch0 hch1 hch2 hch3 hch4) (lenOf pd_21 rfl) (H d25_176) (pc' := 179) rfl rfl (by decide) (W := 1) (Nat.le_of_eq rfl) (by decide) (by decide) (by decide) ?_
            intro T8 v8 L8 X8 hQ8
            obtain ⟨t8, ct8, rfl, Nq8, Kq8, gt8, Eq8, Cq8, Vq8, Aq8⟩ := hQ8
            have N8 := Fr.app N7 Nq8
            have f8_0 := own_cpt_keep f7_0 Kq8 (nsS (Exa.nostat f7_2) ns0)
            have f8_1 := f7_1.keep Kq8 (ninS ne_x_b1 nin0)
            have f8_2 := f7_2.keep Kq8
            have f8_5 := V7.keep Kq8 (ninS (Ne.symm ne_b1_b2) nin0)
            have zs8 := Nat.le_trans zs7 Kq8.1
            have K8 : Keep h0 T8.heap [] := K7.trans Kq8 (allS (Or.inr sz_b1) all0)
            exact gRetA X8 hx hlk hret rfl rfl (H d25_179) (by decide) (by decide) (⟨b1, t8, ct8, rfl, N8, K8, Eq8, Cq8, Vq8, Aq8⟩)
          · exact absurd c101 (by decide)
        · exact absurd c67 (by decide)
      · exact absurd c39 (by decide)
    · exact absurd c17 (by decide)
  · exact absurd c1 (by decide)
def lx0  : Int32 := (-1)
theorem d17_0 : decode jdk_43_method_4_code 0 = .ok (.iload_n 0, 1) := by decide +kernel
theorem d17_1 : decode jdk_43_method_4_code 1 = .ok (.ifCond .lt 14, 3) := by decide +kernel
theorem d17_4 : decode jdk_43_method_4_code 4 = .ok (.iload_n 0, 1) := by decide +kernel
theorem d17_5 : decode jdk_43_method_4_code 5 = .ok (.sipush 255, 3) := by decide +kernel
theorem d17_8 : decode jdk_43_method_4_code 8 = .ok (.if_icmp .gt 7, 3) := by decide +kernel
theorem d17_11 : decode jdk_43_method_4_code 11 = .ok (.iconst 1, 1) := by decide +kernel
theorem d17_12 : decode jdk_43_method_4_code 12 = .ok (.goto 4, 3) := by decide +kernel
theorem d17_16 : decode jdk_43_method_4_code 16 = .ok (.ireturn, 1) := by decide +kernel
abbrev mn17 : MethodName := ⟨"java/lang/StringLatin1", "canEncode", "(I)Z"⟩
theorem pn_5 : plainName "java/lang/StringLatin1" = true := by first | (simp [plainName, overriddenIn]; done) | decide +kernel
theorem c_canI_47 (l : Launch) (Z : State) (a0 : Array Value) (hw : ∀ d ∈ tables_1, d.before a0 Z = true)  (h0 : Heap)  :
    Ctr l Z mn17 jdk_43_method_4_code 1 (some .boolean) [] ⟨0, 0, 0, 0⟩ #[(.int (47 : Int32))] h0 (Just h0 (.int 1)) := by
  refine Ctr.of (plainFor_of_name pn_5) ?_
  intro p e s m below meth c s₁ hx H hml hret hown hnm hZ hlk X0 e0
  refine Goes.cast (show entryFrame m _ _ = mkF m 0 #[.val (.int (47 : Int32))] [] from rfl) ?_
  refine gLoadIN 1 X0 hx (H d17_0) rfl rfl ?_
  refine gIfLt X0 hx (H d17_1) (pc' := 15) (by decide) (by decide) (pn := 4) rfl (fun (c1 : (47 : Int) < (0 : Int)) => ?_) (fun (c1 : (0 : Int) ≤ (47 : Int)) => ?_)
  · exact absurd c1 (by decide)
  · refine gLoadIN 5 X0 hx (H d17_4) rfl rfl ?_
    refine gSipush 8 X0 hx (v := (255 : Int32)) (H d17_5) rfl rfl ?_
    refine gIcmpGt X0 hx (H d17_8) (pc' := 15) (by decide) (by decide) (pn := 11) rfl (fun (c8 : (255 : Int) < (47 : Int)) => ?_) (fun (c8 : (47 : Int) ≤ (255 : Int)) => ?_)
    · exact absurd c8 (by decide)
    · refine gIconst 12 X0 hx (v := (1 : Int32)) (H d17_11) rfl rfl ?_
      refine gGoto X0 hx (H d17_12) (pc' := 16) (by decide) (by decide) ?_
      exact gRetN X0 hx hlk hret (by simp) (H d17_16) (w := (1 : Int32)) rfl (by decide) (by decide) (⟨rfl, e0, rfl⟩)
theorem d1_0 : decode jdk_29_method_69_code 0 = .ok (.iload_n 0, 1) := by decide +kernel
theorem d1_1 : decode jdk_29_method_69_code 1 = .ok (.iload_n 1, 1) := by decide +kernel
theorem d1_2 : decode jdk_29_method_69_code 2 = .ok (.if_icmp .gt 7, 3) := by decide +kernel
theorem d1_5 : decode jdk_29_method_69_code 5 = .ok (.iload_n 0, 1) := by decide +kernel
theorem d1_6 : decode jdk_29_method_69_code 6 = .ok (.goto 4, 3) := by decide +kernel
theorem d1_10 : decode jdk_29_method_69_code 10 = .ok (.ireturn, 1) := by decide +kernel
abbrev mn4 : MethodName := ⟨"java/lang/Math", "min", "(II)I"⟩
theorem c_min_m1_m1 (l : Launch) (Z : State) (a0 : Array Value) (hw : ∀ d ∈ tables_1, d.before a0 Z = true)  (h0 : Heap)  :
    Ctr l Z mn4 jdk_29_method_69_code 2 (some .int) [] ⟨0, 0, 0, 0⟩ #[(.int (-1 : Int32)), (.int (-1 : Int32))] h0 (Just h0 (.int (-1))) := by
  refine Ctr.of (Jvm.Free.JP.mathPlain rfl (by decide +kernel)) ?_
  intro p e s m below meth c s₁ hx H hml hret hown hnm hZ hlk X0 e0
  refine Goes.cast (show entryFrame m _ _ = mkF m 0 #[.val (.int (-1 : Int32)), .val (.int (-1 : Int32))] [] from rfl) ?_
  refine gLoadIN 1 X0 hx (H d1_0) rfl rfl ?_
  refine gLoadIN 2 X0 hx (H d1_1) rfl rfl ?_
  refine gIcmpGt X0 hx (H d1_2) (pc' := 9) (by decide) (by decide) (pn := 5) rfl (fun (c2 : (-1 : Int) < (-1 : Int)) => ?_) (fun (c2 : (-1 : Int) ≤ (-1 : Int)) => ?_)
  · exact absurd c2 (by decide)
  · refine gLoadIN 6 X0 hx (H d1_5) rfl rfl ?_
    refine gGoto X0 hx (H d1_6) (pc' := 10) (by decide) (by decide) ?_
    exact gRetI X0 hx hlk hret (H d1_10) (by decide) (by decide) (⟨rfl, e0, rfl⟩)
theorem d15_0 : decode jdk_43_method_27_code 0 = .ok (.iload_n 1, 1) := by decide +kernel
theorem d15_1 : decode jdk_43_method_27_code 1 = .ok (.invokestatic 88, 3) := by decide +kernel
theorem pd_5 : parseMethodDescriptor "(I)Z" = some ⟨[.int], some .boolean⟩ := by decide +kernel
theorem d15_4 : decode jdk_43_method_27_code 4 = .ok (.ifCond .ne 5, 3) := by decide +kernel
theorem d15_9 : decode jdk_43_method_27_code 9 = .ok (.iload_n 2, 1) := by decide +kernel
theorem d15_10 : decode jdk_43_method_27_code 10 = .ok (.aload_n 0, 1) := by decide +kernel
theorem d15_11 : decode jdk_43_method_27_code 11 = .ok (.arraylength, 1) := by decide +kernel
theorem d15_12 : decode jdk_43_method_27_code 12 = .ok (.iconst 1, 1) := by decide +kernel
theorem d15_13 : decode jdk_43_method_27_code 13 = .ok (.isub, 1) := by decide +kernel
theorem d15_14 : decode jdk_43_method_27_code 14 = .ok (.invokestatic 38, 3) := by decide +kernel
theorem pd_6 : parseMethodDescriptor "(II)I" = some ⟨[.int, .int], some .int⟩ := by decide +kernel
theorem d15_17 : decode jdk_43_method_27_code 17 = .ok (.istore_n 3, 1) := by decide +kernel
theorem d15_18 : decode jdk_43_method_27_code 18 = .ok (.iload_n 3, 1) := by decide +kernel
theorem d15_19 : decode jdk_43_method_27_code 19 = .ok (.ifCond .lt 19, 3) := by decide +kernel
theorem d15_38 : decode jdk_43_method_27_code 38 = .ok (.iconst (-1), 1) := by decide +kernel
theorem d15_39 : decode jdk_43_method_27_code 39 = .ok (.ireturn, 1) := by decide +kernel
abbrev mn19 : MethodName := ⟨"java/lang/StringLatin1", "lastIndexOf", "([BII)I"⟩
theorem c_lastIndexOf_0l (l : Launch) (Z : State) (a0 : Array Value) (hw : ∀ d ∈ tables_1, d.before a0 Z = true) (t : Addr) (ck : ClassId)  (h0 : Heap) (A : sA Z h0 t ck 0 [])  :
    Ctr l Z mn19 jdk_43_method_27_code 4 (some .int) [] ⟨1, 0, 0, 24⟩ #[(.ref t), (.int (47 : Int32)), (.int (-1 : Int32))] h0 (Just h0 (.int (lx0 ))) := by
  refine Ctr.of (plainFor_of_name pn_5) ?_
  intro p e s m below meth c s₁ hx H hml hret hown hnm hZ hlk X0 e0
  refine Goes.cast (show entryFrame m _ _ = mkF m 0 #[.val (.ref t), .val (.int (47 : Int32)), .val (.int (-1 : Int32)), .unset] [] from rfl) ?_
  refine gLoadIN 1 X0 hx (H d15_0) rfl rfl ?_
  refine gCallSJ X0 hx hZ (y := mn17) hown e0 (by rw [hml]; rfl) (ow hw 64 rfl) (ow hw 65 rfl) (ow hw 62 rfl) (ow hw 66 rfl) (by decide) (argsL := [(.int (47 : Int32))]) (st := []) (c_canI_47 l Z a0 hw h0) (lenOf pd_5 rfl) (H d15_1) (pc' := 4) rfl rfl rfl rfl (by decide) (W := 0) (Nat.le_of_eq rfl) (by decide) (by decide) (by decide) ?_
  intro T1 X1 e1
  refine gIfNeT X1 hx (H d15_4) (pc' := 9) (by decide) (by decide) (pn := 7) rfl (fun (c4 : ¬ (1 : Int) = (0 : Int)) => ?_) (fun (c4 : (1 : Int) = (0 : Int)) => ?_)
  · refine gLoadIN 10 X1 hx (H d15_9) rfl rfl ?_
    refine gLoadAN 11 X1 hx (H d15_10) rfl rfl rfl ?_
    refine gArrLen X1 hx hZ e1 A (H d15_11) (pc' := 12) rfl ?_
    refine gIconst 13 X1 hx (v := (1 : Int32)) (H d15_12) rfl rfl ?_
    refine gIsub 14 X1 hx (H d15_13) rfl ?_
    show Goes p e below _ T1 (mkF m 14 #[.val (.ref t), .val (.int (47 : Int32)), .val (.int (-1 : Int32)), .unset] [(.int (-1 : Int32)), (.int (-1 : Int32))])
    refine gCallSJ X1 hx hZ (y := mn4) hown e1 (by rw [hml]; rfl) (ow hw 67 rfl) (ow hw 68 rfl) (ow hw 69 rfl) (ow hw 70 rfl) (by decide) (argsL := [(.int (-1 : Int32)), (.int (-1 : Int32))]) (st := []) (c_min_m1_m1 l Z a0 hw h0) (lenOf pd_6 rfl) (H d15_14) (pc' := 17) rfl rfl rfl rfl (by decide) (W := 0) (Nat.le_of_eq rfl) (by decide) (by decide) (by decide) ?_
    intro T2 X2 e2
    refine gStoreIN 18 X2 hx (H d15_17) (l' := #[.val (.ref t), .val (.int (47 : Int32)), .val (.int (-1 : Int32)), .val (.int (-1 : Int32))]) rfl rfl ?_
    refine gLoadIN 19 X2 hx (H d15_18) rfl rfl ?_
    refine gIfLt X2 hx (H d15_19) (pc' := 38) (by decide) (by decide) (pn := 22) rfl (fun (c19 : (-1 : Int) < (0 : Int)) => ?_) (fun (c19 : (0 : Int) ≤ (-1 : Int)) => ?_)
    · refine gIconst 39 X2 hx (v := (-1 : Int32)) (H d15_38) rfl rfl ?_
      exact gRetI X2 hx hlk hret (H d15_39) (by decide) (by decide) (⟨by rw [lx0], e2, rfl⟩)
    · exact absurd c19 (by decide)
  · exact absurd c4 (by decide)
theorem d6_0 : decode jdk_42_method_154_code 0 = .ok (.getstatic 38, 3) := by decide +kernel
theorem d6_3 : decode jdk_42_method_154_code 3 = .ok (.ifCond .eq 14, 3) := by decide +kernel
theorem d6_6 : decode jdk_42_method_154_code 6 = .ok (.aload_n 0, 1) := by decide +kernel
theorem d6_7 : decode jdk_42_method_154_code 7 = .ok (.getfield 15, 3) := by decide +kernel
theorem d6_10 : decode jdk_42_method_154_code 10 = .ok (.ifCond .ne 7, 3) := by decide +kernel
theorem d6_13 : decode jdk_42_method_154_code 13 = .ok (.iconst 1, 1) := by decide +kernel
theorem d6_14 : decode jdk_42_method_154_code 14 = .ok (.goto 4, 3) := by decide +kernel
theorem d6_18 : decode jdk_42_method_154_code 18 = .ok (.ireturn, 1) := by decide +kernel
abbrev mn12 : MethodName := ⟨"java/lang/String", "isLatin1", "()Z"⟩
theorem c_isLatin1 (l : Launch) (Z : State) (a0 : Array Value) (hw : ∀ d ∈ tables_1, d.before a0 Z = true) (a : Addr) (h0 : Heap) (hCpt : Cpt Z h0) (C : sC Z h0 a) :
    Ctr l Z mn12 jdk_42_method_154_code 1 (some .boolean) [] ⟨0, 0, 0, 0⟩ #[(.ref a)] h0 (Just h0 (.int 1)) := by
  refine Ctr.of (plainFor_of_name pn_4) ?_
  intro p e s m below meth c s₁ hx H hml hret hown hnm hZ hlk X0 e0
  refine Goes.cast (show entryFrame m _ _ = mkF m 0 #[.val (.ref a)] [] from rfl) ?_
  obtain ⟨cz, SC, hcz⟩ := hCpt
  refine gGetS X0 hx hZ hown (ow hw 49 rfl) Via.refl e0 SC (H d6_0) (pc' := 3) rfl (fun T1 X1 e1 => ?_)
  refine gIfEqT X1 hx (H d6_3) (pc' := 17) (by decide) (by decide) (pn := 6) rfl (fun (c3 : cz.toInt = (0 : Int)) => ?_) (fun (c3 : ¬ cz.toInt = (0 : Int)) => ?_)
  · exact absurd c3 hcz
  · refine gLoadAN 7 X1 hx (H d6_6) rfl rfl rfl ?_
    refine gGetF X1 hx hZ hown (ow hw 29 rfl) Via.refl e1 C (H d6_7) (pc' := 10) rfl (fun T2 X2 e2 => ?_)
    refine gIfNeT X2 hx (H d6_10) (pc' := 17) (by decide) (by decide) (pn := 13) rfl (fun (c10 : ¬ (0 : Int) = (0 : Int)) => ?_) (fun (c10 : (0 : Int) = (0 : Int)) => ?_)
    · exact absurd c10 (by decide)
    · refine gIconst 14 X2 hx (v := (1 : Int32)) (H d6_13) rfl rfl ?_
      refine gGoto X2 hx (H d6_14) (pc' := 18) (by decide) (by decide) ?_
      exact gRetN X2 hx hlk hret (by simp) (H d6_18) (w := (1 : Int32)) rfl (by decide) (by decide) (⟨rfl, e2, rfl⟩)
theorem d5_0 : decode jdk_42_method_152_code 0 = .ok (.getstatic 38, 3) := by decide +kernel
theorem d5_3 : decode jdk_42_method_152_code 3 = .ok (.ifCond .eq 10, 3) := by decide +kernel
theorem d5_6 : decode jdk_42_method_152_code 6 = .ok (.aload_n 0, 1) := by decide +kernel
theorem d5_7 : decode jdk_42_method_152_code 7 = .ok (.getfield 15, 3) := by decide +kernel
theorem d5_10 : decode jdk_42_method_152_code 10 = .ok (.goto 4, 3) := by decide +kernel
theorem d5_14 : decode jdk_42_method_152_code 14 = .ok (.ireturn, 1) := by decide +kernel
abbrev mn10 : MethodName := ⟨"java/lang/String", "coder", "()B"⟩
theorem c_coder (l : Launch) (Z : State) (a0 : Array Value) (hw : ∀ d ∈ tables_1, d.before a0 Z = true) (a : Addr) (h0 : Heap) (hCpt : Cpt Z h0) (C : sC Z h0 a) :
    Ctr l Z mn10 jdk_42_method_152_code 1 (some .byte) [] ⟨0, 0, 0, 0⟩ #[(.ref a)] h0 (Just h0 (.int 0)) := by
  refine Ctr.of (plainFor_of_name pn_4) ?_
  intro p e s m below meth c s₁ hx H hml hret hown hnm hZ hlk X0 e0
  refine Goes.cast (show entryFrame m _ _ = mkF m 0 #[.val (.ref a)] [] from rfl) ?_
  obtain ⟨cz, SC, hcz⟩ := hCpt
  refine gGetS X0 hx hZ hown (ow hw 49 rfl) Via.refl e0 SC (H d5_0) (pc' := 3) rfl (fun T1 X1 e1 => ?_)
  refine gIfEqT X1 hx (H d5_3) (pc' := 13) (by decide) (by decide) (pn := 6) rfl (fun (c3 : cz.toInt = (0 : Int)) => ?_) (fun (c3 : ¬ cz.toInt = (0 : Int)) => ?_)
  · exact absurd c3 hcz
  · refine gLoadAN 7 X1 hx (H d5_6) rfl rfl rfl ?_
    refine gGetF X1 hx hZ hown (ow hw 29 rfl) Via.refl e1 C (H d5_7) (pc' := 10) rfl (fun T2 X2 e2 => ?_)
    refine gGoto X2 hx (H d5_10) (pc' := 14) (by decide) (by decide) ?_
    exact gRetN X2 hx hlk hret (by simp) (H d5_14) (w := (0 : Int32)) rfl (by decide) (by decide) (⟨rfl, e2, rfl⟩)
theorem d9_0 : decode jdk_42_method_54_code 0 = .ok (.aload_n 0, 1) := by decide +kernel
theorem d9_1 : decode jdk_42_method_54_code 1 = .ok (.getfield 9, 3) := by decide +kernel
theorem d9_4 : decode jdk_42_method_54_code 4 = .ok (.arraylength, 1) := by decide +kernel
theorem d9_5 : decode jdk_42_method_54_code 5 = .ok (.aload_n 0, 1) := by decide +kernel
theorem d9_6 : decode jdk_42_method_54_code 6 = .ok (.invokevirtual 335, 3) := by decide +kernel
theorem pd_0 : parseMethodDescriptor "()B" = some ⟨[], some .byte⟩ := by decide +kernel
theorem d9_9 : decode jdk_42_method_54_code 9 = .ok (.ishr, 1) := by decide +kernel
theorem d9_10 : decode jdk_42_method_54_code 10 = .ok (.ireturn, 1) := by decide +kernel
abbrev mn15 : MethodName := ⟨"java/lang/String", "length", "()I"⟩
theorem c_length_0 (l : Launch) (Z : State) (a0 : Array Value) (hw : ∀ d ∈ tables_1, d.before a0 Z = true) (a t : Addr) (ck : ClassId)  (h0 : Heap) (hCpt : Cpt Z h0) (E : sE Z h0 a) (C : sC Z h0 a) (V : sV Z h0 a t) (A : sA Z h0 t ck 0 [])  :
    Ctr l Z mn15 jdk_42_method_54_code 1 (some .int) [] ⟨1, 0, 0, 13⟩ #[(.ref a)] h0 (Just h0 (.int 0)) := by
  refine Ctr.of (plainFor_of_name pn_4) ?_
  intro p e s m below meth c s₁ hx H hml hret hown hnm hZ hlk X0 e0
  refine Goes.cast (show entryFrame m _ _ = mkF m 0 #[.val (.ref a)] [] from rfl) ?_
  refine gLoadAN 1 X0 hx (H d9_0) rfl rfl rfl ?_
  refine gGetF X0 hx hZ hown (ow hw 28 rfl) Via.refl e0 V (H d9_1) (pc' := 4) rfl (fun T1 X1 e1 => ?_)
  refine gArrLen X1 hx hZ e1 A (H d9_4) (pc' := 5) rfl ?_
  refine gLoadAN 6 X1 hx (H d9_5) rfl rfl rfl ?_
  refine gCallVJ X1 hx hZ (y := mn10) hown e1 (by rw [hml]; rfl) E (ow hw 44 rfl) (ow hw 45 rfl) (ow hw 47 rfl) (ow hw 46 rfl) (ow hw 11 rfl) (ow hw 48 rfl) (by decide) (argsL := []) (st := [(.int (0 : Int32))]) (c_coder l Z a0 hw a h0 hCpt C) (lenOf pd_0 rfl) (H d9_6) (pc' := 9) rfl rfl rfl rfl (by decide) (W := 1) (Nat.le_of_eq rfl) (by decide) (by decide) (by decide) ?_
  intro T2 X2 e2
  refine gIshr 10 X2 hx (H d9_9) rfl ?_
  show Goes p e below _ T2 (mkF m 10 #[.val (.ref a)] [(.int (0 : Int32))])
  exact gRetI X2 hx hlk hret (H d9_10) (by decide) (by decide) (⟨rfl, e2, rfl⟩)
theorem d12_0 : decode jdk_42_method_83_code 0 = .ok (.aload_n 0, 1) := by decide +kernel
theorem d12_1 : decode jdk_42_method_83_code 1 = .ok (.invokevirtual 492, 3) := by decide +kernel
theorem pd_3 : parseMethodDescriptor "()Z" = some ⟨[], some .boolean⟩ := by decide +kernel
theorem d12_4 : decode jdk_42_method_83_code 4 = .ok (.ifCond .eq 15, 3) := by decide +kernel
theorem d12_7 : decode jdk_42_method_83_code 7 = .ok (.aload_n 0, 1) := by decide +kernel
theorem d12_8 : decode jdk_42_method_83_code 8 = .ok (.getfield 9, 3) := by decide +kernel
theorem d12_11 : decode jdk_42_method_83_code 11 = .ok (.iload_n 1, 1) := by decide +kernel
theorem d12_12 : decode jdk_42_method_83_code 12 = .ok (.iload_n 2, 1) := by decide +kernel
theorem d12_13 : decode jdk_42_method_83_code 13 = .ok (.invokestatic 644, 3) := by decide +kernel
theorem pd_17 : parseMethodDescriptor "([BII)I" = some ⟨[(.array .byte), .int, .int], some .int⟩ := by decide +kernel
theorem d12_16 : decode jdk_42_method_83_code 16 = .ok (.goto 12, 3) := by decide +kernel
theorem d12_28 : decode jdk_42_method_83_code 28 = .ok (.ireturn, 1) := by decide +kernel
abbrev mn14 : MethodName := ⟨"java/lang/String", "lastIndexOf", "(II)I"⟩
theorem c_lastIndexOf_02 (l : Launch) (Z : State) (a0 : Array Value) (hw : ∀ d ∈ tables_1, d.before a0 Z = true) (a t : Addr) (ck : ClassId)  (h0 : Heap) (hCpt : Cpt Z h0) (E : sE Z h0 a) (C : sC Z h0 a) (V : sV Z h0 a t) (A : sA Z h0 t ck 0 [])  :
    Ctr l Z mn14 jdk_42_method_83_code 3 (some .int) [] ⟨2, 0, 0, 42⟩ #[(.ref a), (.int (47 : Int32)), (.int (-1 : Int32))] h0 (Just h0 (.int (lx0 ))) := by
  refine Ctr.of (plainFor_of_name pn_4) ?_
  intro p e s m below meth c s₁ hx H hml hret hown hnm hZ hlk X0 e0
  refine Goes.cast (show entryFrame m _ _ = mkF m 0 #[.val (.ref a), .val (.int (47 : Int32)), .val (.int (-1 : Int32))] [] from rfl) ?_
  refine gLoadAN 1 X0 hx (H d12_0) rfl rfl rfl ?_
  refine gCallVJ X0 hx hZ (y := mn12) hown e0 (by rw [hml]; rfl) E (ow hw 55 rfl) (ow hw 56 rfl) (ow hw 58 rfl) (ow hw 57 rfl) (ow hw 11 rfl) (ow hw 59 rfl) (by decide) (argsL := []) (st := []) (c_isLatin1 l Z a0 hw a h0 hCpt C) (lenOf pd_3 rfl) (H d12_1) (pc' := 4) rfl rfl rfl rfl (by decide) (W := 0) (Nat.le_of_eq rfl) (by decide) (by decide) (by decide) ?_
  intro T1 X1 e1
  refine gIfEqT X1 hx (H d12_4) (pc' := 19) (by decide) (by decide) (pn := 7) rfl (fun (c4 : (1 : Int) = (0 : Int)) => ?_) (fun (c4 : ¬ (1 : Int) = (0 : Int)) => ?_)
  · exact absurd c4 (by decide)
  · refine gLoadAN 8 X1 hx (H d12_7) rfl rfl rfl ?_
    refine gGetF X1 hx hZ hown (ow hw 28 rfl) Via.refl e1 V (H d12_8) (pc' := 11) rfl (fun T2 X2 e2 => ?_)
    refine gLoadIN 12 X2 hx (H d12_11) rfl rfl ?_
    refine gLoadIN 13 X2 hx (H d12_12) rfl rfl ?_
    refine gCallSJ X2 hx hZ (y := mn19) hown e2 (by rw [hml]; rfl) (ow hw 60 rfl) (ow hw 61 rfl) (ow hw 62 rfl) (ow hw 63 rfl) (by decide) (argsL := [(.ref t), (.int (47 : Int32)), (.int (-1 : Int32))]) (st := []) (c_lastIndexOf_0l l Z a0 hw t ck  h0 A ) (lenOf pd_17 rfl) (H d12_13) (pc' := 16) rfl rfl rfl rfl (by decide) (W := 0) (Nat.le_of_eq rfl) (by decide) (by decide) (by decide) ?_
    intro T3 X3 e3
    refine gGoto X3 hx (H d12_16) (pc' := 28) (by decide) (by decide) ?_
    exact gRetI X3 hx hlk hret (H d12_28) (by decide) (by decide) (⟨rfl, e3, rfl⟩)
theorem d11_0 : decode jdk_42_method_82_code 0 = .ok (.aload_n 0, 1) := by decide +kernel
theorem d11_1 : decode jdk_42_method_82_code 1 = .ok (.iload_n 1, 1) := by decide +kernel
theorem d11_2 : decode jdk_42_method_82_code 2 = .ok (.aload_n 0, 1) := by decide +kernel
theorem d11_3 : decode jdk_42_method_82_code 3 = .ok (.invokevirtual 505, 3) := by decide +kernel
theorem pd_1 : parseMethodDescriptor "()I" = some ⟨[], some .int⟩ := by decide +kernel
theorem d11_6 : decode jdk_42_method_82_code 6 = .ok (.iconst 1, 1) := by decide +kernel
theorem d11_7 : decode jdk_42_method_82_code 7 = .ok (.isub, 1) := by decide +kernel
theorem d11_8 : decode jdk_42_method_82_code 8 = .ok (.invokevirtual 641, 3) := by decide +kernel
theorem d11_11 : decode jdk_42_method_82_code 11 = .ok (.ireturn, 1) := by decide +kernel
abbrev mn13 : MethodName := ⟨"java/lang/String", "lastIndexOf", "(I)I"⟩
theorem c_lastIndexOf_0 (l : Launch) (Z : State) (a0 : Array Value) (hw : ∀ d ∈ tables_1, d.before a0 Z = true) (a t : Addr) (ck : ClassId)  (h0 : Heap) (hCpt : Cpt Z h0) (E : sE Z h0 a) (C : sC Z h0 a) (V : sV Z h0 a t) (A : sA Z h0 t ck 0 [])  :
    Ctr l Z mn13 jdk_42_method_82_code 2 (some .int) [] ⟨3, 0, 0, 58⟩ #[(.ref a), (.int (47 : Int32))] h0 (Just h0 (.int (lx0 ))) := by
  refine Ctr.of (plainFor_of_name pn_4) ?_
  intro p e s m below meth c s₁ hx H hml hret hown hnm hZ hlk X0 e0
  refine Goes.cast (show entryFrame m _ _ = mkF m 0 #[.val (.ref a), .val (.int (47 : Int32))] [] from rfl) ?_
  refine gLoadAN 1 X0 hx (H d11_0) rfl rfl rfl ?_
  refine gLoadIN 2 X0 hx (H d11_1) rfl rfl ?_
  refine gLoadAN 3 X0 hx (H d11_2) rfl rfl rfl ?_
  refine gCallVJ X0 hx hZ (y := mn15) hown e0 (by rw [hml]; rfl) E (ow hw 39 rfl) (ow hw 40 rfl) (ow hw 42 rfl) (ow hw 41 rfl) (ow hw 11 rfl) (ow hw 43 rfl) (by decide) (argsL := []) (st := [(.int (47 : Int32)), (.ref a)]) (c_length_0 l Z a0 hw a t ck  h0 hCpt E C V A ) (lenOf pd_1 rfl) (H d11_3) (pc' := 6) rfl rfl rfl rfl (by decide) (W := 2) (Nat.le_of_eq rfl) (by decide) (by decide) (by decide) ?_
  intro T1 X1 e1
  refine gIconst 7 X1 hx (v := (1 : Int32)) (H d11_6) rfl rfl ?_
  refine gIsub 8 X1 hx (H d11_7) rfl ?_
  show Goes p e below _ T1 (mkF m 8 #[.val (.ref a), .val (.int (47 : Int32))] [(.int (-1 : Int32)), (.int (47 : Int32)), (.ref a)])
  refine gCallVJ X1 hx hZ (y := mn14) hown e1 (by rw [hml]; rfl) E (ow hw 50 rfl) (ow hw 51 rfl) (ow hw 53 rfl) (ow hw 52 rfl) (ow hw 11 rfl) (ow hw 54 rfl) (by decide) (argsL := [(.int (47 : Int32)), (.int (-1 : Int32))]) (st := []) (c_lastIndexOf_02 l Z a0 hw a t ck  h0 hCpt E C V A ) (lenOf pd_6 rfl) (H d11_8) (pc' := 11) rfl rfl rfl rfl (by decide) (W := 0) (Nat.le_of_eq rfl) (by decide) (by decide) (by decide) ?_
  intro T2 X2 e2
  exact gRetI X2 hx hlk hret (H d11_11) (by decide) (by decide) (⟨rfl, e2, rfl⟩)
theorem d27_0 : decode prog_18_method_5_code 0 = .ok (.aload_n 0, 1) := by decide +kernel
theorem d27_1 : decode prog_18_method_5_code 1 = .ok (.bipush 47, 2) := by decide +kernel
theorem d27_3 : decode prog_18_method_5_code 3 = .ok (.invokevirtual 57, 3) := by decide +kernel
theorem pd_4 : parseMethodDescriptor "(I)I" = some ⟨[.int], some .int⟩ := by decide +kernel
theorem d27_6 : decode prog_18_method_5_code 6 = .ok (.istore_n 1, 1) := by decide +kernel
theorem d27_7 : decode prog_18_method_5_code 7 = .ok (.iload_n 1, 1) := by decide +kernel
theorem d27_8 : decode prog_18_method_5_code 8 = .ok (.ifCond .le 12, 3) := by decide +kernel
theorem d27_20 : decode prog_18_method_5_code 20 = .ok (.aconst_null, 1) := by decide +kernel
theorem d27_21 : decode prog_18_method_5_code 21 = .ok (.areturn, 1) := by decide +kernel
abbrev mn0 : MethodName := ⟨"com/example/guildhall/guildhall/Fqan", "parentOf", "(Ljava/lang/String;)Ljava/lang/String;"⟩
theorem pn_0 : plainName "com/example/guildhall/guildhall/Fqan" = true := by first | (simp [plainName, overriddenIn]; done) | decide +kernel
theorem c_nm_0_m (l : Launch) (Z : State) (a0 : Array Value) (hw : ∀ d ∈ tables_1, d.before a0 Z = true) (a t : Addr) (ck : ClassId)  (h0 : Heap) (hSio : Sio Z h0) (hCpt : Cpt Z h0) (E : sE Z h0 a) (C : sC Z h0 a) (V : sV Z h0 a t) (A : sA Z h0 t ck 0 [])   :
    Ctr l Z mn0 prog_18_method_5_code 2 (some (.object "java/lang/String")) [] ⟨4, 0, 0, 73⟩ #[(.ref a)] h0 (Just h0 .null) := by
  refine Ctr.of (plainFor_of_name pn_0) ?_
  intro p e s m below meth c s₁ hx H hml hret hown hnm hZ hlk X0 e0
  refine Goes.cast (show entryFrame m _ _ = mkF m 0 #[.val (.ref a), .unset] [] from rfl) ?_
  refine gLoadAN 1 X0 hx (H d27_0) rfl rfl rfl ?_
  refine gBipush 3 X0 hx (v := (47 : Int32)) (H d27_1) rfl rfl ?_
  refine gCallVJ X0 hx hZ (y := mn13) hown e0 (by rw [hml]; rfl) E (ow hw 34 rfl) (ow hw 35 rfl) (ow hw 37 rfl) (ow hw 36 rfl) (ow hw 11 rfl) (ow hw 38 rfl) (by decide) (argsL := [(.int (47 : Int32))]) (st := []) (c_lastIndexOf_0 l Z a0 hw a t ck  h0 hCpt E C V A ) (lenOf pd_4 rfl) (H d27_3) (pc' := 6) rfl rfl rfl rfl (by decide) (W := 0) (Nat.le_of_eq rfl) (by decide) (by decide) (by decide) ?_
  intro T1 X1 e1
  rw [show lx0  = -1 from by rw [lx0]]
  refine gStoreIN 7 X1 hx (H d27_6) (l' := #[.val (.ref a), .val (.int (-1 : Int32))]) rfl rfl ?_
  refine gLoadIN 8 X1 hx (H d27_7) rfl rfl ?_
  refine gIfLe X1 hx (H d27_8) (pc' := 20) (by decide) (by decide) (pn := 11) rfl (fun (c8 : (-1 : Int) ≤ (0 : Int)) => ?_) (fun (c8 : (0 : Int) < (-1 : Int)) => ?_)
  · refine gNull 21 X1 hx (H d27_20) rfl ?_
    exact gRetA X1 hx hlk hret rfl rfl (H d27_21) (by decide) (by decide) (⟨rfl, e1, rfl⟩)
  · exact absurd c8 (by decide)
def lx1 (ch0 : Int32) : Int32 := if ch0.toInt = 47 then 0 else (-1)
theorem c_min_0_0 (l : Launch) (Z : State) (a0 : Array Value) (hw : ∀ d ∈ tables_1, d.before a0 Z = true)  (h0 : Heap)  :
    Ctr l Z mn4 jdk_29_method_69_code 2 (some .int) [] ⟨0, 0, 0, 0⟩ #[(.int (0 : Int32)), (.int (0 : Int32))] h0 (Just h0 (.int (0))) := by
  refine Ctr.of (Jvm.Free.JP.mathPlain rfl (by decide +kernel)) ?_
  intro p e s m below meth c s₁ hx H hml hret hown hnm hZ hlk X0 e0
  refine Goes.cast (show entryFrame m _ _ = mkF m 0 #[.val (.int (0 : Int32)), .val (.int (0 : Int32))] [] from rfl) ?_
  refine gLoadIN 1 X0 hx (H d1_0) rfl rfl ?_
  refine gLoadIN 2 X0 hx (H d1_1) rfl rfl ?_
  refine gIcmpGt X0 hx (H d1_2) (pc' := 9) (by decide) (by decide) (pn := 5) rfl (fun (c2 : (0 : Int) < (0 : Int)) => ?_) (fun (c2 : (0 : Int) ≤ (0 : Int)) => ?_)
  · exact absurd c2 (by decide)
  · refine gLoadIN 6 X0 hx (H d1_5) rfl rfl ?_
    refine gGoto X0 hx (H d1_6) (pc' := 10) (by decide) (by decide) ?_
    exact gRetI X0 hx hlk hret (H d1_10) (by decide) (by decide) (⟨rfl, e0, rfl⟩)
theorem d15_22 : decode jdk_43_method_27_code 22 = .ok (.aload_n 0, 1) := by decide +kernel
theorem d15_23 : decode jdk_43_method_27_code 23 = .ok (.iload_n 3, 1) := by decide +kernel
theorem d15_24 : decode jdk_43_method_27_code 24 = .ok (.baload, 1) := by decide +kernel
theorem d15_25 : decode jdk_43_method_27_code 25 = .ok (.iload_n 1, 1) := by decide +kernel
theorem d15_26 : decode jdk_43_method_27_code 26 = .ok (.i2b, 1) := by decide +kernel
theorem d15_27 : decode jdk_43_method_27_code 27 = .ok (.if_icmp .ne 5, 3) := by decide +kernel
theorem d15_32 : decode jdk_43_method_27_code 32 = .ok (.iinc 3 (-1), 3) := by decide +kernel
theorem d15_35 : decode jdk_43_method_27_code 35 = .ok (.goto (-17), 3) := by decide +kernel
theorem d15_30 : decode jdk_43_method_27_code 30 = .ok (.iload_n 3, 1) := by decide +kernel
theorem d15_31 : decode jdk_43_method_27_code 31 = .ok (.ireturn, 1) := by decide +kernel
theorem c_lastIndexOf_1l (l : Launch) (Z : State) (a0 : Array Value) (hw : ∀ d ∈ tables_1, d.before a0 Z = true) (t : Addr) (ck : ClassId) (ch0 : Int32) (h0 : Heap) (A : sA Z h0 t ck 1 [by8 ch0]) (hch0 : rg ch0) :
    Ctr l Z mn19 jdk_43_method_27_code 4 (some .int) [] ⟨1, 0, 0, 24⟩ #[(.ref t), (.int (47 : Int32)), (.int (0 : Int32))] h0 (Just h0 (.int (lx1 ch0))) := by
  refine Ctr.of (plainFor_of_name pn_5) ?_
  intro p e s m below meth c s₁ hx H hml hret hown hnm hZ hlk X0 e0
  refine Goes.cast (show entryFrame m _ _ = mkF m 0 #[.val (.ref t), .val (.int (47 : Int32)), .val (.int (0 : Int32)), .unset] [] from rfl) ?_
  refine gLoadIN 1 X0 hx (H d15_0) rfl rfl ?_
  refine gCallSJ X0 hx hZ (y := mn17) hown e0 (by rw [hml]; rfl) (ow hw 64 rfl) (ow hw 65 rfl) (ow hw 62 rfl) (ow hw 66 rfl) (by decide) (argsL := [(.int (47 : Int32))]) (st := []) (c_canI_47 l Z a0 hw h0) (lenOf pd_5 rfl) (H d15_1) (pc' := 4) rfl rfl rfl rfl (by decide) (W := 0) (Nat.le_of_eq rfl) (by decide) (by decide) (by decide) ?_
  intro T1 X1 e1
  refine gIfNeT X1 hx (H d15_4) (pc' := 9) (by decide) (by decide) (pn := 7) rfl (fun (c4 : ¬ (1 : Int) = (0 : Int)) => ?_) (fun (c4 : (1 : Int) = (0 : Int)) => ?_)
  · refine gLoadIN 10 X1 hx (H d15_9) rfl rfl ?_
    refine gLoadAN 11 X1 hx (H d15_10) rfl rfl rfl ?_
    refine gArrLen X1 hx hZ e1 A (H d15_11) (pc' := 12) rfl ?_
    refine gIconst 13 X1 hx (v := (1 : Int32)) (H d15_12) rfl rfl ?_
    refine gIsub 14 X1 hx (H d15_13) rfl ?_
    show Goes p e below _ T1 (mkF m 14 #[.val (.ref t), .val (.int (47 : Int32)), .val (.int (0 : Int32)), .unset] [(.int (0 : Int32)), (.int (0 : Int32))])
    refine gCallSJ X1 hx hZ (y := mn4) hown e1 (by rw [hml]; rfl) (ow hw 67 rfl) (ow hw 68 rfl) (ow hw 69 rfl) (ow hw 70 rfl) (by decide) (argsL := [(.int (0 : Int32)), (.int (0 : Int32))]) (st := []) (c_min_0_0 l Z a0 hw h0) (lenOf pd_6 rfl) (H d15_14) (pc' := 17) rfl rfl rfl rfl (by decide) (W := 0) (Nat.le_of_eq rfl) (by decide) (by decide) (by decide) ?_
    intro T2 X2 e2
    refine gStoreIN 18 X2 hx (H d15_17) (l' := #[.val (.ref t), .val (.int (47 : Int32)), .val (.int (0 : Int32)), .val (.int (0 : Int32))]) rfl rfl ?_
    refine gLoadIN 19 X2 hx (H d15_18) rfl rfl ?_
    refine gIfLt X2 hx (H d15_19) (pc' := 38) (by decide) (by decide) (pn := 22) rfl (fun (c19 : (0 : Int) < (0 : Int)) => ?_) (fun (c19 : (0 : Int) ≤ (0 : Int)) => ?_)
    · exact absurd c19 (by decide)
    · refine gLoadAN 23 X2 hx (H d15_22) rfl rfl rfl ?_
      refine gLoadIN 24 X2 hx (H d15_23) rfl rfl ?_
      refine gBaload X2 hx hZ e2 A (j := (0 : Int32)) (v := (.int (ch0.toInt8.toInt32))) (by decide) (by decide) rfl (H d15_24) (pc' := 25) rfl ?_
      refine gLoadIN 26 X2 hx (H d15_25) rfl rfl ?_
      refine gI2b 27 X2 hx (H d15_26) rfl ?_
      show Goes p e below _ T2 (mkF m 27 #[.val (.ref t), .val (.int (47 : Int32)), .val (.int (0 : Int32)), .val (.int (0 : Int32))] [(.int (47 : Int32)), (.int (ch0.toInt8.toInt32))])
      refine gIcmpNeT X2 hx (H d15_27) (pc' := 32) (by decide) (by decide) (pn := 30) rfl (fun (c27 : ¬ (ch0.toInt8.toInt32).toInt = (47 : Int)) => ?_) (fun (c27 : (ch0.toInt8.toInt32).toInt = (47 : Int)) => ?_)
      · refine gIinc X2 hx (v := (-1 : Int32)) (H d15_32) (l' := #[.val (.ref t), .val (.int (47 : Int32)), .val (.int (0 : Int32)), .val (.int (-1 : Int32))]) (pc' := 35) rfl rfl rfl rfl ?_
        refine gGoto X2 hx (H d15_35) (pc' := 18) (by decide) (by decide) ?_
        refine gLoadIN 19 X2 hx (H d15_18) rfl rfl ?_
        refine gIfLt X2 hx (H d15_19) (pc' := 38) (by decide) (by decide) (pn := 22) rfl (fun (c19' : (-1 : Int) < (0 : Int)) => ?_) (fun (c19' : (0 : Int) ≤ (-1 : Int)) => ?_)
        · refine gIconst 39 X2 hx (v := (-1 : Int32)) (H d15_38) rfl rfl ?_
          exact gRetI X2 hx hlk hret (H d15_39) (by decide) (by decide) (⟨by rw [lx1, if_neg (fun z => c27 ((own_beq hch0 (by decide)).mpr z))], e2, rfl⟩)
        · exact absurd c19' (by decide)
      · refine gLoadIN 31 X2 hx (H d15_30) rfl rfl ?_
        exact gRetI X2 hx hlk hret (H d15_31) (by decide) (by decide) (⟨by rw [lx1, if_pos ((own_beq hch0 (by decide)).mp c27)], e2, rfl⟩)
  · exact absurd c4 (by decide)
theorem c_length_1 (l : Launch) (Z : State) (a0 : Array Value) (hw : ∀ d ∈ tables_1, d.before a0 Z = true) (a t : Addr) (ck : ClassId) (ch0 : Int32) (h0 : Heap) (hCpt : Cpt Z h0) (E : sE Z h0 a) (C : sC Z h0 a) (V : sV Z h0 a t) (A : sA Z h0 t ck 1 [by8 ch0]) (hch0 : rg ch0) :
    Ctr l Z mn15 jdk_42_method_54_code 1 (some .int) [] ⟨1, 0, 0, 13⟩ #[(.ref a)] h0 (Just h0 (.int 1)) := by
  refine Ctr.of (plainFor_of_name pn_4) ?_
  intro p e s m below meth c s₁ hx H hml hret hown hnm hZ hlk X0 e0
  refine Goes.cast (show entryFrame m _ _ = mkF m 0 #[.val (.ref a)] [] from rfl) ?_
  refine gLoadAN 1 X0 hx (H d9_0) rfl rfl rfl ?_
  refine gGetF X0 hx hZ hown (ow hw 28 rfl) Via.refl e0 V (H d9_1) (pc' := 4) rfl (fun T1 X1 e1 => ?_)
  refine gArrLen X1 hx hZ e1 A (H d9_4) (pc' := 5) rfl ?_
  refine gLoadAN 6 X1 hx (H d9_5) rfl rfl rfl ?_
  refine gCallVJ X1 hx hZ (y := mn10) hown e1 (by rw [hml]; rfl) E (ow hw 44 rfl) (ow hw 45 rfl) (ow hw 47 rfl) (ow hw 46 rfl) (ow hw 11 rfl) (ow hw 48 rfl) (by decide) (argsL := []) (st := [(.int (1 : Int32))]) (c_coder l Z a0 hw a h0 hCpt C) (lenOf pd_0 rfl) (H d9_6) (pc' := 9) rfl rfl rfl rfl (by decide) (W := 1) (Nat.le_of_eq rfl) (by decide) (by decide) (by decide) ?_
  intro T2 X2 e2
  refine gIshr 10 X2 hx (H d9_9) rfl ?_
  show Goes p e below _ T2 (mkF m 10 #[.val (.ref a)] [(.int (1 : Int32))])
  exact gRetI X2 hx hlk hret (H d9_10) (by decide) (by decide) (⟨rfl, e2, rfl⟩)
theorem c_lastIndexOf_12 (l : Launch) (Z : State) (a0 : Array Value) (hw : ∀ d ∈ tables_1, d.before a0 Z = true) (a t : Addr) (ck : ClassId) (ch0 : Int32) (h0 : Heap) (hCpt : Cpt Z h0) (E : sE Z h0 a) (C : sC Z h0 a) (V : sV Z h0 a t) (A : sA Z h0 t ck 1 [by8 ch0]) (hch0 : rg ch0) :
    Ctr l Z mn14 jdk_42_method_83_code 3 (some .int) [] ⟨2, 0, 0, 42⟩ #[(.ref a), (.int (47 : Int32)), (.int (0 : Int32))] h0 (Just h0 (.int (lx1 ch0))) := by
  refine Ctr.of (plainFor_of_name pn_4) ?_
  intro p e s m below meth c s₁ hx H hml hret hown hnm hZ hlk X0 e0
  refine Goes.cast (show entryFrame m _ _ = mkF m 0 #[.val (.ref a), .val (.int (47 : Int32)), .val (.int (0 : Int32))] [] from rfl) ?_
  refine gLoadAN 1 X0 hx (H d12_0) rfl rfl rfl ?_
  refine gCallVJ X0 hx hZ (y := mn12) hown e0 (by rw [hml]; rfl) E (ow hw 55 rfl) (ow hw 56 rfl) (ow hw 58 rfl) (ow hw 57 rfl) (ow hw 11 rfl) (ow hw 59 rfl) (by decide) (argsL := []) (st := []) (c_isLatin1 l Z a0 hw a h0 hCpt C) (lenOf pd_3 rfl) (H d12_1) (pc' := 4) rfl rfl rfl rfl (by decide) (W := 0) (Nat.le_of_eq rfl) (by decide) (by decide) (by decide) ?_
  intro T1 X1 e1
  refine gIfEqT X1 hx (H d12_4) (pc' := 19) (by decide) (by decide) (pn := 7) rfl (fun (c4 : (1 : Int) = (0 : Int)) => ?_) (fun (c4 : ¬ (1 : Int) = (0 : Int)) => ?_)
  · exact absurd c4 (by decide)
  · refine gLoadAN 8 X1 hx (H d12_7) rfl rfl rfl ?_
    refine gGetF X1 hx hZ hown (ow hw 28 rfl) Via.refl e1 V (H d12_8) (pc' := 11) rfl (fun T2 X2 e2 => ?_)
    refine gLoadIN 12 X2 hx (H d12_11) rfl rfl ?_
    refine gLoadIN 13 X2 hx (H d12_12) rfl rfl ?_
    refine gCallSJ X2 hx hZ (y := mn19) hown e2 (by rw [hml]; rfl) (ow hw 60 rfl) (ow hw 61 rfl) (ow hw 62 rfl) (ow hw 63 rfl) (by decide) (argsL := [(.ref t), (.int (47 : Int32)), (.int (0 : Int32))]) (st := []) (c_lastIndexOf_1l l Z a0 hw t ck ch0 h0 A hch0) (lenOf pd_17 rfl) (H d12_13) (pc' := 16) rfl rfl rfl rfl (by decide) (W := 0) (Nat.le_of_eq rfl) (by decide) (by decide) (by decide) ?_
    intro T3 X3 e3
    refine gGoto X3 hx (H d12_16) (pc' := 28) (by decide) (by decide) ?_
    exact gRetI X3 hx hlk hret (H d12_28) (by decide) (by decide) (⟨rfl, e3, rfl⟩)
theorem c_lastIndexOf_1 (l : Launch) (Z : State) (a0 : Array Value) (hw : ∀ d ∈ tables_1, d.before a0 Z = true) (a t : Addr) (ck : ClassId) (ch0 : Int32) (h0 : Heap) (hCpt : Cpt Z h0) (E : sE Z h0 a) (C : sC Z h0 a) (V : sV Z h0 a t) (A : sA Z h0 t ck 1 [by8 ch0]) (hch0 : rg ch0) :
    Ctr l Z mn13 jdk_42_method_82_code 2 (some .int) [] ⟨3, 0, 0, 58⟩ #[(.ref a), (.int (47 : Int32))] h0 (Just h0 (.int (lx1 ch0))) := by
  refine Ctr.of (plainFor_of_name pn_4) ?_
  intro p e s m below meth c s₁ hx H hml hret hown hnm hZ hlk X0 e0
  refine Goes.cast (show entryFrame m _ _ = mkF m 0 #[.val (.ref a), .val (.int (47 : Int32))] [] from rfl) ?_
  refine gLoadAN 1 X0 hx (H d11_0) rfl rfl rfl ?_
  refine gLoadIN 2 X0 hx (H d11_1) rfl rfl ?_
  refine gLoadAN 3 X0 hx (H d11_2) rfl rfl rfl ?_
  refine gCallVJ X0 hx hZ (y := mn15) hown e0 (by rw [hml]; rfl) E (ow hw 39 rfl) (ow hw 40 rfl) (ow hw 42 rfl) (ow hw 41 rfl) (ow hw 11 rfl) (ow hw 43 rfl) (by decide) (argsL := []) (st := [(.int (47 : Int32)), (.ref a)]) (c_length_1 l Z a0 hw a t ck ch0 h0 hCpt E C V A hch0) (lenOf pd_1 rfl) (H d11_3) (pc' := 6) rfl rfl rfl rfl (by decide) (W := 2) (Nat.le_of_eq rfl) (by decide) (by decide) (by decide) ?_
  intro T1 X1 e1
  refine gIconst 7 X1 hx (v := (1 : Int32)) (H d11_6) rfl rfl ?_
  refine gIsub 8 X1 hx (H d11_7) rfl ?_
  show Goes p e below _ T1 (mkF m 8 #[.val (.ref a), .val (.int (47 : Int32))] [(.int (0 : Int32)), (.int (47 : Int32)), (.ref a)])
  refine gCallVJ X1 hx hZ (y := mn14) hown e1 (by rw [hml]; rfl) E (ow hw 50 rfl) (ow hw 51 rfl) (ow hw 53 rfl) (ow hw 52 rfl) (ow hw 11 rfl) (ow hw 54 rfl) (by decide) (argsL := [(.int (47 : Int32)), (.int (0 : Int32))]) (st := []) (c_lastIndexOf_12 l Z a0 hw a t ck ch0 h0 hCpt E C V A hch0) (lenOf pd_6 rfl) (H d11_8) (pc' := 11) rfl rfl rfl rfl (by decide) (W := 0) (Nat.le_of_eq rfl) (by decide) (by decide) (by decide) ?_
  intro T2 X2 e2
  exact gRetI X2 hx hlk hret (H d11_11) (by decide) (by decide) (⟨rfl, e2, rfl⟩)
theorem c_nm_1_m (l : Launch) (Z : State) (a0 : Array Value) (hw : ∀ d ∈ tables_1, d.before a0 Z = true) (a t : Addr) (ck : ClassId) (ch0 : Int32) (h0 : Heap) (hSio : Sio Z h0) (hCpt : Cpt Z h0) (E : sE Z h0 a) (C : sC Z h0 a) (V : sV Z h0 a t) (A : sA Z h0 t ck 1 [by8 ch0]) (hch0 : rg ch0) (d0 : ¬ ch0.toInt = 47) :
    Ctr l Z mn0 prog_18_method_5_code 2 (some (.object "java/lang/String")) [] ⟨4, 0, 0, 73⟩ #[(.ref a)] h0 (Just h0 .null) := by
  refine Ctr.of (plainFor_of_name pn_0) ?_
  intro p e s m below meth c s₁ hx H hml hret hown hnm hZ hlk X0 e0
  refine Goes.cast (show entryFrame m _ _ = mkF m 0 #[.val (.ref a), .unset] [] from rfl) ?_
  refine gLoadAN 1 X0 hx (H d27_0) rfl rfl rfl ?_
  refine gBipush 3 X0 hx (v := (47 : Int32)) (H d27_1) rfl rfl ?_
  refine gCallVJ X0 hx hZ (y := mn13) hown e0 (by rw [hml]; rfl) E (ow hw 34 rfl) (ow hw 35 rfl) (ow hw 37 rfl) (ow hw 36 rfl) (ow hw 11 rfl) (ow hw 38 rfl) (by decide) (argsL := [(.int (47 : Int32))]) (st := []) (c_lastIndexOf_1 l Z a0 hw a t ck ch0 h0 hCpt E C V A hch0) (lenOf pd_4 rfl) (H d27_3) (pc' := 6) rfl rfl rfl rfl (by decide) (W := 0) (Nat.le_of_eq rfl) (by decide) (by decide) (by decide) ?_
  intro T1 X1 e1
  rw [show lx1 ch0 = -1 from by rw [lx1, if_neg d0]]
  refine gStoreIN 7 X1 hx (H d27_6) (l' := #[.val (.ref a), .val (.int (-1 : Int32))]) rfl rfl ?_
  refine gLoadIN 8 X1 hx (H d27_7) rfl rfl ?_
  refine gIfLe X1 hx (H d27_8) (pc' := 20) (by decide) (by decide) (pn := 11) rfl (fun (c8 : (-1 : Int) ≤ (0 : Int)) => ?_) (fun (c8 : (0 : Int) < (-1 : Int)) => ?_)
  · refine gNull 21 X1 hx (H d27_20) rfl ?_
    exact gRetA X1 hx hlk hret rfl rfl (H d27_21) (by decide) (by decide) (⟨rfl, e1, rfl⟩)
  · exact absurd c8 (by decide)
theorem c_nm_1_0 (l : Launch) (Z : State) (a0 : Array Value) (hw : ∀ d ∈ tables_1, d.before a0 Z = true) (a t : Addr) (ck : ClassId) (ch0 : Int32) (h0 : Heap) (hSio : Sio Z h0) (hCpt : Cpt Z h0) (E : sE Z h0 a) (C : sC Z h0 a) (V : sV Z h0 a t) (A : sA Z h0 t ck 1 [by8 ch0]) (hch0 : rg ch0)  (dq : ch0.toInt = 47) :
    Ctr l Z mn0 prog_18_method_5_code 2 (some (.object "java/lang/String")) [] ⟨4, 0, 0, 73⟩ #[(.ref a)] h0 (Just h0 .null) := by
  refine Ctr.of (plainFor_of_name pn_0) ?_
  intro p e s m below meth c s₁ hx H hml hret hown hnm hZ hlk X0 e0
  refine Goes.cast (show entryFrame m _ _ = mkF m 0 #[.val (.ref a), .unset] [] from rfl) ?_
  refine gLoadAN 1 X0 hx (H d27_0) rfl rfl rfl ?_
  refine gBipush 3 X0 hx (v := (47 : Int32)) (H d27_1) rfl rfl ?_
  refine gCallVJ X0 hx hZ (y := mn13) hown e0 (by rw [hml]; rfl) E (ow hw 34 rfl) (ow hw 35 rfl) (ow hw 37 rfl) (ow hw 36 rfl) (ow hw 11 rfl) (ow hw 38 rfl) (by decide) (argsL := [(.int (47 : Int32))]) (st := []) (c_lastIndexOf_1 l Z a0 hw a t ck ch0 h0 hCpt E C V A hch0) (lenOf pd_4 rfl) (H d27_3) (pc' := 6) rfl rfl rfl rfl (by decide) (W := 0) (Nat.le_of_eq rfl) (by decide) (by decide) (by decide) ?_
  intro T1 X1 e1
  rw [show lx1 ch0 = 0 from by rw [lx1, if_pos dq]]
  refine gStoreIN 7 X1 hx (H d27_6) (l' := #[.val (.ref a), .val (.int (0 : Int32))]) rfl rfl ?_
  refine gLoadIN 8 X1 hx (H d27_7) rfl rfl ?_
  refine gIfLe X1 hx (H d27_8) (pc' := 20) (by decide) (by decide) (pn := 11) rfl (fun (c8 : (0 : Int) ≤ (0 : Int)) => ?_) (fun (c8 : (0 : Int) < (0 : Int)) => ?_)
  · refine gNull 21 X1 hx (H d27_20) rfl ?_
    exact gRetA X1 hx hlk hret rfl rfl (H d27_21) (by decide) (by decide) (⟨rfl, e1, rfl⟩)
  · exact absurd c8 (by decide)
def lx2 (ch0 ch1 : Int32) : Int32 := if ch1.toInt = 47 then 1 else if ch0.toInt = 47 then 0 else (-1)
theorem c_min_1_1 (l : Launch) (Z : State) (a0 : Array Value) (hw : ∀ d ∈ tables_1, d.before a0 Z = true)  (h0 : Heap)  :
    Ctr l Z mn4 jdk_29_method_69_code 2 (some .int) [] ⟨0, 0, 0, 0⟩ #[(.int (1 : Int32)), (.int (1 : Int32))] h0 (Just h0 (.int (1))) := by
  refine Ctr.of (Jvm.Free.JP.mathPlain rfl (by decide +kernel)) ?_
  intro p e s m below meth c s₁ hx H hml hret hown hnm hZ hlk X0 e0
  refine Goes.cast (show entryFrame m _ _ = mkF m 0 #[.val (.int (1 : Int32)), .val (.int (1 : Int32))] [] from rfl) ?_
  refine gLoadIN 1 X0 hx (H d1_0) rfl rfl ?_
  refine gLoadIN 2 X0 hx (H d1_1) rfl rfl ?_
  refine gIcmpGt X0 hx (H d1_2) (pc' := 9) (by decide) (by decide) (pn := 5) rfl (fun (c2 : (1 : Int) < (1 : Int)) => ?_) (fun (c2 : (1 : Int) ≤ (1 : Int)) => ?_)
  · exact absurd c2 (by decide)
  · refine gLoadIN 6 X0 hx (H d1_5) rfl rfl ?_
    refine gGoto X0 hx (H d1_6) (pc' := 10) (by decide) (by decide) ?_
    exact gRetI X0 hx hlk hret (H d1_10) (by decide) (by decide) (⟨rfl, e0, rfl⟩)
theorem c_lastIndexOf_2l (l : Launch) (Z : State) (a0 : Array Value) (hw : ∀ d ∈ tables_1, d.before a0 Z = true) (t : Addr) (ck : ClassId) (ch0 ch1 : Int32) (h0 : Heap) (A : sA Z h0 t ck 2 [by8 ch0, by8 ch1]) (hch0 : rg ch0) (hch1 : rg ch1) :
    Ctr l Z mn19 jdk_43_method_27_code 4 (some .int) [] ⟨1, 0, 0, 24⟩ #[(.ref t), (.int (47 : Int32)), (.int (1 : Int32))] h0 (Just h0 (.int (lx2 ch0 ch1))) := by
  refine Ctr.of (plainFor_of_name pn_5) ?_
  intro p e s m below meth c s₁ hx H hml hret hown hnm hZ hlk X0 e0
  refine Goes.cast (show entryFrame m _ _ = mkF m 0 #[.val (.ref t), .val (.int (47 : Int32)), .val (.int (1 : Int32)), .unset] [] from rfl) ?_
  refine gLoadIN 1 X0 hx (H d15_0) rfl rfl ?_
  refine gCallSJ X0 hx hZ (y := mn17) hown e0 (by rw [hml]; rfl) (ow hw 64 rfl) (ow hw 65 rfl) (ow hw 62 rfl) (ow hw 66 rfl) (by decide) (argsL := [(.int (47 : Int32))]) (st := []) (c_canI_47 l Z a0 hw h0) (lenOf pd_5 rfl) (H d15_1) (pc' := 4) rfl rfl rfl rfl (by decide) (W := 0) (Nat.le_of_eq rfl) (by decide) (by decide) (by decide) ?_
  intro T1 X1 e1
  refine gIfNeT X1 hx (H d15_4) (pc' := 9) (by decide) (by decide) (pn := 7) rfl (fun (c4 : ¬ (1 : Int) = (0 : Int)) => ?_) (fun (c4 : (1 : Int) = (0 : Int)) => ?_)
  · refine gLoadIN 10 X1 hx (H d15_9) rfl rfl ?_
    refine gLoadAN 11 X1 hx (H d15_10) rfl rfl rfl ?_
    refine gArrLen X1 hx hZ e1 A (H d15_11) (pc' := 12) rfl ?_
    refine gIconst 13 X1 hx (v := (1 : Int32)) (H d15_12) rfl rfl ?_
    refine gIsub 14 X1 hx (H d15_13) rfl ?_
    show Goes p e below _ T1 (mkF m 14 #[.val (.ref t), .val (.int (47 : Int32)), .val (.int (1 : Int32)), .unset] [(.int (1 : Int32)), (.int (1 : Int32))])
    refine gCallSJ X1 hx hZ (y := mn4) hown e1 (by rw [hml]; rfl) (ow hw 67 rfl) (ow hw 68 rfl) (ow hw 69 rfl) (ow hw 70 rfl) (by decide) (argsL := [(.int (1 : Int32)), (.int (1 : Int32))]) (st := []) (c_min_1_1 l Z a0 hw h0) (lenOf pd_6 rfl) (H d15_14) (pc' := 17) rfl rfl rfl rfl (by decide) (W := 0) (Nat.le_of_eq rfl) (by decide) (by decide) (by decide) ?_
    intro T2 X2 e2
    refine gStoreIN 18 X2 hx (H d15_17) (l' := #[.val (.ref t), .val (.int (47 : Int32)), .val (.int (1 : Int32)), .val (.int (1 : Int32))]) rfl rfl ?_
    refine gLoadIN 19 X2 hx (H d15_18) rfl rfl ?_
    refine gIfLt X2 hx (H d15_19) (pc' := 38) (by decide) (by decide) (pn := 22) rfl (fun (c19 : (1 : Int) < (0 : Int)) => ?_) (fun (c19 : (0 : Int) ≤ (1 : Int)) => ?_)
    · exact absurd c19 (by decide)
    · refine gLoadAN 23 X2 hx (H d15_22) rfl rfl rfl ?_
      refine gLoadIN 24 X2 hx (H d15_23) rfl rfl ?_
      refine gBaload X2 hx hZ e2 A (j := (1 : Int32)) (v := (.int (ch1.toInt8.toInt32))) (by decide) (by decide) rfl (H d15_24) (pc' := 25) rfl ?_
      refine gLoadIN 26 X2 hx (H d15_25) rfl rfl ?_
      refine gI2b 27 X2 hx (H d15_26) rfl ?_
      show Goes p e below _ T2 (mkF m 27 #[.val (.ref t), .val (.int (47 : Int32)), .val (.int (1 : Int32)), .val (.int (1 : Int32))] [(.int (47 : Int32)), (.int (ch1.toInt8.toInt32))])
      refine gIcmpNeT X2 hx (H d15_27) (pc' := 32) (by decide) (by decide) (pn := 30) rfl (fun (c27 : ¬ (ch1.toInt8.toInt32).toInt = (47 : Int)) => ?_) (fun (c27 : (ch1.toInt8.toInt32).toInt = (47 : Int)) => ?_)
      · refine gIinc X2 hx (v := (-1 : Int32)) (H d15_32) (l' := #[.val (.ref t), .val (.int (47 : Int32)), .val (.int (1 : Int32)), .val (.int (0 : Int32))]) (pc' := 35) rfl rfl rfl rfl ?_
        refine gGoto X2 hx (H d15_35) (pc' := 18) (by decide) (by decide) ?_
        refine gLoadIN 19 X2 hx (H d15_18) rfl rfl ?_
        refine gIfLt X2 hx (H d15_19) (pc' := 38) (by decide) (by decide) (pn := 22) rfl (fun (c19' : (0 : Int) < (0 : Int)) => ?_) (fun (c19' : (0 : Int) ≤ (0 : Int)) => ?_)
        · exact absurd c19' (by decide)
        · refine gLoadAN 23 X2 hx (H d15_22) rfl rfl rfl ?_
          refine gLoadIN 24 X2 hx (H d15_23) rfl rfl ?_
          refine gBaload X2 hx hZ e2 A (j := (0 : Int32)) (v := (.int (ch0.toInt8.toInt32))) (by decide) (by decide) rfl (H d15_24) (pc' := 25) rfl ?_
          refine gLoadIN 26 X2 hx (H d15_25) rfl rfl ?_
          refine gI2b 27 X2 hx (H d15_26) rfl ?_
          show Goes p e below _ T2 (mkF m 27 #[.val (.ref t), .val (.int (47 : Int32)), .val (.int (1 : Int32)), .val (.int (0 : Int32))] [(.int (47 : Int32)), (.int (ch0.toInt8.toInt32))])
          refine gIcmpNeT X2 hx (H d15_27) (pc' := 32) (by decide) (by decide) (pn := 30) rfl (fun (c27' : ¬ (ch0.toInt8.toInt32).toInt = (47 : Int)) => ?_) (fun (c27' : (ch0.toInt8.toInt32).toInt = (47 : Int)) => ?_)
          · refine gIinc X2 hx (v := (-1 : Int32)) (H d15_32) (l' := #[.val (.ref t), .val (.int (47 : Int32)), .val (.int (1 : Int32)), .val (.int (-1 : Int32))]) (pc' := 35) rfl rfl rfl rfl ?_
            refine gGoto X2 hx (H d15_35) (pc' := 18) (by decide) (by decide) ?_
            refine gLoadIN 19 X2 hx (H d15_18) rfl rfl ?_
            refine gIfLt X2 hx (H d15_19) (pc' := 38) (by decide) (by decide) (pn := 22) rfl (fun (c19'' : (-1 : Int) < (0 : Int)) => ?_) (fun (c19'' : (0 : Int) ≤ (-1 : Int)) => ?_)
            · refine gIconst 39 X2 hx (v := (-1 : Int32)) (H d15_38) rfl rfl ?_
              exact gRetI X2 hx hlk hret (H d15_39) (by decide) (by decide) (⟨by rw [lx2, if_neg (fun z => c27 ((own_beq hch1 (by decide)).mpr z)), if_neg (fun z => c27' ((own_beq hch0 (by decide)).mpr z))], e2, rfl⟩)
            · exact absurd c19'' (by decide)
          · refine gLoadIN 31 X2 hx (H d15_30) rfl rfl ?_
            exact gRetI X2 hx hlk hret (H d15_31) (by decide) (by decide) (⟨by rw [lx2, if_neg (fun z => c27 ((own_beq hch1 (by decide)).mpr z)), if_pos ((own_beq hch0 (by decide)).mp c27')], e2, rfl⟩)
      · refine gLoadIN 31 X2 hx (H d15_30) rfl rfl ?_
        exact gRetI X2 hx hlk hret (H d15_31) (by decide) (by decide) (⟨by rw [lx2, if_pos ((own_beq hch1 (by decide)).mp c27)], e2, rfl⟩)
  · exact absurd c4 (by decide)
theorem c_length_2 (l : Launch) (Z : State) (a0 : Array Value) (hw : ∀ d ∈ tables_1, d.before a0 Z = true) (a t : Addr) (ck : ClassId) (ch0 ch1 : Int32) (h0 : Heap) (hCpt : Cpt Z h0) (E : sE Z h0 a) (C : sC Z h0 a) (V : sV Z h0 a t) (A : sA Z h0 t ck 2 [by8 ch0, by8 ch1]) (hch0 : rg ch0) (hch1 : rg ch1) :
    Ctr l Z mn15 jdk_42_method_54_code 1 (some .int) [] ⟨1, 0, 0, 13⟩ #[(.ref a)] h0 (Just h0 (.int 2)) := by
  refine Ctr.of (plainFor_of_name pn_4) ?_
  intro p e s m below meth c s₁ hx H hml hret hown hnm hZ hlk X0 e0
  refine Goes.cast (show entryFrame m _ _ = mkF m 0 #[.val (.ref a)] [] from rfl) ?_
  refine gLoadAN 1 X0 hx (H d9_0) rfl rfl rfl ?_
  refine gGetF X0 hx hZ hown (ow hw 28 rfl) Via.refl e0 V (H d9_1) (pc' := 4) rfl (fun T1 X1 e1 => ?_)
  refine gArrLen X1 hx hZ e1 A (H d9_4) (pc' := 5) rfl ?_
  refine gLoadAN 6 X1 hx (H d9_5) rfl rfl rfl ?_
  refine gCallVJ X1 hx hZ (y := mn10) hown e1 (by rw [hml]; rfl) E (ow hw 44 rfl) (ow hw 45 rfl) (ow hw 47 rfl) (ow hw 46 rfl) (ow hw 11 rfl) (ow hw 48 rfl) (by decide) (argsL := []) (st := [(.int (2 : Int32))]) (c_coder l Z a0 hw a h0 hCpt C) (lenOf pd_0 rfl) (H d9_6) (pc' := 9) rfl rfl rfl rfl (by decide) (W := 1) (Nat.le_of_eq rfl) (by decide) (by decide) (by decide) ?_
  intro T2 X2 e2
  refine gIshr 10 X2 hx (H d9_9) rfl ?_
  show Goes p e below _ T2 (mkF m 10 #[.val (.ref a)] [(.int (2 : Int32))])
  exact gRetI X2 hx hlk hret (H d9_10) (by decide) (by decide) (⟨rfl, e2, rfl⟩)
theorem c_lastIndexOf_22 (l : Launch) (Z : State) (a0 : Array Value) (hw : ∀ d ∈ tables_1, d.before a0 Z = true) (a t : Addr) (ck : ClassId) (ch0 ch1 : Int32) (h0 : Heap) (hCpt : Cpt Z h0) (E : sE Z h0 a) (C : sC Z h0 a) (V : sV Z h0 a t) (A : sA Z h0 t ck 2 [by8 ch0, by8 ch1]) (hch0 : rg ch0) (hch1 : rg ch1) :
    Ctr l Z mn14 jdk_42_method_83_code 3 (some .int) [] ⟨2, 0, 0, 42⟩ #[(.ref a), (.int (47 : Int32)), (.int (1 : Int32))] h0 (Just h0 (.int (lx2 ch0 ch1))) := by
  refine Ctr.of (plainFor_of_name pn_4) ?_
  intro p e s m below meth c s₁ hx H hml hret hown hnm hZ hlk X0 e0
  refine Goes.cast (show entryFrame m _ _ = mkF m 0 #[.val (.ref a), .val (.int (47 : Int32)), .val (.int (1 : Int32))] [] from rfl) ?_
  refine gLoadAN 1 X0 hx (H d12_0) rfl rfl rfl ?_
  refine gCallVJ X0 hx hZ (y := mn12) hown e0 (by rw [hml]; rfl) E (ow hw 55 rfl) (ow hw 56 rfl) (ow hw 58 rfl) (ow hw 57 rfl) (ow hw 11 rfl) (ow hw 59 rfl) (by decide) (argsL := []) (st := []) (c_isLatin1 l Z a0 hw a h0 hCpt C) (lenOf pd_3 rfl) (H d12_1) (pc' := 4) rfl rfl rfl rfl (by decide) (W := 0) (Nat.le_of_eq rfl) (by decide) (by decide) (by decide) ?_
  intro T1 X1 e1
  refine gIfEqT X1 hx (H d12_4) (pc' := 19) (by decide) (by decide) (pn := 7) rfl (fun (c4 : (1 : Int) = (0 : Int)) => ?_) (fun (c4 : ¬ (1 : Int) = (0 : Int)) => ?_)
  · exact absurd c4 (by decide)
  · refine gLoadAN 8 X1 hx (H d12_7) rfl rfl rfl ?_
    refine gGetF X1 hx hZ hown (ow hw 28 rfl) Via.refl e1 V (H d12_8) (pc' := 11) rfl (fun T2 X2 e2 => ?_)
    refine gLoadIN 12 X2 hx (H d12_11) rfl rfl ?_
    refine gLoadIN 13 X2 hx (H d12_12) rfl rfl ?_
    refine gCallSJ X2 hx hZ (y := mn19) hown e2 (by rw [hml]; rfl) (ow hw 60 rfl) (ow hw 61 rfl) (ow hw 62 rfl) (ow hw 63 rfl) (by decide) (argsL := [(.ref t), (.int (47 : Int32)), (.int (1 : Int32))]) (st := []) (c_lastIndexOf_2l l Z a0 hw t ck ch0 ch1 h0 A hch0 hch1) (lenOf pd_17 rfl) (H d12_13) (pc' := 16) rfl rfl rfl rfl (by decide) (W := 0) (Nat.le_of_eq rfl) (by decide) (by decide) (by decide) ?_
    intro T3 X3 e3
    refine gGoto X3 hx (H d12_16) (pc' := 28) (by decide) (by decide) ?_
    exact gRetI X3 hx hlk hret (H d12_28) (by decide) (by decide) (⟨rfl, e3, rfl⟩)
theorem c_lastIndexOf_2 (l : Launch) (Z : State) (a0 : Array Value) (hw : ∀ d ∈ tables_1, d.before a0 Z = true) (a t : Addr) (ck : ClassId) (ch0 ch1 : Int32) (h0 : Heap) (hCpt : Cpt Z h0) (E : sE Z h0 a) (C : sC Z h0 a) (V : sV Z h0 a t) (A : sA Z h0 t ck 2 [by8 ch0, by8 ch1]) (hch0 : rg ch0) (hch1 : rg ch1) :
    Ctr l Z mn13 jdk_42_method_82_code 2 (some .int) [] ⟨3, 0, 0, 58⟩ #[(.ref a), (.int (47 : Int32))] h0 (Just h0 (.int (lx2 ch0 ch1))) := by
  refine Ctr.of (plainFor_of_name pn_4) ?_
  intro p e s m below meth c s₁ hx H hml hret hown hnm hZ hlk X0 e0
  refine Goes.cast (show entryFrame m _ _ = mkF m 0 #[.val (.ref a), .val (.int (47 : Int32))] [] from rfl) ?_
  refine gLoadAN 1 X0 hx (H d11_0) rfl rfl rfl ?_
  refine gLoadIN 2 X0 hx (H d11_1) rfl rfl ?_
  refine gLoadAN 3 X0 hx (H d11_2) rfl rfl rfl ?_
  refine gCallVJ X0 hx hZ (y := mn15) hown e0 (by rw [hml]; rfl) E (ow hw 39 rfl) (ow hw 40 rfl) (ow hw 42 rfl) (ow hw 41 rfl) (ow hw 11 rfl) (ow hw 43 rfl) (by decide) (argsL := []) (st := [(.int (47 : Int32)), (.ref a)]) (c_length_2 l Z a0 hw a t ck ch0 ch1 h0 hCpt E C V A hch0 hch1) (lenOf pd_1 rfl) (H d11_3) (pc' := 6) rfl rfl rfl rfl (by decide) (W := 2) (Nat.le_of_eq rfl) (by decide) (by decide) (by decide) ?_
  intro T1 X1 e1
  refine gIconst 7 X1 hx (v := (1 : Int32)) (H d11_6) rfl rfl ?_
  refine gIsub 8 X1 hx (H d11_7) rfl ?_
  show Goes p e below _ T1 (mkF m 8 #[.val (.ref a), .val (.int (47 : Int32))] [(.int (1 : Int32)), (.int (47 : Int32)), (.ref a)])
  refine gCallVJ X1 hx hZ (y := mn14) hown e1 (by rw [hml]; rfl) E (ow hw 50 rfl) (ow hw 51 rfl) (ow hw 53 rfl) (ow hw 52 rfl) (ow hw 11 rfl) (ow hw 54 rfl) (by decide) (argsL := [(.int (47 : Int32)), (.int (1 : Int32))]) (st := []) (c_lastIndexOf_22 l Z a0 hw a t ck ch0 ch1 h0 hCpt E C V A hch0 hch1) (lenOf pd_6 rfl) (H d11_8) (pc' := 11) rfl rfl rfl rfl (by decide) (W := 0) (Nat.le_of_eq rfl) (by decide) (by decide) (by decide) ?_
  intro T2 X2 e2
  exact gRetI X2 hx hlk hret (H d11_11) (by decide) (by decide) (⟨rfl, e2, rfl⟩)
theorem c_nm_2_m (l : Launch) (Z : State) (a0 : Array Value) (hw : ∀ d ∈ tables_1, d.before a0 Z = true) (a t : Addr) (ck : ClassId) (ch0 ch1 : Int32) (h0 : Heap) (hSio : Sio Z h0) (hCpt : Cpt Z h0) (E : sE Z h0 a) (C : sC Z h0 a) (V : sV Z h0 a t) (A : sA Z h0 t ck 2 [by8 ch0, by8 ch1]) (hch0 : rg ch0) (hch1 : rg ch1) (d0 : ¬ ch0.toInt = 47) (d1 : ¬ ch1.toInt = 47) :
    Ctr l Z mn0 prog_18_method_5_code 2 (some (.object "java/lang/String")) [] ⟨4, 0, 0, 73⟩ #[(.ref a)] h0 (Just h0 .null) := by
  refine Ctr.of (plainFor_of_name pn_0) ?_
  intro p e s m below meth c s₁ hx H hml hret hown hnm hZ hlk X0 e0
  refine Goes.cast (show entryFrame m _ _ = mkF m 0 #[.val (.ref a), .unset] [] from rfl) ?_
  refine gLoadAN 1 X0 hx (H d27_0) rfl rfl rfl ?_
  refine gBipush 3 X0 hx (v := (47 : Int32)) (H d27_1) rfl rfl ?_
  refine gCallVJ X0 hx hZ (y := mn13) hown e0 (by rw [hml]; rfl) E (ow hw 34 rfl) (ow hw 35 rfl) (ow hw 37 rfl) (ow hw 36 rfl) (ow hw 11 rfl) (ow hw 38 rfl) (by decide) (argsL := [(.int (47 : Int32))]) (st := []) (c_lastIndexOf_2 l Z a0 hw a t ck ch0 ch1 h0 hCpt E C V A hch0 hch1) (lenOf pd_4 rfl) (H d27_3) (pc' := 6) rfl rfl rfl rfl (by decide) (W := 0) (Nat.le_of_eq rfl) (by decide) (by decide) (by decide) ?_
  intro T1 X1 e1
  rw [show lx2 ch0 ch1 = -1 from by rw [lx2, if_neg d1, if_neg d0]]
  refine gStoreIN 7 X1 hx (H d27_6) (l' := #[.val (.ref a), .val (.int (-1 : Int32))]) rfl rfl ?_
  refine gLoadIN 8 X1 hx (H d27_7) rfl rfl ?_
  refine gIfLe X1 hx (H d27_8) (pc' := 20) (by decide) (by decide) (pn := 11) rfl (fun (c8 : (-1 : Int) ≤ (0 : Int)) => ?_) (fun (c8 : (0 : Int) < (-1 : Int)) => ?_)
  · refine gNull 21 X1 hx (H d27_20) rfl ?_
    exact gRetA X1 hx hlk hret rfl rfl (H d27_21) (by decide) (by decide) (⟨rfl, e1, rfl⟩)
  · exact absurd c8 (by decide)
theorem c_nm_2_0 (l : Launch) (Z : State) (a0 : Array Value) (hw : ∀ d ∈ tables_1, d.before a0 Z = true) (a t : Addr) (ck : ClassId) (ch0 ch1 : Int32) (h0 : Heap) (hSio : Sio Z h0) (hCpt : Cpt Z h0) (E : sE Z h0 a) (C : sC Z h0 a) (V : sV Z h0 a t) (A : sA Z h0 t ck 2 [by8 ch0, by8 ch1]) (hch0 : rg ch0) (hch1 : rg ch1) (d1 : ¬ ch1.toInt = 47) (dq : ch0.toInt = 47) :
    Ctr l Z mn0 prog_18_method_5_code 2 (some (.object "java/lang/String")) [] ⟨4, 0, 0, 73⟩ #[(.ref a)] h0 (Just h0 .null) := by
  refine Ctr.of (plainFor_of_name pn_0) ?_
  intro p e s m below meth c s₁ hx H hml hret hown hnm hZ hlk X0 e0
  refine Goes.cast (show entryFrame m _ _ = mkF m 0 #[.val (.ref a), .unset] [] from rfl) ?_
  refine gLoadAN 1 X0 hx (H d27_0) rfl rfl rfl ?_
  refine gBipush 3 X0 hx (v := (47 : Int32)) (H d27_1) rfl rfl ?_
  refine gCallVJ X0 hx hZ (y := mn13) hown e0 (by rw [hml]; rfl) E (ow hw 34 rfl) (ow hw 35 rfl) (ow hw 37 rfl) (ow hw 36 rfl) (ow hw 11 rfl) (ow hw 38 rfl) (by decide) (argsL := [(.int (47 : Int32))]) (st := []) (c_lastIndexOf_2 l Z a0 hw a t ck ch0 ch1 h0 hCpt E C V A hch0 hch1) (lenOf pd_4 rfl) (H d27_3) (pc' := 6) rfl rfl rfl rfl (by decide) (W := 0) (Nat.le_of_eq rfl) (by decide) (by decide) (by decide) ?_
  intro T1 X1 e1
  rw [show lx2 ch0 ch1 = 0 from by rw [lx2, if_neg d1, if_pos dq]]
  refine gStoreIN 7 X1 hx (H d27_6) (l' := #[.val (.ref a), .val (.int (0 : Int32))]) rfl rfl ?_
  refine gLoadIN 8 X1 hx (H d27_7) rfl rfl ?_
  refine gIfLe X1 hx (H d27_8) (pc' := 20) (by decide) (by decide) (pn := 11) rfl (fun (c8 : (0 : Int) ≤ (0 : Int)) => ?_) (fun (c8 : (0 : Int) < (0 : Int)) => ?_)
  · refine gNull 21 X1 hx (H d27_20) rfl ?_
    exact gRetA X1 hx hlk hret rfl rfl (H d27_21) (by decide) (by decide) (⟨rfl, e1, rfl⟩)
  · exact absurd c8 (by decide)
theorem d2_0 : decode jdk_41_method_12_code 0 = .ok (.iload_n 0, 1) := by decide +kernel
theorem d2_1 : decode jdk_41_method_12_code 1 = .ok (.ifCond .lt 13, 3) := by decide +kernel
theorem d2_4 : decode jdk_41_method_12_code 4 = .ok (.iload_n 0, 1) := by decide +kernel
theorem d2_5 : decode jdk_41_method_12_code 5 = .ok (.iload_n 1, 1) := by decide +kernel
theorem d2_6 : decode jdk_41_method_12_code 6 = .ok (.if_icmp .gt 8, 3) := by decide +kernel
theorem d2_9 : decode jdk_41_method_12_code 9 = .ok (.iload_n 1, 1) := by decide +kernel
theorem d2_10 : decode jdk_41_method_12_code 10 = .ok (.iload_n 2, 1) := by decide +kernel
theorem d2_11 : decode jdk_41_method_12_code 11 = .ok (.if_icmp .le 11, 3) := by decide +kernel
theorem d2_22 : decode jdk_41_method_12_code 22 = .ok (.iload_n 0, 1) := by decide +kernel
theorem d2_23 : decode jdk_41_method_12_code 23 = .ok (.ireturn, 1) := by decide +kernel
abbrev mn28 : MethodName := ⟨"jdk/internal/util/Preconditions", "checkFromToIndex", "(IIILjava/util/function/BiFunction;)I"⟩
theorem pn_8 : plainName "jdk/internal/util/Preconditions" = true := by first | (simp [plainName, overriddenIn]; done) | decide +kernel
theorem ef_c_chkftp (m : MethodId) (p0 : Int32) (p1 : Int32) (p2 : Int32) (sf : Value) (hsf : sf.isRef = true) : entryFrame m #[(.int p0), (.int p1), (.int p2), sf] 4 = mkF m 0 #[.val (.int p0), .val (.int p1), .val (.int p2), .val sf] [] := by rcases ref_cases hsf with rfl | ⟨_, rfl⟩ <;> (first | (simp [entryFrame, mkF, argsToLocals, Value.category]; done) | rfl)
theorem c_chkftp (l : Launch) (Z : State) (a0 : Array Value) (hw : ∀ d ∈ tables_1, d.before a0 Z = true) (p0 p1 p2 : Int32) (sf : Value) (hsf : sf.isRef = true) (h0 : Heap) (h1 : 0 ≤ p0.toInt) (h2 : p0.toInt ≤ p1.toInt) (h3 : p1.toInt ≤ p2.toInt) :
    Ctr l Z mn28 jdk_41_method_12_code 4 (some .int) [] ⟨0, 0, 0, 0⟩ #[(.int p0), (.int p1), (.int p2), sf] h0 (Just h0 (.int p0)) := by
  refine Ctr.of (plainFor_of_name pn_8) ?_
  intro p e s m below meth c s₁ hx H hml hret hown hnm hZ hlk X0 e0
  refine Goes.cast (ef_c_chkftp m p0 p1 p2 sf hsf) ?_
  refine gLoadIN 1 X0 hx (H d2_0) rfl rfl ?_
  refine gIfLt X0 hx (H d2_1) (pc' := 14) (by decide) (by decide) (pn := 4) rfl (fun (c1 : p0.toInt < (0 : Int)) => ?_) (fun (c1 : (0 : Int) ≤ p0.toInt) => ?_)
  · exact absurd c1 (by omega)
  · refine gLoadIN 5 X0 hx (H d2_4) rfl rfl ?_
    refine gLoadIN 6 X0 hx (H d2_5) rfl rfl ?_
    refine gIcmpGt X0 hx (H d2_6) (pc' := 14) (by decide) (by decide) (pn := 9) rfl (fun (c6 : p1.toInt < p0.toInt) => ?_) (fun (c6 : p0.toInt ≤ p1.toInt) => ?_)
    · exact absurd c6 (by omega)
    · refine gLoadIN 10 X0 hx (H d2_9) rfl rfl ?_
      refine gLoadIN 11 X0 hx (H d2_10) rfl rfl ?_
      refine gIcmpLe X0 hx (H d2_11) (pc' := 22) (by decide) (by decide) (pn := 14) rfl (fun (c11 : p1.toInt ≤ p2.toInt) => ?_) (fun (c11 : p2.toInt < p1.toInt) => ?_)
      · refine gLoadIN 23 X0 hx (H d2_22) rfl rfl ?_
        exact gRetI X0 hx hlk hret (H d2_23) (by decide) (by decide) (⟨rfl, e0, rfl⟩)
      · exact absurd c11 (by omega)
theorem d7_0 : decode jdk_42_method_158_code 0 = .ok (.iload_n 0, 1) := by decide +kernel
theorem d7_1 : decode jdk_42_method_158_code 1 = .ok (.iload_n 1, 1) := by decide +kernel
theorem d7_2 : decode jdk_42_method_158_code 2 = .ok (.iload_n 2, 1) := by decide +kernel
theorem d7_3 : decode jdk_42_method_158_code 3 = .ok (.getstatic 1053, 3) := by decide +kernel
theorem d7_6 : decode jdk_42_method_158_code 6 = .ok (.invokestatic 1062, 3) := by decide +kernel
theorem pd_11 : parseMethodDescriptor "(IIILjava/util/function/BiFunction;)I" = some ⟨[.int, .int, .int, (.object "java/util/function/BiFunction")], some .int⟩ := by decide +kernel
theorem d7_9 : decode jdk_42_method_158_code 9 = .ok (.pop, 1) := by decide +kernel
theorem d7_10 : decode jdk_42_method_158_code 10 = .ok (.return_, 1) := by decide +kernel
abbrev mn9 : MethodName := ⟨"java/lang/String", "checkBoundsBeginEnd", "(III)V"⟩
theorem c_chkft (l : Launch) (Z : State) (a0 : Array Value) (hw : ∀ d ∈ tables_1, d.before a0 Z = true) (p0 p1 p2 : Int32) (h0 : Heap) (h1 : 0 ≤ p0.toInt) (h2 : p0.toInt ≤ p1.toInt) (h3 : p1.toInt ≤ p2.toInt) (hSio : Sio Z h0) :
    Ctr l Z mn9 jdk_42_method_158_code 3 none [] ⟨1, 0, 0, 15⟩ #[(.int p0), (.int p1), (.int p2)] h0 (fun v h L => v = none ∧ h = h0 ∧ L = []) := by
  refine Ctr.of (plainFor_of_name pn_4) ?_
  intro p e s m below meth c s₁ hx H hml hret hown hnm hZ hlk X0 e0
  refine Goes.cast (show entryFrame m _ _ = mkF m 0 #[.val (.int p0), .val (.int p1), .val (.int p2)] [] from rfl) ?_
  obtain ⟨sf, SF, hsf⟩ := hSio
  refine gLoadIN 1 X0 hx (H d7_0) rfl rfl ?_
  refine gLoadIN 2 X0 hx (H d7_1) rfl rfl ?_
  refine gLoadIN 3 X0 hx (H d7_2) rfl rfl ?_
  refine gGetS X0 hx hZ hown (ow hw 89 rfl) Via.refl e0 SF (H d7_3) (pc' := 6) rfl (fun T1 X1 e1 => ?_)
  refine gCallSJ X1 hx hZ (y := mn28) hown e1 (by rw [hml]; rfl) (ow hw 91 rfl) (ow hw 92 rfl) (ow hw 90 rfl) (ow hw 93 rfl) (by decide) (argsL := [(.int p0), (.int p1), (.int p2), sf]) (st := []) (c_chkftp l Z a0 hw p0 p1 p2 sf hsf h0 h1 h2 h3) (lenOf pd_11 rfl) (H d7_6) (pc' := 9) rfl rfl rfl rfl (by decide) (W := 0) (Nat.le_of_eq rfl) (by decide) (by decide) (by decide) ?_
  intro T2 X2 e2
  refine gPop 10 X2 hx (H d7_9) rfl rfl ?_
  exact gRetV X2 hx hlk hret (H d7_10) (by decide) (by decide) (⟨rfl, e2, rfl⟩)
theorem d21_0 : decode jdk_65_method_131_code 0 = .ok (.iload_n 1, 1) := by decide +kernel
theorem d21_1 : decode jdk_65_method_131_code 1 = .ok (.iload_n 0, 1) := by decide +kernel
theorem d21_2 : decode jdk_65_method_131_code 2 = .ok (.if_icmp .ge 35, 3) := by decide +kernel
theorem d21_37 : decode jdk_65_method_131_code 37 = .ok (.return_, 1) := by decide +kernel
abbrev mn25 : MethodName := ⟨"java/util/Arrays", "checkLength", "(II)V"⟩
theorem pn_7 : plainName "java/util/Arrays" = true := by first | (simp [plainName, overriddenIn]; done) | decide +kernel
theorem c_clen_0_1 (l : Launch) (Z : State) (a0 : Array Value) (hw : ∀ d ∈ tables_1, d.before a0 Z = true)  (h0 : Heap)  :
    Ctr l Z mn25 jdk_65_method_131_code 2 none [] ⟨0, 0, 0, 0⟩ #[(.int (0 : Int32)), (.int (1 : Int32))] h0 (fun v h L => v = none ∧ h = h0 ∧ L = []) := by
  refine Ctr.of (plainFor_of_name pn_7) ?_
  intro p e s m below meth c s₁ hx H hml hret hown hnm hZ hlk X0 e0
  refine Goes.cast (show entryFrame m _ _ = mkF m 0 #[.val (.int (0 : Int32)), .val (.int (1 : Int32))] [] from rfl) ?_
  refine gLoadIN 1 X0 hx (H d21_0) rfl rfl ?_
  refine gLoadIN 2 X0 hx (H d21_1) rfl rfl ?_
  refine gIcmpGe X0 hx (H d21_2) (pc' := 37) (by decide) (by decide) (pn := 5) rfl (fun (c2 : (0 : Int) ≤ (1 : Int)) => ?_) (fun (c2 : (1 : Int) < (0 : Int)) => ?_)
  · exact gRetV X0 hx hlk hret (H d21_37) (by decide) (by decide) (⟨rfl, e0, rfl⟩)
  · exact absurd c2 (by decide)
theorem d1_9 : decode jdk_29_method_69_code 9 = .ok (.iload_n 1, 1) := by decide +kernel
theorem c_min_2_1 (l : Launch) (Z : State) (a0 : Array Value) (hw : ∀ d ∈ tables_1, d.before a0 Z = true)  (h0 : Heap)  :
    Ctr l Z mn4 jdk_29_method_69_code 2 (some .int) [] ⟨0, 0, 0, 0⟩ #[(.int (2 : Int32)), (.int (1 : Int32))] h0 (Just h0 (.int (1))) := by
  refine Ctr.of (Jvm.Free.JP.mathPlain rfl (by decide +kernel)) ?_
  intro p e s m below meth c s₁ hx H hml hret hown hnm hZ hlk X0 e0
  refine Goes.cast (show entryFrame m _ _ = mkF m 0 #[.val (.int (2 : Int32)), .val (.int (1 : Int32))] [] from rfl) ?_
  refine gLoadIN 1 X0 hx (H d1_0) rfl rfl ?_
  refine gLoadIN 2 X0 hx (H d1_1) rfl rfl ?_
  refine gIcmpGt X0 hx (H d1_2) (pc' := 9) (by decide) (by decide) (pn := 5) rfl (fun (c2 : (1 : Int) < (2 : Int)) => ?_) (fun (c2 : (2 : Int) ≤ (1 : Int)) => ?_)
  · refine gLoadIN 10 X0 hx (H d1_9) rfl rfl ?_
    exact gRetI X0 hx hlk hret (H d1_10) (by decide) (by decide) (⟨rfl, e0, rfl⟩)
  · exact absurd c2 (by decide)
theorem d23_0 : decode jdk_65_method_133_code 0 = .ok (.iload_n 1, 1) := by decide +kernel
theorem d23_1 : decode jdk_65_method_133_code 1 = .ok (.iload_n 2, 1) := by decide +kernel
theorem d23_2 : decode jdk_65_method_133_code 2 = .ok (.invokestatic 343, 3) := by decide +kernel
theorem pd_8 : parseMethodDescriptor "(II)V" = some ⟨[.int, .int], none⟩ := by decide +kernel
theorem d23_5 : decode jdk_65_method_133_code 5 = .ok (.iload_n 2, 1) := by decide +kernel
theorem d23_6 : decode jdk_65_method_133_code 6 = .ok (.iload_n 1, 1) := by decide +kernel
theorem d23_7 : decode jdk_65_method_133_code 7 = .ok (.isub, 1) := by decide +kernel
theorem d23_8 : decode jdk_65_method_133_code 8 = .ok (.istore_n 3, 1) := by decide +kernel
theorem d23_9 : decode jdk_65_method_133_code 9 = .ok (.iload_n 3, 1) := by decide +kernel
theorem d23_10 : decode jdk_65_method_133_code 10 = .ok (.newarray .byte, 2) := by decide +kernel
theorem d23_12 : decode jdk_65_method_133_code 12 = .ok (.astore 4, 2) := by decide +kernel
theorem d23_14 : decode jdk_65_method_133_code 14 = .ok (.aload_n 0, 1) := by decide +kernel
theorem d23_15 : decode jdk_65_method_133_code 15 = .ok (.iload_n 1, 1) := by decide +kernel
theorem d23_16 : decode jdk_65_method_133_code 16 = .ok (.aload 4, 2) := by decide +kernel
theorem d23_18 : decode jdk_65_method_133_code 18 = .ok (.iconst 0, 1) := by decide +kernel
theorem d23_19 : decode jdk_65_method_133_code 19 = .ok (.aload_n 0, 1) := by decide +kernel
theorem d23_20 : decode jdk_65_method_133_code 20 = .ok (.arraylength, 1) := by decide +kernel
theorem d23_21 : decode jdk_65_method_133_code 21 = .ok (.iload_n 1, 1) := by decide +kernel
theorem d23_22 : decode jdk_65_method_133_code 22 = .ok (.isub, 1) := by decide +kernel
theorem d23_23 : decode jdk_65_method_133_code 23 = .ok (.iload_n 3, 1) := by decide +kernel
theorem d23_24 : decode jdk_65_method_133_code 24 = .ok (.invokestatic 304, 3) := by decide +kernel
theorem d23_27 : decode jdk_65_method_133_code 27 = .ok (.invokestatic 150, 3) := by decide +kernel
theorem d23_30 : decode jdk_65_method_133_code 30 = .ok (.aload 4, 2) := by decide +kernel
theorem d23_32 : decode jdk_65_method_133_code 32 = .ok (.areturn, 1) := by decide +kernel
abbrev mn27 : MethodName := ⟨"java/util/Arrays", "copyOfRangeByte", "([BII)[B"⟩
theorem c_cor_2_0_1b (l : Launch) (Z : State) (a0 : Array Value) (hw : ∀ d ∈ tables_1, d.before a0 Z = true) (t : Addr) (ck : ClassId) (ch0 ch1 : Int32) (h0 : Heap) (A : sA Z h0 t ck 2 [by8 ch0, by8 ch1]) :
    Ctr l Z mn27 jdk_65_method_133_code 5 (some (.array .byte)) [] ⟨1, 1, 1, 24⟩ #[(.ref t), (.int (0 : Int32)), (.int (1 : Int32))] h0 (fun v h L => ∃ (b : Addr) (ct : ClassId), v = some (.ref b) ∧ h0.size ≤ b ∧ Fr h0.size L ∧ Keep h0 h [] ∧ sA Z h b ct 1 [by8 ch0]) := by
  refine Ctr.of (plainFor_of_name pn_7) ?_
  intro p e s m below meth c s₁ hx H hml hret hown hnm hZ hlk X0 e0
  refine Goes.cast (show entryFrame m _ _ = mkF m 0 #[.val (.ref t), .val (.int (0 : Int32)), .val (.int (1 : Int32)), .unset, .unset] [] from rfl) ?_
  refine gLoadIN 1 X0 hx (H d23_0) rfl rfl ?_
  refine gLoadIN 2 X0 hx (H d23_1) rfl rfl ?_
  refine gCallS X0 hx hZ (y := mn25) hown e0 (by rw [hml]; rfl) (ow hw 105 rfl) (ow hw 106 rfl) (ow hw 100 rfl) (ow hw 107 rfl) (by decide) (argsL := [(.int (0 : Int32)), (.int (1 : Int32))]) (st := []) (c_clen_0_1 l Z a0 hw h0) (lenOf pd_8 rfl) (H d23_2) (pc' := 5) rfl rfl (by decide) (W := 0) (Nat.le_of_eq rfl) (by decide) (by decide) (by decide) ?_
  intro T1 v1 L1 X1 hQ1
  obtain ⟨rfl, eq1, rfl⟩ := hQ1
  rw [List.append_nil] at X1
  refine gLoadIN 6 X1 hx (H d23_5) rfl rfl ?_
  refine gLoadIN 7 X1 hx (H d23_6) rfl rfl ?_
  refine gIsub 8 X1 hx (H d23_7) rfl ?_
  show Goes p e below _ T1 (mkF m 8 #[.val (.ref t), .val (.int (0 : Int32)), .val (.int (1 : Int32)), .unset, .unset] [(.int (1 : Int32))])
  refine gStoreIN 9 X1 hx (H d23_8) (l' := #[.val (.ref t), .val (.int (0 : Int32)), .val (.int (1 : Int32)), .val (.int (1 : Int32)), .unset]) rfl rfl ?_
  refine gLoadIN 10 X1 hx (H d23_9) rfl rfl ?_
  refine gNewP X1 hx hZ (ow hw 23 rfl) eq1 (n := (1 : Int32)) (H d23_10) (by decide) (cap := 1) (by decide) (by decide) (by decide) (by decide) 1 (pc' := 12) rfl (fun T2 h2 b2 ck2 X2 e2 g2 E2 A2 => ?_)
  have ne_t_b2 : t ≠ b2 := Nat.ne_of_lt (Nat.lt_of_lt_of_eq A.lt g2.symm)
  have f2_0 := A.ext E2
  have sz_b2 : h0.size ≤ b2 := Nat.le_trans (Nat.le_refl _) (Nat.le_of_eq g2.symm)
  have zs2 : h0.size ≤ h2.size := Nat.le_trans (Nat.le_refl _) E2.1
  have K2 : Keep h0 h2 [] := (Keep.refl h0 []).ext E2
  have V2 : Arv Z h2 b2 ck2 .byte (1 : Int32) [(.int (0 : Int32))] (.int (0 : Int32)) := A2
  refine gStoreA 14 X2 hx (H d23_12) (l' := #[.val (.ref t), .val (.int (0 : Int32)), .val (.int (1 : Int32)), .val (.int (1 : Int32)), .val (.ref b2)]) rfl rfl rfl ?_
  refine gLoadAN 15 X2 hx (H d23_14) rfl rfl rfl ?_
  refine gLoadIN 16 X2 hx (H d23_15) rfl rfl ?_
  refine gLoadA 18 X2 hx (H d23_16) rfl rfl rfl ?_
  refine gIconst 19 X2 hx (v := (0 : Int32)) (H d23_18) rfl rfl ?_
  refine gLoadAN 20 X2 hx (H d23_19) rfl rfl rfl ?_
  refine gArrLen X2 hx hZ e2 f2_0 (H d23_20) (pc' := 21) rfl ?_
  refine gLoadIN 22 X2 hx (H d23_21) rfl rfl ?_
  refine gIsub 23 X2 hx (H d23_22) rfl ?_
  show Goes p e below _ T2 (mkF m 23 #[.val (.ref t), .val (.int (0 : Int32)), .val (.int (1 : Int32)), .val (.int (1 : Int32)), .val (.ref b2)] [(.int (2 : Int32)), (.int (0 : Int32)), (.ref b2), (.int (0 : Int32)), (.ref t)])
  refine gLoadIN 24 X2 hx (H d23_23) rfl rfl ?_
  refine gCallSJ X2 hx hZ (y := mn4) hown e2 (by rw [hml]; rfl) (ow hw 108 rfl) (ow hw 68 rfl) (ow hw 69 rfl) (ow hw 70 rfl) (by decide) (argsL := [(.int (2 : Int32)), (.int (1 : Int32))]) (st := [(.int (0 : Int32)), (.ref b2), (.int (0 : Int32)), (.ref t)]) (c_min_2_1 l Z a0 hw h2) (lenOf pd_6 rfl) (H d23_24) (pc' := 27) rfl rfl rfl rfl (by decide) (W := 4) (Nat.le_of_eq rfl) (by decide) (by decide) (by decide) ?_
  intro T3 X3 e3
  refine gArrCopy X3 hx hZ hown (ow hw 109 rfl) (ow hw 112 rfl) (ow hw 110 rfl) (ow hw 111 rfl) e3 (dv := (.int 0)) (dd := (.int 0)) f2_0 V2 rfl (by decide) (by decide) (by decide) (by decide) (by decide) (by decide) (Fr.nil h0.size) sz_b2 (by rw [hml]; rfl) (H d23_27) (pc' := 30) rfl (by decide) (W := 0) (Nat.le_of_eq rfl) (by decide) (fun T4 h4 L4 X4 e4 N4 K4 A4 => ?_)
  have KK : Keep h0 h4 [] := K2.trans K4 (allS (Or.inr sz_b2) all0)
  have VV : Arv Z h4 b2 ck2 .byte 1 [by8 ch0] (.int 0) := A4
  refine gLoadA 32 X4 hx (H d23_30) rfl rfl rfl ?_
  exact gRetA X4 hx hlk hret rfl rfl (H d23_32) (by decide) (by decide) (⟨_, _, rfl, sz_b2, N4, by rw [e4]; exact KK, by rw [e4]; exact VV⟩)
theorem d22_0 : decode jdk_65_method_132_code 0 = .ok (.iload_n 1, 1) := by decide +kernel
theorem d22_1 : decode jdk_65_method_132_code 1 = .ok (.ifCond .ne 9, 3) := by decide +kernel
theorem d22_4 : decode jdk_65_method_132_code 4 = .ok (.iload_n 2, 1) := by decide +kernel
theorem d22_5 : decode jdk_65_method_132_code 5 = .ok (.aload_n 0, 1) := by decide +kernel
theorem d22_6 : decode jdk_65_method_132_code 6 = .ok (.arraylength, 1) := by decide +kernel
theorem d22_7 : decode jdk_65_method_132_code 7 = .ok (.if_icmp .eq 10, 3) := by decide +kernel
theorem d22_10 : decode jdk_65_method_132_code 10 = .ok (.aload_n 0, 1) := by decide +kernel
theorem d22_11 : decode jdk_65_method_132_code 11 = .ok (.iload_n 1, 1) := by decide +kernel
theorem d22_12 : decode jdk_65_method_132_code 12 = .ok (.iload_n 2, 1) := by decide +kernel
theorem d22_13 : decode jdk_65_method_132_code 13 = .ok (.invokestatic 339, 3) := by decide +kernel
theorem pd_19 : parseMethodDescriptor "([BII)[B" = some ⟨[(.array .byte), .int, .int], some (.array .byte)⟩ := by decide +kernel
theorem d22_16 : decode jdk_65_method_132_code 16 = .ok (.areturn, 1) := by decide +kernel
abbrev mn26 : MethodName := ⟨"java/util/Arrays", "copyOfRange", "([BII)[B"⟩
theorem c_cor_2_0_1 (l : Launch) (Z : State) (a0 : Array Value) (hw : ∀ d ∈ tables_1, d.before a0 Z = true) (t : Addr) (ck : ClassId) (ch0 ch1 : Int32) (h0 : Heap) (A : sA Z h0 t ck 2 [by8 ch0, by8 ch1]) :
    Ctr l Z mn26 jdk_65_method_132_code 3 (some (.array .byte)) [] ⟨2, 1, 1, 40⟩ #[(.ref t), (.int (0 : Int32)), (.int (1 : Int32))] h0 (fun v h L => ∃ (b : Addr) (ct : ClassId), v = some (.ref b) ∧ h0.size ≤ b ∧ Fr h0.size L ∧ Keep h0 h [] ∧ sA Z h b ct 1 [by8 ch0]) := by
  refine Ctr.of (plainFor_of_name pn_7) ?_
  intro p e s m below meth c s₁ hx H hml hret hown hnm hZ hlk X0 e0
  refine Goes.cast (show entryFrame m _ _ = mkF m 0 #[.val (.ref t), .val (.int (0 : Int32)), .val (.int (1 : Int32))] [] from rfl) ?_
  refine gLoadIN 1 X0 hx (H d22_0) rfl rfl ?_
  refine gIfNeT X0 hx (H d22_1) (pc' := 10) (by decide) (by decide) (pn := 4) rfl (fun (c1 : ¬ (0 : Int) = (0 : Int)) => ?_) (fun (c1 : (0 : Int) = (0 : Int)) => ?_)
  · exact absurd c1 (by decide)
  · refine gLoadIN 5 X0 hx (H d22_4) rfl rfl ?_
    refine gLoadAN 6 X0 hx (H d22_5) rfl rfl rfl ?_
    refine gArrLen X0 hx hZ e0 A (H d22_6) (pc' := 7) rfl ?_
    refine gIcmpEqT X0 hx (H d22_7) (pc' := 17) (by decide) (by decide) (pn := 10) rfl (fun (c7 : (1 : Int) = (2 : Int)) => ?_) (fun (c7 : ¬ (1 : Int) = (2 : Int)) => ?_)
    · exact absurd c7 (by decide)
    · refine gLoadAN 11 X0 hx (H d22_10) rfl rfl rfl ?_
      refine gLoadIN 12 X0 hx (H d22_11) rfl rfl ?_
      refine gLoadIN 13 X0 hx (H d22_12) rfl rfl ?_
      refine gCallS X0 hx hZ (y := mn27) hown e0 (by rw [hml]; rfl) (ow hw 102 rfl) (ow hw 103 rfl) (ow hw 100 rfl) (ow hw 104 rfl) (by decide) (argsL := [(.ref t), (.int (0 : Int32)), (.int (1 : Int32))]) (st := []) (c_cor_2_0_1b l Z a0 hw t ck ch0 ch1 h0 A) (lenOf pd_19 rfl) (H d22_13) (pc' := 16) rfl rfl (by decide) (W := 0) (Nat.le_of_eq rfl) (by decide) (by decide) (by decide) ?_
      intro T1 v1 L1 X1 hQ1
      obtain ⟨b1, ct1, rfl, g1, g2, g3, g4⟩ := hQ1
      exact gRetA X1 hx hlk hret rfl rfl (H d22_16) (by decide) (by decide) (⟨_, _, rfl, g1, g2, g3, g4⟩)
theorem d4_0 : decode jdk_42_method_151_code 0 = .ok (.aload_n 0, 1) := by decide +kernel
theorem d4_1 : decode jdk_42_method_151_code 1 = .ok (.invokespecial 1, 3) := by decide +kernel
theorem d4_4 : decode jdk_42_method_151_code 4 = .ok (.aload_n 0, 1) := by decide +kernel
theorem d4_5 : decode jdk_42_method_151_code 5 = .ok (.aload_n 1, 1) := by decide +kernel
theorem d4_6 : decode jdk_42_method_151_code 6 = .ok (.putfield 9, 3) := by decide +kernel
theorem d4_9 : decode jdk_42_method_151_code 9 = .ok (.aload_n 0, 1) := by decide +kernel
theorem d4_10 : decode jdk_42_method_151_code 10 = .ok (.iload_n 2, 1) := by decide +kernel
theorem d4_11 : decode jdk_42_method_151_code 11 = .ok (.putfield 15, 3) := by decide +kernel
theorem d4_14 : decode jdk_42_method_151_code 14 = .ok (.return_, 1) := by decide +kernel
abbrev mn6 : MethodName := ⟨"java/lang/String", "<init>", "([BB)V"⟩
theorem c_sinitB (l : Launch) (Z : State) (a0 : Array Value) (hw : ∀ d ∈ tables_1, d.before a0 Z = true) (a t : Addr) (n0 : Nat) (h0 : Heap) (ga : n0 ≤ a) (E : sE Z h0 a) (C : sC Z h0 a) (V : Fld Z h0 a "java/lang/String" "value" "[B" .null) :
    Ctr l Z mn6 jdk_42_method_151_code 3 none [] ⟨1, 0, 0, 12⟩ #[(.ref a), (.ref t), (.int (0 : Int32))] h0 (fun v h L => v = none ∧ Fr n0 L ∧ Keep h0 h [a] ∧ sE Z h a ∧ sC Z h a ∧ sV Z h a t) := by
  refine Ctr.of (plainFor_of_name pn_4) ?_
  intro p e s m below meth c s₁ hx H hml hret hown hnm hZ hlk X0 e0
  refine Goes.cast (show entryFrame m _ _ = mkF m 0 #[.val (.ref a), .val (.ref t), .val (.int (0 : Int32))] [] from rfl) ?_
  refine gLoadAN 1 X0 hx (H d4_0) rfl rfl rfl ?_
  refine gInitO X0 hx hZ hown (ow hw 19 rfl) (ow hw 20 rfl) (ow hw 21 rfl) e0 (by rw [hml]; rfl) (H d4_1) (pc' := 4) rfl (by decide) (W := 0) (Nat.le_of_eq rfl) (by decide) (fun T1 X1 e1 => ?_)
  refine gLoadAN 5 X1 hx (H d4_4) rfl rfl rfl ?_
  refine gLoadAN 6 X1 hx (H d4_5) rfl rfl rfl ?_
  refine gPutF X1 hx hZ hown (ow hw 28 rfl) Via.refl e1 V E (Or.inr ⟨(ow hw 24 rfl), rfl, hnm⟩) (ow hw 10 rfl) (ty := (.array .byte)) (by decide) rfl rfl (H d4_6) (pc' := 9) rfl (fun T2 h2 X2 e2 W2 => ?_)
  have f2_0 := E.wr W2
  have f2_1 := C.other W2 (Or.inr (slot_ne (Or.inr (ow hw 25 rfl)) (Or.inr (ow hw 24 rfl)) (by decide) (t := .byte) (t' := (.array .byte)) (by decide) (by decide)))
  have f2_2 := V.same W2
  have zs2 : h0.size ≤ h2.size := by rw [W2.size]; exact (Nat.le_refl _)
  have N2 := Fr.snoc X2 (Fr.nil n0) ga
  have K2 : Keep h0 h2 [a] := (Keep.refl h0 [a]).wr W2 (Or.inl (by simp))
  refine gLoadAN 10 X2 hx (H d4_9) rfl rfl rfl ?_
  refine gLoadIN 11 X2 hx (H d4_10) rfl rfl ?_
  refine gPutF X2 hx hZ hown (ow hw 29 rfl) Via.refl e2 f2_1 f2_0 (Or.inr ⟨(ow hw 25 rfl), rfl, hnm⟩) (ow hw 10 rfl) (ty := .byte) (by decide) rfl rfl (H d4_11) (pc' := 14) rfl (fun T3 h3 X3 e3 W3 => ?_)
  have f3_0 := f2_0.wr W3
  have f3_1 := f2_1.same W3
  have f3_2 := f2_2.other W3 (Or.inr (slot_ne (Or.inr (ow hw 24 rfl)) (Or.inr (ow hw 25 rfl)) (by decide) (t := (.array .byte)) (t' := .byte) (by decide) (by decide)))
  have zs3 : h0.size ≤ h3.size := by rw [W3.size]; exact zs2
  have N3 := Fr.snoc X3 N2 ga
  have K3 : Keep h0 h3 [a] := K2.wr W3 (Or.inl (by simp))
  exact gRetV X3 hx hlk hret (H d4_14) (by decide) (by decide) (⟨rfl, N3, by rw [e3]; exact K3, by rw [e3]; exact f3_0, by rw [e3]; exact f3_1, by rw [e3]; exact f3_2⟩)
theorem d16_0 : decode jdk_43_method_47_code 0 = .ok (.iload_n 2, 1) := by decide +kernel
theorem d16_1 : decode jdk_43_method_47_code 1 = .ok (.ifCond .ne 6, 3) := by decide +kernel
theorem d16_7 : decode jdk_43_method_47_code 7 = .ok (.new 1, 3) := by decide +kernel
theorem d16_10 : decode jdk_43_method_47_code 10 = .ok (.dup, 1) := by decide +kernel
theorem d16_11 : decode jdk_43_method_47_code 11 = .ok (.aload_n 0, 1) := by decide +kernel
theorem d16_12 : decode jdk_43_method_47_code 12 = .ok (.iload_n 1, 1) := by decide +kernel
theorem d16_13 : decode jdk_43_method_47_code 13 = .ok (.iload_n 1, 1) := by decide +kernel
theorem d16_14 : decode jdk_43_method_47_code 14 = .ok (.iload_n 2, 1) := by decide +kernel
theorem d16_15 : decode jdk_43_method_47_code 15 = .ok (.iadd, 1) := by decide +kernel
theorem d16_16 : decode jdk_43_method_47_code 16 = .ok (.invokestatic 232, 3) := by decide +kernel
theorem d16_19 : decode jdk_43_method_47_code 19 = .ok (.iconst 0, 1) := by decide +kernel
theorem d16_20 : decode jdk_43_method_47_code 20 = .ok (.invokespecial 112, 3) := by decide +kernel
theorem pd_15 : parseMethodDescriptor "([BB)V" = some ⟨[(.array .byte), .byte], none⟩ := by decide +kernel
theorem d16_23 : decode jdk_43_method_47_code 23 = .ok (.areturn, 1) := by decide +kernel
abbrev mn20 : MethodName := ⟨"java/lang/StringLatin1", "newString", "([BII)Ljava/lang/String;"⟩
theorem c_newString_2_0_1 (l : Launch) (Z : State) (a0 : Array Value) (hw : ∀ d ∈ tables_1, d.before a0 Z = true) (t : Addr) (ck : ClassId) (ch0 ch1 : Int32) (h0 : Heap) (A : sA Z h0 t ck 2 [by8 ch0, by8 ch1]) :
    Ctr l Z mn20 jdk_43_method_47_code 3 (some (.object "java/lang/String")) [] ⟨3, 2, 5, 57⟩ #[(.ref t), (.int (0 : Int32)), (.int (1 : Int32))] h0 (SQd Z h0 1 [by8 ch0]) := by
  refine Ctr.of (plainFor_of_name pn_5) ?_
  intro p e s m below meth c s₁ hx H hml hret hown hnm hZ hlk X0 e0
  refine Goes.cast (show entryFrame m _ _ = mkF m 0 #[.val (.ref t), .val (.int (0 : Int32)), .val (.int (1 : Int32))] [] from rfl) ?_
  refine gLoadIN 1 X0 hx (H d16_0) rfl rfl ?_
  refine gIfNeT X0 hx (H d16_1) (pc' := 7) (by decide) (by decide) (pn := 4) rfl (fun (c1 : ¬ (1 : Int) = (0 : Int)) => ?_) (fun (c1 : (1 : Int) = (0 : Int)) => ?_)
  · refine gNew X0 hx hZ hown (ow hw 97 rfl) (ow hw 10 rfl) (ow hw 11 rfl) e0 (H d16_7) (pc' := 10) rfl (by decide) (by decide) (fun T1 h1 b1 X1 e1 g1 E1 A1 D1 => ?_)
    have ne_t_b1 : t ≠ b1 := Nat.ne_of_lt (Nat.lt_of_lt_of_eq A.lt g1.symm)
    have f1_0 := A.ext E1
    have sz_b1 : h0.size ≤ b1 := Nat.le_trans (Nat.le_refl _) (Nat.le_of_eq g1.symm)
    have zs1 : h0.size ≤ h1.size := Nat.le_trans (Nat.le_refl _) E1.1
    have K1 : Keep h0 h1 [] := (Keep.refl h0 []).ext E1
    have F1_value : Fld Z h1 b1 "java/lang/String" "value" "[B" .null := D1 (Or.inr (ow hw 24 rfl)) (ty := (.array .byte)) (by decide)
    have F1_coder : Fld Z h1 b1 "java/lang/String" "coder" "B" (.int (0 : Int32)) := D1 (Or.inr (ow hw 25 rfl)) (ty := .byte) (by decide)
    refine gDup 11 X1 hx (H d16_10) rfl rfl ?_
    refine gLoadAN 12 X1 hx (H d16_11) rfl rfl rfl ?_
    refine gLoadIN 13 X1 hx (H d16_12) rfl rfl ?_
    refine gLoadIN 14 X1 hx (H d16_13) rfl rfl ?_
    refine gLoadIN 15 X1 hx (H d16_14) rfl rfl ?_
    refine gIadd 16 X1 hx (H d16_15) rfl ?_
    show Goes p e below _ T1 (mkF m 16 #[.val (.ref t), .val (.int (0 : Int32)), .val (.int (1 : Int32))] [(.int (1 : Int32)), (.int (0 : Int32)), (.ref t), (.ref b1), (.ref b1)])
    refine gCallS X1 hx hZ (y := mn26) hown e1 (by rw [hml]; rfl) (ow hw 98 rfl) (ow hw 99 rfl) (ow hw 100 rfl) (ow hw 101 rfl) (by decide) (argsL := [(.ref t), (.int (0 : Int32)), (.int (1 : Int32))]) (st := [(.ref b1), (.ref b1)]) (c_cor_2_0_1 l Z a0 hw t ck ch0 ch1 h1 f1_0) (lenOf pd_19 rfl) (H d16_16) (pc' := 19) rfl rfl (by decide) (W := 2) (Nat.le_of_eq rfl) (by decide) (by decide) (by decide) ?_
    intro T2 v2 L2 X2 hQ2
    obtain ⟨q2, ctq2, rfl, gq2, Nq2, Kq2, Aq2⟩ := hQ2
    have N2 := Fr.app (Fr.nil h0.size) (fun y hy => Nat.le_trans zs1 (Nq2 y hy))
    have K2 : Keep h0 T2.heap [] := K1.trans Kq2 all0
    have f2_0 := f1_0.keep Kq2 nin0
    have f2_1 := A1.keep Kq2
    have f2_2 := F1_value.keep Kq2 nin0
    have f2_3 := F1_coder.keep Kq2 nin0
    have zs2 := Nat.le_trans zs1 Kq2.1
    have nq2 : q2 ≠ b1 := Ne.symm (Nat.ne_of_lt (Nat.lt_of_lt_of_le A1.lt gq2))
    refine gIconst 20 X2 hx (v := (0 : Int32)) (H d16_19) rfl rfl ?_
    refine gCallI X2 hx hZ (y := mn6) rfl hown rfl (by rw [hml]; rfl) (ow hw 113 rfl) (ow hw 114 rfl) (ow hw 11 rfl) (ow hw 115 rfl) (by decide) (argsL := [(.ref q2), (.int (0 : Int32))]) (st := [(.ref b1)]) (c_sinitB l Z a0 hw b1 q2 h0.size T2.heap sz_b1 f2_1 f2_3 f2_2) (lenOf pd_15 rfl) (H d16_20) (pc' := 23) rfl rfl (by decide) (W := 1) (Nat.le_of_eq rfl) (by decide) (by decide) (by decide) ?_
    intro T3 v3 L3 X3 hQ3
    obtain ⟨rfl, Nq3, Kq3, Eq3, Cq3, Vq3⟩ := hQ3
    have N3 := Fr.app N2 Nq3
    have K3 : Keep h0 T3.heap [] := K2.trans Kq3 (allS (Or.inr sz_b1) all0)
    have Ak3 := Aq2.keep Kq3 (ninS nq2 nin0)
    exact gRetA X3 hx hlk hret rfl rfl (H d16_23) (by decide) (by decide) (⟨b1, q2, ctq2, rfl, N3, K3, Eq3, Cq3, Vq3, Ak3⟩)
  · exact absurd c1 (by decide)
theorem d13_0 : decode jdk_42_method_92_code 0 = .ok (.aload_n 0, 1) := by decide +kernel
theorem d13_1 : decode jdk_42_method_92_code 1 = .ok (.invokevirtual 505, 3) := by decide +kernel
theorem d13_4 : decode jdk_42_method_92_code 4 = .ok (.istore_n 3, 1) := by decide +kernel
theorem d13_5 : decode jdk_42_method_92_code 5 = .ok (.iload_n 1, 1) := by decide +kernel
theorem d13_6 : decode jdk_42_method_92_code 6 = .ok (.iload_n 2, 1) := by decide +kernel
theorem d13_7 : decode jdk_42_method_92_code 7 = .ok (.iload_n 3, 1) := by decide +kernel
theorem d13_8 : decode jdk_42_method_92_code 8 = .ok (.invokestatic 521, 3) := by decide +kernel
theorem pd_10 : parseMethodDescriptor "(III)V" = some ⟨[.int, .int, .int], none⟩ := by decide +kernel
theorem d13_11 : decode jdk_42_method_92_code 11 = .ok (.iload_n 1, 1) := by decide +kernel
theorem d13_12 : decode jdk_42_method_92_code 12 = .ok (.ifCond .ne 10, 3) := by decide +kernel
theorem d13_15 : decode jdk_42_method_92_code 15 = .ok (.iload_n 2, 1) := by decide +kernel
theorem d13_16 : decode jdk_42_method_92_code 16 = .ok (.iload_n 3, 1) := by decide +kernel
theorem d13_17 : decode jdk_42_method_92_code 17 = .ok (.if_icmp .ne 5, 3) := by decide +kernel
theorem d13_22 : decode jdk_42_method_92_code 22 = .ok (.iload_n 2, 1) := by decide +kernel
theorem d13_23 : decode jdk_42_method_92_code 23 = .ok (.iload_n 1, 1) := by decide +kernel
theorem d13_24 : decode jdk_42_method_92_code 24 = .ok (.isub, 1) := by decide +kernel
theorem d13_25 : decode jdk_42_method_92_code 25 = .ok (.istore 4, 2) := by decide +kernel
theorem d13_27 : decode jdk_42_method_92_code 27 = .ok (.aload_n 0, 1) := by decide +kernel
theorem d13_28 : decode jdk_42_method_92_code 28 = .ok (.invokevirtual 492, 3) := by decide +kernel
theorem d13_31 : decode jdk_42_method_92_code 31 = .ok (.ifCond .eq 16, 3) := by decide +kernel
theorem d13_34 : decode jdk_42_method_92_code 34 = .ok (.aload_n 0, 1) := by decide +kernel
theorem d13_35 : decode jdk_42_method_92_code 35 = .ok (.getfield 9, 3) := by decide +kernel
theorem d13_38 : decode jdk_42_method_92_code 38 = .ok (.iload_n 1, 1) := by decide +kernel
theorem d13_39 : decode jdk_42_method_92_code 39 = .ok (.iload 4, 2) := by decide +kernel
theorem d13_41 : decode jdk_42_method_92_code 41 = .ok (.invokestatic 685, 3) := by decide +kernel
theorem pd_18 : parseMethodDescriptor "([BII)Ljava/lang/String;" = some ⟨[(.array .byte), .int, .int], some (.object "java/lang/String")⟩ := by decide +kernel
theorem d13_44 : decode jdk_42_method_92_code 44 = .ok (.goto 13, 3) := by decide +kernel
theorem d13_57 : decode jdk_42_method_92_code 57 = .ok (.areturn, 1) := by decide +kernel
abbrev mn16 : MethodName := ⟨"java/lang/String", "substring", "(II)Ljava/lang/String;"⟩
theorem c_sub_2_0_1 (l : Launch) (Z : State) (a0 : Array Value) (hw : ∀ d ∈ tables_1, d.before a0 Z = true) (a t : Addr) (ck : ClassId) (ch0 ch1 : Int32) (h0 : Heap) (hSio : Sio Z h0) (hCpt : Cpt Z h0) (E : sE Z h0 a) (C : sC Z h0 a) (V : sV Z h0 a t) (A : sA Z h0 t ck 2 [by8 ch0, by8 ch1]) (hch0 : rg ch0) (hch1 : rg ch1) :
    Ctr l Z mn16 jdk_42_method_92_code 5 (some (.object "java/lang/String")) [] ⟨4, 2, 5, 71⟩ #[(.ref a), (.int (0 : Int32)), (.int (1 : Int32))] h0 (SQd Z h0 1 [by8 ch0]) := by
  refine Ctr.of (plainFor_of_name pn_4) ?_
  intro p e s m below meth c s₁ hx H hml hret hown hnm hZ hlk X0 e0
  refine Goes.cast (show entryFrame m _ _ = mkF m 0 #[.val (.ref a), .val (.int (0 : Int32)), .val (.int (1 : Int32)), .unset, .unset] [] from rfl) ?_
  refine gLoadAN 1 X0 hx (H d13_0) rfl rfl rfl ?_
  refine gCallVJ X0 hx hZ (y := mn15) hown e0 (by rw [hml]; rfl) E (ow hw 39 rfl) (ow hw 40 rfl) (ow hw 42 rfl) (ow hw 41 rfl) (ow hw 11 rfl) (ow hw 43 rfl) (by decide) (argsL := []) (st := []) (c_length_2 l Z a0 hw a t ck ch0 ch1 h0 hCpt E C V A hch0 hch1) (lenOf pd_1 rfl) (H d13_1) (pc' := 4) rfl rfl rfl rfl (by decide) (W := 0) (Nat.le_of_eq rfl) (by decide) (by decide) (by decide) ?_
  intro T1 X1 e1
  refine gStoreIN 5 X1 hx (H d13_4) (l' := #[.val (.ref a), .val (.int (0 : Int32)), .val (.int (1 : Int32)), .val (.int (2 : Int32)), .unset]) rfl rfl ?_
  refine gLoadIN 6 X1 hx (H d13_5) rfl rfl ?_
  refine gLoadIN 7 X1 hx (H d13_6) rfl rfl ?_
  refine gLoadIN 8 X1 hx (H d13_7) rfl rfl ?_
  refine gCallS X1 hx hZ (y := mn9) hown e1 (by rw [hml]; rfl) (ow hw 86 rfl) (ow hw 87 rfl) (ow hw 11 rfl) (ow hw 88 rfl) (by decide) (argsL := [(.int (0 : Int32)), (.int (1 : Int32)), (.int (2 : Int32))]) (st := []) (c_chkft l Z a0 hw (0 : Int32) (1 : Int32) (2 : Int32) h0 (by decide) (by decide) (by decide) hSio) (lenOf pd_10 rfl) (H d13_8) (pc' := 11) rfl rfl (by decide) (W := 0) (Nat.le_of_eq rfl) (by decide) (by decide) (by decide) ?_
  intro T2 v2 L2 X2 hQ2
  obtain ⟨rfl, eq2, rfl⟩ := hQ2
  rw [List.append_nil] at X2
  refine gLoadIN 12 X2 hx (H d13_11) rfl rfl ?_
  refine gIfNeT X2 hx (H d13_12) (pc' := 22) (by decide) (by decide) (pn := 15) rfl (fun (c12 : ¬ (0 : Int) = (0 : Int)) => ?_) (fun (c12 : (0 : Int) = (0 : Int)) => ?_)
  · exact absurd c12 (by decide)
  · refine gLoadIN 16 X2 hx (H d13_15) rfl rfl ?_
    refine gLoadIN 17 X2 hx (H d13_16) rfl rfl ?_
    refine gIcmpNeT X2 hx (H d13_17) (pc' := 22) (by decide) (by decide) (pn := 20) rfl (fun (c17 : ¬ (1 : Int) = (2 : Int)) => ?_) (fun (c17 : (1 : Int) = (2 : Int)) => ?_)
    · refine gLoadIN 23 X2 hx (H d13_22) rfl rfl ?_
      refine gLoadIN 24 X2 hx (H d13_23) rfl rfl ?_
      refine gIsub 25 X2 hx (H d13_24) rfl ?_
      show Goes p e below _ T2 (mkF m 25 #[.val (.ref a), .val (.int (0 : Int32)), .val (.int (1 : Int32)), .val (.int (2 : Int32)), .unset] [(.int (1 : Int32))])
      refine gStoreI 27 X2 hx (H d13_25) (l' := #[.val (.ref a), .val (.int (0 : Int32)), .val (.int (1 : Int32)), .val (.int (2 : Int32)), .val (.int (1 : Int32))]) rfl rfl ?_
      refine gLoadAN 28 X2 hx (H d13_27) rfl rfl rfl ?_
      refine gCallVJ X2 hx hZ (y := mn12) hown eq2 (by rw [hml]; rfl) E (ow hw 55 rfl) (ow hw 56 rfl) (ow hw 58 rfl) (ow hw 57 rfl) (ow hw 11 rfl) (ow hw 59 rfl) (by decide) (argsL := []) (st := []) (c_isLatin1 l Z a0 hw a h0 hCpt C) (lenOf pd_3 rfl) (H d13_28) (pc' := 31) rfl rfl rfl rfl (by decide) (W := 0) (Nat.le_of_eq rfl) (by decide) (by decide) (by decide) ?_
      intro T3 X3 e3
      refine gIfEqT X3 hx (H d13_31) (pc' := 47) (by decide) (by decide) (pn := 34) rfl (fun (c31 : (1 : Int) = (0 : Int)) => ?_) (fun (c31 : ¬ (1 : Int) = (0 : Int)) => ?_)
      · exact absurd c31 (by decide)
      · refine gLoadAN 35 X3 hx (H d13_34) rfl rfl rfl ?_
        refine gGetF X3 hx hZ hown (ow hw 28 rfl) Via.refl e3 V (H d13_35) (pc' := 38) rfl (fun T4 X4 e4 => ?_)
        refine gLoadIN 39 X4 hx (H d13_38) rfl rfl ?_
        refine gLoadI 41 X4 hx (H d13_39) rfl rfl ?_
        refine gCallS X4 hx hZ (y := mn20) hown e4 (by rw [hml]; rfl) (ow hw 94 rfl) (ow hw 95 rfl) (ow hw 62 rfl) (ow hw 96 rfl) (by decide) (argsL := [(.ref t), (.int (0 : Int32)), (.int (1 : Int32))]) (st := []) (c_newString_2_0_1 l Z a0 hw t ck ch0 ch1 h0 A) (lenOf pd_18 rfl) (H d13_41) (pc' := 44) rfl rfl (by decide) (W := 0) (Nat.le_of_eq rfl) (by decide) (by decide) (by decide) ?_
        intro T5 v5 L5 X5 hQ5
        obtain ⟨r5, t5, ct5, rfl, Nq5, Kq5, Eq5, Cq5, Vq5, Aq5⟩ := hQ5
        have N5 := Fr.app (Fr.nil h0.size) (fun y hy => Nat.le_trans (Nat.le_refl _) (Nq5 y hy))
        have f5_0 := E.keep Kq5
        have f5_1 := C.keep Kq5 nin0
        have f5_2 := V.keep Kq5 nin0
        have f5_3 := A.keep Kq5 nin0
        have f5_4 := own_cpt_keep hCpt Kq5 ns0
        have zs5 := Nat.le_trans (Nat.le_refl _) Kq5.1
        have K5 : Keep h0 T5.heap [] := (Keep.refl h0 []).trans Kq5 all0
        refine gGoto X5 hx (H d13_44) (pc' := 57) (by decide) (by decide) ?_
        exact gRetA X5 hx hlk hret rfl rfl (H d13_57) (by decide) (by decide) (⟨r5, t5, ct5, rfl, N5, K5, Eq5, Cq5, Vq5, Aq5⟩)
    · exact absurd c17 (by decide)
theorem d27_11 : decode prog_18_method_5_code 11 = .ok (.aload_n 0, 1) := by decide +kernel
theorem d27_12 : decode prog_18_method_5_code 12 = .ok (.iconst 0, 1) := by decide +kernel
theorem d27_13 : decode prog_18_method_5_code 13 = .ok (.iload_n 1, 1) := by decide +kernel
theorem d27_14 : decode prog_18_method_5_code 14 = .ok (.invokevirtual 67, 3) := by decide +kernel
theorem pd_7 : parseMethodDescriptor "(II)Ljava/lang/String;" = some ⟨[.int, .int], some (.object "java/lang/String")⟩ := by decide +kernel
theorem d27_17 : decode prog_18_method_5_code 17 = .ok (.goto 4, 3) := by decide +kernel
theorem c_nm_2_1 (l : Launch) (Z : State) (a0 : Array Value) (hw : ∀ d ∈ tables_1, d.before a0 Z = true) (a t : Addr) (ck : ClassId) (ch0 ch1 : Int32) (h0 : Heap) (hSio : Sio Z h0) (hCpt : Cpt Z h0) (E : sE Z h0 a) (C : sC Z h0 a) (V : sV Z h0 a t) (A : sA Z h0 t ck 2 [by8 ch0, by8 ch1]) (hch0 : rg ch0) (hch1 : rg ch1)  (dq : ch1.toInt = 47) :
    Ctr l Z mn0 prog_18_method_5_code 2 (some (.object "java/lang/String")) [] ⟨5, 2, 5, 87⟩ #[(.ref a)] h0 (SQd Z h0 1 [by8 ch0]) := by
  refine Ctr.of (plainFor_of_name pn_0) ?_
  intro p e s m below meth c s₁ hx H hml hret hown hnm hZ hlk X0 e0
  refine Goes.cast (show entryFrame m _ _ = mkF m 0 #[.val (.ref a), .unset] [] from rfl) ?_
  refine gLoadAN 1 X0 hx (H d27_0) rfl rfl rfl ?_
  refine gBipush 3 X0 hx (v := (47 : Int32)) (H d27_1) rfl rfl ?_
  refine gCallVJ X0 hx hZ (y := mn13) hown e0 (by rw [hml]; rfl) E (ow hw 34 rfl) (ow hw 35 rfl) (ow hw 37 rfl) (ow hw 36 rfl) (ow hw 11 rfl) (ow hw 38 rfl) (by decide) (argsL := [(.int (47 : Int32))]) (st := []) (c_lastIndexOf_2 l Z a0 hw a t ck ch0 ch1 h0 hCpt E C V A hch0 hch1) (lenOf pd_4 rfl) (H d27_3) (pc' := 6) rfl rfl rfl rfl (by decide) (W := 0) (Nat.le_of_eq rfl) (by decide) (by decide) (by decide) ?_
  intro T1 X1 e1
  rw [show lx2 ch0 ch1 = 1 from by rw [lx2, if_pos dq]]
  refine gStoreIN 7 X1 hx (H d27_6) (l' := #[.val (.ref a), .val (.int (1 : Int32))]) rfl rfl ?_
  refine gLoadIN 8 X1 hx (H d27_7) rfl rfl ?_
  refine gIfLe X1 hx (H d27_8) (pc' := 20) (by decide) (by decide) (pn := 11) rfl (fun (c8 : (1 : Int) ≤ (0 : Int)) => ?_) (fun (c8 : (0 : Int) < (1 : Int)) => ?_)
  · exact absurd c8 (by decide)
  · refine gLoadAN 12 X1 hx (H d27_11) rfl rfl rfl ?_
    refine gIconst 13 X1 hx (v := (0 : Int32)) (H d27_12) rfl rfl ?_
    refine gLoadIN 14 X1 hx (H d27_13) rfl rfl ?_
    refine gCallV X1 hx hZ (y := mn16) hown e1 (by rw [hml]; rfl) E (ow hw 81 rfl) (ow hw 82 rfl) (ow hw 84 rfl) (ow hw 83 rfl) (ow hw 11 rfl) (ow hw 85 rfl) (by decide) (argsL := [(.int (0 : Int32)), (.int (1 : Int32))]) (st := []) (c_sub_2_0_1 l Z a0 hw a t ck ch0 ch1 h0 hSio hCpt E C V A hch0 hch1) (lenOf pd_7 rfl) (H d27_14) (pc' := 17) rfl rfl (by decide) (W := 0) (Nat.le_of_eq rfl) (by decide) (by decide) (by decide) ?_
    intro T2 v2 L2 X2 hQ2
    obtain ⟨r2, t2, ct2, rfl, Nq2, Kq2, Eq2, Cq2, Vq2, Aq2⟩ := hQ2
    have N2 := Fr.app (Fr.nil h0.size) (fun y hy => Nat.le_trans (Nat.le_refl _) (Nq2 y hy))
    have f2_0 := E.keep Kq2
    have f2_1 := C.keep Kq2 nin0
    have f2_2 := V.keep Kq2 nin0
    have f2_3 := A.keep Kq2 nin0
    have f2_4 := own_cpt_keep hCpt Kq2 ns0
    have zs2 := Nat.le_trans (Nat.le_refl _) Kq2.1
    have K2 : Keep h0 T2.heap [] := (Keep.refl h0 []).trans Kq2 all0
    refine gGoto X2 hx (H d27_17) (pc' := 21) (by decide) (by decide) ?_
    exact gRetA X2 hx hlk hret rfl rfl (H d27_21) (by decide) (by decide) (⟨r2, t2, ct2, rfl, N2, K2, Eq2, Cq2, Vq2, Aq2⟩)
def lx3 (ch0 ch1 ch2 : Int32) : Int32 := if ch2.toInt = 47 then 2 else if ch1.toInt = 47 then 1 else if ch0.toInt = 47 then 0 else (-1)
theorem c_min_2_2 (l : Launch) (Z : State) (a0 : Array Value) (hw : ∀ d ∈ tables_1, d.before a0 Z = true)  (h0 : Heap)  :
    Ctr l Z mn4 jdk_29_method_69_code 2 (some .int) [] ⟨0, 0, 0, 0⟩ #[(.int (2 : Int32)), (.int (2 : Int32))] h0 (Just h0 (.int (2))) := by
  refine Ctr.of (Jvm.Free.JP.mathPlain rfl (by decide +kernel)) ?_
  intro p e s m below meth c s₁ hx H hml hret hown hnm hZ hlk X0 e0
  refine Goes.cast (show entryFrame m _ _ = mkF m 0 #[.val (.int (2 : Int32)), .val (.int (2 : Int32))] [] from rfl) ?_
  refine gLoadIN 1 X0 hx (H d1_0) rfl rfl ?_
  refine gLoadIN 2 X0 hx (H d1_1) rfl rfl ?_
  refine gIcmpGt X0 hx (H d1_2) (pc' := 9) (by decide) (by decide) (pn := 5) rfl (fun (c2 : (2 : Int) < (2 : Int)) => ?_) (fun (c2 : (2 : Int) ≤ (2 : Int)) => ?_)
  · exact absurd c2 (by decide)
  · refine gLoadIN 6 X0 hx (H d1_5) rfl rfl ?_
    refine gGoto X0 hx (H d1_6) (pc' := 10) (by decide) (by decide) ?_
    exact gRetI X0 hx hlk hret (H d1_10) (by decide) (by decide) (⟨rfl, e0, rfl⟩)
theorem c_lastIndexOf_3l (l : Launch) (Z : State) (a0 : Array Value) (hw : ∀ d ∈ tables_1, d.before a0 Z = true) (t : Addr) (ck : ClassId) (ch0 ch1 ch2 : Int32) (h0 : Heap) (A : sA Z h0 t ck 3 [by8 ch0, by8 ch1, by8 ch2]) (hch0 : rg ch0) (hch1 : rg ch1) (hch2 : rg ch2) :
    Ctr l Z mn19 jdk_43_method_27_code 4 (some .int) [] ⟨1, 0, 0, 24⟩ #[(.ref t), (.int (47 : Int32)), (.int (2 : Int32))] h0 (Just h0 (.int (lx3 ch0 ch1 ch2))) := by
  refine Ctr.of (plainFor_of_name pn_5) ?_
  intro p e s m below meth c s₁ hx H hml hret hown hnm hZ hlk X0 e0
  refine Goes.cast (show entryFrame m _ _ = mkF m 0 #[.val (.ref t), .val (.int (47 : Int32)), .val (.int (2 : Int32)), .unset] [] from rfl) ?_
  refine gLoadIN 1 X0 hx (H d15_0) rfl rfl ?_
  refine gCallSJ X0 hx hZ (y := mn17) hown e0 (by rw [hml]; rfl) (ow hw 64 rfl) (ow hw 65 rfl) (ow hw 62 rfl) (ow hw 66 rfl) (by decide) (argsL := [(.int (47 : Int32))]) (st := []) (c_canI_47 l Z a0 hw h0) (lenOf pd_5 rfl) (H d15_1) (pc' := 4) rfl rfl rfl rfl (by decide) (W := 0) (Nat.le_of_eq rfl) (by decide) (by decide) (by decide) ?_
  intro T1 X1 e1
  refine gIfNeT X1 hx (H d15_4) (pc' := 9) (by decide) (by decide) (pn := 7) rfl (fun (c4 : ¬ (1 : Int) = (0 : Int)) => ?_) (fun (c4 : (1 : Int) = (0 : Int)) => ?_)
  · refine gLoadIN 10 X1 hx (H d15_9) rfl rfl ?_
    refine gLoadAN 11 X1 hx (H d15_10) rfl rfl rfl ?_
    refine gArrLen X1 hx hZ e1 A (H d15_11) (pc' := 12) rfl ?_
    refine gIconst 13 X1 hx (v := (1 : Int32)) (H d15_12) rfl rfl ?_
    refine gIsub 14 X1 hx (H d15_13) rfl ?_
    show Goes p e below _ T1 (mkF m 14 #[.val (.ref t), .val (.int (47 : Int32)), .val (.int (2 : Int32)), .unset] [(.int (2 : Int32)), (.int (2 : Int32))])
    refine gCallSJ X1 hx hZ (y := mn4) hown e1 (by rw [hml]; rfl) (ow hw 67 rfl) (ow hw 68 rfl) (ow hw 69 rfl) (ow hw 70 rfl) (by decide) (argsL := [(.int (2 : Int32)), (.int (2 : Int32))]) (st := []) (c_min_2_2 l Z a0 hw h0) (lenOf pd_6 rfl) (H d15_14) (pc' := 17) rfl rfl rfl rfl (by decide) (W := 0) (Nat.le_of_eq rfl) (by decide) (by decide) (by decide) ?_
    intro T2 X2 e2
    refine gStoreIN 18 X2 hx (H d15_17) (l' := #[.val (.ref t), .val (.int (47 : Int32)), .val (.int (2 : Int32)), .val (.int (2 : Int32))]) rfl rfl ?_
    refine gLoadIN 19 X2 hx (H d15_18) rfl rfl ?_
    refine gIfLt X2 hx (H d15_19) (pc' := 38) (by decide) (by decide) (pn := 22) rfl (fun (c19 : (2 : Int) < (0 : Int)) => ?_) (fun (c19 : (0 : Int) ≤ (2 : Int)) => ?_)
    · exact absurd c19 (by decide)
    · refine gLoadAN 23 X2 hx (H d15_22) rfl rfl rfl ?_
      refine gLoadIN 24 X2 hx (H d15_23) rfl rfl ?_
      refine gBaload X2 hx hZ e2 A (j := (2 : Int32)) (v := (.int (ch2.toInt8.toInt32))) (by decide) (by decide) rfl (H d15_24) (pc' := 25) rfl ?_
      refine gLoadIN 26 X2 hx (H d15_25) rfl rfl ?_
      refine gI2b 27 X2 hx (H d15_26) rfl ?_
      show Goes p e below _ T2 (mkF m 27 #[.val (.ref t), .val (.int (47 : Int32)), .val (.int (2 : Int32)), .val (.int (2 : Int32))] [(.int (47 : Int32)), (.int (ch2.toInt8.toInt32))])
      refine gIcmpNeT X2 hx (H d15_27) (pc' := 32) (by decide) (by decide) (pn := 30) rfl (fun (c27 : ¬ (ch2.toInt8.toInt32).toInt = (47 : Int)) => ?_) (fun (c27 : (ch2.toInt8.toInt32).toInt = (47 : Int)) => ?_)
      · refine gIinc X2 hx (v := (-1 : Int32)) (H d15_32) (l' := #[.val (.ref t), .val (.int (47 : Int32)), .val (.int (2 : Int32)), .val (.int (1 : Int32))]) (pc' := 35) rfl rfl rfl rfl ?_
        refine gGoto X2 hx (H d15_35) (pc' := 18) (by decide) (by decide) ?_
        refine gLoadIN 19 X2 hx (H d15_18) rfl rfl ?_
        refine gIfLt X2 hx (H d15_19) (pc' := 38) (by decide) (by decide) (pn := 22) rfl (fun (c19' : (1 : Int) < (0 : Int)) => ?_) (fun (c19' : (0 : Int) ≤ (1 : Int)) => ?_)
        · exact absurd c19' (by decide)
        · refine gLoadAN 23 X2 hx (H d15_22) rfl rfl rfl ?_
          refine gLoadIN 24 X2 hx (H d15_23) rfl rfl ?_
          refine gBaload X2 hx hZ e2 A (j := (1 : Int32)) (v := (.int (ch1.toInt8.toInt32))) (by decide) (by decide) rfl (H d15_24) (pc' := 25) rfl ?_
          refine gLoadIN 26 X2 hx (H d15_25) rfl rfl ?_
          refine gI2b 27 X2 hx (H d15_26) rfl ?_
          show Goes p e below _ T2 (mkF m 27 #[.val (.ref t), .val (.int (47 : Int32)), .val (.int (2 : Int32)), .val (.int (1 : Int32))] [(.int (47 : Int32)), (.int (ch1.toInt8.toInt32))])
          refine gIcmpNeT X2 hx (H d15_27) (pc' := 32) (by decide) (by decide) (pn := 30) rfl (fun (c27' : ¬ (ch1.toInt8.toInt32).toInt = (47 : Int)) => ?_) (fun (c27' : (ch1.toInt8.toInt32).toInt = (47 : Int)) => ?_)
          · refine gIinc X2 hx (v := (-1 : Int32)) (H d15_32) (l' := #[.val (.ref t), .val (.int (47 : Int32)), .val (.int (2 : Int32)), .val (.int (0 : Int32))]) (pc' := 35) rfl rfl rfl rfl ?_
            refine gGoto X2 hx (H d15_35) (pc' := 18) (by decide) (by decide) ?_
            refine gLoadIN 19 X2 hx (H d15_18) rfl rfl ?_
            refine gIfLt X2 hx (H d15_19) (pc' := 38) (by decide) (by decide) (pn := 22) rfl (fun (c19'' : (0 : Int) < (0 : Int)) => ?_) (fun (c19'' : (0 : Int) ≤ (0 : Int)) => ?_)
            · exact absurd c19'' (by decide)
            · refine gLoadAN 23 X2 hx (H d15_22) rfl rfl rfl ?_
              refine gLoadIN 24 X2 hx (H d15_23) rfl rfl ?_
              refine gBaload X2 hx hZ e2 A (j := (0 : Int32)) (v := (.int (ch0.toInt8.toInt32))) (by decide) (by decide) rfl (H d15_24) (pc' := 25) rfl ?_
              refine gLoadIN 26 X2 hx (H d15_25) rfl rfl ?_
              refine gI2b 27 X2 hx (H d15_26) rfl ?_
              show Goes p e below _ T2 (mkF m 27 #[.val (.ref t), .val (.int (47 : Int32)), .val (.int (2 : Int32)), .val (.int (0 : Int32))] [(.int (47 : Int32)), (.int (ch0.toInt8.toInt32))])
              refine gIcmpNeT X2 hx (H d15_27) (pc' := 32) (by decide) (by decide) (pn := 30) rfl (fun (c27'' : ¬ (ch0.toInt8.toInt32).toInt = (47 : Int)) => ?_) (fun (c27'' : (ch0.toInt8.toInt32).toInt = (47 : Int)) => ?_)
              · refine gIinc X2 hx (v := (-1 : Int32)) (H d15_32) (l' := #[.val (.ref t), .val (.int (47 : Int32)), .val (.int (2 : Int32)), .val (.int (-1 : Int32))]) (pc' := 35) rfl rfl rfl rfl ?_
                refine gGoto X2 hx (H d15_35) (pc' := 18) (by decide) (by decide) ?_
                refine gLoadIN 19 X2 hx (H d15_18) rfl rfl ?_
                refine gIfLt X2 hx (H d15_19) (pc' := 38) (by decide) (by decide) (pn := 22) rfl (fun (c19''' : (-1 : Int) < (0 : Int)) => ?_) (fun (c19''' : (0 : Int) ≤ (-1 : Int)) => ?_)
                · refine gIconst 39 X2 hx (v := (-1 : Int32)) (H d15_38) rfl rfl ?_
                  exact gRetI X2 hx hlk hret (H d15_39) (by decide) (by decide) (⟨by rw [lx3, if_neg (fun z => c27 ((own_beq hch2 (by decide)).mpr z)), if_neg (fun z => c27' ((own_beq hch1 (by decide)).mpr z)), if_neg (fun z => c27'' ((own_beq hch0 (by decide)).mpr z))], e2, rfl⟩)
                · exact absurd c19''' (by decide)
              · refine gLoadIN 31 X2 hx (H d15_30) rfl rfl ?_
                exact gRetI X2 hx hlk hret (H d15_31) (by decide) (by decide) (⟨by rw [lx3, if_neg (fun z => c27 ((own_beq hch2 (by decide)).mpr z)), if_neg (fun z => c27' ((own_beq hch1 (by decide)).mpr z)), if_pos ((own_beq hch0 (by decide)).mp c27'')], e2, rfl⟩)
          · refine gLoadIN 31 X2 hx (H d15_30) rfl rfl ?_
            exact gRetI X2 hx hlk hret (H d15_31) (by decide) (by decide) (⟨by rw [lx3, if_neg (fun z => c27 ((own_beq hch2 (by decide)).mpr z)), if_pos ((own_beq hch1 (by decide)).mp c27')], e2, rfl⟩)
      · refine gLoadIN 31 X2 hx (H d15_30) rfl rfl ?_
        exact gRetI X2 hx hlk hret (H d15_31) (by decide) (by decide) (⟨by rw [lx3, if_pos ((own_beq hch2 (by decide)).mp c27)], e2, rfl⟩)
  · exact absurd c4 (by decide)
theorem c_length_3 (l : Launch) (Z : State) (a0 : Array Value) (hw : ∀ d ∈ tables_1, d.before a0 Z = true) (a t : Addr) (ck : ClassId) (ch0 ch1 ch2 : Int32) (h0 : Heap) (hCpt : Cpt Z h0) (E : sE Z h0 a) (C : sC Z h0 a) (V : sV Z h0 a t) (A : sA Z h0 t ck 3 [by8 ch0, by8 ch1, by8 ch2]) (hch0 : rg ch0) (hch1 : rg ch1) (hch2 : rg ch2) :
    Ctr l Z mn15 jdk_42_method_54_code 1 (some .int) [] ⟨1, 0, 0, 13⟩ #[(.ref a)] h0 (Just h0 (.int 3)) := by
  refine Ctr.of (plainFor_of_name pn_4) ?_
  intro p e s m below meth c s₁ hx H hml hret hown hnm hZ hlk X0 e0
  refine Goes.cast (show entryFrame m _ _ = mkF m 0 #[.val (.ref a)] [] from rfl) ?_
  refine gLoadAN 1 X0 hx (H d9_0) rfl rfl rfl ?_
  refine gGetF X0 hx hZ hown (ow hw 28 rfl) Via.refl e0 V (H d9_1) (pc' := 4) rfl (fun T1 X1 e1 => ?_)
  refine gArrLen X1 hx hZ e1 A (H d9_4) (pc' := 5) rfl ?_
  refine gLoadAN 6 X1 hx (H d9_5) rfl rfl rfl ?_
  refine gCallVJ X1 hx hZ (y := mn10) hown e1 (by rw [hml]; rfl) E (ow hw 44 rfl) (ow hw 45 rfl) (ow hw 47 rfl) (ow hw 46 rfl) (ow hw 11 rfl) (ow hw 48 rfl) (by decide) (argsL := []) (st := [(.int (3 : Int32))]) (c_coder l Z a0 hw a h0 hCpt C) (lenOf pd_0 rfl) (H d9_6) (pc' := 9) rfl rfl rfl rfl (by decide) (W := 1) (Nat.le_of_eq rfl) (by decide) (by decide) (by decide) ?_
  intro T2 X2 e2
  refine gIshr 10 X2 hx (H d9_9) rfl ?_
  show Goes p e below _ T2 (mkF m 10 #[.val (.ref a)] [(.int (3 : Int32))])
  exact gRetI X2 hx hlk hret (H d9_10) (by decide) (by decide) (⟨rfl, e2, rfl⟩)
theorem c_lastIndexOf_32 (l : Launch) (Z : State) (a0 : Array Value) (hw : ∀ d ∈ tables_1, d.before a0 Z = true) (a t : Addr) (ck : ClassId) (ch0 ch1 ch2 : Int32) (h0 : Heap) (hCpt : Cpt Z h0) (E : sE Z h0 a) (C : sC Z h0 a) (V : sV Z h0 a t) (A : sA Z h0 t ck 3 [by8 ch0, by8 ch1, by8 ch2]) (hch0 : rg ch0) (hch1 : rg ch1) (hch2 : rg ch2) :
    Ctr l Z mn14 jdk_42_method_83_code 3 (some .int) [] ⟨2, 0, 0, 42⟩ #[(.ref a), (.int (47 : Int32)), (.int (2 : Int32))] h0 (Just h0 (.int (lx3 ch0 ch1 ch2))) := by
  refine Ctr.of (plainFor_of_name pn_4) ?_
  intro p e s m below meth c s₁ hx H hml hret hown hnm hZ hlk X0 e0
  refine Goes.cast (show entryFrame m _ _ = mkF m 0 #[.val (.ref a), .val (.int (47 : Int32)), .val (.int (2 : Int32))] [] from rfl) ?_
  refine gLoadAN 1 X0 hx (H d12_0) rfl rfl rfl ?_
  refine gCallVJ X0 hx hZ (y := mn12) hown e0 (by rw [hml]; rfl) E (ow hw 55 rfl) (ow hw 56 rfl) (ow hw 58 rfl) (ow hw 57 rfl) (ow hw 11 rfl) (ow hw 59 rfl) (by decide) (argsL := []) (st := []) (c_isLatin1 l Z a0 hw a h0 hCpt C) (lenOf pd_3 rfl) (H d12_1) (pc' := 4) rfl rfl rfl rfl (by decide) (W := 0) (Nat.le_of_eq rfl) (by decide) (by decide) (by decide) ?_
  intro T1 X1 e1
  refine gIfEqT X1 hx (H d12_4) (pc' := 19) (by decide) (by decide) (pn := 7) rfl (fun (c4 : (1 : Int) = (0 : Int)) => ?_) (fun (c4 : ¬ (1 : Int) = (0 : Int)) => ?_)
  · exact absurd c4 (by decide)
  · refine gLoadAN 8 X1 hx (H d12_7) rfl rfl rfl ?_
    refine gGetF X1 hx hZ hown (ow hw 28 rfl) Via.refl e1 V (H d12_8) (pc' := 11) rfl (fun T2 X2 e2 => ?_)
    refine gLoadIN 12 X2 hx (H d12_11) rfl rfl ?_
    refine gLoadIN 13 X2 hx (H d12_12) rfl rfl ?_
    refine gCallSJ X2 hx hZ (y := mn19) hown e2 (by rw [hml]; rfl) (ow hw 60 rfl) (ow hw 61 rfl) (ow hw 62 rfl) (ow hw 63 rfl) (by decide) (argsL := [(.ref t), (.int (47 : Int32)), (.int (2 : Int32))]) (st := []) (c_lastIndexOf_3l l Z a0 hw t ck ch0 ch1 ch2 h0 A hch0 hch1 hch2) (lenOf pd_17 rfl) (H d12_13) (pc' := 16) rfl rfl rfl rfl (by decide) (W := 0) (Nat.le_of_eq rfl) (by decide) (by decide) (by decide) ?_
    intro T3 X3 e3
    refine gGoto X3 hx (H d12_16) (pc' := 28) (by decide) (by decide) ?_
    exact gRetI X3 hx hlk hret (H d12_28) (by decide) (by decide) (⟨rfl, e3, rfl⟩)
theorem c_lastIndexOf_3 (l : Launch) (Z : State) (a0 : Array Value) (hw : ∀ d ∈ tables_1, d.before a0 Z = true) (a t : Addr) (ck : ClassId) (ch0 ch1 ch2 : Int32) (h0 : Heap) (hCpt : Cpt Z h0) (E : sE Z h0 a) (C : sC Z h0 a) (V : sV Z h0 a t) (A : sA Z h0 t ck 3 [by8 ch0, by8 ch1, by8 ch2]) (hch0 : rg ch0) (hch1 : rg ch1) (hch2 : rg ch2) :
    Ctr l Z mn13 jdk_42_method_82_code 2 (some .int) [] ⟨3, 0, 0, 58⟩ #[(.ref a), (.int (47 : Int32))] h0 (Just h0 (.int (lx3 ch0 ch1 ch2))) := by
  refine Ctr.of (plainFor_of_name pn_4) ?_
  intro p e s m below meth c s₁ hx H hml hret hown hnm hZ hlk X0 e0
  refine Goes.cast (show entryFrame m _ _ = mkF m 0 #[.val (.ref a), .val (.int (47 : Int32))] [] from rfl) ?_
  refine gLoadAN 1 X0 hx (H d11_0) rfl rfl rfl ?_
  refine gLoadIN 2 X0 hx (H d11_1) rfl rfl ?_
  refine gLoadAN 3 X0 hx (H d11_2) rfl rfl rfl ?_
  refine gCallVJ X0 hx hZ (y := mn15) hown e0 (by rw [hml]; rfl) E (ow hw 39 rfl) (ow hw 40 rfl) (ow hw 42 rfl) (ow hw 41 rfl) (ow hw 11 rfl) (ow hw 43 rfl) (by decide) (argsL := []) (st := [(.int (47 : Int32)), (.ref a)]) (c_length_3 l Z a0 hw a t ck ch0 ch1 ch2 h0 hCpt E C V A hch0 hch1 hch2) (lenOf pd_1 rfl) (H d11_3) (pc' := 6) rfl rfl rfl rfl (by decide) (W := 2) (Nat.le_of_eq rfl) (by decide) (by decide) (by decide) ?_
  intro T1 X1 e1
  refine gIconst 7 X1 hx (v := (1 : Int32)) (H d11_6) rfl rfl ?_
  refine gIsub 8 X1 hx (H d11_7) rfl ?_
  show Goes p e below _ T1 (mkF m 8 #[.val (.ref a), .val (.int (47 : Int32))] [(.int (2 : Int32)), (.int (47 : Int32)), (.ref a)])
  refine gCallVJ X1 hx hZ (y := mn14) hown e1 (by rw [hml]; rfl) E (ow hw 50 rfl) (ow hw 51 rfl) (ow hw 53 rfl) (ow hw 52 rfl) (ow hw 11 rfl) (ow hw 54 rfl) (by decide) (argsL := [(.int (47 : Int32)), (.int (2 : Int32))]) (st := []) (c_lastIndexOf_32 l Z a0 hw a t ck ch0 ch1 ch2 h0 hCpt E C V A hch0 hch1 hch2) (lenOf pd_6 rfl) (H d11_8) (pc' := 11) rfl rfl rfl rfl (by decide) (W := 0) (Nat.le_of_eq rfl) (by decide) (by decide) (by decide) ?_
  intro T2 X2 e2
  exact gRetI X2 hx hlk hret (H d11_11) (by decide) (by decide) (⟨rfl, e2, rfl⟩)
theorem c_nm_3_m (l : Launch) (Z : State) (a0 : Array Value) (hw : ∀ d ∈ tables_1, d.before a0 Z = true) (a t : Addr) (ck : ClassId) (ch0 ch1 ch2 : Int32) (h0 : Heap) (hSio : Sio Z h0) (hCpt : Cpt Z h0) (E : sE Z h0 a) (C : sC Z h0 a) (V : sV Z h0 a t) (A : sA Z h0 t ck 3 [by8 ch0, by8 ch1, by8 ch2]) (hch0 : rg ch0) (hch1 : rg ch1) (hch2 : rg ch2) (d0 : ¬ ch0.toInt = 47) (d1 : ¬ ch1.toInt = 47) (d2 : ¬ ch2.toInt = 47) :
    Ctr l Z mn0 prog_18_method_5_code 2 (some (.object "java/lang/String")) [] ⟨4, 0, 0, 73⟩ #[(.ref a)] h0 (Just h0 .null) := by
  refine Ctr.of (plainFor_of_name pn_0) ?_
  intro p e s m below meth c s₁ hx H hml hret hown hnm hZ hlk X0 e0
  refine Goes.cast (show entryFrame m _ _ = mkF m 0 #[.val (.ref a), .unset] [] from rfl) ?_
  refine gLoadAN 1 X0 hx (H d27_0) rfl rfl rfl ?_
  refine gBipush 3 X0 hx (v := (47 : Int32)) (H d27_1) rfl rfl ?_
  refine gCallVJ X0 hx hZ (y := mn13) hown e0 (by rw [hml]; rfl) E (ow hw 34 rfl) (ow hw 35 rfl) (ow hw 37 rfl) (ow hw 36 rfl) (ow hw 11 rfl) (ow hw 38 rfl) (by decide) (argsL := [(.int (47 : Int32))]) (st := []) (c_lastIndexOf_3 l Z a0 hw a t ck ch0 ch1 ch2 h0 hCpt E C V A hch0 hch1 hch2) (lenOf pd_4 rfl) (H d27_3) (pc' := 6) rfl rfl rfl rfl (by decide) (W := 0) (Nat.le_of_eq rfl) (by decide) (by decide) (by decide) ?_
  intro T1 X1 e1
  rw [show lx3 ch0 ch1 ch2 = -1 from by rw [lx3, if_neg d2, if_neg d1, if_neg d0]]
  refine gStoreIN 7 X1 hx (H d27_6) (l' := #[.val (.ref a), .val (.int (-1 : Int32))]) rfl rfl ?_
  refine gLoadIN 8 X1 hx (H d27_7) rfl rfl ?_
  refine gIfLe X1 hx (H d27_8) (pc' := 20) (by decide) (by decide) (pn := 11) rfl (fun (c8 : (-1 : Int) ≤ (0 : Int)) => ?_) (fun (c8 : (0 : Int) < (-1 : Int)) => ?_)
  · refine gNull 21 X1 hx (H d27_20) rfl ?_
    exact gRetA X1 hx hlk hret rfl rfl (H d27_21) (by decide) (by decide) (⟨rfl, e1, rfl⟩)
  · exact absurd c8 (by decide)
theorem c_nm_3_0 (l : Launch) (Z : State) (a0 : Array Value) (hw : ∀ d ∈ tables_1, d.before a0 Z = true) (a t : Addr) (ck : ClassId) (ch0 ch1 ch2 : Int32) (h0 : Heap) (hSio : Sio Z h0) (hCpt : Cpt Z h0) (E : sE Z h0 a) (C : sC Z h0 a) (V : sV Z h0 a t) (A : sA Z h0 t ck 3 [by8 ch0, by8 ch1, by8 ch2]) (hch0 : rg ch0) (hch1 : rg ch1) (hch2 : rg ch2) (d1 : ¬ ch1.toInt = 47) (d2 : ¬ ch2.toInt = 47) (dq : ch0.toInt = 47) :
    Ctr l Z mn0 prog_18_method_5_code 2 (some (.object "java/lang/String")) [] ⟨4, 0, 0, 73⟩ #[(.ref a)] h0 (Just h0 .null) := by
  refine Ctr.of (plainFor_of_name pn_0) ?_
  intro p e s m below meth c s₁ hx H hml hret hown hnm hZ hlk X0 e0
  refine Goes.cast (show entryFrame m _ _ = mkF m 0 #[.val (.ref a), .unset] [] from rfl) ?_
  refine gLoadAN 1 X0 hx (H d27_0) rfl rfl rfl ?_
  refine gBipush 3 X0 hx (v := (47 : Int32)) (H d27_1) rfl rfl ?_
  refine gCallVJ X0 hx hZ (y := mn13) hown e0 (by rw [hml]; rfl) E (ow hw 34 rfl) (ow hw 35 rfl) (ow hw 37 rfl) (ow hw 36 rfl) (ow hw 11 rfl) (ow hw 38 rfl) (by decide) (argsL := [(.int (47 : Int32))]) (st := []) (c_lastIndexOf_3 l Z a0 hw a t ck ch0 ch1 ch2 h0 hCpt E C V A hch0 hch1 hch2) (lenOf pd_4 rfl) (H d27_3) (pc' := 6) rfl rfl rfl rfl (by decide) (W := 0) (Nat.le_of_eq rfl) (by decide) (by decide) (by decide) ?_
  intro T1 X1 e1
  rw [show lx3 ch0 ch1 ch2 = 0 from by rw [lx3, if_neg d2, if_neg d1, if_pos dq]]
  refine gStoreIN 7 X1 hx (H d27_6) (l' := #[.val (.ref a), .val (.int (0 : Int32))]) rfl rfl ?_
  refine gLoadIN 8 X1 hx (H d27_7) rfl rfl ?_
  refine gIfLe X1 hx (H d27_8) (pc' := 20) (by decide) (by decide) (pn := 11) rfl (fun (c8 : (0 : Int) ≤ (0 : Int)) => ?_) (fun (c8 : (0 : Int) < (0 : Int)) => ?_)
  · refine gNull 21 X1 hx (H d27_20) rfl ?_
    exact gRetA X1 hx hlk hret rfl rfl (H d27_21) (by decide) (by decide) (⟨rfl, e1, rfl⟩)
  · exact absurd c8 (by decide)
theorem c_min_3_1 (l : Launch) (Z : State) (a0 : Array Value) (hw : ∀ d ∈ tables_1, d.before a0 Z = true)  (h0 : Heap)  :
    Ctr l Z mn4 jdk_29_method_69_code 2 (some .int) [] ⟨0, 0, 0, 0⟩ #[(.int (3 : Int32)), (.int (1 : Int32))] h0 (Just h0 (.int (1))) := by
  refine Ctr.of (Jvm.Free.JP.mathPlain rfl (by decide +kernel)) ?_
  intro p e s m below meth c s₁ hx H hml hret hown hnm hZ hlk X0 e0
  refine Goes.cast (show entryFrame m _ _ = mkF m 0 #[.val (.int (3 : Int32)), .val (.int (1 : Int32))] [] from rfl) ?_
  refine gLoadIN 1 X0 hx (H d1_0) rfl rfl ?_
  refine gLoadIN 2 X0 hx (H d1_1) rfl rfl ?_
  refine gIcmpGt X0 hx (H d1_2) (pc' := 9) (by decide) (by decide) (pn := 5) rfl (fun (c2 : (1 : Int) < (3 : Int)) => ?_) (fun (c2 : (3 : Int) ≤ (1 : Int)) => ?_)
  · refine gLoadIN 10 X0 hx (H d1_9) rfl rfl ?_
    exact gRetI X0 hx hlk hret (H d1_10) (by decide) (by decide) (⟨rfl, e0, rfl⟩)
  · exact absurd c2 (by decide)
theorem c_cor_3_0_1b (l : Launch) (Z : State) (a0 : Array Value) (hw : ∀ d ∈ tables_1, d.before a0 Z = true) (t : Addr) (ck : ClassId) (ch0 ch1 ch2 : Int32) (h0 : Heap) (A : sA Z h0 t ck 3 [by8 ch0, by8 ch1, by8 ch2]) :
    Ctr l Z mn27 jdk_65_method_133_code 5 (some (.array .byte)) [] ⟨1, 1, 1, 24⟩ #[(.ref t), (.int (0 : Int32)), (.int (1 : Int32))] h0 (fun v h L => ∃ (b : Addr) (ct : ClassId), v = some (.ref b) ∧ h0.size ≤ b ∧ Fr h0.size L ∧ Keep h0 h [] ∧ sA Z h b ct 1 [by8 ch0]) := by
  refine Ctr.of (plainFor_of_name pn_7) ?_
  intro p e s m below meth c s₁ hx H hml hret hown hnm hZ hlk X0 e0
  refine Goes.cast (show entryFrame m _ _ = mkF m 0 #[.val (.ref t), .val (.int (0 : Int32)), .val (.int (1 : Int32)), .unset, .unset] [] from rfl) ?_
  refine gLoadIN 1 X0 hx (H d23_0) rfl rfl ?_
  refine gLoadIN 2 X0 hx (H d23_1) rfl rfl ?_
  refine gCallS X0 hx hZ (y := mn25) hown e0 (by rw [hml]; rfl) (ow hw 105 rfl) (ow hw 106 rfl) (ow hw 100 rfl) (ow hw 107 rfl) (by decide) (argsL := [(.int (0 : Int32)), (.int (1 : Int32))]) (st := []) (c_clen_0_1 l Z a0 hw h0) (lenOf pd_8 rfl) (H d23_2) (pc' := 5) rfl rfl (by decide) (W := 0) (Nat.le_of_eq rfl) (by decide) (by decide) (by decide) ?_
  intro T1 v1 L1 X1 hQ1
  obtain ⟨rfl, eq1, rfl⟩ := hQ1
  rw [List.append_nil] at X1
  refine gLoadIN 6 X1 hx (H d23_5) rfl rfl ?_
  refine gLoadIN 7 X1 hx (H d23_6) rfl rfl ?_
  refine gIsub 8 X1 hx (H d23_7) rfl ?_
  show Goes p e below _ T1 (mkF m 8 #[.val (.ref t), .val (.int (0 : Int32)), .val (.int (1 : Int32)), .unset, .unset] [(.int (1 : Int32))])
  refine gStoreIN 9 X1 hx (H d23_8) (l' := #[.val (.ref t), .val (.int (0 : Int32)), .val (.int (1 : Int32)), .val (.int (1 : Int32)), .unset]) rfl rfl ?_
  refine gLoadIN 10 X1 hx (H d23_9) rfl rfl ?_
  refine gNewP X1 hx hZ (ow hw 23 rfl) eq1 (n := (1 : Int32)) (H d23_10) (by decide) (cap := 1) (by decide) (by decide) (by decide) (by decide) 1 (pc' := 12) rfl (fun T2 h2 b2 ck2 X2 e2 g2 E2 A2 => ?_)
  have ne_t_b2 : t ≠ b2 := Nat.ne_of_lt (Nat.lt_of_lt_of_eq A.lt g2.symm)
  have f2_0 := A.ext E2
  have sz_b2 : h0.size ≤ b2 := Nat.le_trans (Nat.le_refl _) (Nat.le_of_eq g2.symm)
  have zs2 : h0.size ≤ h2.size := Nat.le_trans (Nat.le_refl _) E2.1
  have K2 : Keep h0 h2 [] := (Keep.refl h0 []).ext E2
  have V2 : Arv Z h2 b2 ck2 .byte (1 : Int32) [(.int (0 : Int32))] (.int (0 : Int32)) := A2
  refine gStoreA 14 X2 hx (H d23_12) (l' := #[.val (.ref t), .val (.int (0 : Int32)), .val (.int (1 : Int32)), .val (.int (1 : Int32)), .val (.ref b2)]) rfl rfl rfl ?_
  refine gLoadAN 15 X2 hx (H d23_14) rfl rfl rfl ?_
  refine gLoadIN 16 X2 hx (H d23_15) rfl rfl ?_
  refine gLoadA 18 X2 hx (H d23_16) rfl rfl rfl ?_
  refine gIconst 19 X2 hx (v := (0 : Int32)) (H d23_18) rfl rfl ?_
  refine gLoadAN 20 X2 hx (H d23_19) rfl rfl rfl ?_
  refine gArrLen X2 hx hZ e2 f2_0 (H d23_20) (pc' := 21) rfl ?_
  refine gLoadIN 22 X2 hx (H d23_21) rfl rfl ?_
  refine gIsub 23 X2 hx (H d23_22) rfl ?_
  show Goes p e below _ T2 (mkF m 23 #[.val (.ref t), .val (.int (0 : Int32)), .val (.int (1 : Int32)), .val (.int (1 : Int32)), .val (.ref b2)] [(.int (3 : Int32)), (.int (0 : Int32)), (.ref b2), (.int (0 : Int32)), (.ref t)])
  refine gLoadIN 24 X2 hx (H d23_23) rfl rfl ?_
  refine gCallSJ X2 hx hZ (y := mn4) hown e2 (by rw [hml]; rfl) (ow hw 108 rfl) (ow hw 68 rfl) (ow hw 69 rfl) (ow hw 70 rfl) (by decide) (argsL := [(.int (3 : Int32)), (.int (1 : Int32))]) (st := [(.int (0 : Int32)), (.ref b2), (.int (0 : Int32)), (.ref t)]) (c_min_3_1 l Z a0 hw h2) (lenOf pd_6 rfl) (H d23_24) (pc' := 27) rfl rfl rfl rfl (by decide) (W := 4) (Nat.le_of_eq rfl) (by decide) (by decide) (by decide) ?_
  intro T3 X3 e3
  refine gArrCopy X3 hx hZ hown (ow hw 109 rfl) (ow hw 112 rfl) (ow hw 110 rfl) (ow hw 111 rfl) e3 (dv := (.int 0)) (dd := (.int 0)) f2_0 V2 rfl (by decide) (by decide) (by decide) (by decide) (by decide) (by decide) (Fr.nil h0.size) sz_b2 (by rw [hml]; rfl) (H d23_27) (pc' := 30) rfl (by decide) (W := 0) (Nat.le_of_eq rfl) (by decide) (fun T4 h4 L4 X4 e4 N4 K4 A4 => ?_)
  have KK : Keep h0 h4 [] := K2.trans K4 (allS (Or.inr sz_b2) all0)
  have VV : Arv Z h4 b2 ck2 .byte 1 [by8 ch0] (.int 0) := A4
  refine gLoadA 32 X4 hx (H d23_30) rfl rfl rfl ?_
  exact gRetA X4 hx hlk hret rfl rfl (H d23_32) (by decide) (by decide) (⟨_, _, rfl, sz_b2, N4, by rw [e4]; exact KK, by rw [e4]; exact VV⟩)
theorem c_cor_3_0_1 (l : Launch) (Z : State) (a0 : Array Value) (hw : ∀ d ∈ tables_1, d.before a0 Z = true) (t : Addr) (ck : ClassId) (ch0 ch1 ch2 : Int32) (h0 : Heap) (A : sA Z h0 t ck 3 [by8 ch0, by8 ch1, by8 ch2]) :
    Ctr l Z mn26 jdk_65_method_132_code 3 (some (.array .byte)) [] ⟨2, 1, 1, 40⟩ #[(.ref t), (.int (0 : Int32)), (.int (1 : Int32))] h0 (fun v h L => ∃ (b : Addr) (ct : ClassId), v = some (.ref b) ∧ h0.size ≤ b ∧ Fr h0.size L ∧ Keep h0 h [] ∧ sA Z h b ct 1 [by8 ch0]) := by
  refine Ctr.of (plainFor_of_name pn_7) ?_
  intro p e s m below meth c s₁ hx H hml hret hown hnm hZ hlk X0 e0
  refine Goes.cast (show entryFrame m _ _ = mkF m 0 #[.val (.ref t), .val (.int (0 : Int32)), .val (.int (1 : Int32))] [] from rfl) ?_
  refine gLoadIN 1 X0 hx (H d22_0) rfl rfl ?_
  refine gIfNeT X0 hx (H d22_1) (pc' := 10) (by decide) (by decide) (pn := 4) rfl (fun (c1 : ¬ (0 : Int) = (0 : Int)) => ?_) (fun (c1 : (0 : Int) = (0 : Int)) => ?_)
  · exact absurd c1 (by decide)
  · refine gLoadIN 5 X0 hx (H d22_4) rfl rfl ?_
    refine gLoadAN 6 X0 hx (H d22_5) rfl rfl rfl ?_
    refine gArrLen X0 hx hZ e0 A (H d22_6) (pc' := 7) rfl ?_
    refine gIcmpEqT X0 hx (H d22_7) (pc' := 17) (by decide) (by decide) (pn := 10) rfl (fun (c7 : (1 : Int) = (3 : Int)) => ?_) (fun (c7 : ¬ (1 : Int) = (3 : Int)) => ?_)
    · exact absurd c7 (by decide)
    · refine gLoadAN 11 X0 hx (H d22_10) rfl rfl rfl ?_
      refine gLoadIN 12 X0 hx (H d22_11) rfl rfl ?_
      refine gLoadIN 13 X0 hx (H d22_12) rfl rfl ?_
      refine gCallS X0 hx hZ (y := mn27) hown e0 (by rw [hml]; rfl) (ow hw 102 rfl) (ow hw 103 rfl) (ow hw 100 rfl) (ow hw 104 rfl) (by decide) (argsL := [(.ref t), (.int (0 : Int32)), (.int (1 : Int32))]) (st := []) (c_cor_3_0_1b l Z a0 hw t ck ch0 ch1 ch2 h0 A) (lenOf pd_19 rfl) (H d22_13) (pc' := 16) rfl rfl (by decide) (W := 0) (Nat.le_of_eq rfl) (by decide) (by decide) (by decide) ?_
      intro T1 v1 L1 X1 hQ1
      obtain ⟨b1, ct1, rfl, g1, g2, g3, g4⟩ := hQ1
      exact gRetA X1 hx hlk hret rfl rfl (H d22_16) (by decide) (by decide) (⟨_, _, rfl, g1, g2, g3, g4⟩)
theorem c_newString_3_0_1 (l : Launch) (Z : State) (a0 : Array Value) (hw : ∀ d ∈ tables_1, d.before a0 Z = true) (t : Addr) (ck : ClassId) (ch0 ch1 ch2 : Int32) (h0 : Heap) (A : sA Z h0 t ck 3 [by8 ch0, by8 ch1, by8 ch2]) :
    Ctr l Z mn20 jdk_43_method_47_code 3 (some (.object "java/lang/String")) [] ⟨3, 2, 5, 57⟩ #[(.ref t), (.int (0 : Int32)), (.int (1 : Int32))] h0 (SQd Z h0 1 [by8 ch0]) := by
  refine Ctr.of (plainFor_of_name pn_5) ?_
  intro p e s m below meth c s₁ hx H hml hret hown hnm hZ hlk X0 e0
  refine Goes.cast (show entryFrame m _ _ = mkF m 0 #[.val (.ref t), .val (.int (0 : Int32)), .val (.int (1 : Int32))] [] from rfl) ?_
  refine gLoadIN 1 X0 hx (H d16_0) rfl rfl ?_
  refine gIfNeT X0 hx (H d16_1) (pc' := 7) (by decide) (by decide) (pn := 4) rfl (fun (c1 : ¬ (1 : Int) = (0 : Int)) => ?_) (fun (c1 : (1 : Int) = (0 : Int)) => ?_)
  · refine gNew X0 hx hZ hown (ow hw 97 rfl) (ow hw 10 rfl) (ow hw 11 rfl) e0 (H d16_7) (pc' := 10) rfl (by decide) (by decide) (fun T1 h1 b1 X1 e1 g1 E1 A1 D1 => ?_)
    have ne_t_b1 : t ≠ b1 := Nat.ne_of_lt (Nat.lt_of_lt_of_eq A.lt g1.symm)
    have f1_0 := A.ext E1
    have sz_b1 : h0.size ≤ b1 := Nat.le_trans (Nat.le_refl _) (Nat.le_of_eq g1.symm)
    have zs1 : h0.size ≤ h1.size := Nat.le_trans (Nat.le_refl _) E1.1
    have K1 : Keep h0 h1 [] := (Keep.refl h0 []).ext E1
    have F1_value : Fld Z h1 b1 "java/lang/String" "value" "[B" .null := D1 (Or.inr (ow hw 24 rfl)) (ty := (.array .byte)) (by decide)
    have F1_coder : Fld Z h1 b1 "java/lang/String" "coder" "B" (.int (0 : Int32)) := D1 (Or.inr (ow hw 25 rfl)) (ty := .byte) (by decide)
    refine gDup 11 X1 hx (H d16_10) rfl rfl ?_
    refine gLoadAN 12 X1 hx (H d16_11) rfl rfl rfl ?_
    refine gLoadIN 13 X1 hx (H d16_12) rfl rfl ?_
    refine gLoadIN 14 X1 hx (H d16_13) rfl rfl ?_
    refine gLoadIN 15 X1 hx (H d16_14) rfl rfl ?_
    refine gIadd 16 X1 hx (H d16_15) rfl ?_
    show Goes p e below _ T1 (mkF m 16 #[.val (.ref t), .val (.int (0 : Int32)), .val (.int (1 : Int32))] [(.int (1 : Int32)), (.int (0 : Int32)), (.ref t), (.ref b1), (.ref b1)])
    refine gCallS X1 hx hZ (y := mn26) hown e1 (by rw [hml]; rfl) (ow hw 98 rfl) (ow hw 99 rfl) (ow hw 100 rfl) (ow hw 101 rfl) (by decide) (argsL := [(.ref t), (.int (0 : Int32)), (.int (1 : Int32))]) (st := [(.ref b1), (.ref b1)]) (c_cor_3_0_1 l Z a0 hw t ck ch0 ch1 ch2 h1 f1_0) (lenOf pd_19 rfl) (H d16_16) (pc' := 19) rfl rfl (by decide) (W := 2) (Nat.le_of_eq rfl) (by decide) (by decide) (by decide) ?_
    intro T2 v2 L2 X2 hQ2
    obtain ⟨q2, ctq2, rfl, gq2, Nq2, Kq2, Aq2⟩ := hQ2
    have N2 := Fr.app (Fr.nil h0.size) (fun y hy => Nat.le_trans zs1 (Nq2 y hy))
    have K2 : Keep h0 T2.heap [] := K1.trans Kq2 all0
    have f2_0 := f1_0.keep Kq2 nin0
    have f2_1 := A1.keep Kq2
    have f2_2 := F1_value.keep Kq2 nin0
    have f2_3 := F1_coder.keep Kq2 nin0
    have zs2 := Nat.le_trans zs1 Kq2.1
    have nq2 : q2 ≠ b1 := Ne.symm (Nat.ne_of_lt (Nat.lt_of_lt_of_le A1.lt gq2))
    refine gIconst 20 X2 hx (v := (0 : Int32)) (H d16_19) rfl rfl ?_
    refine gCallI X2 hx hZ (y := mn6) rfl hown rfl (by rw [hml]; rfl) (ow hw 113 rfl) (ow hw 114 rfl) (ow hw 11 rfl) (ow hw 115 rfl) (by decide) (argsL := [(.ref q2), (.int (0 : Int32))]) (st := [(.ref b1)]) (c_sinitB l Z a0 hw b1 q2 h0.size T2.heap sz_b1 f2_1 f2_3 f2_2) (lenOf pd_15 rfl) (H d16_20) (pc' := 23) rfl rfl (by decide) (W := 1) (Nat.le_of_eq rfl) (by decide) (by decide) (by decide) ?_
    intro T3 v3 L3 X3 hQ3
    obtain ⟨rfl, Nq3, Kq3, Eq3, Cq3, Vq3⟩ := hQ3
    have N3 := Fr.app N2 Nq3
    have K3 : Keep h0 T3.heap [] := K2.trans Kq3 (allS (Or.inr sz_b1) all0)
    have Ak3 := Aq2.keep Kq3 (ninS nq2 nin0)
    exact gRetA X3 hx hlk hret rfl rfl (H d16_23) (by decide) (by decide) (⟨b1, q2, ctq2, rfl, N3, K3, Eq3, Cq3, Vq3, Ak3⟩)
  · exact absurd c1 (by decide)
theorem c_sub_3_0_1 (l : Launch) (Z : State) (a0 : Array Value) (hw : ∀ d ∈ tables_1, d.before a0 Z = true) (a t : Addr) (ck : ClassId) (ch0 ch1 ch2 : Int32) (h0 : Heap) (hSio : Sio Z h0) (hCpt : Cpt Z h0) (E : sE Z h0 a) (C : sC Z h0 a) (V : sV Z h0 a t) (A : sA Z h0 t ck 3 [by8 ch0, by8 ch1, by8 ch2]) (hch0 : rg ch0) (hch1 : rg ch1) (hch2 : rg ch2) :
    Ctr l Z mn16 jdk_42_method_92_code 5 (some (.object "java/lang/String")) [] ⟨4, 2, 5, 71⟩ #[(.ref a), (.int (0 : Int32)), (.int (1 : Int32))] h0 (SQd Z h0 1 [by8 ch0]) := by
  refine Ctr.of (plainFor_of_name pn_4) ?_
  intro p e s m below meth c s₁ hx H hml hret hown hnm hZ hlk X0 e0
  refine Goes.cast (show entryFrame m _ _ = mkF m 0 #[.val (.ref a), .val (.int (0 : Int32)), .val (.int (1 : Int32)), .unset, .unset] [] from rfl) ?_
  refine gLoadAN 1 X0 hx (H d13_0) rfl rfl rfl ?_
  refine gCallVJ X0 hx hZ (y := mn15) hown e0 (by rw [hml]; rfl) E (ow hw 39 rfl) (ow hw 40 rfl) (ow hw 42 rfl) (ow hw 41 rfl) (ow hw 11 rfl) (ow hw 43 rfl) (by decide) (argsL := []) (st := []) (c_length_3 l Z a0 hw a t ck ch0 ch1 ch2 h0 hCpt E C V A hch0 hch1 hch2) (lenOf pd_1 rfl) (H d13_1) (pc' := 4) rfl rfl rfl rfl (by decide) (W := 0) (Nat.le_of_eq rfl) (by decide) (by decide) (by decide) ?_
  intro T1 X1 e1
  refine gStoreIN 5 X1 hx (H d13_4) (l' := #[.val (.ref a), .val (.int (0 : Int32)), .val (.int (1 : Int32)), .val (.int (3 : Int32)), .unset]) rfl rfl ?_
  refine gLoadIN 6 X1 hx (H d13_5) rfl rfl ?_
  refine gLoadIN 7 X1 hx (H d13_6) rfl rfl ?_
  refine gLoadIN 8 X1 hx (H d13_7) rfl rfl ?_
  refine gCallS X1 hx hZ (y := mn9) hown e1 (by rw [hml]; rfl) (ow hw 86 rfl) (ow hw 87 rfl) (ow hw 11 rfl) (ow hw 88 rfl) (by decide) (argsL := [(.int (0 : Int32)), (.int (1 : Int32)), (.int (3 : Int32))]) (st := []) (c_chkft l Z a0 hw (0 : Int32) (1 : Int32) (3 : Int32) h0 (by decide) (by decide) (by decide) hSio) (lenOf pd_10 rfl) (H d13_8) (pc' := 11) rfl rfl (by decide) (W := 0) (Nat.le_of_eq rfl) (by decide) (by decide) (by decide) ?_
  intro T2 v2 L2 X2 hQ2
  obtain ⟨rfl, eq2, rfl⟩ := hQ2
  rw [List.append_nil] at X2
  refine gLoadIN 12 X2 hx (H d13_11) rfl rfl ?_
  refine gIfNeT X2 hx (H d13_12) (pc' := 22) (by decide) (by decide) (pn := 15) rfl (fun (c12 : ¬ (0 : Int) = (0 : Int)) => ?_) (fun (c12 : (0 : Int) = (0 : Int)) => ?_)
  · exact absurd c12 (by decide)
  · refine gLoadIN 16 X2 hx (H d13_15) rfl rfl ?_
    refine gLoadIN 17 X2 hx (H d13_16) rfl rfl ?_
    refine gIcmpNeT X2 hx (H d13_17) (pc' := 22) (by decide) (by decide) (pn := 20) rfl (fun (c17 : ¬ (1 : Int) = (3 : Int)) => ?_) (fun (c17 : (1 : Int) = (3 : Int)) => ?_)
    · refine gLoadIN 23 X2 hx (H d13_22) rfl rfl ?_
      refine gLoadIN 24 X2 hx (H d13_23) rfl rfl ?_
      refine gIsub 25 X2 hx (H d13_24) rfl ?_
      show Goes p e below _ T2 (mkF m 25 #[.val (.ref a), .val (.int (0 : Int32)), .val (.int (1 : Int32)), .val (.int (3 : Int32)), .unset] [(.int (1 : Int32))])
      refine gStoreI 27 X2 hx (H d13_25) (l' := #[.val (.ref a), .val (.int (0 : Int32)), .val (.int (1 : Int32)), .val (.int (3 : Int32)), .val (.int (1 : Int32))]) rfl rfl ?_
      refine gLoadAN 28 X2 hx (H d13_27) rfl rfl rfl ?_
      refine gCallVJ X2 hx hZ (y := mn12) hown eq2 (by rw [hml]; rfl) E (ow hw 55 rfl) (ow hw 56 rfl) (ow hw 58 rfl) (ow hw 57 rfl) (ow hw 11 rfl) (ow hw 59 rfl) (by decide) (argsL := []) (st := []) (c_isLatin1 l Z a0 hw a h0 hCpt C) (lenOf pd_3 rfl) (H d13_28) (pc' := 31) rfl rfl rfl rfl (by decide) (W := 0) (Nat.le_of_eq rfl) (by decide) (by decide) (by decide) ?_
      intro T3 X3 e3
      refine gIfEqT X3 hx (H d13_31) (pc' := 47) (by decide) (by decide) (pn := 34) rfl (fun (c31 : (1 : Int) = (0 : Int)) => ?_) (fun (c31 : ¬ (1 : Int) = (0 : Int)) => ?_)
      · exact absurd c31 (by decide)
      · refine gLoadAN 35 X3 hx (H d13_34) rfl rfl rfl ?_
        refine gGetF X3 hx hZ hown (ow hw 28 rfl) Via.refl e3 V (H d13_35) (pc' := 38) rfl (fun T4 X4 e4 => ?_)
        refine gLoadIN 39 X4 hx (H d13_38) rfl rfl ?_
        refine gLoadI 41 X4 hx (H d13_39) rfl rfl ?_
        refine gCallS X4 hx hZ (y := mn20) hown e4 (by rw [hml]; rfl) (ow hw 94 rfl) (ow hw 95 rfl) (ow hw 62 rfl) (ow hw 96 rfl) (by decide) (argsL := [(.ref t), (.int (0 : Int32)), (.int (1 : Int32))]) (st := []) (c_newString_3_0_1 l Z a0 hw t ck ch0 ch1 ch2 h0 A) (lenOf pd_18 rfl) (H d13_41) (pc' := 44) rfl rfl (by decide) (W := 0) (Nat.le_of_eq rfl) (by decide) (by decide) (by decide) ?_
        intro T5 v5 L5 X5 hQ5
        obtain ⟨r5, t5, ct5, rfl, Nq5, Kq5, Eq5, Cq5, Vq5, Aq5⟩ := hQ5
        have N5 := Fr.app (Fr.nil h0.size) (fun y hy => Nat.le_trans (Nat.le_refl _) (Nq5 y hy))
        have f5_0 := E.keep Kq5
        have f5_1 := C.keep Kq5 nin0
        have f5_2 := V.keep Kq5 nin0
        have f5_3 := A.keep Kq5 nin0
        have f5_4 := own_cpt_keep hCpt Kq5 ns0
        have zs5 := Nat.le_trans (Nat.le_refl _) Kq5.1
        have K5 : Keep h0 T5.heap [] := (Keep.refl h0 []).trans Kq5 all0
        refine gGoto X5 hx (H d13_44) (pc' := 57) (by decide) (by decide) ?_
        exact gRetA X5 hx hlk hret rfl rfl (H d13_57) (by decide) (by decide) (⟨r5, t5, ct5, rfl, N5, K5, Eq5, Cq5, Vq5, Aq5⟩)
    · exact absurd c17 (by decide)
theorem c_nm_3_1 (l : Launch) (Z : State) (a0 : Array Value) (hw : ∀ d ∈ tables_1, d.before a0 Z = true) (a t : Addr) (ck : ClassId) (ch0 ch1 ch2 : Int32) (h0 : Heap) (hSio : Sio Z h0) (hCpt : Cpt Z h0) (E : sE Z h0 a) (C : sC Z h0 a) (V : sV Z h0 a t) (A : sA Z h0 t ck 3 [by8 ch0, by8 ch1, by8 ch2]) (hch0 : rg ch0) (hch1 : rg ch1) (hch2 : rg ch2) (d2 : ¬ ch2.toInt = 47) (dq : ch1.toInt = 47) :
    Ctr l Z mn0 prog_18_method_5_code 2 (some (.object "java/lang/String")) [] ⟨5, 2, 5, 87⟩ #[(.ref a)] h0 (SQd Z h0 1 [by8 ch0]) := by
  refine Ctr.of (plainFor_of_name pn_0) ?_
  intro p e s m below meth c s₁ hx H hml hret hown hnm hZ hlk X0 e0
  refine Goes.cast (show entryFrame m _ _ = mkF m 0 #[.val (.ref a), .unset] [] from rfl) ?_
  refine gLoadAN 1 X0 hx (H d27_0) rfl rfl rfl ?_
  refine gBipush 3 X0 hx (v := (47 : Int32)) (H d27_1) rfl rfl ?_
  refine gCallVJ X0 hx hZ (y := mn13) hown e0 (by rw [hml]; rfl) E (ow hw 34 rfl) (ow hw 35 rfl) (ow hw 37 rfl) (ow hw 36 rfl) (ow hw 11 rfl) (ow hw 38 rfl) (by decide) (argsL := [(.int (47 : Int32))]) (st := []) (c_lastIndexOf_3 l Z a0 hw a t ck ch0 ch1 ch2 h0 hCpt E C V A hch0 hch1 hch2) (lenOf pd_4 rfl) (H d27_3) (pc' := 6) rfl rfl rfl rfl (by decide) (W := 0) (Nat.le_of_eq rfl) (by decide) (by decide) (by decide) ?_
  intro T1 X1 e1
  rw [show lx3 ch0 ch1 ch2 = 1 from by rw [lx3, if_neg d2, if_pos dq]]
  refine gStoreIN 7 X1 hx (H d27_6) (l' := #[.val (.ref a), .val (.int (1 : Int32))]) rfl rfl ?_
  refine gLoadIN 8 X1 hx (H d27_7) rfl rfl ?_
  refine gIfLe X1 hx (H d27_8) (pc' := 20) (by decide) (by decide) (pn := 11) rfl (fun (c8 : (1 : Int) ≤ (0 : Int)) => ?_) (fun (c8 : (0 : Int) < (1 : Int)) => ?_)
  · exact absurd c8 (by decide)
  · refine gLoadAN 12 X1 hx (H d27_11) rfl rfl rfl ?_
    refine gIconst 13 X1 hx (v := (0 : Int32)) (H d27_12) rfl rfl ?_
    refine gLoadIN 14 X1 hx (H d27_13) rfl rfl ?_
    refine gCallV X1 hx hZ (y := mn16) hown e1 (by rw [hml]; rfl) E (ow hw 81 rfl) (ow hw 82 rfl) (ow hw 84 rfl) (ow hw 83 rfl) (ow hw 11 rfl) (ow hw 85 rfl) (by decide) (argsL := [(.int (0 : Int32)), (.int (1 : Int32))]) (st := []) (c_sub_3_0_1 l Z a0 hw a t ck ch0 ch1 ch2 h0 hSio hCpt E C V A hch0 hch1 hch2) (lenOf pd_7 rfl) (H d27_14) (pc' := 17) rfl rfl (by decide) (W := 0) (Nat.le_of_eq rfl) (by decide) (by decide) (by decide) ?_
    intro T2 v2 L2 X2 hQ2
    obtain ⟨r2, t2, ct2, rfl, Nq2, Kq2, Eq2, Cq2, Vq2, Aq2⟩ := hQ2
    have N2 := Fr.app (Fr.nil h0.size) (fun y hy => Nat.le_trans (Nat.le_refl _) (Nq2 y hy))
    have f2_0 := E.keep Kq2
    have f2_1 := C.keep Kq2 nin0
    have f2_2 := V.keep Kq2 nin0
    have f2_3 := A.keep Kq2 nin0
    have f2_4 := own_cpt_keep hCpt Kq2 ns0
    have zs2 := Nat.le_trans (Nat.le_refl _) Kq2.1
    have K2 : Keep h0 T2.heap [] := (Keep.refl h0 []).trans Kq2 all0
    refine gGoto X2 hx (H d27_17) (pc' := 21) (by decide) (by decide) ?_
    exact gRetA X2 hx hlk hret rfl rfl (H d27_21) (by decide) (by decide) (⟨r2, t2, ct2, rfl, N2, K2, Eq2, Cq2, Vq2, Aq2⟩)
theorem c_clen_0_2 (l : Launch) (Z : State) (a0 : Array Value) (hw : ∀ d ∈ tables_1, d.before a0 Z = true)  (h0 : Heap)  :
    Ctr l Z mn25 jdk_65_method_131_code 2 none [] ⟨0, 0, 0, 0⟩ #[(.int (0 : Int32)), (.int (2 : Int32))] h0 (fun v h L => v = none ∧ h = h0 ∧ L = []) := by
  refine Ctr.of (plainFor_of_name pn_7) ?_
  intro p e s m below meth c s₁ hx H hml hret hown hnm hZ hlk X0 e0
  refine Goes.cast (show entryFrame m _ _ = mkF m 0 #[.val (.int (0 : Int32)), .val (.int (2 : Int32))] [] from rfl) ?_
  refine gLoadIN 1 X0 hx (H d21_0) rfl rfl ?_
  refine gLoadIN 2 X0 hx (H d21_1) rfl rfl ?_
  refine gIcmpGe X0 hx (H d21_2) (pc' := 37) (by decide) (by decide) (pn := 5) rfl (fun (c2 : (0 : Int) ≤ (2 : Int)) => ?_) (fun (c2 : (2 : Int) < (0 : Int)) => ?_)
  · exact gRetV X0 hx hlk hret (H d21_37) (by decide) (by decide) (⟨rfl, e0, rfl⟩)
  · exact absurd c2 (by decide)
theorem c_min_3_2 (l : Launch) (Z : State) (a0 : Array Value) (hw : ∀ d ∈ tables_1, d.before a0 Z = true)  (h0 : Heap)  :
    Ctr l Z mn4 jdk_29_method_69_code 2 (some .int) [] ⟨0, 0, 0, 0⟩ #[(.int (3 : Int32)), (.int (2 : Int32))] h0 (Just h0 (.int (2))) := by
  refine Ctr.of (Jvm.Free.JP.mathPlain rfl (by decide +kernel)) ?_
  intro p e s m below meth c s₁ hx H hml hret hown hnm hZ hlk X0 e0
  refine Goes.cast (show entryFrame m _ _ = mkF m 0 #[.val (.int (3 : Int32)), .val (.int (2 : Int32))] [] from rfl) ?_
  refine gLoadIN 1 X0 hx (H d1_0) rfl rfl ?_
  refine gLoadIN 2 X0 hx (H d1_1) rfl rfl ?_
  refine gIcmpGt X0 hx (H d1_2) (pc' := 9) (by decide) (by decide) (pn := 5) rfl (fun (c2 : (2 : Int) < (3 : Int)) => ?_) (fun (c2 : (3 : Int) ≤ (2 : Int)) => ?_)
  · refine gLoadIN 10 X0 hx (H d1_9) rfl rfl ?_
    exact gRetI X0 hx hlk hret (H d1_10) (by decide) (by decide) (⟨rfl, e0, rfl⟩)
  · exact absurd c2 (by decide)
theorem c_cor_3_0_2b (l : Launch) (Z : State) (a0 : Array Value) (hw : ∀ d ∈ tables_1, d.before a0 Z = true) (t : Addr) (ck : ClassId) (ch0 ch1 ch2 : Int32) (h0 : Heap) (A : sA Z h0 t ck 3 [by8 ch0, by8 ch1, by8 ch2]) :
    Ctr l Z mn27 jdk_65_method_133_code 5 (some (.array .byte)) [] ⟨1, 1, 2, 24⟩ #[(.ref t), (.int (0 : Int32)), (.int (2 : Int32))] h0 (fun v h L => ∃ (b : Addr) (ct : ClassId), v = some (.ref b) ∧ h0.size ≤ b ∧ Fr h0.size L ∧ Keep h0 h [] ∧ sA Z h b ct 2 [by8 ch0, by8 ch1]) := by
  refine Ctr.of (plainFor_of_name pn_7) ?_
  intro p e s m below meth c s₁ hx H hml hret hown hnm hZ hlk X0 e0
  refine Goes.cast (show entryFrame m _ _ = mkF m 0 #[.val (.ref t), .val (.int (0 : Int32)), .val (.int (2 : Int32)), .unset, .unset] [] from rfl) ?_
  refine gLoadIN 1 X0 hx (H d23_0) rfl rfl ?_
  refine gLoadIN 2 X0 hx (H d23_1) rfl rfl ?_
  refine gCallS X0 hx hZ (y := mn25) hown e0 (by rw [hml]; rfl) (ow hw 105 rfl) (ow hw 106 rfl) (ow hw 100 rfl) (ow hw 107 rfl) (by decide) (argsL := [(.int (0 : Int32)), (.int (2 : Int32))]) (st := []) (c_clen_0_2 l Z a0 hw h0) (lenOf pd_8 rfl) (H d23_2) (pc' := 5) rfl rfl (by decide) (W := 0) (Nat.le_of_eq rfl) (by decide) (by decide) (by decide) ?_
  intro T1 v1 L1 X1 hQ1
  obtain ⟨rfl, eq1, rfl⟩ := hQ1
  rw [List.append_nil] at X1
  refine gLoadIN 6 X1 hx (H d23_5) rfl rfl ?_
  refine gLoadIN 7 X1 hx (H d23_6) rfl rfl ?_
  refine gIsub 8 X1 hx (H d23_7) rfl ?_
  show Goes p e below _ T1 (mkF m 8 #[.val (.ref t), .val (.int (0 : Int32)), .val (.int (2 : Int32)), .unset, .unset] [(.int (2 : Int32))])
  refine gStoreIN 9 X1 hx (H d23_8) (l' := #[.val (.ref t), .val (.int (0 : Int32)), .val (.int (2 : Int32)), .val (.int (2 : Int32)), .unset]) rfl rfl ?_
  refine gLoadIN 10 X1 hx (H d23_9) rfl rfl ?_
  refine gNewP X1 hx hZ (ow hw 23 rfl) eq1 (n := (2 : Int32)) (H d23_10) (by decide) (cap := 2) (by decide) (by decide) (by decide) (by decide) 2 (pc' := 12) rfl (fun T2 h2 b2 ck2 X2 e2 g2 E2 A2 => ?_)
  have ne_t_b2 : t ≠ b2 := Nat.ne_of_lt (Nat.lt_of_lt_of_eq A.lt g2.symm)
  have f2_0 := A.ext E2
  have sz_b2 : h0.size ≤ b2 := Nat.le_trans (Nat.le_refl _) (Nat.le_of_eq g2.symm)
  have zs2 : h0.size ≤ h2.size := Nat.le_trans (Nat.le_refl _) E2.1
  have K2 : Keep h0 h2 [] := (Keep.refl h0 []).ext E2
  have V2 : Arv Z h2 b2 ck2 .byte (2 : Int32) [(.int (0 : Int32)), (.int (0 : Int32))] (.int (0 : Int32)) := A2
  refine gStoreA 14 X2 hx (H d23_12) (l' := #[.val (.ref t), .val (.int (0 : Int32)), .val (.int (2 : Int32)), .val (.int (2 : Int32)), .val (.ref b2)]) rfl rfl rfl ?_
  refine gLoadAN 15 X2 hx (H d23_14) rfl rfl rfl ?_
  refine gLoadIN 16 X2 hx (H d23_15) rfl rfl ?_
  refine gLoadA 18 X2 hx (H d23_16) rfl rfl rfl ?_
  refine gIconst 19 X2 hx (v := (0 : Int32)) (H d23_18) rfl rfl ?_
  refine gLoadAN 20 X2 hx (H d23_19) rfl rfl rfl ?_
  refine gArrLen X2 hx hZ e2 f2_0 (H d23_20) (pc' := 21) rfl ?_
  refine gLoadIN 22 X2 hx (H d23_21) rfl rfl ?_
  refine gIsub 23 X2 hx (H d23_22) rfl ?_
  show Goes p e below _ T2 (mkF m 23 #[.val (.ref t), .val (.int (0 : Int32)), .val (.int (2 : Int32)), .val (.int (2 : Int32)), .val (.ref b2)] [(.int (3 : Int32)), (.int (0 : Int32)), (.ref b2), (.int (0 : Int32)), (.ref t)])
  refine gLoadIN 24 X2 hx (H d23_23) rfl rfl ?_
  refine gCallSJ X2 hx hZ (y := mn4) hown e2 (by rw [hml]; rfl) (ow hw 108 rfl) (ow hw 68 rfl) (ow hw 69 rfl) (ow hw 70 rfl) (by decide) (argsL := [(.int (3 : Int32)), (.int (2 : Int32))]) (st := [(.int (0 : Int32)), (.ref b2), (.int (0 : Int32)), (.ref t)]) (c_min_3_2 l Z a0 hw h2) (lenOf pd_6 rfl) (H d23_24) (pc' := 27) rfl rfl rfl rfl (by decide) (W := 4) (Nat.le_of_eq rfl) (by decide) (by decide) (by decide) ?_
  intro T3 X3 e3
  refine gArrCopy X3 hx hZ hown (ow hw 109 rfl) (ow hw 112 rfl) (ow hw 110 rfl) (ow hw 111 rfl) e3 (dv := (.int 0)) (dd := (.int 0)) f2_0 V2 rfl (by decide) (by decide) (by decide) (by decide) (by decide) (by decide) (Fr.nil h0.size) sz_b2 (by rw [hml]; rfl) (H d23_27) (pc' := 30) rfl (by decide) (W := 0) (Nat.le_of_eq rfl) (by decide) (fun T4 h4 L4 X4 e4 N4 K4 A4 => ?_)
  have KK : Keep h0 h4 [] := K2.trans K4 (allS (Or.inr sz_b2) all0)
  have VV : Arv Z h4 b2 ck2 .byte 2 [by8 ch0, by8 ch1] (.int 0) := A4
  refine gLoadA 32 X4 hx (H d23_30) rfl rfl rfl ?_
  exact gRetA X4 hx hlk hret rfl rfl (H d23_32) (by decide) (by decide) (⟨_, _, rfl, sz_b2, N4, by rw [e4]; exact KK, by rw [e4]; exact VV⟩)
theorem c_cor_3_0_2 (l : Launch) (Z : State) (a0 : Array Value) (hw : ∀ d ∈ tables_1, d.before a0 Z = true) (t : Addr) (ck : ClassId) (ch0 ch1 ch2 : Int32) (h0 : Heap) (A : sA Z h0 t ck 3 [by8 ch0, by8 ch1, by8 ch2]) :
    Ctr l Z mn26 jdk_65_method_132_code 3 (some (.array .byte)) [] ⟨2, 1, 2, 40⟩ #[(.ref t), (.int (0 : Int32)), (.int (2 : Int32))] h0 (fun v h L => ∃ (b : Addr) (ct : ClassId), v = some (.ref b) ∧ h0.size ≤ b ∧ Fr h0.size L ∧ Keep h0 h [] ∧ sA Z h b ct 2 [by8 ch0, by8 ch1]) := by
  refine Ctr.of (plainFor_of_name pn_7) ?_
  intro p e s m below meth c s₁ hx H hml hret hown hnm hZ hlk X0 e0
  refine Goes.cast (show entryFrame m _ _ = mkF m 0 #[.val (.ref t), .val (.int (0 : Int32)), .val (.int (2 : Int32))] [] from rfl) ?_
  refine gLoadIN 1 X0 hx (H d22_0) rfl rfl ?_
  refine gIfNeT X0 hx (H d22_1) (pc' := 10) (by decide) (by decide) (pn := 4) rfl (fun (c1 : ¬ (0 : Int) = (0 : Int)) => ?_) (fun (c1 : (0 : Int) = (0 : Int)) => ?_)
  · exact absurd c1 (by decide)
  · refine gLoadIN 5 X0 hx (H d22_4) rfl rfl ?_
    refine gLoadAN 6 X0 hx (H d22_5) rfl rfl rfl ?_
    refine gArrLen X0 hx hZ e0 A (H d22_6) (pc' := 7) rfl ?_
    refine gIcmpEqT X0 hx (H d22_7) (pc' := 17) (by decide) (by decide) (pn := 10) rfl (fun (c7 : (2 : Int) = (3 : Int)) => ?_) (fun (c7 : ¬ (2 : Int) = (3 : Int)) => ?_)
    · exact absurd c7 (by decide)
    · refine gLoadAN 11 X0 hx (H d22_10) rfl rfl rfl ?_
      refine gLoadIN 12 X0 hx (H d22_11) rfl rfl ?_
      refine gLoadIN 13 X0 hx (H d22_12) rfl rfl ?_
      refine gCallS X0 hx hZ (y := mn27) hown e0 (by rw [hml]; rfl) (ow hw 102 rfl) (ow hw 103 rfl) (ow hw 100 rfl) (ow hw 104 rfl) (by decide) (argsL := [(.ref t), (.int (0 : Int32)), (.int (2 : Int32))]) (st := []) (c_cor_3_0_2b l Z a0 hw t ck ch0 ch1 ch2 h0 A) (lenOf pd_19 rfl) (H d22_13) (pc' := 16) rfl rfl (by decide) (W := 0) (Nat.le_of_eq rfl) (by decide) (by decide) (by decide) ?_
      intro T1 v1 L1 X1 hQ1
      obtain ⟨b1, ct1, rfl, g1, g2, g3, g4⟩ := hQ1
      exact gRetA X1 hx hlk hret rfl rfl (H d22_16) (by decide) (by decide) (⟨_, _, rfl, g1, g2, g3, g4⟩)
theorem c_newString_3_0_2 (l : Launch) (Z : State) (a0 : Array Value) (hw : ∀ d ∈ tables_1, d.before a0 Z = true) (t : Addr) (ck : ClassId) (ch0 ch1 ch2 : Int32) (h0 : Heap) (A : sA Z h0 t ck 3 [by8 ch0, by8 ch1, by8 ch2]) :
    Ctr l Z mn20 jdk_43_method_47_code 3 (some (.object "java/lang/String")) [] ⟨3, 2, 6, 57⟩ #[(.ref t), (.int (0 : Int32)), (.int (2 : Int32))] h0 (SQd Z h0 2 [by8 ch0, by8 ch1]) := by
  refine Ctr.of (plainFor_of_name pn_5) ?_
  intro p e s m below meth c s₁ hx H hml hret hown hnm hZ hlk X0 e0
  refine Goes.cast (show entryFrame m _ _ = mkF m 0 #[.val (.ref t), .val (.int (0 : Int32)), .val (.int (2 : Int32))] [] from rfl) ?_
  refine gLoadIN 1 X0 hx (H d16_0) rfl rfl ?_
  refine gIfNeT X0 hx (H d16_1) (pc' := 7) (by decide) (by decide) (pn := 4) rfl (fun (c1 : ¬ (2 : Int) = (0 : Int)) => ?_) (fun (c1 : (2 : Int) = (0 : Int)) => ?_)
  · refine gNew X0 hx hZ hown (ow hw 97 rfl) (ow hw 10 rfl) (ow hw 11 rfl) e0 (H d16_7) (pc' := 10) rfl (by decide) (by decide) (fun T1 h1 b1 X1 e1 g1 E1 A1 D1 => ?_)
    have ne_t_b1 : t ≠ b1 := Nat.ne_of_lt (Nat.lt_of_lt_of_eq A.lt g1.symm)
    have f1_0 := A.ext E1
    have sz_b1 : h0.size ≤ b1 := Nat.le_trans (Nat.le_refl _) (Nat.le_of_eq g1.symm)
    have zs1 : h0.size ≤ h1.size := Nat.le_trans (Nat.le_refl _) E1.1
    have K1 : Keep h0 h1 [] := (Keep.refl h0 []).ext E1
    have F1_value : Fld Z h1 b1 "java/lang/String" "value" "[B" .null := D1 (Or.inr (ow hw 24 rfl)) (ty := (.array .byte)) (by decide)
    have F1_coder : Fld Z h1 b1 "java/lang/String" "coder" "B" (.int (0 : Int32)) := D1 (Or.inr (ow hw 25 rfl)) (ty := .byte) (by decide)
    refine gDup 11 X1 hx (H d16_10) rfl rfl ?_
    refine gLoadAN 12 X1 hx (H d16_11) rfl rfl rfl ?_
    refine gLoadIN 13 X1 hx (H d16_12) rfl rfl ?_
    refine gLoadIN 14 X1 hx (H d16_13) rfl rfl ?_
    refine gLoadIN 15 X1 hx (H d16_14) rfl rfl ?_
    refine gIadd 16 X1 hx (H d16_15) rfl ?_
    show Goes p e below _ T1 (mkF m 16 #[.val (.ref t), .val (.int (0 : Int32)), .val (.int (2 : Int32))] [(.int (2 : Int32)), (.int (0 : Int32)), (.ref t), (.ref b1), (.ref b1)])
    refine gCallS X1 hx hZ (y := mn26) hown e1 (by rw [hml]; rfl) (ow hw 98 rfl) (ow hw 99 rfl) (ow hw 100 rfl) (ow hw 101 rfl) (by decide) (argsL := [(.ref t), (.int (0 : Int32)), (.int (2 : Int32))]) (st := [(.ref b1), (.ref b1)]) (c_cor_3_0_2 l Z a0 hw t ck ch0 ch1 ch2 h1 f1_0) (lenOf pd_19 rfl) (H d16_16) (pc' := 19) rfl rfl (by decide) (W := 2) (Nat.le_of_eq rfl) (by decide) (by decide) (by decide) ?_
    intro T2 v2 L2 X2 hQ2
    obtain ⟨q2, ctq2, rfl, gq2, Nq2, Kq2, Aq2⟩ := hQ2
    have N2 := Fr.app (Fr.nil h0.size) (fun y hy => Nat.le_trans zs1 (Nq2 y hy))
    have K2 : Keep h0 T2.heap [] := K1.trans Kq2 all0
    have f2_0 := f1_0.keep Kq2 nin0
    have f2_1 := A1.keep Kq2
    have f2_2 := F1_value.keep Kq2 nin0
    have f2_3 := F1_coder.keep Kq2 nin0
    have zs2 := Nat.le_trans zs1 Kq2.1
    have nq2 : q2 ≠ b1 := Ne.symm (Nat.ne_of_lt (Nat.lt_of_lt_of_le A1.lt gq2))
    refine gIconst 20 X2 hx (v := (0 : Int32)) (H d16_19) rfl rfl ?_
    refine gCallI X2 hx hZ (y := mn6) rfl hown rfl (by rw [hml]; rfl) (ow hw 113 rfl) (ow hw 114 rfl) (ow hw 11 rfl) (ow hw 115 rfl) (by decide) (argsL := [(.ref q2), (.int (0 : Int32))]) (st := [(.ref b1)]) (c_sinitB l Z a0 hw b1 q2 h0.size T2.heap sz_b1 f2_1 f2_3 f2_2) (lenOf pd_15 rfl) (H d16_20) (pc' := 23) rfl rfl (by decide) (W := 1) (Nat.le_of_eq rfl) (by decide) (by decide) (by decide) ?_
    intro T3 v3 L3 X3 hQ3
    obtain ⟨rfl, Nq3, Kq3, Eq3, Cq3, Vq3⟩ := hQ3
    have N3 := Fr.app N2 Nq3
    have K3 : Keep h0 T3.heap [] := K2.trans Kq3 (allS (Or.inr sz_b1) all0)
    have Ak3 := Aq2.keep Kq3 (ninS nq2 nin0)
    exact gRetA X3 hx hlk hret rfl rfl (H d16_23) (by decide) (by decide) (⟨b1, q2, ctq2, rfl, N3, K3, Eq3, Cq3, Vq3, Ak3⟩)
  · exact absurd c1 (by decide)
theorem c_sub_3_0_2 (l : Launch) (Z : State) (a0 : Array Value) (hw : ∀ d ∈ tables_1, d.before a0 Z = true) (a t : Addr) (ck : ClassId) (ch0 ch1 ch2 : Int32) (h0 : Heap) (hSio : Sio Z h0) (hCpt : Cpt Z h0) (E : sE Z h0 a) (C : sC Z h0 a) (V : sV Z h0 a t) (A : sA Z h0 t ck 3 [by8 ch0, by8 ch1, by8 ch2]) (hch0 : rg ch0) (hch1 : rg ch1) (hch2 : rg ch2) :
    Ctr l Z mn16 jdk_42_method_92_code 5 (some (.object "java/lang/String")) [] ⟨4, 2, 6, 71⟩ #[(.ref a), (.int (0 : Int32)), (.int (2 : Int32))] h0 (SQd Z h0 2 [by8 ch0, by8 ch1]) := by
  refine Ctr.of (plainFor_of_name pn_4) ?_
  intro p e s m below meth c s₁ hx H hml hret hown hnm hZ hlk X0 e0
  refine Goes.cast (show entryFrame m _ _ = mkF m 0 #[.val (.ref a), .val (.int (0 : Int32)), .val (.int (2 : Int32)), .unset, .unset] [] from rfl) ?_
  refine gLoadAN 1 X0 hx (H d13_0) rfl rfl rfl ?_
  refine gCallVJ X0 hx hZ (y := mn15) hown e0 (by rw [hml]; rfl) E (ow hw 39 rfl) (ow hw 40 rfl) (ow hw 42 rfl) (ow hw 41 rfl) (ow hw 11 rfl) (ow hw 43 rfl) (by decide) (argsL := []) (st := []) (c_length_3 l Z a0 hw a t ck ch0 ch1 ch2 h0 hCpt E C V A hch0 hch1 hch2) (lenOf pd_1 rfl) (H d13_1) (pc' := 4) rfl rfl rfl rfl (by decide) (W := 0) (Nat.le_of_eq rfl) (by decide) (by decide) (by decide) ?_
  intro T1 X1 e1
  refine gStoreIN 5 X1 hx (H d13_4) (l' := #[.val (.ref a), .val (.int (0 : Int32)), .val (.int (2 : Int32)), .val (.int (3 : Int32)), .unset]) rfl rfl ?_
  refine gLoadIN 6 X1 hx (H d13_5) rfl rfl ?_
  refine gLoadIN 7 X1 hx (H d13_6) rfl rfl ?_
  refine gLoadIN 8 X1 hx (H d13_7) rfl rfl ?_
  refine gCallS X1 hx hZ (y := mn9) hown e1 (by rw [hml]; rfl) (ow hw 86 rfl) (ow hw 87 rfl) (ow hw 11 rfl) (ow hw 88 rfl) (by decide) (argsL := [(.int (0 : Int32)), (.int (2 : Int32)), (.int (3 : Int32))]) (st := []) (c_chkft l Z a0 hw (0 : Int32) (2 : Int32) (3 : Int32) h0 (by decide) (by decide) (by decide) hSio) (lenOf pd_10 rfl) (H d13_8) (pc' := 11) rfl rfl (by decide) (W := 0) (Nat.le_of_eq rfl) (by decide) (by decide) (by decide) ?_
  intro T2 v2 L2 X2 hQ2
  obtain ⟨rfl, eq2, rfl⟩ := hQ2
  rw [List.append_nil] at X2
  refine gLoadIN 12 X2 hx (H d13_11) rfl rfl ?_
  refine gIfNeT X2 hx (H d13_12) (pc' := 22) (by decide) (by decide) (pn := 15) rfl (fun (c12 : ¬ (0 : Int) = (0 : Int)) => ?_) (fun (c12 : (0 : Int) = (0 : Int)) => ?_)
  · exact absurd c12 (by decide)
  · refine gLoadIN 16 X2 hx (H d13_15) rfl rfl ?_
    refine gLoadIN 17 X2 hx (H d13_16) rfl rfl ?_
    refine gIcmpNeT X2 hx (H d13_17) (pc' := 22) (by decide) (by decide) (pn := 20) rfl (fun (c17 : ¬ (2 : Int) = (3 : Int)) => ?_) (fun (c17 : (2 : Int) = (3 : Int)) => ?_)
    · refine gLoadIN 23 X2 hx (H d13_22) rfl rfl ?_
      refine gLoadIN 24 X2 hx (H d13_23) rfl rfl ?_
      refine gIsub 25 X2 hx (H d13_24) rfl ?_
      show Goes p e below _ T2 (mkF m 25 #[.val (.ref a), .val (.int (0 : Int32)), .val (.int (2 : Int32)), .val (.int (3 : Int32)), .unset] [(.int (2 : Int32))])
      refine gStoreI 27 X2 hx (H d13_25) (l' := #[.val (.ref a), .val (.int (0 : Int32)), .val (.int (2 : Int32)), .val (.int (3 : Int32)), .val (.int (2 : Int32))]) rfl rfl ?_
      refine gLoadAN 28 X2 hx (H d13_27) rfl rfl rfl ?_
      refine gCallVJ X2 hx hZ (y := mn12) hown eq2 (by rw [hml]; rfl) E (ow hw 55 rfl) (ow hw 56 rfl) (ow hw 58 rfl) (ow hw 57 rfl) (ow hw 11 rfl) (ow hw 59 rfl) (by decide) (argsL := []) (st := []) (c_isLatin1 l Z a0 hw a h0 hCpt C) (lenOf pd_3 rfl) (H d13_28) (pc' := 31) rfl rfl rfl rfl (by decide) (W := 0) (Nat.le_of_eq rfl) (by decide) (by decide) (by decide) ?_
      intro T3 X3 e3
      refine gIfEqT X3 hx (H d13_31) (pc' := 47) (by decide) (by decide) (pn := 34) rfl (fun (c31 : (1 : Int) = (0 : Int)) => ?_) (fun (c31 : ¬ (1 : Int) = (0 : Int)) => ?_)
      · exact absurd c31 (by decide)
      · refine gLoadAN 35 X3 hx (H d13_34) rfl rfl rfl ?_
        refine gGetF X3 hx hZ hown (ow hw 28 rfl) Via.refl e3 V (H d13_35) (pc' := 38) rfl (fun T4 X4 e4 => ?_)
        refine gLoadIN 39 X4 hx (H d13_38) rfl rfl ?_
        refine gLoadI 41 X4 hx (H d13_39) rfl rfl ?_
        refine gCallS X4 hx hZ (y := mn20) hown e4 (by rw [hml]; rfl) (ow hw 94 rfl) (ow hw 95 rfl) (ow hw 62 rfl) (ow hw 96 rfl) (by decide) (argsL := [(.ref t), (.int (0 : Int32)), (.int (2 : Int32))]) (st := []) (c_newString_3_0_2 l Z a0 hw t ck ch0 ch1 ch2 h0 A) (lenOf pd_18 rfl) (H d13_41) (pc' := 44) rfl rfl (by decide) (W := 0) (Nat.le_of_eq rfl) (by decide) (by decide) (by decide) ?_
        intro T5 v5 L5 X5 hQ5
        obtain ⟨r5, t5, ct5, rfl, Nq5, Kq5, Eq5, Cq5, Vq5, Aq5⟩ := hQ5
        have N5 := Fr.app (Fr.nil h0.size) (fun y hy => Nat.le_trans (Nat.le_refl _) (Nq5 y hy))
        have f5_0 := E.keep Kq5
        have f5_1 := C.keep Kq5 nin0
        have f5_2 := V.keep Kq5 nin0
        have f5_3 := A.keep Kq5 nin0
        have f5_4 := own_cpt_keep hCpt Kq5 ns0
        have zs5 := Nat.le_trans (Nat.le_refl _) Kq5.1
        have K5 : Keep h0 T5.heap [] := (Keep.refl h0 []).trans Kq5 all0
        refine gGoto X5 hx (H d13_44) (pc' := 57) (by decide) (by decide) ?_
        exact gRetA X5 hx hlk hret rfl rfl (H d13_57) (by decide) (by decide) (⟨r5, t5, ct5, rfl, N5, K5, Eq5, Cq5, Vq5, Aq5⟩)
    · exact absurd c17 (by decide)
theorem c_nm_3_2 (l : Launch) (Z : State) (a0 : Array Value) (hw : ∀ d ∈ tables_1, d.before a0 Z = true) (a t : Addr) (ck : ClassId) (ch0 ch1 ch2 : Int32) (h0 : Heap) (hSio : Sio Z h0) (hCpt : Cpt Z h0) (E : sE Z h0 a) (C : sC Z h0 a) (V : sV Z h0 a t) (A : sA Z h0 t ck 3 [by8 ch0, by8 ch1, by8 ch2]) (hch0 : rg ch0) (hch1 : rg ch1) (hch2 : rg ch2)  (dq : ch2.toInt = 47) :
    Ctr l Z mn0 prog_18_method_5_code 2 (some (.object "java/lang/String")) [] ⟨5, 2, 6, 87⟩ #[(.ref a)] h0 (SQd Z h0 2 [by8 ch0, by8 ch1]) := by
  refine Ctr.of (plainFor_of_name pn_0) ?_
  intro p e s m below meth c s₁ hx H hml hret hown hnm hZ hlk X0 e0
  refine Goes.cast (show entryFrame m _ _ = mkF m 0 #[.val (.ref a), .unset] [] from rfl) ?_
  refine gLoadAN 1 X0 hx (H d27_0) rfl rfl rfl ?_
  refine gBipush 3 X0 hx (v := (47 : Int32)) (H d27_1) rfl rfl ?_
  refine gCallVJ X0 hx hZ (y := mn13) hown e0 (by rw [hml]; rfl) E (ow hw 34 rfl) (ow hw 35 rfl) (ow hw 37 rfl) (ow hw 36 rfl) (ow hw 11 rfl) (ow hw 38 rfl) (by decide) (argsL := [(.int (47 : Int32))]) (st := []) (c_lastIndexOf_3 l Z a0 hw a t ck ch0 ch1 ch2 h0 hCpt E C V A hch0 hch1 hch2) (lenOf pd_4 rfl) (H d27_3) (pc' := 6) rfl rfl rfl rfl (by decide) (W := 0) (Nat.le_of_eq rfl) (by decide) (by decide) (by decide) ?_
  intro T1 X1 e1
  rw [show lx3 ch0 ch1 ch2 = 2 from by rw [lx3, if_pos dq]]
  refine gStoreIN 7 X1 hx (H d27_6) (l' := #[.val (.ref a), .val (.int (2 : Int32))]) rfl rfl ?_
  refine gLoadIN 8 X1 hx (H d27_7) rfl rfl ?_
  refine gIfLe X1 hx (H d27_8) (pc' := 20) (by decide) (by decide) (pn := 11) rfl (fun (c8 : (2 : Int) ≤ (0 : Int)) => ?_) (fun (c8 : (0 : Int) < (2 : Int)) => ?_)
  · exact absurd c8 (by decide)
  · refine gLoadAN 12 X1 hx (H d27_11) rfl rfl rfl ?_
    refine gIconst 13 X1 hx (v := (0 : Int32)) (H d27_12) rfl rfl ?_
    refine gLoadIN 14 X1 hx (H d27_13) rfl rfl ?_
    refine gCallV X1 hx hZ (y := mn16) hown e1 (by rw [hml]; rfl) E (ow hw 81 rfl) (ow hw 82 rfl) (ow hw 84 rfl) (ow hw 83 rfl) (ow hw 11 rfl) (ow hw 85 rfl) (by decide) (argsL := [(.int (0 : Int32)), (.int (2 : Int32))]) (st := []) (c_sub_3_0_2 l Z a0 hw a t ck ch0 ch1 ch2 h0 hSio hCpt E C V A hch0 hch1 hch2) (lenOf pd_7 rfl) (H d27_14) (pc' := 17) rfl rfl (by decide) (W := 0) (Nat.le_of_eq rfl) (by decide) (by decide) (by decide) ?_
    intro T2 v2 L2 X2 hQ2
    obtain ⟨r2, t2, ct2, rfl, Nq2, Kq2, Eq2, Cq2, Vq2, Aq2⟩ := hQ2
    have N2 := Fr.app (Fr.nil h0.size) (fun y hy => Nat.le_trans (Nat.le_refl _) (Nq2 y hy))
    have f2_0 := E.keep Kq2
    have f2_1 := C.keep Kq2 nin0
    have f2_2 := V.keep Kq2 nin0
    have f2_3 := A.keep Kq2 nin0
    have f2_4 := own_cpt_keep hCpt Kq2 ns0
    have zs2 := Nat.le_trans (Nat.le_refl _) Kq2.1
    have K2 : Keep h0 T2.heap [] := (Keep.refl h0 []).trans Kq2 all0
    refine gGoto X2 hx (H d27_17) (pc' := 21) (by decide) (by decide) ?_
    exact gRetA X2 hx hlk hret rfl rfl (H d27_21) (by decide) (by decide) (⟨r2, t2, ct2, rfl, N2, K2, Eq2, Cq2, Vq2, Aq2⟩)
def lx4 (ch0 ch1 ch2 ch3 : Int32) : Int32 := if ch3.toInt = 47 then 3 else if ch2.toInt = 47 then 2 else if ch1.toInt = 47 then 1 else if ch0.toInt = 47 then 0 else (-1)
theorem c_min_3_3 (l : Launch) (Z : State) (a0 : Array Value) (hw : ∀ d ∈ tables_1, d.before a0 Z = true)  (h0 : Heap)  :
    Ctr l Z mn4 jdk_29_method_69_code 2 (some .int) [] ⟨0, 0, 0, 0⟩ #[(.int (3 : Int32)), (.int (3 : Int32))] h0 (Just h0 (.int (3))) := by
  refine Ctr.of (Jvm.Free.JP.mathPlain rfl (by decide +kernel)) ?_
  intro p e s m below meth c s₁ hx H hml hret hown hnm hZ hlk X0 e0
  refine Goes.cast (show entryFrame m _ _ = mkF m 0 #[.val (.int (3 : Int32)), .val (.int (3 : Int32))] [] from rfl) ?_
  refine gLoadIN 1 X0 hx (H d1_0) rfl rfl ?_
  refine gLoadIN 2 X0 hx (H d1_1) rfl rfl ?_
  refine gIcmpGt X0 hx (H d1_2) (pc' := 9) (by decide) (by decide) (pn := 5) rfl (fun (c2 : (3 : Int) < (3 : Int)) => ?_) (fun (c2 : (3 : Int) ≤ (3 : Int)) => ?_)
  · exact absurd c2 (by decide)
  · refine gLoadIN 6 X0 hx (H d1_5) rfl rfl ?_
    refine gGoto X0 hx (H d1_6) (pc' := 10) (by decide) (by decide) ?_
    exact gRetI X0 hx hlk hret (H d1_10) (by decide) (by decide) (⟨rfl, e0, rfl⟩)
theorem c_lastIndexOf_4l (l : Launch) (Z : State) (a0 : Array Value) (hw : ∀ d ∈ tables_1, d.before a0 Z = true) (t : Addr) (ck : ClassId) (ch0 ch1 ch2 ch3 : Int32) (h0 : Heap) (A : sA Z h0 t ck 4 [by8 ch0, by8 ch1, by8 ch2, by8 ch3]) (hch0 : rg ch0) (hch1 : rg ch1) (hch2 : rg ch2) (hch3 : rg ch3) :
    Ctr l Z mn19 jdk_43_method_27_code 4 (some .int) [] ⟨1, 0, 0, 24⟩ #[(.ref t), (.int (47 : Int32)), (.int (3 : Int32))] h0 (Just h0 (.int (lx4 ch0 ch1 ch2 ch3))) := by
  refine Ctr.of (plainFor_of_name pn_5) ?_
  intro p e s m below meth c s₁ hx H hml hret hown hnm hZ hlk X0 e0
  refine Goes.cast (show entryFrame m _ _ = mkF m 0 #[.val (.ref t), .val (.int (47 : Int32)), .val (.int (3 : Int32)), .unset] [] from rfl) ?_
  refine gLoadIN 1 X0 hx (H d15_0) rfl rfl ?_
  refine gCallSJ X0 hx hZ (y := mn17) hown e0 (by rw [hml]; rfl) (ow hw 64 rfl) (ow hw 65 rfl) (ow hw 62 rfl) (ow hw 66 rfl) (by decide) (argsL := [(.int (47 : Int32))]) (st := []) (c_canI_47 l Z a0 hw h0) (lenOf pd_5 rfl) (H d15_1) (pc' := 4) rfl rfl rfl rfl (by decide) (W := 0) (Nat.le_of_eq rfl) (by decide) (by decide) (by decide) ?_
  intro T1 X1 e1
  refine gIfNeT X1 hx (H d15_4) (pc' := 9) (by decide) (by decide) (pn := 7) rfl (fun (c4 : ¬ (1 : Int) = (0 : Int)) => ?_) (fun (c4 : (1 : Int) = (0 : Int)) => ?_)
  · refine gLoadIN 10 X1 hx (H d15_9) rfl rfl ?_
    refine gLoadAN 11 X1 hx (H d15_10) rfl rfl rfl ?_
    refine gArrLen X1 hx hZ e1 A (H d15_11) (pc' := 12) rfl ?_
    refine gIconst 13 X1 hx (v := (1 : Int32)) (H d15_12) rfl rfl ?_
    refine gIsub 14 X1 hx (H d15_13) rfl ?_
    show Goes p e below _ T1 (mkF m 14 #[.val (.ref t), .val (.int (47 : Int32)), .val (.int (3 : Int32)), .unset] [(.int (3 : Int32)), (.int (3 : Int32))])
    refine gCallSJ X1 hx hZ (y := mn4) hown e1 (by rw [hml]; rfl) (ow hw 67 rfl) (ow hw 68 rfl) (ow hw 69 rfl) (ow hw 70 rfl) (by decide) (argsL := [(.int (3 : Int32)), (.int (3 : Int32))]) (st := []) (c_min_3_3 l Z a0 hw h0) (lenOf pd_6 rfl) (H d15_14) (pc' := 17) rfl rfl rfl rfl (by decide) (W := 0) (Nat.le_of_eq rfl) (by decide) (by decide) (by decide) ?_
    intro T2 X2 e2
    refine gStoreIN 18 X2 hx (H d15_17) (l' := #[.val (.ref t), .val (.int (47 : Int32)), .val (.int (3 : Int32)), .val (.int (3 : Int32))]) rfl rfl ?_
    refine gLoadIN 19 X2 hx (H d15_18) rfl rfl ?_
    refine gIfLt X2 hx (H d15_19) (pc' := 38) (by decide) (by decide) (pn := 22) rfl (fun (c19 : (3 : Int) < (0 : Int)) => ?_) (fun (c19 : (0 : Int) ≤ (3 : Int)) => ?_)
    · exact absurd c19 (by decide)
    · refine gLoadAN 23 X2 hx (H d15_22) rfl rfl rfl ?_
      refine gLoadIN 24 X2 hx (H d15_23) rfl rfl ?_
      refine gBaload X2 hx hZ e2 A (j := (3 : Int32)) (v := (.int (ch3.toInt8.toInt32))) (by decide) (by decide) rfl (H d15_24) (pc' := 25) rfl ?_
      refine gLoadIN 26 X2 hx (H d15_25) rfl rfl ?_
      refine gI2b 27 X2 hx (H d15_26) rfl ?_
      show Goes p e below _ T2 (mkF m 27 #[.val (.ref t), .val (.int (47 : Int32)), .val (.int (3 : Int32)), .val (.int (3 : Int32))] [(.int (47 : Int32)), (.int (ch3.toInt8.toInt32))])
      refine gIcmpNeT X2 hx (H d15_27) (pc' := 32) (by decide) (by decide) (pn := 30) rfl (fun (c27 : ¬ (ch3.toInt8.toInt32).toInt = (47 : Int)) => ?_) (fun (c27 : (ch3.toInt8.toInt32).toInt = (47 : Int)) => ?_)
      · refine gIinc X2 hx (v := (-1 : Int32)) (H d15_32) (l' := #[.val (.ref t), .val (.int (47 : Int32)), .val (.int (3 : Int32)), .val (.int (2 : Int32))]) (pc' := 35) rfl rfl rfl rfl ?_
        refine gGoto X2 hx (H d15_35) (pc' := 18) (by decide) (by decide) ?_
        refine gLoadIN 19 X2 hx (H d15_18) rfl rfl ?_
        refine gIfLt X2 hx (H d15_19) (pc' := 38) (by decide) (by decide) (pn := 22) rfl (fun (c19' : (2 : Int) < (0 : Int)) => ?_) (fun (c19' : (0 : Int) ≤ (2 : Int)) => ?_)
        · exact absurd c19' (by decide)
        · refine gLoadAN 23 X2 hx (H d15_22) rfl rfl rfl ?_
          refine gLoadIN 24 X2 hx (H d15_23) rfl rfl ?_
          refine gBaload X2 hx hZ e2 A (j := (2 : Int32)) (v := (.int (ch2.toInt8.toInt32))) (by decide) (by decide) rfl (H d15_24) (pc' := 25) rfl ?_
          refine gLoadIN 26 X2 hx (H d15_25) rfl rfl ?_
          refine gI2b 27 X2 hx (H d15_26) rfl ?_
          show Goes p e below _ T2 (mkF m 27 #[.val (.ref t), .val (.int (47 : Int32)), .val (.int (3 : Int32)), .val (.int (2 : Int32))] [(.int (47 : Int32)), (.int (ch2.toInt8.toInt32))])
          refine gIcmpNeT X2 hx (H d15_27) (pc' := 32) (by decide) (by decide) (pn := 30) rfl (fun (c27' : ¬ (ch2.toInt8.toInt32).toInt = (47 : Int)) => ?_) (fun (c27' : (ch2.toInt8.toInt32).toInt = (47 : Int)) => ?_)
          · refine gIinc X2 hx (v := (-1 : Int32)) (H d15_32) (l' := #[.val (.ref t), .val (.int (47 : Int32)), .val (.int (3 : Int32)), .val (.int (1 : Int32))]) (pc' := 35) rfl rfl rfl rfl ?_
            refine gGoto X2 hx (H d15_35) (pc' := 18) (by decide) (by decide) ?_
            refine gLoadIN 19 X2 hx (H d15_18) rfl rfl ?_
            refine gIfLt X2 hx (H d15_19) (pc' := 38) (by decide) (by decide) (pn := 22) rfl (fun (c19'' : (1 : Int) < (0 : Int)) => ?_) (fun (c19'' : (0 : Int) ≤ (1 : Int)) => ?_)
            · exact absurd c19'' (by decide)
            · refine gLoadAN 23 X2 hx (H d15_22) rfl rfl rfl ?_
              refine gLoadIN 24 X2 hx (H d15_23) rfl rfl ?_
              refine gBaload X2 hx hZ e2 A (j := (1 : Int32)) (v := (.int (ch1.toInt8.toInt32))) (by decide) (by decide) rfl (H d15_24) (pc' := 25) rfl ?_
              refine gLoadIN 26 X2 hx (H d15_25) rfl rfl ?_
              refine gI2b 27 X2 hx (H d15_26) rfl ?_
              show Goes p e below _ T2 (mkF m 27 #[.val (.ref t), .val (.int (47 : Int32)), .val (.int (3 : Int32)), .val (.int (1 : Int32))] [(.int (47 : Int32)), (.int (ch1.toInt8.toInt32))])
              refine gIcmpNeT X2 hx (H d15_27) (pc' := 32) (by decide) (by decide) (pn := 30) rfl (fun (c27'' : ¬ (ch1.toInt8.toInt32).toInt = (47 : Int)) => ?_) (fun (c27'' : (ch1.toInt8.toInt32).toInt = (47 : Int)) => ?_)
              · refine gIinc X2 hx (v := (-1 : Int32)) (H d15_32) (l' := #[.val (.ref t), .val (.int (47 : Int32)), .val (.int (3 : Int32)), .val (.int (0 : Int32))]) (pc' := 35) rfl rfl rfl rfl ?_
                refine gGoto X2 hx (H d15_35) (pc' := 18) (by decide) (by decide) ?_
                refine gLoadIN 19 X2 hx (H d15_18) rfl rfl ?_
                refine gIfLt X2 hx (H d15_19) (pc' := 38) (by decide) (by decide) (pn := 22) rfl (fun (c19''' : (0 : Int) < (0 : Int)) => ?_) (fun (c19''' : (0 : Int) ≤ (0 : Int)) => ?_)
                · exact absurd c19''' (by decide)
                · refine gLoadAN 23 X2 hx (H d15_22) rfl rfl rfl ?_
                  refine gLoadIN 24 X2 hx (H d15_23) rfl rfl ?_
                  refine gBaload X2 hx hZ e2 A (j := (0 : Int32)) (v := (.int (ch0.toInt8.toInt32))) (by decide) (by decide) rfl (H d15_24) (pc' := 25) rfl ?_
                  refine gLoadIN 26 X2 hx (H d15_25) rfl rfl ?_
                  refine gI2b 27 X2 hx (H d15_26) rfl ?_
                  show Goes p e below _ T2 (mkF m 27 #[.val (.ref t), .val (.int (47 : Int32)), .val (.int (3 : Int32)), .val (.int (0 : Int32))] [(.int (47 : Int32)), (.int (ch0.toInt8.toInt32))])
                  refine gIcmpNeT X2 hx (H d15_27) (pc' := 32) (by decide) (by decide) (pn := 30) rfl (fun (c27''' : ¬ (ch0.toInt8.toInt32).toInt = (47 : Int)) => ?_) (fun (c27''' : (ch0.toInt8.toInt32).toInt = (47 : Int)) => ?_)
                  · refine gIinc X2 hx (v := (-1 : Int32)) (H d15_32) (l' := #[.val (.ref t), .val (.int (47 : Int32)), .val (.int (3 : Int32)), .val (.int (-1 : Int32))]) (pc' := 35) rfl rfl rfl rfl ?_
                    refine gGoto X2 hx (H d15_35) (pc' := 18) (by decide) (by decide) ?_
                    refine gLoadIN 19 X2 hx (H d15_18) rfl rfl ?_
                    refine gIfLt X2 hx (H d15_19) (pc' := 38) (by decide) (by decide) (pn := 22) rfl (fun (c19'''' : (-1 : Int) < (0 : Int)) => ?_) (fun (c19'''' : (0 : Int) ≤ (-1 : Int)) => ?_)
                    · refine gIconst 39 X2 hx (v := (-1 : Int32)) (H d15_38) rfl rfl ?_
                      exact gRetI X2 hx hlk hret (H d15_39) (by decide) (by decide) (⟨by rw [lx4, if_neg (fun z => c27 ((own_beq hch3 (by decide)).mpr z)), if_neg (fun z => c27' ((own_beq hch2 (by decide)).mpr z)), if_neg (fun z => c27'' ((own_beq hch1 (by decide)).mpr z)), if_neg (fun z => c27''' ((own_beq hch0 (by decide)).mpr z))], e2, rfl⟩)
                    · exact absurd c19'''' (by decide)
                  · refine gLoadIN 31 X2 hx (H d15_30) rfl rfl ?_
                    exact gRetI X2 hx hlk hret (H d15_31) (by decide) (by decide) (⟨by rw [lx4, if_neg (fun z => c27 ((own_beq hch3 (by decide)).mpr z)), if_neg (fun z => c27' ((own_beq hch2 (by decide)).mpr z)), if_neg (fun z => c27'' ((own_beq hch1 (by decide)).mpr z)), if_pos ((own_beq hch0 (by decide)).mp c27''')], e2, rfl⟩)
              · refine gLoadIN 31 X2 hx (H d15_30) rfl rfl ?_
                exact gRetI X2 hx hlk hret (H d15_31) (by decide) (by decide) (⟨by rw [lx4, if_neg (fun z => c27 ((own_beq hch3 (by decide)).mpr z)), if_neg (fun z => c27' ((own_beq hch2 (by decide)).mpr z)), if_pos ((own_beq hch1 (by decide)).mp c27'')], e2, rfl⟩)
          · refine gLoadIN 31 X2 hx (H d15_30) rfl rfl ?_
            exact gRetI X2 hx hlk hret (H d15_31) (by decide) (by decide) (⟨by rw [lx4, if_neg (fun z => c27 ((own_beq hch3 (by decide)).mpr z)), if_pos ((own_beq hch2 (by decide)).mp c27')], e2, rfl⟩)
      · refine gLoadIN 31 X2 hx (H d15_30) rfl rfl ?_
        exact gRetI X2 hx hlk hret (H d15_31) (by decide) (by decide) (⟨by rw [lx4, if_pos ((own_beq hch3 (by decide)).mp c27)], e2, rfl⟩)
  · exact absurd c4 (by decide)
theorem c_length_4 (l : Launch) (Z : State) (a0 : Array Value) (hw : ∀ d ∈ tables_1, d.before a0 Z = true) (a t : Addr) (ck : ClassId) (ch0 ch1 ch2 ch3 : Int32) (h0 : Heap) (hCpt : Cpt Z h0) (E : sE Z h0 a) (C : sC Z h0 a) (V : sV Z h0 a t) (A : sA Z h0 t ck 4 [by8 ch0, by8 ch1, by8 ch2, by8 ch3]) (hch0 : rg ch0) (hch1 : rg ch1) (hch2 : rg ch2) (hch3 : rg ch3) :
    Ctr l Z mn15 jdk_42_method_54_code 1 (some .int) [] ⟨1, 0, 0, 13⟩ #[(.ref a)] h0 (Just h0 (.int 4)) := by
  refine Ctr.of (plainFor_of_name pn_4) ?_
  intro p e s m below meth c s₁ hx H hml hret hown hnm hZ hlk X0 e0
  refine Goes.cast (show entryFrame m _ _ = mkF m 0 #[.val (.ref a)] [] from rfl) ?_
  refine gLoadAN 1 X0 hx (H d9_0) rfl rfl rfl ?_
  refine gGetF X0 hx hZ hown (ow hw 28 rfl) Via.refl e0 V (H d9_1) (pc' := 4) rfl (fun T1 X1 e1 => ?_)
  refine gArrLen X1 hx hZ e1 A (H d9_4) (pc' := 5) rfl ?_
  refine gLoadAN 6 X1 hx (H d9_5) rfl rfl rfl ?_
  refine gCallVJ X1 hx hZ (y := mn10) hown e1 (by rw [hml]; rfl) E (ow hw 44 rfl) (ow hw 45 rfl) (ow hw 47 rfl) (ow hw 46 rfl) (ow hw 11 rfl) (ow hw 48 rfl) (by decide) (argsL := []) (st := [(.int (4 : Int32))]) (c_coder l Z a0 hw a h0 hCpt C) (lenOf pd_0 rfl) (H d9_6) (pc' := 9) rfl rfl rfl rfl (by decide) (W := 1) (Nat.le_of_eq rfl) (by decide) (by decide) (by decide) ?_
  intro T2 X2 e2
  refine gIshr 10 X2 hx (H d9_9) rfl ?_
  show Goes p e below _ T2 (mkF m 10 #[.val (.ref a)] [(.int (4 : Int32))])
  exact gRetI X2 hx hlk hret (H d9_10) (by decide) (by decide) (⟨rfl, e2, rfl⟩)
theorem c_lastIndexOf_42 (l : Launch) (Z : State) (a0 : Array Value) (hw : ∀ d ∈ tables_1, d.before a0 Z = true) (a t : Addr) (ck : ClassId) (ch0 ch1 ch2 ch3 : Int32) (h0 : Heap) (hCpt : Cpt Z h0) (E : sE Z h0 a) (C : sC Z h0 a) (V : sV Z h0 a t) (A : sA Z h0 t ck 4 [by8 ch0, by8 ch1, by8 ch2, by8 ch3]) (hch0 : rg ch0) (hch1 : rg ch1) (hch2 : rg ch2) (hch3 : rg ch3) :
    Ctr l Z mn14 jdk_42_method_83_code 3 (some .int) [] ⟨2, 0, 0, 42⟩ #[(.ref a), (.int (47 : Int32)), (.int (3 : Int32))] h0 (Just h0 (.int (lx4 ch0 ch1 ch2 ch3))) := by
  refine Ctr.of (plainFor_of_name pn_4) ?_
  intro p e s m below meth c s₁ hx H hml hret hown hnm hZ hlk X0 e0
  refine Goes.cast (show entryFrame m _ _ = mkF m 0 #[.val (.ref a), .val (.int (47 : Int32)), .val (.int (3 : Int32))] [] from rfl) ?_
  refine gLoadAN 1 X0 hx (H d12_0) rfl rfl rfl ?_
  refine gCallVJ X0 hx hZ (y := mn12) hown e0 (by rw [hml]; rfl) E (ow hw 55 rfl) (ow hw 56 rfl) (ow hw 58 rfl) (ow hw 57 rfl) (ow hw 11 rfl) (ow hw 59 rfl) (by decide) (argsL := []) (st := []) (c_isLatin1 l Z a0 hw a h0 hCpt C) (lenOf pd_3 rfl) (H d12_1) (pc' := 4) rfl rfl rfl rfl (by decide) (W := 0) (Nat.le_of_eq rfl) (by decide) (by decide) (by decide) ?_
  intro T1 X1 e1
  refine gIfEqT X1 hx (H d12_4) (pc' := 19) (by decide) (by decide) (pn := 7) rfl (fun (c4 : (1 : Int) = (0 : Int)) => ?_) (fun (c4 : ¬ (1 : Int) = (0 : Int)) => ?_)
  · exact absurd c4 (by decide)
  · refine gLoadAN 8 X1 hx (H d12_7) rfl rfl rfl ?_
    refine gGetF X1 hx hZ hown (ow hw 28 rfl) Via.refl e1 V (H d12_8) (pc' := 11) rfl (fun T2 X2 e2 => ?_)
    refine gLoadIN 12 X2 hx (H d12_11) rfl rfl ?_
    refine gLoadIN 13 X2 hx (H d12_12) rfl rfl ?_
    refine gCallSJ X2 hx hZ (y := mn19) hown e2 (by rw [hml]; rfl) (ow hw 60 rfl) (ow hw 61 rfl) (ow hw 62 rfl) (ow hw 63 rfl) (by decide) (argsL := [(.ref t), (.int (47 : Int32)), (.int (3 : Int32))]) (st := []) (c_lastIndexOf_4l l Z a0 hw t ck ch0 ch1 ch2 ch3 h0 A hch0 hch1 hch2 hch3) (lenOf pd_17 rfl) (H d12_13) (pc' := 16) rfl rfl rfl rfl (by decide) (W := 0) (Nat.le_of_eq rfl) (by decide) (by decide) (by decide) ?_
    intro T3 X3 e3
    refine gGoto X3 hx (H d12_16) (pc' := 28) (by decide) (by decide) ?_
    exact gRetI X3 hx hlk hret (H d12_28) (by decide) (by decide) (⟨rfl, e3, rfl⟩)
theorem c_lastIndexOf_4 (l : Launch) (Z : State) (a0 : Array Value) (hw : ∀ d ∈ tables_1, d.before a0 Z = true) (a t : Addr) (ck : ClassId) (ch0 ch1 ch2 ch3 : Int32) (h0 : Heap) (hCpt : Cpt Z h0) (E : sE Z h0 a) (C : sC Z h0 a) (V : sV Z h0 a t) (A : sA Z h0 t ck 4 [by8 ch0, by8 ch1, by8 ch2, by8 ch3]) (hch0 : rg ch0) (hch1 : rg ch1) (hch2 : rg ch2) (hch3 : rg ch3) :
    Ctr l Z mn13 jdk_42_method_82_code 2 (some .int) [] ⟨3, 0, 0, 58⟩ #[(.ref a), (.int (47 : Int32))] h0 (Just h0 (.int (lx4 ch0 ch1 ch2 ch3))) := by
  refine Ctr.of (plainFor_of_name pn_4) ?_
  intro p e s m below meth c s₁ hx H hml hret hown hnm hZ hlk X0 e0
  refine Goes.cast (show entryFrame m _ _ = mkF m 0 #[.val (.ref a), .val (.int (47 : Int32))] [] from rfl) ?_
  refine gLoadAN 1 X0 hx (H d11_0) rfl rfl rfl ?_
  refine gLoadIN 2 X0 hx (H d11_1) rfl rfl ?_
  refine gLoadAN 3 X0 hx (H d11_2) rfl rfl rfl ?_
  refine gCallVJ X0 hx hZ (y := mn15) hown e0 (by rw [hml]; rfl) E (ow hw 39 rfl) (ow hw 40 rfl) (ow hw 42 rfl) (ow hw 41 rfl) (ow hw 11 rfl) (ow hw 43 rfl) (by decide) (argsL := []) (st := [(.int (47 : Int32)), (.ref a)]) (c_length_4 l Z a0 hw a t ck ch0 ch1 ch2 ch3 h0 hCpt E C V A hch0 hch1 hch2 hch3) (lenOf pd_1 rfl) (H d11_3) (pc' := 6) rfl rfl rfl rfl (by decide) (W := 2) (Nat.le_of_eq rfl) (by decide) (by decide) (by decide) ?_
  intro T1 X1 e1
  refine gIconst 7 X1 hx (v := (1 : Int32)) (H d11_6) rfl rfl ?_
  refine gIsub 8 X1 hx (H d11_7) rfl ?_
  show Goes p e below _ T1 (mkF m 8 #[.val (.ref a), .val (.int (47 : Int32))] [(.int (3 : Int32)), (.int (47 : Int32)), (.ref a)])
  refine gCallVJ X1 hx hZ (y := mn14) hown e1 (by rw [hml]; rfl) E (ow hw 50 rfl) (ow hw 51 rfl) (ow hw 53 rfl) (ow hw 52 rfl) (ow hw 11 rfl) (ow hw 54 rfl) (by decide) (argsL := [(.int (47 : Int32)), (.int (3 : Int32))]) (st := []) (c_lastIndexOf_42 l Z a0 hw a t ck ch0 ch1 ch2 ch3 h0 hCpt E C V A hch0 hch1 hch2 hch3) (lenOf pd_6 rfl) (H d11_8) (pc' := 11) rfl rfl rfl rfl (by decide) (W := 0) (Nat.le_of_eq rfl) (by decide) (by decide) (by decide) ?_
  intro T2 X2 e2
  exact gRetI X2 hx hlk hret (H d11_11) (by decide) (by decide) (⟨rfl, e2, rfl⟩)
theorem c_nm_4_m (l : Launch) (Z : State) (a0 : Array Value) (hw : ∀ d ∈ tables_1, d.before a0 Z = true) (a t : Addr) (ck : ClassId) (ch0 ch1 ch2 ch3 : Int32) (h0 : Heap) (hSio : Sio Z h0) (hCpt : Cpt Z h0) (E : sE Z h0 a) (C : sC Z h0 a) (V : sV Z h0 a t) (A : sA Z h0 t ck 4 [by8 ch0, by8 ch1, by8 ch2, by8 ch3]) (hch0 : rg ch0) (hch1 : rg ch1) (hch2 : rg ch2) (hch3 : rg ch3) (d0 : ¬ ch0.toInt = 47) (d1 : ¬ ch1.toInt = 47) (d2 : ¬ ch2.toInt = 47) (d3 : ¬ ch3.toInt = 47) :
    Ctr l Z mn0 prog_18_method_5_code 2 (some (.object "java/lang/String")) [] ⟨4, 0, 0, 73⟩ #[(.ref a)] h0 (Just h0 .null) := by
  refine Ctr.of (plainFor_of_name pn_0) ?_
  intro p e s m below meth c s₁ hx H hml hret hown hnm hZ hlk X0 e0
  refine Goes.cast (show entryFrame m _ _ = mkF m 0 #[.val (.ref a), .unset] [] from rfl) ?_
  refine gLoadAN 1 X0 hx (H d27_0) rfl rfl rfl ?_
  refine gBipush 3 X0 hx (v := (47 : Int32)) (H d27_1) rfl rfl ?_
  refine gCallVJ X0 hx hZ (y := mn13) hown e0 (by rw [hml]; rfl) E (ow hw 34 rfl) (ow hw 35 rfl) (ow hw 37 rfl) (ow hw 36 rfl) (ow hw 11 rfl) (ow hw 38 rfl) (by decide) (argsL := [(.int (47 : Int32))]) (st := []) (c_lastIndexOf_4 l Z a0 hw a t ck ch0 ch1 ch2 ch3 h0 hCpt E C V A hch0 hch1 hch2 hch3) (lenOf pd_4 rfl) (H d27_3) (pc' := 6) rfl rfl rfl rfl (by decide) (W := 0) (Nat.le_of_eq rfl) (by decide) (by decide) (by decide) ?_
  intro T1 X1 e1
  rw [show lx4 ch0 ch1 ch2 ch3 = -1 from by rw [lx4, if_neg d3, if_neg d2, if_neg d1, if_neg d0]]
  refine gStoreIN 7 X1 hx (H d27_6) (l' := #[.val (.ref a), .val (.int (-1 : Int32))]) rfl rfl ?_
  refine gLoadIN 8 X1 hx (H d27_7) rfl rfl ?_
  refine gIfLe X1 hx (H d27_8) (pc' := 20) (by decide) (by decide) (pn := 11) rfl (fun (c8 : (-1 : Int) ≤ (0 : Int)) => ?_) (fun (c8 : (0 : Int) < (-1 : Int)) => ?_)
  · refine gNull 21 X1 hx (H d27_20) rfl ?_
    exact gRetA X1 hx hlk hret rfl rfl (H d27_21) (by decide) (by decide) (⟨rfl, e1, rfl⟩)
  · exact absurd c8 (by decide)
theorem c_nm_4_0 (l : Launch) (Z : State) (a0 : Array Value) (hw : ∀ d ∈ tables_1, d.before a0 Z = true) (a t : Addr) (ck : ClassId) (ch0 ch1 ch2 ch3 : Int32) (h0 : Heap) (hSio : Sio Z h0) (hCpt : Cpt Z h0) (E : sE Z h0 a) (C : sC Z h0 a) (V : sV Z h0 a t) (A : sA Z h0 t ck 4 [by8 ch0, by8 ch1, by8 ch2, by8 ch3]) (hch0 : rg ch0) (hch1 : rg ch1) (hch2 : rg ch2) (hch3 : rg ch3) (d1 : ¬ ch1.toInt = 47) (d2 : ¬ ch2.toInt = 47) (d3 : ¬ ch3.toInt = 47) (dq : ch0.toInt = 47) :
    Ctr l Z mn0 prog_18_method_5_code 2 (some (.object "java/lang/String")) [] ⟨4, 0, 0, 73⟩ #[(.ref a)] h0 (Just h0 .null) := by
  refine Ctr.of (plainFor_of_name pn_0) ?_
  intro p e s m below meth c s₁ hx H hml hret hown hnm hZ hlk X0 e0
  refine Goes.cast (show entryFrame m _ _ = mkF m 0 #[.val (.ref a), .unset] [] from rfl) ?_
  refine gLoadAN 1 X0 hx (H d27_0) rfl rfl rfl ?_
  refine gBipush 3 X0 hx (v := (47 : Int32)) (H d27_1) rfl rfl ?_
  refine gCallVJ X0 hx hZ (y := mn13) hown e0 (by rw [hml]; rfl) E (ow hw 34 rfl) (ow hw 35 rfl) (ow hw 37 rfl) (ow hw 36 rfl) (ow hw 11 rfl) (ow hw 38 rfl) (by decide) (argsL := [(.int (47 : Int32))]) (st := []) (c_lastIndexOf_4 l Z a0 hw a t ck ch0 ch1 ch2 ch3 h0 hCpt E C V A hch0 hch1 hch2 hch3) (lenOf pd_4 rfl) (H d27_3) (pc' := 6) rfl rfl rfl rfl (by decide) (W := 0) (Nat.le_of_eq rfl) (by decide) (by decide) (by decide) ?_
  intro T1 X1 e1
  rw [show lx4 ch0 ch1 ch2 ch3 = 0 from by rw [lx4, if_neg d3, if_neg d2, if_neg d1, if_pos dq]]
  refine gStoreIN 7 X1 hx (H d27_6) (l' := #[.val (.ref a), .val (.int (0 : Int32))]) rfl rfl ?_
  refine gLoadIN 8 X1 hx (H d27_7) rfl rfl ?_
  refine gIfLe X1 hx (H d27_8) (pc' := 20) (by decide) (by decide) (pn := 11) rfl (fun (c8 : (0 : Int) ≤ (0 : Int)) => ?_) (fun (c8 : (0 : Int) < (0 : Int)) => ?_)
  · refine gNull 21 X1 hx (H d27_20) rfl ?_
    exact gRetA X1 hx hlk hret rfl rfl (H d27_21) (by decide) (by decide) (⟨rfl, e1, rfl⟩)
  · exact absurd c8 (by decide)
theorem c_min_4_1 (l : Launch) (Z : State) (a0 : Array Value) (hw : ∀ d ∈ tables_1, d.before a0 Z = true)  (h0 : Heap)  :
    Ctr l Z mn4 jdk_29_method_69_code 2 (some .int) [] ⟨0, 0, 0, 0⟩ #[(.int (4 : Int32)), (.int (1 : Int32))] h0 (Just h0 (.int (1))) := by
  refine Ctr.of (Jvm.Free.JP.mathPlain rfl (by decide +kernel)) ?_
  intro p e s m below meth c s₁ hx H hml hret hown hnm hZ hlk X0 e0
  refine Goes.cast (show entryFrame m _ _ = mkF m 0 #[.val (.int (4 : Int32)), .val (.int (1 : Int32))] [] from rfl) ?_
  refine gLoadIN 1 X0 hx (H d1_0) rfl rfl ?_
  refine gLoadIN 2 X0 hx (H d1_1) rfl rfl ?_
  refine gIcmpGt X0 hx (H d1_2) (pc' := 9) (by decide) (by decide) (pn := 5) rfl (fun (c2 : (1 : Int) < (4 : Int)) => ?_) (fun (c2 : (4 : Int) ≤ (1 : Int)) => ?_)
  · refine gLoadIN 10 X0 hx (H d1_9) rfl rfl ?_
    exact gRetI X0 hx hlk hret (H d1_10) (by decide) (by decide) (⟨rfl, e0, rfl⟩)
  · exact absurd c2 (by decide)
theorem c_cor_4_0_1b (l : Launch) (Z : State) (a0 : Array Value) (hw : ∀ d ∈ tables_1, d.before a0 Z = true) (t : Addr) (ck : ClassId) (ch0 ch1 ch2 ch3 : Int32) (h0 : Heap) (A : sA Z h0 t ck 4 [by8 ch0, by8 ch1, by8 ch2, by8 ch3]) :
    Ctr l Z mn27 jdk_65_method_133_code 5 (some (.array .byte)) [] ⟨1, 1, 1, 24⟩ #[(.ref t), (.int (0 : Int32)), (.int (1 : Int32))] h0 (fun v h L => ∃ (b : Addr) (ct : ClassId), v = some (.ref b) ∧ h0.size ≤ b ∧ Fr h0.size L ∧ Keep h0 h [] ∧ sA Z h b ct 1 [by8 ch0]) := by
  refine Ctr.of (plainFor_of_name pn_7) ?_
  intro p e s m below meth c s₁ hx H hml hret hown hnm hZ hlk X0 e0
  refine Goes.cast (show entryFrame m _ _ = mkF m 0 #[.val (.ref t), .val (.int (0 : Int32)), .val (.int (1 : Int32)), .unset, .unset] [] from rfl) ?_
  refine gLoadIN 1 X0 hx (H d23_0) rfl rfl ?_
  refine gLoadIN 2 X0 hx (H d23_1) rfl rfl ?_
  refine gCallS X0 hx hZ (y := mn25) hown e0 (by rw [hml]; rfl) (ow hw 105 rfl) (ow hw 106 rfl) (ow hw 100 rfl) (ow hw 107 rfl) (by decide) (argsL := [(.int (0 : Int32)), (.int (1 : Int32))]) (st := []) (c_clen_0_1 l Z a0 hw h0) (lenOf pd_8 rfl) (H d23_2) (pc' := 5) rfl rfl (by decide) (W := 0) (Nat.le_of_eq rfl) (by decide) (by decide) (by decide) ?_
  intro T1 v1 L1 X1 hQ1
  obtain ⟨rfl, eq1, rfl⟩ := hQ1
  rw [List.append_nil] at X1
  refine gLoadIN 6 X1 hx (H d23_5) rfl rfl ?_
  refine gLoadIN 7 X1 hx (H d23_6) rfl rfl ?_
  refine gIsub 8 X1 hx (H d23_7) rfl ?_
  show Goes p e below _ T1 (mkF m 8 #[.val (.ref t), .val (.int (0 : Int32)), .val (.int (1 : Int32)), .unset, .unset] [(.int (1 : Int32))])
  refine gStoreIN 9 X1 hx (H d23_8) (l' := #[.val (.ref t), .val (.int (0 : Int32)), .val (.int (1 : Int32)), .val (.int (1 : Int32)), .unset]) rfl rfl ?_
  refine gLoadIN 10 X1 hx (H d23_9) rfl rfl ?_
  refine gNewP X1 hx hZ (ow hw 23 rfl) eq1 (n := (1 : Int32)) (H d23_10) (by decide) (cap := 1) (by decide) (by decide) (by decide) (by decide) 1 (pc' := 12) rfl (fun T2 h2 b2 ck2 X2 e2 g2 E2 A2 => ?_)
  have ne_t_b2 : t ≠ b2 := Nat.ne_of_lt (Nat.lt_of_lt_of_eq A.lt g2.symm)
  have f2_0 := A.ext E2
  have sz_b2 : h0.size ≤ b2 := Nat.le_trans (Nat.le_refl _) (Nat.le_of_eq g2.symm)
  have zs2 : h0.size ≤ h2.size := Nat.le_trans (Nat.le_refl _) E2.1
  have K2 : Keep h0 h2 [] := (Keep.refl h0 []).ext E2
  have V2 : Arv Z h2 b2 ck2 .byte (1 : Int32) [(.int (0 : Int32))] (.int (0 : Int32)) := A2
  refine gStoreA 14 X2 hx (H d23_12) (l' := #[.val (.ref t), .val (.int (0 : Int32)), .val (.int (1 : Int32)), .val (.int (1 : Int32)), .val (.ref b2)]) rfl rfl rfl ?_
  refine gLoadAN 15 X2 hx (H d23_14) rfl rfl rfl ?_
  refine gLoadIN 16 X2 hx (H d23_15) rfl rfl ?_
  refine gLoadA 18 X2 hx (H d23_16) rfl rfl rfl ?_
  refine gIconst 19 X2 hx (v := (0 : Int32)) (H d23_18) rfl rfl ?_
  refine gLoadAN 20 X2 hx (H d23_19) rfl rfl rfl ?_
  refine gArrLen X2 hx hZ e2 f2_0 (H d23_20) (pc' := 21) rfl ?_
  refine gLoadIN 22 X2 hx (H d23_21) rfl rfl ?_
  refine gIsub 23 X2 hx (H d23_22) rfl ?_
  show Goes p e below _ T2 (mkF m 23 #[.val (.ref t), .val (.int (0 : Int32)), .val (.int (1 : Int32)), .val (.int (1 : Int32)), .val (.ref b2)] [(.int (4 : Int32)), (.int (0 : Int32)), (.ref b2), (.int (0 : Int32)), (.ref t)])
  refine gLoadIN 24 X2 hx (H d23_23) rfl rfl ?_
  refine gCallSJ X2 hx hZ (y := mn4) hown e2 (by rw [hml]; rfl) (ow hw 108 rfl) (ow hw 68 rfl) (ow hw 69 rfl) (ow hw 70 rfl) (by decide) (argsL := [(.int (4 : Int32)), (.int (1 : Int32))]) (st := [(.int (0 : Int32)), (.ref b2), (.int (0 : Int32)), (.ref t)]) (c_min_4_1 l Z a0 hw h2) (lenOf pd_6 rfl) (H d23_24) (pc' := 27) rfl rfl rfl rfl (by decide) (W := 4) (Nat.le_of_eq rfl) (by decide) (by decide) (by decide) ?_
  intro T3 X3 e3
  refine gArrCopy X3 hx hZ hown (ow hw 109 rfl) (ow hw 112 rfl) (ow hw 110 rfl) (ow hw 111 rfl) e3 (dv := (.int 0)) (dd := (.int 0)) f2_0 V2 rfl (by decide) (by decide) (by decide) (by decide) (by decide) (by decide) (Fr.nil h0.size) sz_b2 (by rw [hml]; rfl) (H d23_27) (pc' := 30) rfl (by decide) (W := 0) (Nat.le_of_eq rfl) (by decide) (fun T4 h4 L4 X4 e4 N4 K4 A4 => ?_)
  have KK : Keep h0 h4 [] := K2.trans K4 (allS (Or.inr sz_b2) all0)
  have VV : Arv Z h4 b2 ck2 .byte 1 [by8 ch0] (.int 0) := A4
  refine gLoadA 32 X4 hx (H d23_30) rfl rfl rfl ?_
  exact gRetA X4 hx hlk hret rfl rfl (H d23_32) (by decide) (by decide) (⟨_, _, rfl, sz_b2, N4, by rw [e4]; exact KK, by rw [e4]; exact VV⟩)
theorem c_cor_4_0_1 (l : Launch) (Z : State) (a0 : Array Value) (hw : ∀ d ∈ tables_1, d.before a0 Z = true) (t : Addr) (ck : ClassId) (ch0 ch1 ch2 ch3 : Int32) (h0 : Heap) (A : sA Z h0 t ck 4 [by8 ch0, by8 ch1, by8 ch2, by8 ch3]) :
    Ctr l Z mn26 jdk_65_method_132_code 3 (some (.array .byte)) [] ⟨2, 1, 1, 40⟩ #[(.ref t), (.int (0 : Int32)), (.int (1 : Int32))] h0 (fun v h L => ∃ (b : Addr) (ct : ClassId), v = some (.ref b) ∧ h0.size ≤ b ∧ Fr h0.size L ∧ Keep h0 h [] ∧ sA Z h b ct 1 [by8 ch0]) := by
  refine Ctr.of (plainFor_of_name pn_7) ?_
  intro p e s m below meth c s₁ hx H hml hret hown hnm hZ hlk X0 e0
  refine Goes.cast (show entryFrame m _ _ = mkF m 0 #[.val (.ref t), .val (.int (0 : Int32)), .val (.int (1 : Int32))] [] from rfl) ?_
  refine gLoadIN 1 X0 hx (H d22_0) rfl rfl ?_
  refine gIfNeT X0 hx (H d22_1) (pc' := 10) (by decide) (by decide) (pn := 4) rfl (fun (c1 : ¬ (0 : Int) = (0 : Int)) => ?_) (fun (c1 : (0 : Int) = (0 : Int)) => ?_)
  · exact absurd c1 (by decide)
  · refine gLoadIN 5 X0 hx (H d22_4) rfl rfl ?_
    refine gLoadAN 6 X0 hx (H d22_5) rfl rfl rfl ?_
    refine gArrLen X0 hx hZ e0 A (H d22_6) (pc' := 7) rfl ?_
    refine gIcmpEqT X0 hx (H d22_7) (pc' := 17) (by decide) (by decide) (pn := 10) rfl (fun (c7 : (1 : Int) = (4 : Int)) => ?_) (fun (c7 : ¬ (1 : Int) = (4 : Int)) => ?_)
    · exact absurd c7 (by decide)
    · refine gLoadAN 11 X0 hx (H d22_10) rfl rfl rfl ?_
      refine gLoadIN 12 X0 hx (H d22_11) rfl rfl ?_
      refine gLoadIN 13 X0 hx (H d22_12) rfl rfl ?_
      refine gCallS X0 hx hZ (y := mn27) hown e0 (by rw [hml]; rfl) (ow hw 102 rfl) (ow hw 103 rfl) (ow hw 100 rfl) (ow hw 104 rfl) (by decide) (argsL := [(.ref t), (.int (0 : Int32)), (.int (1 : Int32))]) (st := []) (c_cor_4_0_1b l Z a0 hw t ck ch0 ch1 ch2 ch3 h0 A) (lenOf pd_19 rfl) (H d22_13) (pc' := 16) rfl rfl (by decide) (W := 0) (Nat.le_of_eq rfl) (by decide) (by decide) (by decide) ?_
      intro T1 v1 L1 X1 hQ1
      obtain ⟨b1, ct1, rfl, g1, g2, g3, g4⟩ := hQ1
      exact gRetA X1 hx hlk hret rfl rfl (H d22_16) (by decide) (by decide) (⟨_, _, rfl, g1, g2, g3, g4⟩)
theorem c_newString_4_0_1 (l : Launch) (Z : State) (a0 : Array Value) (hw : ∀ d ∈ tables_1, d.before a0 Z = true) (t : Addr) (ck : ClassId) (ch0 ch1 ch2 ch3 : Int32) (h0 : Heap) (A : sA Z h0 t ck 4 [by8 ch0, by8 ch1, by8 ch2, by8 ch3]) :
    Ctr l Z mn20 jdk_43_method_47_code 3 (some (.object "java/lang/String")) [] ⟨3, 2, 5, 57⟩ #[(.ref t), (.int (0 : Int32)), (.int (1 : Int32))] h0 (SQd Z h0 1 [by8 ch0]) := by
  refine Ctr.of (plainFor_of_name pn_5) ?_
  intro p e s m below meth c s₁ hx H hml hret hown hnm hZ hlk X0 e0
  refine Goes.cast (show entryFrame m _ _ = mkF m 0 #[.val (.ref t), .val (.int (0 : Int32)), .val (.int (1 : Int32))] [] from rfl) ?_
  refine gLoadIN 1 X0 hx (H d16_0) rfl rfl ?_
  refine gIfNeT X0 hx (H d16_1) (pc' := 7) (by decide) (by decide) (pn := 4) rfl (fun (c1 : ¬ (1 : Int) = (0 : Int)) => ?_) (fun (c1 : (1 : Int) = (0 : Int)) => ?_)
  · refine gNew X0 hx hZ hown (ow hw 97 rfl) (ow hw 10 rfl) (ow hw 11 rfl) e0 (H d16_7) (pc' := 10) rfl (by decide) (by decide) (fun T1 h1 b1 X1 e1 g1 E1 A1 D1 => ?_)
    have ne_t_b1 : t ≠ b1 := Nat.ne_of_lt (Nat.lt_of_lt_of_eq A.lt g1.symm)
    have f1_0 := A.ext E1
    have sz_b1 : h0.size ≤ b1 := Nat.le_trans (Nat.le_refl _) (Nat.le_of_eq g1.symm)
    have zs1 : h0.size ≤ h1.size := Nat.le_trans (Nat.le_refl _) E1.1
    have K1 : Keep h0 h1 [] := (Keep.refl h0 []).ext E1
    have F1_value : Fld Z h1 b1 "java/lang/String" "value" "[B" .null := D1 (Or.inr (ow hw 24 rfl)) (ty := (.array .byte)) (by decide)
    have F1_coder : Fld Z h1 b1 "java/lang/String" "coder" "B" (.int (0 : Int32)) := D1 (Or.inr (ow hw 25 rfl)) (ty := .byte) (by decide)
    refine gDup 11 X1 hx (H d16_10) rfl rfl ?_
    refine gLoadAN 12 X1 hx (H d16_11) rfl rfl rfl ?_
    refine gLoadIN 13 X1 hx (H d16_12) rfl rfl ?_
    refine gLoadIN 14 X1 hx (H d16_13) rfl rfl ?_
    refine gLoadIN 15 X1 hx (H d16_14) rfl rfl ?_
    refine gIadd 16 X1 hx (H d16_15) rfl ?_
    show Goes p e below _ T1 (mkF m 16 #[.val (.ref t), .val (.int (0 : Int32)), .val (.int (1 : Int32))] [(.int (1 : Int32)), (.int (0 : Int32)), (.ref t), (.ref b1), (.ref b1)])
    refine gCallS X1 hx hZ (y := mn26) hown e1 (by rw [hml]; rfl) (ow hw 98 rfl) (ow hw 99 rfl) (ow hw 100 rfl) (ow hw 101 rfl) (by decide) (argsL := [(.ref t), (.int (0 : Int32)), (.int (1 : Int32))]) (st := [(.ref b1), (.ref b1)]) (c_cor_4_0_1 l Z a0 hw t ck ch0 ch1 ch2 ch3 h1 f1_0) (lenOf pd_19 rfl) (H d16_16) (pc' := 19) rfl rfl (by decide) (W := 2) (Nat.le_of_eq rfl) (by decide) (by decide) (by decide) ?_
    intro T2 v2 L2 X2 hQ2
    obtain ⟨q2, ctq2, rfl, gq2, Nq2, Kq2, Aq2⟩ := hQ2
    have N2 := Fr.app (Fr.nil h0.size) (fun y hy => Nat.le_trans zs1 (Nq2 y hy))
    have K2 : Keep h0 T2.heap [] := K1.trans Kq2 all0
    have f2_0 := f1_0.keep Kq2 nin0
    have f2_1 := A1.keep Kq2
    have f2_2 := F1_value.keep Kq2 nin0
    have f2_3 := F1_coder.keep Kq2 nin0
    have zs2 := Nat.le_trans zs1 Kq2.1
    have nq2 : q2 ≠ b1 := Ne.symm (Nat.ne_of_lt (Nat.lt_of_lt_of_le A1.lt gq2))
    refine gIconst 20 X2 hx (v := (0 : Int32)) (H d16_19) rfl rfl ?_
    refine gCallI X2 hx hZ (y := mn6) rfl hown rfl (by rw [hml]; rfl) (ow hw 113 rfl) (ow hw 114 rfl) (ow hw 11 rfl) (ow hw 115 rfl) (by decide) (argsL := [(.ref q2), (.int (0 : Int32))]) (st := [(.ref b1)]) (c_sinitB l Z a0 hw b1 q2 h0.size T2.heap sz_b1 f2_1 f2_3 f2_2) (lenOf pd_15 rfl) (H d16_20) (pc' := 23) rfl rfl (by decide) (W := 1) (Nat.le_of_eq rfl) (by decide) (by decide) (by decide) ?_
    intro T3 v3 L3 X3 hQ3
    obtain ⟨rfl, Nq3, Kq3, Eq3, Cq3, Vq3⟩ := hQ3
    have N3 := Fr.app N2 Nq3
    have K3 : Keep h0 T3.heap [] := K2.trans Kq3 (allS (Or.inr sz_b1) all0)
    have Ak3 := Aq2.keep Kq3 (ninS nq2 nin0)
    exact gRetA X3 hx hlk hret rfl rfl (H d16_23) (by decide) (by decide) (⟨b1, q2, ctq2, rfl, N3, K3, Eq3, Cq3, Vq3, Ak3⟩)
  · exact absurd c1 (by decide)
theorem c_sub_4_0_1 (l : Launch) (Z : State) (a0 : Array Value) (hw : ∀ d ∈ tables_1, d.before a0 Z = true) (a t : Addr) (ck : ClassId) (ch0 ch1 ch2 ch3 : Int32) (h0 : Heap) (hSio : Sio Z h0) (hCpt : Cpt Z h0) (E : sE Z h0 a) (C : sC Z h0 a) (V : sV Z h0 a t) (A : sA Z h0 t ck 4 [by8 ch0, by8 ch1, by8 ch2, by8 ch3]) (hch0 : rg ch0) (hch1 : rg ch1) (hch2 : rg ch2) (hch3 : rg ch3) :
    Ctr l Z mn16 jdk_42_method_92_code 5 (some (.object "java/lang/String")) [] ⟨4, 2, 5, 71⟩ #[(.ref a), (.int (0 : Int32)), (.int (1 : Int32))] h0 (SQd Z h0 1 [by8 ch0]) := by
  refine Ctr.of (plainFor_of_name pn_4) ?_
  intro p e s m below meth c s₁ hx H hml hret hown hnm hZ hlk X0 e0
  refine Goes.cast (show entryFrame m _ _ = mkF m 0 #[.val (.ref a), .val (.int (0 : Int32)), .val (.int (1 : Int32)), .unset, .unset] [] from rfl) ?_
  refine gLoadAN 1 X0 hx (H d13_0) rfl rfl rfl ?_
  refine gCallVJ X0 hx hZ (y := mn15) hown e0 (by rw [hml]; rfl) E (ow hw 39 rfl) (ow hw 40 rfl) (ow hw 42 rfl) (ow hw 41 rfl) (ow hw 11 rfl) (ow hw 43 rfl) (by decide) (argsL := []) (st := []) (c_length_4 l Z a0 hw a t ck ch0 ch1 ch2 ch3 h0 hCpt E C V A hch0 hch1 hch2 hch3) (lenOf pd_1 rfl) (H d13_1) (pc' := 4) rfl rfl rfl rfl (by decide) (W := 0) (Nat.le_of_eq rfl) (by decide) (by decide) (by decide) ?_
  intro T1 X1 e1
  refine gStoreIN 5 X1 hx (H d13_4) (l' := #[.val (.ref a), .val (.int (0 : Int32)), .val (.int (1 : Int32)), .val (.int (4 : Int32)), .unset]) rfl rfl ?_
  refine gLoadIN 6 X1 hx (H d13_5) rfl rfl ?_
  refine gLoadIN 7 X1 hx (H d13_6) rfl rfl ?_
  refine gLoadIN 8 X1 hx (H d13_7) rfl rfl ?_
  refine gCallS X1 hx hZ (y := mn9) hown e1 (by rw [hml]; rfl) (ow hw 86 rfl) (ow hw 87 rfl) (ow hw 11 rfl) (ow hw 88 rfl) (by decide) (argsL := [(.int (0 : Int32)), (.int (1 : Int32)), (.int (4 : Int32))]) (st := []) (c_chkft l Z a0 hw (0 : Int32) (1 : Int32) (4 : Int32) h0 (by decide) (by decide) (by decide) hSio) (lenOf pd_10 rfl) (H d13_8) (pc' := 11) rfl rfl (by decide) (W := 0) (Nat.le_of_eq rfl) (by decide) (by decide) (by decide) ?_
  intro T2 v2 L2 X2 hQ2
  obtain ⟨rfl, eq2, rfl⟩ := hQ2
  rw [List.append_nil] at X2
  refine gLoadIN 12 X2 hx (H d13_11) rfl rfl ?_
  refine gIfNeT X2 hx (H d13_12) (pc' := 22) (by decide) (by decide) (pn := 15) rfl (fun (c12 : ¬ (0 : Int) = (0 : Int)) => ?_) (fun (c12 : (0 : Int) = (0 : Int)) => ?_)
  · exact absurd c12 (by decide)
  · refine gLoadIN 16 X2 hx (H d13_15) rfl rfl ?_
    refine gLoadIN 17 X2 hx (H d13_16) rfl rfl ?_
    refine gIcmpNeT X2 hx (H d13_17) (pc' := 22) (by decide) (by decide) (pn := 20) rfl (fun (c17 : ¬ (1 : Int) = (4 : Int)) => ?_) (fun (c17 : (1 : Int) = (4 : Int)) => ?_)
    · refine gLoadIN 23 X2 hx (H d13_22) rfl rfl ?_
      refine gLoadIN 24 X2 hx (H d13_23) rfl rfl ?_
      refine gIsub 25 X2 hx (H d13_24) rfl ?_
      show Goes p e below _ T2 (mkF m 25 #[.val (.ref a), .val (.int (0 : Int32)), .val (.int (1 : Int32)), .val (.int (4 : Int32)), .unset] [(.int (1 : Int32))])
      refine gStoreI 27 X2 hx (H d13_25) (l' := #[.val (.ref a), .val (.int (0 : Int32)), .val (.int (1 : Int32)), .val (.int (4 : Int32)), .val (.int (1 : Int32))]) rfl rfl ?_
      refine gLoadAN 28 X2 hx (H d13_27) rfl rfl rfl ?_
      refine gCallVJ X2 hx hZ (y := mn12) hown eq2 (by rw [hml]; rfl) E (ow hw 55 rfl) (ow hw 56 rfl) (ow hw 58 rfl) (ow hw 57 rfl) (ow hw 11 rfl) (ow hw 59 rfl) (by decide) (argsL := []) (st := []) (c_isLatin1 l Z a0 hw a h0 hCpt C) (lenOf pd_3 rfl) (H d13_28) (pc' := 31) rfl rfl rfl rfl (by decide) (W := 0) (Nat.le_of_eq rfl) (by decide) (by decide) (by decide) ?_
      intro T3 X3 e3
      refine gIfEqT X3 hx (H d13_31) (pc' := 47) (by decide) (by decide) (pn := 34) rfl (fun (c31 : (1 : Int) = (0 : Int)) => ?_) (fun (c31 : ¬ (1 : Int) = (0 : Int)) => ?_)
      · exact absurd c31 (by decide)
      · refine gLoadAN 35 X3 hx (H d13_34) rfl rfl rfl ?_
        refine gGetF X3 hx hZ hown (ow hw 28 rfl) Via.refl e3 V (H d13_35) (pc' := 38) rfl (fun T4 X4 e4 => ?_)
        refine gLoadIN 39 X4 hx (H d13_38) rfl rfl ?_
        refine gLoadI 41 X4 hx (H d13_39) rfl rfl ?_
        refine gCallS X4 hx hZ (y := mn20) hown e4 (by rw [hml]; rfl) (ow hw 94 rfl) (ow hw 95 rfl) (ow hw 62 rfl) (ow hw 96 rfl) (by decide) (argsL := [(.ref t), (.int (0 : Int32)), (.int (1 : Int32))]) (st := []) (c_newString_4_0_1 l Z a0 hw t ck ch0 ch1 ch2 ch3 h0 A) (lenOf pd_18 rfl) (H d13_41) (pc' := 44) rfl rfl (by decide) (W := 0) (Nat.le_of_eq rfl) (by decide) (by decide) (by decide) ?_
        intro T5 v5 L5 X5 hQ5
        obtain ⟨r5, t5, ct5, rfl, Nq5, Kq5, Eq5, Cq5, Vq5, Aq5⟩ := hQ5
        have N5 := Fr.app (Fr.nil h0.size) (fun y hy => Nat.le_trans (Nat.le_refl _) (Nq5 y hy))
        have f5_0 := E.keep Kq5
        have f5_1 := C.keep Kq5 nin0
        have f5_2 := V.keep Kq5 nin0
        have f5_3 := A.keep Kq5 nin0
        have f5_4 := own_cpt_keep hCpt Kq5 ns0
        have zs5 := Nat.le_trans (Nat.le_refl _) Kq5.1
        have K5 : Keep h0 T5.heap [] := (Keep.refl h0 []).trans Kq5 all0
        refine gGoto X5 hx (H d13_44) (pc' := 57) (by decide) (by decide) ?_
        exact gRetA X5 hx hlk hret rfl rfl (H d13_57) (by decide) (by decide) (⟨r5, t5, ct5, rfl, N5, K5, Eq5, Cq5, Vq5, Aq5⟩)
    · exact absurd c17 (by decide)
theorem c_nm_4_1 (l : Launch) (Z : State) (a0 : Array Value) (hw : ∀ d ∈ tables_1, d.before a0 Z = true) (a t : Addr) (ck : ClassId) (ch0 ch1 ch2 ch3 : Int32) (h0 : Heap) (hSio : Sio Z h0) (hCpt : Cpt Z h0) (E : sE Z h0 a) (C : sC Z h0 a) (V : sV Z h0 a t) (A : sA Z h0 t ck 4 [by8 ch0, by8 ch1, by8 ch2, by8 ch3]) (hch0 : rg ch0) (hch1 : rg ch1) (hch2 : rg ch2) (hch3 : rg ch3) (d2 : ¬ ch2.toInt = 47) (d3 : ¬ ch3.toInt = 47) (dq : ch1.toInt = 47) :
    Ctr l Z mn0 prog_18_method_5_code 2 (some (.object "java/lang/String")) [] ⟨5, 2, 5, 87⟩ #[(.ref a)] h0 (SQd Z h0 1 [by8 ch0]) := by
  refine Ctr.of (plainFor_of_name pn_0) ?_
  intro p e s m below meth c s₁ hx H hml hret hown hnm hZ hlk X0 e0
  refine Goes.cast (show entryFrame m _ _ = mkF m 0 #[.val (.ref a), .unset] [] from rfl) ?_
  refine gLoadAN 1 X0 hx (H d27_0) rfl rfl rfl ?_
  refine gBipush 3 X0 hx (v := (47 : Int32)) (H d27_1) rfl rfl ?_
  refine gCallVJ X0 hx hZ (y := mn13) hown e0 (by rw [hml]; rfl) E (ow hw 34 rfl) (ow hw 35 rfl) (ow hw 37 rfl) (ow hw 36 rfl) (ow hw 11 rfl) (ow hw 38 rfl) (by decide) (argsL := [(.int (47 : Int32))]) (st := []) (c_lastIndexOf_4 l Z a0 hw a t ck ch0 ch1 ch2 ch3 h0 hCpt E C V A hch0 hch1 hch2 hch3) (lenOf pd_4 rfl) (H d27_3) (pc' := 6) rfl rfl rfl rfl (by decide) (W := 0) (Nat.le_of_eq rfl) (by decide) (by decide) (by decide) ?_
  intro T1 X1 e1
  rw [show lx4 ch0 ch1 ch2 ch3 = 1 from by rw [lx4, if_neg d3, if_neg d2, if_pos dq]]
  refine gStoreIN 7 X1 hx (H d27_6) (l' := #[.val (.ref a), .val (.int (1 : Int32))]) rfl rfl ?_
  refine gLoadIN 8 X1 hx (H d27_7) rfl rfl ?_
  refine gIfLe X1 hx (H d27_8) (pc' := 20) (by decide) (by decide) (pn := 11) rfl (fun (c8 : (1 : Int) ≤ (0 : Int)) => ?_) (fun (c8 : (0 : Int) < (1 : Int)) => ?_)
  · exact absurd c8 (by decide)
  · refine gLoadAN 12 X1 hx (H d27_11) rfl rfl rfl ?_
    refine gIconst 13 X1 hx (v := (0 : Int32)) (H d27_12) rfl rfl ?_
    refine gLoadIN 14 X1 hx (H d27_13) rfl rfl ?_
    refine gCallV X1 hx hZ (y := mn16) hown e1 (by rw [hml]; rfl) E (ow hw 81 rfl) (ow hw 82 rfl) (ow hw 84 rfl) (ow hw 83 rfl) (ow hw 11 rfl) (ow hw 85 rfl) (by decide) (argsL := [(.int (0 : Int32)), (.int (1 : Int32))]) (st := []) (c_sub_4_0_1 l Z a0 hw a t ck ch0 ch1 ch2 ch3 h0 hSio hCpt E C V A hch0 hch1 hch2 hch3) (lenOf pd_7 rfl) (H d27_14) (pc' := 17) rfl rfl (by decide) (W := 0) (Nat.le_of_eq rfl) (by decide) (by decide) (by decide) ?_
    intro T2 v2 L2 X2 hQ2
    obtain ⟨r2, t2, ct2, rfl, Nq2, Kq2, Eq2, Cq2, Vq2, Aq2⟩ := hQ2
    have N2 := Fr.app (Fr.nil h0.size) (fun y hy => Nat.le_trans (Nat.le_refl _) (Nq2 y hy))
    have f2_0 := E.keep Kq2
    have f2_1 := C.keep Kq2 nin0
    have f2_2 := V.keep Kq2 nin0
    have f2_3 := A.keep Kq2 nin0
    have f2_4 := own_cpt_keep hCpt Kq2 ns0
    have zs2 := Nat.le_trans (Nat.le_refl _) Kq2.1
    have K2 : Keep h0 T2.heap [] := (Keep.refl h0 []).trans Kq2 all0
    refine gGoto X2 hx (H d27_17) (pc' := 21) (by decide) (by decide) ?_
    exact gRetA X2 hx hlk hret rfl rfl (H d27_21) (by decide) (by decide) (⟨r2, t2, ct2, rfl, N2, K2, Eq2, Cq2, Vq2, Aq2⟩)
theorem c_min_4_2 (l : Launch) (Z : State) (a0 : Array Value) (hw : ∀ d ∈ tables_1, d.before a0 Z = true)  (h0 : Heap)  :
    Ctr l Z mn4 jdk_29_method_69_code 2 (some .int) [] ⟨0, 0, 0, 0⟩ #[(.int (4 : Int32)), (.int (2 : Int32))] h0 (Just h0 (.int (2))) := by
  refine Ctr.of (Jvm.Free.JP.mathPlain rfl (by decide +kernel)) ?_
  intro p e s m below meth c s₁ hx H hml hret hown hnm hZ hlk X0 e0
  refine Goes.cast (show entryFrame m _ _ = mkF m 0 #[.val (.int (4 : Int32)), .val (.int (2 : Int32))] [] from rfl) ?_
  refine gLoadIN 1 X0 hx (H d1_0) rfl rfl ?_
  refine gLoadIN 2 X0 hx (H d1_1) rfl rfl ?_
  refine gIcmpGt X0 hx (H d1_2) (pc' := 9) (by decide) (by decide) (pn := 5) rfl (fun (c2 : (2 : Int) < (4 : Int)) => ?_) (fun (c2 : (4 : Int) ≤ (2 : Int)) => ?_)
  · refine gLoadIN 10 X0 hx (H d1_9) rfl rfl ?_
    exact gRetI X0 hx hlk hret (H d1_10) (by decide) (by decide) (⟨rfl, e0, rfl⟩)
  · exact absurd c2 (by decide)
theorem c_cor_4_0_2b (l : Launch) (Z : State) (a0 : Array Value) (hw : ∀ d ∈ tables_1, d.before a0 Z = true) (t : Addr) (ck : ClassId) (ch0 ch1 ch2 ch3 : Int32) (h0 : Heap) (A : sA Z h0 t ck 4 [by8 ch0, by8 ch1, by8 ch2, by8 ch3]) :
    Ctr l Z mn27 jdk_65_method_133_code 5 (some (.array .byte)) [] ⟨1, 1, 2, 24⟩ #[(.ref t), (.int (0 : Int32)), (.int (2 : Int32))] h0 (fun v h L => ∃ (b : Addr) (ct : ClassId), v = some (.ref b) ∧ h0.size ≤ b ∧ Fr h0.size L ∧ Keep h0 h [] ∧ sA Z h b ct 2 [by8 ch0, by8 ch1]) := by
  refine Ctr.of (plainFor_of_name pn_7) ?_
  intro p e s m below meth c s₁ hx H hml hret hown hnm hZ hlk X0 e0
  refine Goes.cast (show entryFrame m _ _ = mkF m 0 #[.val (.ref t), .val (.int (0 : Int32)), .val (.int (2 : Int32)), .unset, .unset] [] from rfl) ?_
  refine gLoadIN 1 X0 hx (H d23_0) rfl rfl ?_
  refine gLoadIN 2 X0 hx (H d23_1) rfl rfl ?_
  refine gCallS X0 hx hZ (y := mn25) hown e0 (by rw [hml]; rfl) (ow hw 105 rfl) (ow hw 106 rfl) (ow hw 100 rfl) (ow hw 107 rfl) (by decide) (argsL := [(.int (0 : Int32)), (.int (2 : Int32))]) (st := []) (c_clen_0_2 l Z a0 hw h0) (lenOf pd_8 rfl) (H d23_2) (pc' := 5) rfl rfl (by decide) (W := 0) (Nat.le_of_eq rfl) (by decide) (by decide) (by decide) ?_
  intro T1 v1 L1 X1 hQ1
  obtain ⟨rfl, eq1, rfl⟩ := hQ1
  rw [List.append_nil] at X1
  refine gLoadIN 6 X1 hx (H d23_5) rfl rfl ?_
  refine gLoadIN 7 X1 hx (H d23_6) rfl rfl ?_
  refine gIsub 8 X1 hx (H d23_7) rfl ?_
  show Goes p e below _ T1 (mkF m 8 #[.val (.ref t), .val (.int (0 : Int32)), .val (.int (2 : Int32)), .unset, .unset] [(.int (2 : Int32))])
  refine gStoreIN 9 X1 hx (H d23_8) (l' := #[.val (.ref t), .val (.int (0 : Int32)), .val (.int (2 : Int32)), .val (.int (2 : Int32)), .unset]) rfl rfl ?_
  refine gLoadIN 10 X1 hx (H d23_9) rfl rfl ?_
  refine gNewP X1 hx hZ (ow hw 23 rfl) eq1 (n := (2 : Int32)) (H d23_10) (by decide) (cap := 2) (by decide) (by decide) (by decide) (by decide) 2 (pc' := 12) rfl (fun T2 h2 b2 ck2 X2 e2 g2 E2 A2 => ?_)
  have ne_t_b2 : t ≠ b2 := Nat.ne_of_lt (Nat.lt_of_lt_of_eq A.lt g2.symm)
  have f2_0 := A.ext E2
  have sz_b2 : h0.size ≤ b2 := Nat.le_trans (Nat.le_refl _) (Nat.le_of_eq g2.symm)
  have zs2 : h0.size ≤ h2.size := Nat.le_trans (Nat.le_refl _) E2.1
  have K2 : Keep h0 h2 [] := (Keep.refl h0 []).ext E2
  have V2 : Arv Z h2 b2 ck2 .byte (2 : Int32) [(.int (0 : Int32)), (.int (0 : Int32))] (.int (0 : Int32)) := A2
  refine gStoreA 14 X2 hx (H d23_12) (l' := #[.val (.ref t), .val (.int (0 : Int32)), .val (.int (2 : Int32)), .val (.int (2 : Int32)), .val (.ref b2)]) rfl rfl rfl ?_
  refine gLoadAN 15 X2 hx (H d23_14) rfl rfl rfl ?_
  refine gLoadIN 16 X2 hx (H d23_15) rfl rfl ?_
  refine gLoadA 18 X2 hx (H d23_16) rfl rfl rfl ?_
  refine gIconst 19 X2 hx (v := (0 : Int32)) (H d23_18) rfl rfl ?_
  refine gLoadAN 20 X2 hx (H d23_19) rfl rfl rfl ?_
  refine gArrLen X2 hx hZ e2 f2_0 (H d23_20) (pc' := 21) rfl ?_
  refine gLoadIN 22 X2 hx (H d23_21) rfl rfl ?_
  refine gIsub 23 X2 hx (H d23_22) rfl ?_
  show Goes p e below _ T2 (mkF m 23 #[.val (.ref t), .val (.int (0 : Int32)), .val (.int (2 : Int32)), .val (.int (2 : Int32)), .val (.ref b2)] [(.int (4 : Int32)), (.int (0 : Int32)), (.ref b2), (.int (0 : Int32)), (.ref t)])
  refine gLoadIN 24 X2 hx (H d23_23) rfl rfl ?_
  refine gCallSJ X2 hx hZ (y := mn4) hown e2 (by rw [hml]; rfl) (ow hw 108 rfl) (ow hw 68 rfl) (ow hw 69 rfl) (ow hw 70 rfl) (by decide) (argsL := [(.int (4 : Int32)), (.int (2 : Int32))]) (st := [(.int (0 : Int32)), (.ref b2), (.int (0 : Int32)), (.ref t)]) (c_min_4_2 l Z a0 hw h2) (lenOf pd_6 rfl) (H d23_24) (pc' := 27) rfl rfl rfl rfl (by decide) (W := 4) (Nat.le_of_eq rfl) (by decide) (by decide) (by decide) ?_
  intro T3 X3 e3
  refine gArrCopy X3 hx hZ hown (ow hw 109 rfl) (ow hw 112 rfl) (ow hw 110 rfl) (ow hw 111 rfl) e3 (dv := (.int 0)) (dd := (.int 0)) f2_0 V2 rfl (by decide) (by decide) (by decide) (by decide) (by decide) (by decide) (Fr.nil h0.size) sz_b2 (by rw [hml]; rfl) (H d23_27) (pc' := 30) rfl (by decide) (W := 0) (Nat.le_of_eq rfl) (by decide) (fun T4 h4 L4 X4 e4 N4 K4 A4 => ?_)
  have KK : Keep h0 h4 [] := K2.trans K4 (allS (Or.inr sz_b2) all0)
  have VV : Arv Z h4 b2 ck2 .byte 2 [by8 ch0, by8 ch1] (.int 0) := A4
  refine gLoadA 32 X4 hx (H d23_30) rfl rfl rfl ?_
  exact gRetA X4 hx hlk hret rfl rfl (H d23_32) (by decide) (by decide) (⟨_, _, rfl, sz_b2, N4, by rw [e4]; exact KK, by rw [e4]; exact VV⟩)
theorem c_cor_4_0_2 (l : Launch) (Z : State) (a0 : Array Value) (hw : ∀ d ∈ tables_1, d.before a0 Z = true) (t : Addr) (ck : ClassId) (ch0 ch1 ch2 ch3 : Int32) (h0 : Heap) (A : sA Z h0 t ck 4 [by8 ch0, by8 ch1, by8 ch2, by8 ch3]) :
    Ctr l Z mn26 jdk_65_method_132_code 3 (some (.array .byte)) [] ⟨2, 1, 2, 40⟩ #[(.ref t), (.int (0 : Int32)), (.int (2 : Int32))] h0 (fun v h L => ∃ (b : Addr) (ct : ClassId), v = some (.ref b) ∧ h0.size ≤ b ∧ Fr h0.size L ∧ Keep h0 h [] ∧ sA Z h b ct 2 [by8 ch0, by8 ch1]) := by
  refine Ctr.of (plainFor_of_name pn_7) ?_
  intro p e s m below meth c s₁ hx H hml hret hown hnm hZ hlk X0 e0
  refine Goes.cast (show entryFrame m _ _ = mkF m 0 #[.val (.ref t), .val (.int (0 : Int32)), .val (.int (2 : Int32))] [] from rfl) ?_
  refine gLoadIN 1 X0 hx (H d22_0) rfl rfl ?_
  refine gIfNeT X0 hx (H d22_1) (pc' := 10) (by decide) (by decide) (pn := 4) rfl (fun (c1 : ¬ (0 : Int) = (0 : Int)) => ?_) (fun (c1 : (0 : Int) = (0 : Int)) => ?_)
  · exact absurd c1 (by decide)
  · refine gLoadIN 5 X0 hx (H d22_4) rfl rfl ?_
    refine gLoadAN 6 X0 hx (H d22_5) rfl rfl rfl ?_
    refine gArrLen X0 hx hZ e0 A (H d22_6) (pc' := 7) rfl ?_
    refine gIcmpEqT X0 hx (H d22_7) (pc' := 17) (by decide) (by decide) (pn := 10) rfl (fun (c7 : (2 : Int) = (4 : Int)) => ?_) (fun (c7 : ¬ (2 : Int) = (4 : Int)) => ?_)
    · exact absurd c7 (by decide)
    · refine gLoadAN 11 X0 hx (H d22_10) rfl rfl rfl ?_
      refine gLoadIN 12 X0 hx (H d22_11) rfl rfl ?_
      refine gLoadIN 13 X0 hx (H d22_12) rfl rfl ?_
      refine gCallS X0 hx hZ (y := mn27) hown e0 (by rw [hml]; rfl) (ow hw 102 rfl) (ow hw 103 rfl) (ow hw 100 rfl) (ow hw 104 rfl) (by decide) (argsL := [(.ref t), (.int (0 : Int32)), (.int (2 : Int32))]) (st := []) (c_cor_4_0_2b l Z a0 hw t ck ch0 ch1 ch2 ch3 h0 A) (lenOf pd_19 rfl) (H d22_13) (pc' := 16) rfl rfl (by decide) (W := 0) (Nat.le_of_eq rfl) (by decide) (by decide) (by decide) ?_
      intro T1 v1 L1 X1 hQ1
      obtain ⟨b1, ct1, rfl, g1, g2, g3, g4⟩ := hQ1
      exact gRetA X1 hx hlk hret rfl rfl (H d22_16) (by decide) (by decide) (⟨_, _, rfl, g1, g2, g3, g4⟩)
theorem c_newString_4_0_2 (l : Launch) (Z : State) (a0 : Array Value) (hw : ∀ d ∈ tables_1, d.before a0 Z = true) (t : Addr) (ck : ClassId) (ch0 ch1 ch2 ch3 : Int32) (h0 : Heap) (A : sA Z h0 t ck 4 [by8 ch0, by8 ch1, by8 ch2, by8 ch3]) :
    Ctr l Z mn20 jdk_43_method_47_code 3 (some (.object "java/lang/String")) [] ⟨3, 2, 6, 57⟩ #[(.ref t), (.int (0 : Int32)), (.int (2 : Int32))] h0 (SQd Z h0 2 [by8 ch0, by8 ch1]) := by
  refine Ctr.of (plainFor_of_name pn_5) ?_
  intro p e s m below meth c s₁ hx H hml hret hown hnm hZ hlk X0 e0
  refine Goes.cast (show entryFrame m _ _ = mkF m 0 #[.val (.ref t), .val (.int (0 : Int32)), .val (.int (2 : Int32))] [] from rfl) ?_
  refine gLoadIN 1 X0 hx (H d16_0) rfl rfl ?_
  refine gIfNeT X0 hx (H d16_1) (pc' := 7) (by decide) (by decide) (pn := 4) rfl (fun (c1 : ¬ (2 : Int) = (0 : Int)) => ?_) (fun (c1 : (2 : Int) = (0 : Int)) => ?_)
  · refine gNew X0 hx hZ hown (ow hw 97 rfl) (ow hw 10 rfl) (ow hw 11 rfl) e0 (H d16_7) (pc' := 10) rfl (by decide) (by decide) (fun T1 h1 b1 X1 e1 g1 E1 A1 D1 => ?_)
    have ne_t_b1 : t ≠ b1 := Nat.ne_of_lt (Nat.lt_of_lt_of_eq A.lt g1.symm)
    have f1_0 := A.ext E1
    have sz_b1 : h0.size ≤ b1 := Nat.le_trans (Nat.le_refl _) (Nat.le_of_eq g1.symm)
    have zs1 : h0.size ≤ h1.size := Nat.le_trans (Nat.le_refl _) E1.1
    have K1 : Keep h0 h1 [] := (Keep.refl h0 []).ext E1
    have F1_value : Fld Z h1 b1 "java/lang/String" "value" "[B" .null := D1 (Or.inr (ow hw 24 rfl)) (ty := (.array .byte)) (by decide)
    have F1_coder : Fld Z h1 b1 "java/lang/String" "coder" "B" (.int (0 : Int32)) := D1 (Or.inr (ow hw 25 rfl)) (ty := .byte) (by decide)
    refine gDup 11 X1 hx (H d16_10) rfl rfl ?_
    refine gLoadAN 12 X1 hx (H d16_11) rfl rfl rfl ?_
    refine gLoadIN 13 X1 hx (H d16_12) rfl rfl ?_
    refine gLoadIN 14 X1 hx (H d16_13) rfl rfl ?_
    refine gLoadIN 15 X1 hx (H d16_14) rfl rfl ?_
    refine gIadd 16 X1 hx (H d16_15) rfl ?_
    show Goes p e below _ T1 (mkF m 16 #[.val (.ref t), .val (.int (0 : Int32)), .val (.int (2 : Int32))] [(.int (2 : Int32)), (.int (0 : Int32)), (.ref t), (.ref b1), (.ref b1)])
    refine gCallS X1 hx hZ (y := mn26) hown e1 (by rw [hml]; rfl) (ow hw 98 rfl) (ow hw 99 rfl) (ow hw 100 rfl) (ow hw 101 rfl) (by decide) (argsL := [(.ref t), (.int (0 : Int32)), (.int (2 : Int32))]) (st := [(.ref b1), (.ref b1)]) (c_cor_4_0_2 l Z a0 hw t ck ch0 ch1 ch2 ch3 h1 f1_0) (lenOf pd_19 rfl) (H d16_16) (pc' := 19) rfl rfl (by decide) (W := 2) (Nat.le_of_eq rfl) (by decide) (by decide) (by decide) ?_
    intro T2 v2 L2 X2 hQ2
    obtain ⟨q2, ctq2, rfl, gq2, Nq2, Kq2, Aq2⟩ := hQ2
    have N2 := Fr.app (Fr.nil h0.size) (fun y hy => Nat.le_trans zs1 (Nq2 y hy))
    have K2 : Keep h0 T2.heap [] := K1.trans Kq2 all0
    have f2_0 := f1_0.keep Kq2 nin0
    have f2_1 := A1.keep Kq2
    have f2_2 := F1_value.keep Kq2 nin0
    have f2_3 := F1_coder.keep Kq2 nin0
    have zs2 := Nat.le_trans zs1 Kq2.1
    have nq2 : q2 ≠ b1 := Ne.symm (Nat.ne_of_lt (Nat.lt_of_lt_of_le A1.lt gq2))
    refine gIconst 20 X2 hx (v := (0 : Int32)) (H d16_19) rfl rfl ?_
    refine gCallI X2 hx hZ (y := mn6) rfl hown rfl (by rw [hml]; rfl) (ow hw 113 rfl) (ow hw 114 rfl) (ow hw 11 rfl) (ow hw 115 rfl) (by decide) (argsL := [(.ref q2), (.int (0 : Int32))]) (st := [(.ref b1)]) (c_sinitB l Z a0 hw b1 q2 h0.size T2.heap sz_b1 f2_1 f2_3 f2_2) (lenOf pd_15 rfl) (H d16_20) (pc' := 23) rfl rfl (by decide) (W := 1) (Nat.le_of_eq rfl) (by decide) (by decide) (by decide) ?_
    intro T3 v3 L3 X3 hQ3
    obtain ⟨rfl, Nq3, Kq3, Eq3, Cq3, Vq3⟩ := hQ3
    have N3 := Fr.app N2 Nq3
    have K3 : Keep h0 T3.heap [] := K2.trans Kq3 (allS (Or.inr sz_b1) all0)
    have Ak3 := Aq2.keep Kq3 (ninS nq2 nin0)
    exact gRetA X3 hx hlk hret rfl rfl (H d16_23) (by decide) (by decide) (⟨b1, q2, ctq2, rfl, N3, K3, Eq3, Cq3, Vq3, Ak3⟩)
  · exact absurd c1 (by decide)
theorem c_sub_4_0_2 (l : Launch) (Z : State) (a0 : Array Value) (hw : ∀ d ∈ tables_1, d.before a0 Z = true) (a t : Addr) (ck : ClassId) (ch0 ch1 ch2 ch3 : Int32) (h0 : Heap) (hSio : Sio Z h0) (hCpt : Cpt Z h0) (E : sE Z h0 a) (C : sC Z h0 a) (V : sV Z h0 a t) (A : sA Z h0 t ck 4 [by8 ch0, by8 ch1, by8 ch2, by8 ch3]) (hch0 : rg ch0) (hch1 : rg ch1) (hch2 : rg ch2) (hch3 : rg ch3) :
    Ctr l Z mn16 jdk_42_method_92_code 5 (some (.object "java/lang/String")) [] ⟨4, 2, 6, 71⟩ #[(.ref a), (.int (0 : Int32)), (.int (2 : Int32))] h0 (SQd Z h0 2 [by8 ch0, by8 ch1]) := by
  refine Ctr.of (plainFor_of_name pn_4) ?_
  intro p e s m below meth c s₁ hx H hml hret hown hnm hZ hlk X0 e0
  refine Goes.cast (show entryFrame m _ _ = mkF m 0 #[.val (.ref a), .val (.int (0 : Int32)), .val (.int (2 : Int32)), .unset, .unset] [] from rfl) ?_
  refine gLoadAN 1 X0 hx (H d13_0) rfl rfl rfl ?_
  refine gCallVJ X0 hx hZ (y := mn15) hown e0 (by rw [hml]; rfl) E (ow hw 39 rfl) (ow hw 40 rfl) (ow hw 42 rfl) (ow hw 41 rfl) (ow hw 11 rfl) (ow hw 43 rfl) (by decide) (argsL := []) (st := []) (c_length_4 l Z a0 hw a t ck ch0 ch1 ch2 ch3 h0 hCpt E C V A hch0 hch1 hch2 hch3) (lenOf pd_1 rfl) (H d13_1) (pc' := 4) rfl rfl rfl rfl (by decide) (W := 0) (Nat.le_of_eq rfl) (by decide) (by decide) (by decide) ?_
  intro T1 X1 e1
  refine gStoreIN 5 X1 hx (H d13_4) (l' := #[.val (.ref a), .val (.int (0 : Int32)), .val (.int (2 : Int32)), .val (.int (4 : Int32)), .unset]) rfl rfl ?_
  refine gLoadIN 6 X1 hx (H d13_5) rfl rfl ?_
  refine gLoadIN 7 X1 hx (H d13_6) rfl rfl ?_
  refine gLoadIN 8 X1 hx (H d13_7) rfl rfl ?_
  refine gCallS X1 hx hZ (y := mn9) hown e1 (by rw [hml]; rfl) (ow hw 86 rfl) (ow hw 87 rfl) (ow hw 11 rfl) (ow hw 88 rfl) (by decide) (argsL := [(.int (0 : Int32)), (.int (2 : Int32)), (.int (4 : Int32))]) (st := []) (c_chkft l Z a0 hw (0 : Int32) (2 : Int32) (4 : Int32) h0 (by decide) (by decide) (by decide) hSio) (lenOf pd_10 rfl) (H d13_8) (pc' := 11) rfl rfl (by decide) (W := 0) (Nat.le_of_eq rfl) (by decide) (by decide) (by decide) ?_
  intro T2 v2 L2 X2 hQ2
  obtain ⟨rfl, eq2, rfl⟩ := hQ2
  rw [List.append_nil] at X2
  refine gLoadIN 12 X2 hx (H d13_11) rfl rfl ?_
  refine gIfNeT X2 hx (H d13_12) (pc' := 22) (by decide) (by decide) (pn := 15) rfl (fun (c12 : ¬ (0 : Int) = (0 : Int)) => ?_) (fun (c12 : (0 : Int) = (0 : Int)) => ?_)
  · exact absurd c12 (by decide)
  · refine gLoadIN 16 X2 hx (H d13_15) rfl rfl ?_
    refine gLoadIN 17 X2 hx (H d13_16) rfl rfl ?_
    refine gIcmpNeT X2 hx (H d13_17) (pc' := 22) (by decide) (by decide) (pn := 20) rfl (fun (c17 : ¬ (2 : Int) = (4 : Int)) => ?_) (fun (c17 : (2 : Int) = (4 : Int)) => ?_)
    · refine gLoadIN 23 X2 hx (H d13_22) rfl rfl ?_
      refine gLoadIN 24 X2 hx (H d13_23) rfl rfl ?_
      refine gIsub 25 X2 hx (H d13_24) rfl ?_
      show Goes p e below _ T2 (mkF m 25 #[.val (.ref a), .val (.int (0 : Int32)), .val (.int (2 : Int32)), .val (.int (4 : Int32)), .unset] [(.int (2 : Int32))])
      refine gStoreI 27 X2 hx (H d13_25) (l' := #[.val (.ref a), .val (.int (0 : Int32)), .val (.int (2 : Int32)), .val (.int (4 : Int32)), .val (.int (2 : Int32))]) rfl rfl ?_
      refine gLoadAN 28 X2 hx (H d13_27) rfl rfl rfl ?_
      refine gCallVJ X2 hx hZ (y := mn12) hown eq2 (by rw [hml]; rfl) E (ow hw 55 rfl) (ow hw 56 rfl) (ow hw 58 rfl) (ow hw 57 rfl) (ow hw 11 rfl) (ow hw 59 rfl) (by decide) (argsL := []) (st := []) (c_isLatin1 l Z a0 hw a h0 hCpt C) (lenOf pd_3 rfl) (H d13_28) (pc' := 31) rfl rfl rfl rfl (by decide) (W := 0) (Nat.le_of_eq rfl) (by decide) (by decide) (by decide) ?_
      intro T3 X3 e3
      refine gIfEqT X3 hx (H d13_31) (pc' := 47) (by decide) (by decide) (pn := 34) rfl (fun (c31 : (1 : Int) = (0 : Int)) => ?_) (fun (c31 : ¬ (1 : Int) = (0 : Int)) => ?_)
      · exact absurd c31 (by decide)
      · refine gLoadAN 35 X3 hx (H d13_34) rfl rfl rfl ?_
        refine gGetF X3 hx hZ hown (ow hw 28 rfl) Via.refl e3 V (H d13_35) (pc' := 38) rfl (fun T4 X4 e4 => ?_)
        refine gLoadIN 39 X4 hx (H d13_38) rfl rfl ?_
        refine gLoadI 41 X4 hx (H d13_39) rfl rfl ?_
        refine gCallS X4 hx hZ (y := mn20) hown e4 (by rw [hml]; rfl) (ow hw 94 rfl) (ow hw 95 rfl) (ow hw 62 rfl) (ow hw 96 rfl) (by decide) (argsL := [(.ref t), (.int (0 : Int32)), (.int (2 : Int32))]) (st := []) (c_newString_4_0_2 l Z a0 hw t ck ch0 ch1 ch2 ch3 h0 A) (lenOf pd_18 rfl) (H d13_41) (pc' := 44) rfl rfl (by decide) (W := 0) (Nat.le_of_eq rfl) (by decide) (by decide) (by decide) ?_
        intro T5 v5 L5 X5 hQ5
        obtain ⟨r5, t5, ct5, rfl, Nq5, Kq5, Eq5, Cq5, Vq5, Aq5⟩ := hQ5
        have N5 := Fr.app (Fr.nil h0.size) (fun y hy => Nat.le_trans (Nat.le_refl _) (Nq5 y hy))
        have f5_0 := E.keep Kq5
        have f5_1 := C.keep Kq5 nin0
        have f5_2 := V.keep Kq5 nin0
        have f5_3 := A.keep Kq5 nin0
        have f5_4 := own_cpt_keep hCpt Kq5 ns0
        have zs5 := Nat.le_trans (Nat.le_refl _) Kq5.1
        have K5 : Keep h0 T5.heap [] := (Keep.refl h0 []).trans Kq5 all0
        refine gGoto X5 hx (H d13_44) (pc' := 57) (by decide) (by decide) ?_
        exact gRetA X5 hx hlk hret rfl rfl (H d13_57) (by decide) (by decide) (⟨r5, t5, ct5, rfl, N5, K5, Eq5, Cq5, Vq5, Aq5⟩)
    · exact absurd c17 (by decide)
theorem c_nm_4_2 (l : Launch) (Z : State) (a0 : Array Value) (hw : ∀ d ∈ tables_1, d.before a0 Z = true) (a t : Addr) (ck : ClassId) (ch0 ch1 ch2 ch3 : Int32) (h0 : Heap) (hSio : Sio Z h0) (hCpt : Cpt Z h0) (E : sE Z h0 a) (C : sC Z h0 a) (V : sV Z h0 a t) (A : sA Z h0 t ck 4 [by8 ch0, by8 ch1, by8 ch2, by8 ch3]) (hch0 : rg ch0) (hch1 : rg ch1) (hch2 : rg ch2) (hch3 : rg ch3) (d3 : ¬ ch3.toInt = 47) (dq : ch2.toInt = 47) :
    Ctr l Z mn0 prog_18_method_5_code 2 (some (.object "java/lang/String")) [] ⟨5, 2, 6, 87⟩ #[(.ref a)] h0 (SQd Z h0 2 [by8 ch0, by8 ch1]) := by
  refine Ctr.of (plainFor_of_name pn_0) ?_
  intro p e s m below meth c s₁ hx H hml hret hown hnm hZ hlk X0 e0
  refine Goes.cast (show entryFrame m _ _ = mkF m 0 #[.val (.ref a), .unset] [] from rfl) ?_
  refine gLoadAN 1 X0 hx (H d27_0) rfl rfl rfl ?_
  refine gBipush 3 X0 hx (v := (47 : Int32)) (H d27_1) rfl rfl ?_
  refine gCallVJ X0 hx hZ (y := mn13) hown e0 (by rw [hml]; rfl) E (ow hw 34 rfl) (ow hw 35 rfl) (ow hw 37 rfl) (ow hw 36 rfl) (ow hw 11 rfl) (ow hw 38 rfl) (by decide) (argsL := [(.int (47 : Int32))]) (st := []) (c_lastIndexOf_4 l Z a0 hw a t ck ch0 ch1 ch2 ch3 h0 hCpt E C V A hch0 hch1 hch2 hch3) (lenOf pd_4 rfl) (H d27_3) (pc' := 6) rfl rfl rfl rfl (by decide) (W := 0) (Nat.le_of_eq rfl) (by decide) (by decide) (by decide) ?_
  intro T1 X1 e1
  rw [show lx4 ch0 ch1 ch2 ch3 = 2 from by rw [lx4, if_neg d3, if_pos dq]]
  refine gStoreIN 7 X1 hx (H d27_6) (l' := #[.val (.ref a), .val (.int (2 : Int32))]) rfl rfl ?_
  refine gLoadIN 8 X1 hx (H d27_7) rfl rfl ?_
  refine gIfLe X1 hx (H d27_8) (pc' := 20) (by decide) (by decide) (pn := 11) rfl (fun (c8 : (2 : Int) ≤ (0 : Int)) => ?_) (fun (c8 : (0 : Int) < (2 : Int)) => ?_)
  · exact absurd c8 (by decide)
  · refine gLoadAN 12 X1 hx (H d27_11) rfl rfl rfl ?_
    refine gIconst 13 X1 hx (v := (0 : Int32)) (H d27_12) rfl rfl ?_
    refine gLoadIN 14 X1 hx (H d27_13) rfl rfl ?_
    refine gCallV X1 hx hZ (y := mn16) hown e1 (by rw [hml]; rfl) E (ow hw 81 rfl) (ow hw 82 rfl) (ow hw 84 rfl) (ow hw 83 rfl) (ow hw 11 rfl) (ow hw 85 rfl) (by decide) (argsL := [(.int (0 : Int32)), (.int (2 : Int32))]) (st := []) (c_sub_4_0_2 l Z a0 hw a t ck ch0 ch1 ch2 ch3 h0 hSio hCpt E C V A hch0 hch1 hch2 hch3) (lenOf pd_7 rfl) (H d27_14) (pc' := 17) rfl rfl (by decide) (W := 0) (Nat.le_of_eq rfl) (by decide) (by decide) (by decide) ?_
    intro T2 v2 L2 X2 hQ2
    obtain ⟨r2, t2, ct2, rfl, Nq2, Kq2, Eq2, Cq2, Vq2, Aq2⟩ := hQ2
    have N2 := Fr.app (Fr.nil h0.size) (fun y hy => Nat.le_trans (Nat.le_refl _) (Nq2 y hy))
    have f2_0 := E.keep Kq2
    have f2_1 := C.keep Kq2 nin0
    have f2_2 := V.keep Kq2 nin0
    have f2_3 := A.keep Kq2 nin0
    have f2_4 := own_cpt_keep hCpt Kq2 ns0
    have zs2 := Nat.le_trans (Nat.le_refl _) Kq2.1
    have K2 : Keep h0 T2.heap [] := (Keep.refl h0 []).trans Kq2 all0
    refine gGoto X2 hx (H d27_17) (pc' := 21) (by decide) (by decide) ?_
    exact gRetA X2 hx hlk hret rfl rfl (H d27_21) (by decide) (by decide) (⟨r2, t2, ct2, rfl, N2, K2, Eq2, Cq2, Vq2, Aq2⟩)
theorem c_clen_0_3 (l : Launch) (Z : State) (a0 : Array Value) (hw : ∀ d ∈ tables_1, d.before a0 Z = true)  (h0 : Heap)  :
    Ctr l Z mn25 jdk_65_method_131_code 2 none [] ⟨0, 0, 0, 0⟩ #[(.int (0 : Int32)), (.int (3 : Int32))] h0 (fun v h L => v = none ∧ h = h0 ∧ L = []) := by
  refine Ctr.of (plainFor_of_name pn_7) ?_
  intro p e s m below meth c s₁ hx H hml hret hown hnm hZ hlk X0 e0
  refine Goes.cast (show entryFrame m _ _ = mkF m 0 #[.val (.int (0 : Int32)), .val (.int (3 : Int32))] [] from rfl) ?_
  refine gLoadIN 1 X0 hx (H d21_0) rfl rfl ?_
  refine gLoadIN 2 X0 hx (H d21_1) rfl rfl ?_
  refine gIcmpGe X0 hx (H d21_2) (pc' := 37) (by decide) (by decide) (pn := 5) rfl (fun (c2 : (0 : Int) ≤ (3 : Int)) => ?_) (fun (c2 : (3 : Int) < (0 : Int)) => ?_)
  · exact gRetV X0 hx hlk hret (H d21_37) (by decide) (by decide) (⟨rfl, e0, rfl⟩)
  · exact absurd c2 (by decide)
theorem c_min_4_3 (l : Launch) (Z : State) (a0 : Array Value) (hw : ∀ d ∈ tables_1, d.before a0 Z = true)  (h0 : Heap)  :
    Ctr l Z mn4 jdk_29_method_69_code 2 (some .int) [] ⟨0, 0, 0, 0⟩ #[(.int (4 : Int32)), (.int (3 : Int32))] h0 (Just h0 (.int (3))) := by
  refine Ctr.of (Jvm.Free.JP.mathPlain rfl (by decide +kernel)) ?_
  intro p e s m below meth c s₁ hx H hml hret hown hnm hZ hlk X0 e0
  refine Goes.cast (show entryFrame m _ _ = mkF m 0 #[.val (.int (4 : Int32)), .val (.int (3 : Int32))] [] from rfl) ?_
  refine gLoadIN 1 X0 hx (H d1_0) rfl rfl ?_
  refine gLoadIN 2 X0 hx (H d1_1) rfl rfl ?_
  refine gIcmpGt X0 hx (H d1_2) (pc' := 9) (by decide) (by decide) (pn := 5) rfl (fun (c2 : (3 : Int) < (4 : Int)) => ?_) (fun (c2 : (4 : Int) ≤ (3 : Int)) => ?_)
  · refine gLoadIN 10 X0 hx (H d1_9) rfl rfl ?_
    exact gRetI X0 hx hlk hret (H d1_10) (by decide) (by decide) (⟨rfl, e0, rfl⟩)
  · exact absurd c2 (by decide)
theorem c_cor_4_0_3b (l : Launch) (Z : State) (a0 : Array Value) (hw : ∀ d ∈ tables_1, d.before a0 Z = true) (t : Addr) (ck : ClassId) (ch0 ch1 ch2 ch3 : Int32) (h0 : Heap) (A : sA Z h0 t ck 4 [by8 ch0, by8 ch1, by8 ch2, by8 ch3]) :
    Ctr l Z mn27 jdk_65_method_133_code 5 (some (.array .byte)) [] ⟨1, 1, 3, 24⟩ #[(.ref t), (.int (0 : Int32)), (.int (3 : Int32))] h0 (fun v h L => ∃ (b : Addr) (ct : ClassId), v = some (.ref b) ∧ h0.size ≤ b ∧ Fr h0.size L ∧ Keep h0 h [] ∧ sA Z h b ct 3 [by8 ch0, by8 ch1, by8 ch2]) := by
  refine Ctr.of (plainFor_of_name pn_7) ?_
  intro p e s m below meth c s₁ hx H hml hret hown hnm hZ hlk X0 e0
  refine Goes.cast (show entryFrame m _ _ = mkF m 0 #[.val (.ref t), .val (.int (0 : Int32)), .val (.int (3 : Int32)), .unset, .unset] [] from rfl) ?_
  refine gLoadIN 1 X0 hx (H d23_0) rfl rfl ?_
  refine gLoadIN 2 X0 hx (H d23_1) rfl rfl ?_
  refine gCallS X0 hx hZ (y := mn25) hown e0 (by rw [hml]; rfl) (ow hw 105 rfl) (ow hw 106 rfl) (ow hw 100 rfl) (ow hw 107 rfl) (by decide) (argsL := [(.int (0 : Int32)), (.int (3 : Int32))]) (st := []) (c_clen_0_3 l Z a0 hw h0) (lenOf pd_8 rfl) (H d23_2) (pc' := 5) rfl rfl (by decide) (W := 0) (Nat.le_of_eq rfl) (by decide) (by decide) (by decide) ?_
  intro T1 v1 L1 X1 hQ1
  obtain ⟨rfl, eq1, rfl⟩ := hQ1
  rw [List.append_nil] at X1
  refine gLoadIN 6 X1 hx (H d23_5) rfl rfl ?_
  refine gLoadIN 7 X1 hx (H d23_6) rfl rfl ?_
  refine gIsub 8 X1 hx (H d23_7) rfl ?_
  show Goes p e below _ T1 (mkF m 8 #[.val (.ref t), .val (.int (0 : Int32)), .val (.int (3 : Int32)), .unset, .unset] [(.int (3 : Int32))])
  refine gStoreIN 9 X1 hx (H d23_8) (l' := #[.val (.ref t), .val (.int (0 : Int32)), .val (.int (3 : Int32)), .val (.int (3 : Int32)), .unset]) rfl rfl ?_
  refine gLoadIN 10 X1 hx (H d23_9) rfl rfl ?_
  refine gNewP X1 hx hZ (ow hw 23 rfl) eq1 (n := (3 : Int32)) (H d23_10) (by decide) (cap := 3) (by decide) (by decide) (by decide) (by decide) 3 (pc' := 12) rfl (fun T2 h2 b2 ck2 X2 e2 g2 E2 A2 => ?_)
  have ne_t_b2 : t ≠ b2 := Nat.ne_of_lt (Nat.lt_of_lt_of_eq A.lt g2.symm)
  have f2_0 := A.ext E2
  have sz_b2 : h0.size ≤ b2 := Nat.le_trans (Nat.le_refl _) (Nat.le_of_eq g2.symm)
  have zs2 : h0.size ≤ h2.size := Nat.le_trans (Nat.le_refl _) E2.1
  have K2 : Keep h0 h2 [] := (Keep.refl h0 []).ext E2
  have V2 : Arv Z h2 b2 ck2 .byte (3 : Int32) [(.int (0 : Int32)), (.int (0 : Int32)), (.int (0 : Int32))] (.int (0 : Int32)) := A2
  refine gStoreA 14 X2 hx (H d23_12) (l' := #[.val (.ref t), .val (.int (0 : Int32)), .val (.int (3 : Int32)), .val (.int (3 : Int32)), .val (.ref b2)]) rfl rfl rfl ?_
  refine gLoadAN 15 X2 hx (H d23_14) rfl rfl rfl ?_
  refine gLoadIN 16 X2 hx (H d23_15) rfl rfl ?_
  refine gLoadA 18 X2 hx (H d23_16) rfl rfl rfl ?_
  refine gIconst 19 X2 hx (v := (0 : Int32)) (H d23_18) rfl rfl ?_
  refine gLoadAN 20 X2 hx (H d23_19) rfl rfl rfl ?_
  refine gArrLen X2 hx hZ e2 f2_0 (H d23_20) (pc' := 21) rfl ?_
  refine gLoadIN 22 X2 hx (H d23_21) rfl rfl ?_
  refine gIsub 23 X2 hx (H d23_22) rfl ?_
  show Goes p e below _ T2 (mkF m 23 #[.val (.ref t), .val (.int (0 : Int32)), .val (.int (3 : Int32)), .val (.int (3 : Int32)), .val (.ref b2)] [(.int (4 : Int32)), (.int (0 : Int32)), (.ref b2), (.int (0 : Int32)), (.ref t)])
  refine gLoadIN 24 X2 hx (H d23_23) rfl rfl ?_
  refine gCallSJ X2 hx hZ (y := mn4) hown e2 (by rw [hml]; rfl) (ow hw 108 rfl) (ow hw 68 rfl) (ow hw 69 rfl) (ow hw 70 rfl) (by decide) (argsL := [(.int (4 : Int32)), (.int (3 : Int32))]) (st := [(.int (0 : Int32)), (.ref b2), (.int (0 : Int32)), (.ref t)]) (c_min_4_3 l Z a0 hw h2) (lenOf pd_6 rfl) (H d23_24) (pc' := 27) rfl rfl rfl rfl (by decide) (W := 4) (Nat.le_of_eq rfl) (by decide) (by decide) (by decide) ?_
  intro T3 X3 e3
  refine gArrCopy X3 hx hZ hown (ow hw 109 rfl) (ow hw 112 rfl) (ow hw 110 rfl) (ow hw 111 rfl) e3 (dv := (.int 0)) (dd := (.int 0)) f2_0 V2 rfl (by decide) (by decide) (by decide) (by decide) (by decide) (by decide) (Fr.nil h0.size) sz_b2 (by rw [hml]; rfl) (H d23_27) (pc' := 30) rfl (by decide) (W := 0) (Nat.le_of_eq rfl) (by decide) (fun T4 h4 L4 X4 e4 N4 K4 A4 => ?_)
  have KK : Keep h0 h4 [] := K2.trans K4 (allS (Or.inr sz_b2) all0)
  have VV : Arv Z h4 b2 ck2 .byte 3 [by8 ch0, by8 ch1, by8 ch2] (.int 0) := A4
  refine gLoadA 32 X4 hx (H d23_30) rfl rfl rfl ?_
  exact gRetA X4 hx hlk hret rfl rfl (H d23_32) (by decide) (by decide) (⟨_, _, rfl, sz_b2, N4, by rw [e4]; exact KK, by rw [e4]; exact VV⟩)
theorem c_cor_4_0_3 (l : Launch) (Z : State) (a0 : Array Value) (hw : ∀ d ∈ tables_1, d.before a0 Z = true) (t : Addr) (ck : ClassId) (ch0 ch1 ch2 ch3 : Int32) (h0 : Heap) (A : sA Z h0 t ck 4 [by8 ch0, by8 ch1, by8 ch2, by8 ch3]) :
    Ctr l Z mn26 jdk_65_method_132_code 3 (some (.array .byte)) [] ⟨2, 1, 3, 40⟩ #[(.ref t), (.int (0 : Int32)), (.int (3 : Int32))] h0 (fun v h L => ∃ (b : Addr) (ct : ClassId), v = some (.ref b) ∧ h0.size ≤ b ∧ Fr h0.size L ∧ Keep h0 h [] ∧ sA Z h b ct 3 [by8 ch0, by8 ch1, by8 ch2]) := by
  refine Ctr.of (plainFor_of_name pn_7) ?_
  intro p e s m below meth c s₁ hx H hml hret hown hnm hZ hlk X0 e0
  refine Goes.cast (show entryFrame m _ _ = mkF m 0 #[.val (.ref t), .val (.int (0 : Int32)), .val (.int (3 : Int32))] [] from rfl) ?_
  refine gLoadIN 1 X0 hx (H d22_0) rfl rfl ?_
  refine gIfNeT X0 hx (H d22_1) (pc' := 10) (by decide) (by decide) (pn := 4) rfl (fun (c1 : ¬ (0 : Int) = (0 : Int)) => ?_) (fun (c1 : (0 : Int) = (0 : Int)) => ?_)
  · exact absurd c1 (by decide)
  · refine gLoadIN 5 X0 hx (H d22_4) rfl rfl ?_
    refine gLoadAN 6 X0 hx (H d22_5) rfl rfl rfl ?_
    refine gArrLen X0 hx hZ e0 A (H d22_6) (pc' := 7) rfl ?_
    refine gIcmpEqT X0 hx (H d22_7) (pc' := 17) (by decide) (by decide) (pn := 10) rfl (fun (c7 : (3 : Int) = (4 : Int)) => ?_) (fun (c7 : ¬ (3 : Int) = (4 : Int)) => ?_)
    · exact absurd c7 (by decide)
    · refine gLoadAN 11 X0 hx (H d22_10) rfl rfl rfl ?_
      refine gLoadIN 12 X0 hx (H d22_11) rfl rfl ?_
      refine gLoadIN 13 X0 hx (H d22_12) rfl rfl ?_
      refine gCallS X0 hx hZ (y := mn27) hown e0 (by rw [hml]; rfl) (ow hw 102 rfl) (ow hw 103 rfl) (ow hw 100 rfl) (ow hw 104 rfl) (by decide) (argsL := [(.ref t), (.int (0 : Int32)), (.int (3 : Int32))]) (st := []) (c_cor_4_0_3b l Z a0 hw t ck ch0 ch1 ch2 ch3 h0 A) (lenOf pd_19 rfl) (H d22_13) (pc' := 16) rfl rfl (by decide) (W := 0) (Nat.le_of_eq rfl) (by decide) (by decide) (by decide) ?_
      intro T1 v1 L1 X1 hQ1
      obtain ⟨b1, ct1, rfl, g1, g2, g3, g4⟩ := hQ1
      exact gRetA X1 hx hlk hret rfl rfl (H d22_16) (by decide) (by decide) (⟨_, _, rfl, g1, g2, g3, g4⟩)
theorem c_newString_4_0_3 (l : Launch) (Z : State) (a0 : Array Value) (hw : ∀ d ∈ tables_1, d.before a0 Z = true) (t : Addr) (ck : ClassId) (ch0 ch1 ch2 ch3 : Int32) (h0 : Heap) (A : sA Z h0 t ck 4 [by8 ch0, by8 ch1, by8 ch2, by8 ch3]) :
    Ctr l Z mn20 jdk_43_method_47_code 3 (some (.object "java/lang/String")) [] ⟨3, 2, 7, 57⟩ #[(.ref t), (.int (0 : Int32)), (.int (3 : Int32))] h0 (SQd Z h0 3 [by8 ch0, by8 ch1, by8 ch2]) := by
  refine Ctr.of (plainFor_of_name pn_5) ?_
  intro p e s m below meth c s₁ hx H hml hret hown hnm hZ hlk X0 e0
  refine Goes.cast (show entryFrame m _ _ = mkF m 0 #[.val (.ref t), .val (.int (0 : Int32)), .val (.int (3 : Int32))] [] from rfl) ?_
  refine gLoadIN 1 X0 hx (H d16_0) rfl rfl ?_
  refine gIfNeT X0 hx (H d16_1) (pc' := 7) (by decide) (by decide) (pn := 4) rfl (fun (c1 : ¬ (3 : Int) = (0 : Int)) => ?_) (fun (c1 : (3 : Int) = (0 : Int)) => ?_)
  · refine gNew X0 hx hZ hown (ow hw 97 rfl) (ow hw 10 rfl) (ow hw 11 rfl) e0 (H d16_7) (pc' := 10) rfl (by decide) (by decide) (fun T1 h1 b1 X1 e1 g1 E1 A1 D1 => ?_)
    have ne_t_b1 : t ≠ b1 := Nat.ne_of_lt (Nat.lt_of_lt_of_eq A.lt g1.symm)
    have f1_0 := A.ext E1
    have sz_b1 : h0.size ≤ b1 := Nat.le_trans (Nat.le_refl _) (Nat.le_of_eq g1.symm)
    have zs1 : h0.size ≤ h1.size := Nat.le_trans (Nat.le_refl _) E1.1
    have K1 : Keep h0 h1 [] := (Keep.refl h0 []).ext E1
    have F1_value : Fld Z h1 b1 "java/lang/String" "value" "[B" .null := D1 (Or.inr (ow hw 24 rfl)) (ty := (.array .byte)) (by decide)
    have F1_coder : Fld Z h1 b1 "java/lang/String" "coder" "B" (.int (0 : Int32)) := D1 (Or.inr (ow hw 25 rfl)) (ty := .byte) (by decide)
    refine gDup 11 X1 hx (H d16_10) rfl rfl ?_
    refine gLoadAN 12 X1 hx (H d16_11) rfl rfl rfl ?_
    refine gLoadIN 13 X1 hx (H d16_12) rfl rfl ?_
    refine gLoadIN 14 X1 hx (H d16_13) rfl rfl ?_
    refine gLoadIN 15 X1 hx (H d16_14) rfl rfl ?_
    refine gIadd 16 X1 hx (H d16_15) rfl ?_
    show Goes p e below _ T1 (mkF m 16 #[.val (.ref t), .val (.int (0 : Int32)), .val (.int (3 : Int32))] [(.int (3 : Int32)), (.int (0 : Int32)), (.ref t), (.ref b1), (.ref b1)])
    refine gCallS X1 hx hZ (y := mn26) hown e1 (by rw [hml]; rfl) (ow hw 98 rfl) (ow hw 99 rfl) (ow hw 100 rfl) (ow hw 101 rfl) (by decide) (argsL := [(.ref t), (.int (0 : Int32)), (.int (3 : Int32))]) (st := [(.ref b1), (.ref b1)]) (c_cor_4_0_3 l Z a0 hw t ck ch0 ch1 ch2 ch3 h1 f1_0) (lenOf pd_19 rfl) (H d16_16) (pc' := 19) rfl rfl (by decide) (W := 2) (Nat.le_of_eq rfl) (by decide) (by decide) (by decide) ?_
    intro T2 v2 L2 X2 hQ2
    obtain ⟨q2, ctq2, rfl, gq2, Nq2, Kq2, Aq2⟩ := hQ2
    have N2 := Fr.app (Fr.nil h0.size) (fun y hy => Nat.le_trans zs1 (Nq2 y hy))
    have K2 : Keep h0 T2.heap [] := K1.trans Kq2 all0
    have f2_0 := f1_0.keep Kq2 nin0
    have f2_1 := A1.keep Kq2
    have f2_2 := F1_value.keep Kq2 nin0
    have f2_3 := F1_coder.keep Kq2 nin0
    have zs2 := Nat.le_trans zs1 Kq2.1
    have nq2 : q2 ≠ b1 := Ne.symm (Nat.ne_of_lt (Nat.lt_of_lt_of_le A1.lt gq2))
    refine gIconst 20 X2 hx (v := (0 : Int32)) (H d16_19) rfl rfl ?_
    refine gCallI X2 hx hZ (y := mn6) rfl hown rfl (by rw [hml]; rfl) (ow hw 113 rfl) (ow hw 114 rfl) (ow hw 11 rfl) (ow hw 115 rfl) (by decide) (argsL := [(.ref q2), (.int (0 : Int32))]) (st := [(.ref b1)]) (c_sinitB l Z a0 hw b1 q2 h0.size T2.heap sz_b1 f2_1 f2_3 f2_2) (lenOf pd_15 rfl) (H d16_20) (pc' := 23) rfl rfl (by decide) (W := 1) (Nat.le_of_eq rfl) (by decide) (by decide) (by decide) ?_
    intro T3 v3 L3 X3 hQ3
    obtain ⟨rfl, Nq3, Kq3, Eq3, Cq3, Vq3⟩ := hQ3
    have N3 := Fr.app N2 Nq3
    have K3 : Keep h0 T3.heap [] := K2.trans Kq3 (allS (Or.inr sz_b1) all0)
    have Ak3 := Aq2.keep Kq3 (ninS nq2 nin0)
    exact gRetA X3 hx hlk hret rfl rfl (H d16_23) (by decide) (by decide) (⟨b1, q2, ctq2, rfl, N3, K3, Eq3, Cq3, Vq3, Ak3⟩)
  · exact absurd c1 (by decide)
theorem c_sub_4_0_3 (l : Launch) (Z : State) (a0 : Array Value) (hw : ∀ d ∈ tables_1, d.before a0 Z = true) (a t : Addr) (ck : ClassId) (ch0 ch1 ch2 ch3 : Int32) (h0 : Heap) (hSio : Sio Z h0) (hCpt : Cpt Z h0) (E : sE Z h0 a) (C : sC Z h0 a) (V : sV Z h0 a t) (A : sA Z h0 t ck 4 [by8 ch0, by8 ch1, by8 ch2, by8 ch3]) (hch0 : rg ch0) (hch1 : rg ch1) (hch2 : rg ch2) (hch3 : rg ch3) :
    Ctr l Z mn16 jdk_42_method_92_code 5 (some (.object "java/lang/String")) [] ⟨4, 2, 7, 71⟩ #[(.ref a), (.int (0 : Int32)), (.int (3 : Int32))] h0 (SQd Z h0 3 [by8 ch0, by8 ch1, by8 ch2]) := by
  refine Ctr.of (plainFor_of_name pn_4) ?_
  intro p e s m below meth c s₁ hx H hml hret hown hnm hZ hlk X0 e0
  refine Goes.cast (show entryFrame m _ _ = mkF m 0 #[.val (.ref a), .val (.int (0 : Int32)), .val (.int (3 : Int32)), .unset, .unset] [] from rfl) ?_
  refine gLoadAN 1 X0 hx (H d13_0) rfl rfl rfl ?_
  refine gCallVJ X0 hx hZ (y := mn15) hown e0 (by rw [hml]; rfl) E (ow hw 39 rfl) (ow hw 40 rfl) (ow hw 42 rfl) (ow hw 41 rfl) (ow hw 11 rfl) (ow hw 43 rfl) (by decide) (argsL := []) (st := []) (c_length_4 l Z a0 hw a t ck ch0 ch1 ch2 ch3 h0 hCpt E C V A hch0 hch1 hch2 hch3) (lenOf pd_1 rfl) (H d13_1) (pc' := 4) rfl rfl rfl rfl (by decide) (W := 0) (Nat.le_of_eq rfl) (by decide) (by decide) (by decide) ?_
  intro T1 X1 e1
  refine gStoreIN 5 X1 hx (H d13_4) (l' := #[.val (.ref a), .val (.int (0 : Int32)), .val (.int (3 : Int32)), .val (.int (4 : Int32)), .unset]) rfl rfl ?_
  refine gLoadIN 6 X1 hx (H d13_5) rfl rfl ?_
  refine gLoadIN 7 X1 hx (H d13_6) rfl rfl ?_
  refine gLoadIN 8 X1 hx (H d13_7) rfl rfl ?_
  refine gCallS X1 hx hZ (y := mn9) hown e1 (by rw [hml]; rfl) (ow hw 86 rfl) (ow hw 87 rfl) (ow hw 11 rfl) (ow hw 88 rfl) (by decide) (argsL := [(.int (0 : Int32)), (.int (3 : Int32)), (.int (4 : Int32))]) (st := []) (c_chkft l Z a0 hw (0 : Int32) (3 : Int32) (4 : Int32) h0 (by decide) (by decide) (by decide) hSio) (lenOf pd_10 rfl) (H d13_8) (pc' := 11) rfl rfl (by decide) (W := 0) (Nat.le_of_eq rfl) (by decide) (by decide) (by decide) ?_
  intro T2 v2 L2 X2 hQ2
  obtain ⟨rfl, eq2, rfl⟩ := hQ2
  rw [List.append_nil] at X2
  refine gLoadIN 12 X2 hx (H d13_11) rfl rfl ?_
  refine gIfNeT X2 hx (H d13_12) (pc' := 22) (by decide) (by decide) (pn := 15) rfl (fun (c12 : ¬ (0 : Int) = (0 : Int)) => ?_) (fun (c12 : (0 : Int) = (0 : Int)) => ?_)
  · exact absurd c12 (by decide)
  · refine gLoadIN 16 X2 hx (H d13_15) rfl rfl ?_
    refine gLoadIN 17 X2 hx (H d13_16) rfl rfl ?_
    refine gIcmpNeT X2 hx (H d13_17) (pc' := 22) (by decide) (by decide) (pn := 20) rfl (fun (c17 : ¬ (3 : Int) = (4 : Int)) => ?_) (fun (c17 : (3 : Int) = (4 : Int)) => ?_)
    · refine gLoadIN 23 X2 hx (H d13_22) rfl rfl ?_
      refine gLoadIN 24 X2 hx (H d13_23) rfl rfl ?_
      refine gIsub 25 X2 hx (H d13_24) rfl ?_
      show Goes p e below _ T2 (mkF m 25 #[.val (.ref a), .val (.int (0 : Int32)), .val (.int (3 : Int32)), .val (.int (4 : Int32)), .unset] [(.int (3 : Int32))])
      refine gStoreI 27 X2 hx (H d13_25) (l' := #[.val (.ref a), .val (.int (0 : Int32)), .val (.int (3 : Int32)), .val (.int (4 : Int32)), .val (.int (3 : Int32))]) rfl rfl ?_
      refine gLoadAN 28 X2 hx (H d13_27) rfl rfl rfl ?_
      refine gCallVJ X2 hx hZ (y := mn12) hown eq2 (by rw [hml]; rfl) E (ow hw 55 rfl) (ow hw 56 rfl) (ow hw 58 rfl) (ow hw 57 rfl) (ow hw 11 rfl) (ow hw 59 rfl) (by decide) (argsL := []) (st := []) (c_isLatin1 l Z a0 hw a h0 hCpt C) (lenOf pd_3 rfl) (H d13_28) (pc' := 31) rfl rfl rfl rfl (by decide) (W := 0) (Nat.le_of_eq rfl) (by decide) (by decide) (by decide) ?_
      intro T3 X3 e3
      refine gIfEqT X3 hx (H d13_31) (pc' := 47) (by decide) (by decide) (pn := 34) rfl (fun (c31 : (1 : Int) = (0 : Int)) => ?_) (fun (c31 : ¬ (1 : Int) = (0 : Int)) => ?_)
      · exact absurd c31 (by decide)
      · refine gLoadAN 35 X3 hx (H d13_34) rfl rfl rfl ?_
        refine gGetF X3 hx hZ hown (ow hw 28 rfl) Via.refl e3 V (H d13_35) (pc' := 38) rfl (fun T4 X4 e4 => ?_)
        refine gLoadIN 39 X4 hx (H d13_38) rfl rfl ?_
        refine gLoadI 41 X4 hx (H d13_39) rfl rfl ?_
        refine gCallS X4 hx hZ (y := mn20) hown e4 (by rw [hml]; rfl) (ow hw 94 rfl) (ow hw 95 rfl) (ow hw 62 rfl) (ow hw 96 rfl) (by decide) (argsL := [(.ref t), (.int (0 : Int32)), (.int (3 : Int32))]) (st := []) (c_newString_4_0_3 l Z a0 hw t ck ch0 ch1 ch2 ch3 h0 A) (lenOf pd_18 rfl) (H d13_41) (pc' := 44) rfl rfl (by decide) (W := 0) (Nat.le_of_eq rfl) (by decide) (by decide) (by decide) ?_
        intro T5 v5 L5 X5 hQ5
        obtain ⟨r5, t5, ct5, rfl, Nq5, Kq5, Eq5, Cq5, Vq5, Aq5⟩ := hQ5
        have N5 := Fr.app (Fr.nil h0.size) (fun y hy => Nat.le_trans (Nat.le_refl _) (Nq5 y hy))
        have f5_0 := E.keep Kq5
        have f5_1 := C.keep Kq5 nin0
        have f5_2 := V.keep Kq5 nin0
        have f5_3 := A.keep Kq5 nin0
        have f5_4 := own_cpt_keep hCpt Kq5 ns0
        have zs5 := Nat.le_trans (Nat.le_refl _) Kq5.1
        have K5 : Keep h0 T5.heap [] := (Keep.refl h0 []).trans Kq5 all0
        refine gGoto X5 hx (H d13_44) (pc' := 57) (by decide) (by decide) ?_
        exact gRetA X5 hx hlk hret rfl rfl (H d13_57) (by decide) (by decide) (⟨r5, t5, ct5, rfl, N5, K5, Eq5, Cq5, Vq5, Aq5⟩)
    · exact absurd c17 (by decide)
theorem c_nm_4_3 (l : Launch) (Z : State) (a0 : Array Value) (hw : ∀ d ∈ tables_1, d.before a0 Z = true) (a t : Addr) (ck : ClassId) (ch0 ch1 ch2 ch3 : Int32) (h0 : Heap) (hSio : Sio Z h0) (hCpt : Cpt Z h0) (E : sE Z h0 a) (C : sC Z h0 a) (V : sV Z h0 a t) (A : sA Z h0 t ck 4 [by8 ch0, by8 ch1, by8 ch2, by8 ch3]) (hch0 : rg ch0) (hch1 : rg ch1) (hch2 : rg ch2) (hch3 : rg ch3)  (dq : ch3.toInt = 47) :
    Ctr l Z mn0 prog_18_method_5_code 2 (some (.object "java/lang/String")) [] ⟨5, 2, 7, 87⟩ #[(.ref a)] h0 (SQd Z h0 3 [by8 ch0, by8 ch1, by8 ch2]) := by
  refine Ctr.of (plainFor_of_name pn_0) ?_
  intro p e s m below meth c s₁ hx H hml hret hown hnm hZ hlk X0 e0
  refine Goes.cast (show entryFrame m _ _ = mkF m 0 #[.val (.ref a), .unset] [] from rfl) ?_
  refine gLoadAN 1 X0 hx (H d27_0) rfl rfl rfl ?_
  refine gBipush 3 X0 hx (v := (47 : Int32)) (H d27_1) rfl rfl ?_
  refine gCallVJ X0 hx hZ (y := mn13) hown e0 (by rw [hml]; rfl) E (ow hw 34 rfl) (ow hw 35 rfl) (ow hw 37 rfl) (ow hw 36 rfl) (ow hw 11 rfl) (ow hw 38 rfl) (by decide) (argsL := [(.int (47 : Int32))]) (st := []) (c_lastIndexOf_4 l Z a0 hw a t ck ch0 ch1 ch2 ch3 h0 hCpt E C V A hch0 hch1 hch2 hch3) (lenOf pd_4 rfl) (H d27_3) (pc' := 6) rfl rfl rfl rfl (by decide) (W := 0) (Nat.le_of_eq rfl) (by decide) (by decide) (by decide) ?_
  intro T1 X1 e1
  rw [show lx4 ch0 ch1 ch2 ch3 = 3 from by rw [lx4, if_pos dq]]
  refine gStoreIN 7 X1 hx (H d27_6) (l' := #[.val (.ref a), .val (.int (3 : Int32))]) rfl rfl ?_
  refine gLoadIN 8 X1 hx (H d27_7) rfl rfl ?_
  refine gIfLe X1 hx (H d27_8) (pc' := 20) (by decide) (by decide) (pn := 11) rfl (fun (c8 : (3 : Int) ≤ (0 : Int)) => ?_) (fun (c8 : (0 : Int) < (3 : Int)) => ?_)
  · exact absurd c8 (by decide)
  · refine gLoadAN 12 X1 hx (H d27_11) rfl rfl rfl ?_
    refine gIconst 13 X1 hx (v := (0 : Int32)) (H d27_12) rfl rfl ?_
    refine gLoadIN 14 X1 hx (H d27_13) rfl rfl ?_
    refine gCallV X1 hx hZ (y := mn16) hown e1 (by rw [hml]; rfl) E (ow hw 81 rfl) (ow hw 82 rfl) (ow hw 84 rfl) (ow hw 83 rfl) (ow hw 11 rfl) (ow hw 85 rfl) (by decide) (argsL := [(.int (0 : Int32)), (.int (3 : Int32))]) (st := []) (c_sub_4_0_3 l Z a0 hw a t ck ch0 ch1 ch2 ch3 h0 hSio hCpt E C V A hch0 hch1 hch2 hch3) (lenOf pd_7 rfl) (H d27_14) (pc' := 17) rfl rfl (by decide) (W := 0) (Nat.le_of_eq rfl) (by decide) (by decide) (by decide) ?_
    intro T2 v2 L2 X2 hQ2
    obtain ⟨r2, t2, ct2, rfl, Nq2, Kq2, Eq2, Cq2, Vq2, Aq2⟩ := hQ2
    have N2 := Fr.app (Fr.nil h0.size) (fun y hy => Nat.le_trans (Nat.le_refl _) (Nq2 y hy))
    have f2_0 := E.keep Kq2
    have f2_1 := C.keep Kq2 nin0
    have f2_2 := V.keep Kq2 nin0
    have f2_3 := A.keep Kq2 nin0
    have f2_4 := own_cpt_keep hCpt Kq2 ns0
    have zs2 := Nat.le_trans (Nat.le_refl _) Kq2.1
    have K2 : Keep h0 T2.heap [] := (Keep.refl h0 []).trans Kq2 all0
    refine gGoto X2 hx (H d27_17) (pc' := 21) (by decide) (by decide) ?_
    exact gRetA X2 hx hlk hret rfl rfl (H d27_21) (by decide) (by decide) (⟨r2, t2, ct2, rfl, N2, K2, Eq2, Cq2, Vq2, Aq2⟩)
def lx5 (ch0 ch1 ch2 ch3 ch4 : Int32) : Int32 := if ch4.toInt = 47 then 4 else if ch3.toInt = 47 then 3 else if ch2.toInt = 47 then 2 else if ch1.toInt = 47 then 1 else if ch0.toInt = 47 then 0 else (-1)
theorem c_min_4_4 (l : Launch) (Z : State) (a0 : Array Value) (hw : ∀ d ∈ tables_1, d.before a0 Z = true)  (h0 : Heap)  :
    Ctr l Z mn4 jdk_29_method_69_code 2 (some .int) [] ⟨0, 0, 0, 0⟩ #[(.int (4 : Int32)), (.int (4 : Int32))] h0 (Just h0 (.int (4))) := by
  refine Ctr.of (Jvm.Free.JP.mathPlain rfl (by decide +kernel)) ?_
  intro p e s m below meth c s₁ hx H hml hret hown hnm hZ hlk X0 e0
  refine Goes.cast (show entryFrame m _ _ = mkF m 0 #[.val (.int (4 : Int32)), .val (.int (4 : Int32))] [] from rfl) ?_
  refine gLoadIN 1 X0 hx (H d1_0) rfl rfl ?_
  refine gLoadIN 2 X0 hx (H d1_1) rfl rfl ?_
  refine gIcmpGt X0 hx (H d1_2) (pc' := 9) (by decide) (by decide) (pn := 5) rfl (fun (c2 : (4 : Int) < (4 : Int)) => ?_) (fun (c2 : (4 : Int) ≤ (4 : Int)) => ?_)
  · exact absurd c2 (by decide)
  · refine gLoadIN 6 X0 hx (H d1_5) rfl rfl ?_
    refine gGoto X0 hx (H d1_6) (pc' := 10) (by decide) (by decide) ?_
    exact gRetI X0 hx hlk hret (H d1_10) (by decide) (by decide) (⟨rfl, e0, rfl⟩)
theorem c_lastIndexOf_5l (l : Launch) (Z : State) (a0 : Array Value) (hw : ∀ d ∈ tables_1, d.before a0 Z = true) (t : Addr) (ck : ClassId) (ch0 ch1 ch2 ch3 ch4 : Int32) (h0 : Heap) (A : sA Z h0 t ck 5 [by8 ch0, by8 ch1, by8 ch2, by8 ch3, by8 ch4]) (hch0 : rg ch0) (hch1 : rg ch1) (hch2 : rg ch2) (hch3 : rg ch3) (hch4 : rg ch4) :
    Ctr l Z mn19 jdk_43_method_27_code 4 (some .int) [] ⟨1, 0, 0, 24⟩ #[(.ref t), (.int (47 : Int32)), (.int (4 : Int32))] h0 (Just h0 (.int (lx5 ch0 ch1 ch2 ch3 ch4))) := by
  refine Ctr.of (plainFor_of_name pn_5) ?_
  intro p e s m below meth c s₁ hx H hml hret hown hnm hZ hlk X0 e0
  refine Goes.cast (show entryFrame m _ _ = mkF m 0 #[.val (.ref t), .val (.int (47 : Int32)), .val (.int (4 : Int32)), .unset] [] from rfl) ?_
  refine gLoadIN 1 X0 hx (H d15_0) rfl rfl ?_
  refine gCallSJ X0 hx hZ (y := mn17) hown e0 (by rw [hml]; rfl) (ow hw 64 rfl) (ow hw 65 rfl) (ow hw 62 rfl) (ow hw 66 rfl) (by decide) (argsL := [(.int (47 : Int32))]) (st := []) (c_canI_47 l Z a0 hw h0) (lenOf pd_5 rfl) (H d15_1) (pc' := 4) rfl rfl rfl rfl (by decide) (W := 0) (Nat.le_of_eq rfl) (by decide) (by decide) (by decide) ?_
  intro T1 X1 e1
  refine gIfNeT X1 hx (H d15_4) (pc' := 9) (by decide) (by decide) (pn := 7) rfl (fun (c4 : ¬ (1 : Int) = (0 : Int)) => ?_) (fun (c4 : (1 : Int) = (0 : Int)) => ?_)
  · refine gLoadIN 10 X1 hx (H d15_9) rfl rfl ?_
    refine gLoadAN 11 X1 hx (H d15_10) rfl rfl rfl ?_
    refine gArrLen X1 hx hZ e1 A (H d15_11) (pc' := 12) rfl ?_
    refine gIconst 13 X1 hx (v := (1 : Int32)) (H d15_12) rfl rfl ?_
    refine gIsub 14 X1 hx (H d15_13) rfl ?_
    show Goes p e below _ T1 (mkF m 14 #[.val (.ref t), .val (.int (47 : Int32)), .val (.int (4 : Int32)), .unset] [(.int (4 : Int32)), (.int (4 : Int32))])
    refine gCallSJ X1 hx hZ (y := mn4) hown e1 (by rw [hml]; rfl) (ow hw 67 rfl) (ow hw 68 rfl) (ow hw 69 rfl) (ow hw 70 rfl) (by decide) (argsL := [(.int (4 : Int32)), (.int (4 : Int32))]) (st := []) (c_min_4_4 l Z a0 hw h0) (lenOf pd_6 rfl) (H d15_14) (pc' := 17) rfl rfl rfl rfl (by decide) (W := 0) (Nat.le_of_eq rfl) (by decide) (by decide) (by decide) ?_
    intro T2 X2 e2
    refine gStoreIN 18 X2 hx (H d15_17) (l' := #[.val (.ref t), .val (.int (47 : Int32)), .val (.int (4 : Int32)), .val (.int (4 : Int32))]) rfl rfl ?_
    refine gLoadIN 19 X2 hx (H d15_18) rfl rfl ?_
    refine gIfLt X2 hx (H d15_19) (pc' := 38) (by decide) (by decide) (pn := 22) rfl (fun (c19 : (4 : Int) < (0 : Int)) => ?_) (fun (c19 : (0 : Int) ≤ (4 : Int)) => ?_)
    · exact absurd c19 (by decide)
    · refine gLoadAN 23 X2 hx (H d15_22) rfl rfl rfl ?_
      refine gLoadIN 24 X2 hx (H d15_23) rfl rfl ?_
      refine gBaload X2 hx hZ e2 A (j := (4 : Int32)) (v := (.int (ch4.toInt8.toInt32))) (by decide) (by decide) rfl (H d15_24) (pc' := 25) rfl ?_
      refine gLoadIN 26 X2 hx (H d15_25) rfl rfl ?_
      refine gI2b 27 X2 hx (H d15_26) rfl ?_
      show Goes p e below _ T2 (mkF m 27 #[.val (.ref t), .val (.int (47 : Int32)), .val (.int (4 : Int32)), .val (.int (4 : Int32))] [(.int (47 : Int32)), (.int (ch4.toInt8.toInt32))])
      refine gIcmpNeT X2 hx (H d15_27) (pc' := 32) (by decide) (by decide) (pn := 30) rfl (fun (c27 : ¬ (ch4.toInt8.toInt32).toInt = (47 : Int)) => ?_) (fun (c27 : (ch4.toInt8.toInt32).toInt = (47 : Int)) => ?_)
      · refine gIinc X2 hx (v := (-1 : Int32)) (H d15_32) (l' := #[.val (.ref t), .val (.int (47 : Int32)), .val (.int (4 : Int32)), .val (.int (3 : Int32))]) (pc' := 35) rfl rfl rfl rfl ?_
        refine gGoto X2 hx (H d15_35) (pc' := 18) (by decide) (by decide) ?_
        refine gLoadIN 19 X2 hx (H d15_18) rfl rfl ?_
        refine gIfLt X2 hx (H d15_19) (pc' := 38) (by decide) (by decide) (pn := 22) rfl (fun (c19' : (3 : Int) < (0 : Int)) => ?_) (fun (c19' : (0 : Int) ≤ (3 : Int)) => ?_)
        · exact absurd c19' (by decide)
        · refine gLoadAN 23 X2 hx (H d15_22) rfl rfl rfl ?_
          refine gLoadIN 24 X2 hx (H d15_23) rfl rfl ?_
          refine gBaload X2 hx hZ e2 A (j := (3 : Int32)) (v := (.int (ch3.toInt8.toInt32))) (by decide) (by decide) rfl (H d15_24) (pc' := 25) rfl ?_
          refine gLoadIN 26 X2 hx (H d15_25) rfl rfl ?_
          refine gI2b 27 X2 hx (H d15_26) rfl ?_
          show Goes p e below _ T2 (mkF m 27 #[.val (.ref t), .val (.int (47 : Int32)), .val (.int (4 : Int32)), .val (.int (3 : Int32))] [(.int (47 : Int32)), (.int (ch3.toInt8.toInt32))])
          refine gIcmpNeT X2 hx (H d15_27) (pc' := 32) (by decide) (by decide) (pn := 30) rfl (fun (c27' : ¬ (ch3.toInt8.toInt32).toInt = (47 : Int)) => ?_) (fun (c27' : (ch3.toInt8.toInt32).toInt = (47 : Int)) => ?_)
          · refine gIinc X2 hx (v := (-1 : Int32)) (H d15_32) (l' := #[.val (.ref t), .val (.int (47 : Int32)), .val (.int (4 : Int32)), .val (.int (2 : Int32))]) (pc' := 35) rfl rfl rfl rfl ?_
            refine gGoto X2 hx (H d15_35) (pc' := 18) (by decide) (by decide) ?_
            refine gLoadIN 19 X2 hx (H d15_18) rfl rfl ?_
            refine gIfLt X2 hx (H d15_19) (pc' := 38) (by decide) (by decide) (pn := 22) rfl (fun (c19'' : (2 : Int) < (0 : Int)) => ?_) (fun (c19'' : (0 : Int) ≤ (2 : Int)) => ?_)
            · exact absurd c19'' (by decide)
            · refine gLoadAN 23 X2 hx (H d15_22) rfl rfl rfl ?_
              refine gLoadIN 24 X2 hx (H d15_23) rfl rfl ?_
              refine gBaload X2 hx hZ e2 A (j := (2 : Int32)) (v := (.int (ch2.toInt8.toInt32))) (by decide) (by decide) rfl (H d15_24) (pc' := 25) rfl ?_
              refine gLoadIN 26 X2 hx (H d15_25) rfl rfl ?_
              refine gI2b 27 X2 hx (H d15_26) rfl ?_
              show Goes p e below _ T2 (mkF m 27 #[.val (.ref t), .val (.int (47 : Int32)), .val (.int (4 : Int32)), .val (.int (2 : Int32))] [(.int (47 : Int32)), (.int (ch2.toInt8.toInt32))])
              refine gIcmpNeT X2 hx (H d15_27) (pc' := 32) (by decide) (by decide) (pn := 30) rfl (fun (c27'' : ¬ (ch2.toInt8.toInt32).toInt = (47 : Int)) => ?_) (fun (c27'' : (ch2.toInt8.toInt32).toInt = (47 : Int)) => ?_)
              · refine gIinc X2 hx (v := (-1 : Int32)) (H d15_32) (l' := #[.val (.ref t), .val (.int (47 : Int32)), .val (.int (4 : Int32)), .val (.int (1 : Int32))]) (pc' := 35) rfl rfl rfl rfl ?_
                refine gGoto X2 hx (H d15_35) (pc' := 18) (by decide) (by decide) ?_
                refine gLoadIN 19 X2 hx (H d15_18) rfl rfl ?_
                refine gIfLt X2 hx (H d15_19) (pc' := 38) (by decide) (by decide) (pn := 22) rfl (fun (c19''' : (1 : Int) < (0 : Int)) => ?_) (fun (c19''' : (0 : Int) ≤ (1 : Int)) => ?_)
                · exact absurd c19''' (by decide)
                · refine gLoadAN 23 X2 hx (H d15_22) rfl rfl rfl ?_
                  refine gLoadIN 24 X2 hx (H d15_23) rfl rfl ?_
                  refine gBaload X2 hx hZ e2 A (j := (1 : Int32)) (v := (.int (ch1.toInt8.toInt32))) (by decide) (by decide) rfl (H d15_24) (pc' := 25) rfl ?_
                  refine gLoadIN 26 X2 hx (H d15_25) rfl rfl ?_
                  refine gI2b 27 X2 hx (H d15_26) rfl ?_
                  show Goes p e below _ T2 (mkF m 27 #[.val (.ref t), .val (.int (47 : Int32)), .val (.int (4 : Int32)), .val (.int (1 : Int32))] [(.int (47 : Int32)), (.int (ch1.toInt8.toInt32))])
                  refine gIcmpNeT X2 hx (H d15_27) (pc' := 32) (by decide) (by decide) (pn := 30) rfl (fun (c27''' : ¬ (ch1.toInt8.toInt32).toInt = (47 : Int)) => ?_) (fun (c27''' : (ch1.toInt8.toInt32).toInt = (47 : Int)) => ?_)
                  · refine gIinc X2 hx (v := (-1 : Int32)) (H d15_32) (l' := #[.val (.ref t), .val (.int (47 : Int32)), .val (.int (4 : Int32)), .val (.int (0 : Int32))]) (pc' := 35) rfl rfl rfl rfl ?_
                    refine gGoto X2 hx (H d15_35) (pc' := 18) (by decide) (by decide) ?_
                    refine gLoadIN 19 X2 hx (H d15_18) rfl rfl ?_
                    refine gIfLt X2 hx (H d15_19) (pc' := 38) (by decide) (by decide) (pn := 22) rfl (fun (c19'''' : (0 : Int) < (0 : Int)) => ?_) (fun (c19'''' : (0 : Int) ≤ (0 : Int)) => ?_)
                    · exact absurd c19'''' (by decide)
                    · refine gLoadAN 23 X2 hx (H d15_22) rfl rfl rfl ?_
                      refine gLoadIN 24 X2 hx (H d15_23) rfl rfl ?_
                      refine gBaload X2 hx hZ e2 A (j := (0 : Int32)) (v := (.int (ch0.toInt8.toInt32))) (by decide) (by decide) rfl (H d15_24) (pc' := 25) rfl ?_
                      refine gLoadIN 26 X2 hx (H d15_25) rfl rfl ?_
                      refine gI2b 27 X2 hx (H d15_26) rfl ?_
                      show Goes p e below _ T2 (mkF m 27 #[.val (.ref t), .val (.int (47 : Int32)), .val (.int (4 : Int32)), .val (.int (0 : Int32))] [(.int (47 : Int32)), (.int (ch0.toInt8.toInt32))])
                      refine gIcmpNeT X2 hx (H d15_27) (pc' := 32) (by decide) (by decide) (pn := 30) rfl (fun (c27'''' : ¬ (ch0.toInt8.toInt32).toInt = (47 : Int)) => ?_) (fun (c27'''' : (ch0.toInt8.toInt32).toInt = (47 : Int)) => ?_)
                      · refine gIinc X2 hx (v := (-1 : Int32)) (H d15_32) (l' := #[.val (.ref t), .val (.int (47 : Int32)), .val (.int (4 : Int32)), .val (.int (-1 : Int32))]) (pc' := 35) rfl rfl rfl rfl ?_
                        refine gGoto X2 hx (H d15_35) (pc' := 18) (by decide) (by decide) ?_
                        refine gLoadIN 19 X2 hx (H d15_18) rfl rfl ?_
                        refine gIfLt X2 hx (H d15_19) (pc' := 38) (by decide) (by decide) (pn := 22) rfl (fun (c19''''' : (-1 : Int) < (0 : Int)) => ?_) (fun (c19''''' : (0 : Int) ≤ (-1 : Int)) => ?_)
                        · refine gIconst 39 X2 hx (v := (-1 : Int32)) (H d15_38) rfl rfl ?_
                          exact gRetI X2 hx hlk hret (H d15_39) (by decide) (by decide) (⟨by rw [lx5, if_neg (fun z => c27 ((own_beq hch4 (by decide)).mpr z)), if_neg (fun z => c27' ((own_beq hch3 (by decide)).mpr z)), if_neg (fun z => c27'' ((own_beq hch2 (by decide)).mpr z)), if_neg (fun z => c27''' ((own_beq hch1 (by decide)).mpr z)), if_neg (fun z => c27'''' ((own_beq hch0 (by decide)).mpr z))], e2, rfl⟩)
                        · exact absurd c19''''' (by decide)
                      · refine gLoadIN 31 X2 hx (H d15_30) rfl rfl ?_
                        exact gRetI X2 hx hlk hret (H d15_31) (by decide) (by decide) (⟨by rw [lx5, if_neg (fun z => c27 ((own_beq hch4 (by decide)).mpr z)), if_neg (fun z => c27' ((own_beq hch3 (by decide)).mpr z)), if_neg (fun z => c27'' ((own_beq hch2 (by decide)).mpr z)), if_neg (fun z => c27''' ((own_beq hch1 (by decide)).mpr z)), if_pos ((own_beq hch0 (by decide)).mp c27'''')], e2, rfl⟩)
                  · refine gLoadIN 31 X2 hx (H d15_30) rfl rfl ?_
                    exact gRetI X2 hx hlk hret (H d15_31) (by decide) (by decide) (⟨by rw [lx5, if_neg (fun z => c27 ((own_beq hch4 (by decide)).mpr z)), if_neg (fun z => c27' ((own_beq hch3 (by decide)).mpr z)), if_neg (fun z => c27'' ((own_beq hch2 (by decide)).mpr z)), if_pos ((own_beq hch1 (by decide)).mp c27''')], e2, rfl⟩)
              · refine gLoadIN 31 X2 hx (H d15_30) rfl rfl ?_
                exact gRetI X2 hx hlk hret (H d15_31) (by decide) (by decide) (⟨by rw [lx5, if_neg (fun z => c27 ((own_beq hch4 (by decide)).mpr z)), if_neg (fun z => c27' ((own_beq hch3 (by decide)).mpr z)), if_pos ((own_beq hch2 (by decide)).mp c27'')], e2, rfl⟩)
          · refine gLoadIN 31 X2 hx (H d15_30) rfl rfl ?_
            exact gRetI X2 hx hlk hret (H d15_31) (by decide) (by decide) (⟨by rw [lx5, if_neg (fun z => c27 ((own_beq hch4 (by decide)).mpr z)), if_pos ((own_beq hch3 (by decide)).mp c27')], e2, rfl⟩)
      · refine gLoadIN 31 X2 hx (H d15_30) rfl rfl ?_
        exact gRetI X2 hx hlk hret (H d15_31) (by decide) (by decide) (⟨by rw [lx5, if_pos ((own_beq hch4 (by decide)).mp c27)], e2, rfl⟩)
  · exact absurd c4 (by decide)
theorem c_length_5 (l : Launch) (Z : State) (a0 : Array Value) (hw : ∀ d ∈ tables_1, d.before a0 Z = true) (a t : Addr) (ck : ClassId) (ch0 ch1 ch2 ch3 ch4 : Int32) (h0 : Heap) (hCpt : Cpt Z h0) (E : sE Z h0 a) (C : sC Z h0 a) (V : sV Z h0 a t) (A : sA Z h0 t ck 5 [by8 ch0, by8 ch1, by8 ch2, by8 ch3, by8 ch4]) (hch0 : rg ch0) (hch1 : rg ch1) (hch2 : rg ch2) (hch3 : rg ch3) (hch4 : rg ch4) :
    Ctr l Z mn15 jdk_42_method_54_code 1 (some .int) [] ⟨1, 0, 0, 13⟩ #[(.ref a)] h0 (Just h0 (.int 5)) := by
  refine Ctr.of (plainFor_of_name pn_4) ?_
  intro p e s m below meth c s₁ hx H hml hret hown hnm hZ hlk X0 e0
  refine Goes.cast (show entryFrame m _ _ = mkF m 0 #[.val (.ref a)] [] from rfl) ?_
  refine gLoadAN 1 X0 hx (H d9_0) rfl rfl rfl ?_
  refine gGetF X0 hx hZ hown (ow hw 28 rfl) Via.refl e0 V (H d9_1) (pc' := 4) rfl (fun T1 X1 e1 => ?_)
  refine gArrLen X1 hx hZ e1 A (H d9_4) (pc' := 5) rfl ?_
  refine gLoadAN 6 X1 hx (H d9_5) rfl rfl rfl ?_
  refine gCallVJ X1 hx hZ (y := mn10) hown e1 (by rw [hml]; rfl) E (ow hw 44 rfl) (ow hw 45 rfl) (ow hw 47 rfl) (ow hw 46 rfl) (ow hw 11 rfl) (ow hw 48 rfl) (by decide) (argsL := []) (st := [(.int (5 : Int32))]) (c_coder l Z a0 hw a h0 hCpt C) (lenOf pd_0 rfl) (H d9_6) (pc' := 9) rfl rfl rfl rfl (by decide) (W := 1) (Nat.le_of_eq rfl) (by decide) (by decide) (by decide) ?_
  intro T2 X2 e2
  refine gIshr 10 X2 hx (H d9_9) rfl ?_
  show Goes p e below _ T2 (mkF m 10 #[.val (.ref a)] [(.int (5 : Int32))])
  exact gRetI X2 hx hlk hret (H d9_10) (by decide) (by decide) (⟨rfl, e2, rfl⟩)
theorem c_lastIndexOf_52 (l : Launch) (Z : State) (a0 : Array Value) (hw : ∀ d ∈ tables_1, d.before a0 Z = true) (a t : Addr) (ck : ClassId) (ch0 ch1 ch2 ch3 ch4 : Int32) (h0 : Heap) (hCpt : Cpt Z h0) (E : sE Z h0 a) (C : sC Z h0 a) (V : sV Z h0 a t) (A : sA Z h0 t ck 5 [by8 ch0, by8 ch1, by8 ch2, by8 ch3, by8 ch4]) (hch0 : rg ch0) (hch1 : rg ch1) (hch2 : rg ch2) (hch3 : rg ch3) (hch4 : rg ch4) :
    Ctr l Z mn14 jdk_42_method_83_code 3 (some .int) [] ⟨2, 0, 0, 42⟩ #[(.ref a), (.int (47 : Int32)), (.int (4 : Int32))] h0 (Just h0 (.int (lx5 ch0 ch1 ch2 ch3 ch4))) := by
  refine Ctr.of (plainFor_of_name pn_4) ?_
  intro p e s m below meth c s₁ hx H hml hret hown hnm hZ hlk X0 e0
  refine Goes.cast (show entryFrame m _ _ = mkF m 0 #[.val (.ref a), .val (.int (47 : Int32)), .val (.int (4 : Int32))] [] from rfl) ?_
  refine gLoadAN 1 X0 hx (H d12_0) rfl rfl rfl ?_
  refine gCallVJ X0 hx hZ (y := mn12) hown e0 (by rw [hml]; rfl) E (ow hw 55 rfl) (ow hw 56 rfl) (ow hw 58 rfl) (ow hw 57 rfl) (ow hw 11 rfl) (ow hw 59 rfl) (by decide) (argsL := []) (st := []) (c_isLatin1 l Z a0 hw a h0 hCpt C) (lenOf pd_3 rfl) (H d12_1) (pc' := 4) rfl rfl rfl rfl (by decide) (W := 0) (Nat.le_of_eq rfl) (by decide) (by decide) (by decide) ?_
  intro T1 X1 e1
  refine gIfEqT X1 hx (H d12_4) (pc' := 19) (by decide) (by decide) (pn := 7) rfl (fun (c4 : (1 : Int) = (0 : Int)) => ?_) (fun (c4 : ¬ (1 : Int) = (0 : Int)) => ?_)
  · exact absurd c4 (by decide)
  · refine gLoadAN 8 X1 hx (H d12_7) rfl rfl rfl ?_
    refine gGetF X1 hx hZ hown (ow hw 28 rfl) Via.refl e1 V (H d12_8) (pc' := 11) rfl (fun T2 X2 e2 => ?_)
    refine gLoadIN 12 X2 hx (H d12_11) rfl rfl ?_
    refine gLoadIN 13 X2 hx (H d12_12) rfl rfl ?_
    refine gCallSJ X2 hx hZ (y := mn19) hown e2 (by rw [hml]; rfl) (ow hw 60 rfl) (ow hw 61 rfl) (ow hw 62 rfl) (ow hw 63 rfl) (by decide) (argsL := [(.ref t), (.int (47 : Int32)), (.int (4 : Int32))]) (st := []) (c_lastIndexOf_5l l Z a0 hw t ck ch0 ch1 ch2 ch3 ch4 h0 A hch0 hch1 hch2 hch3 hch4) (lenOf pd_17 rfl) (H d12_13) (pc' := 16) rfl rfl rfl rfl (by decide) (W := 0) (Nat.le_of_eq rfl) (by decide) (by decide) (by decide) ?_
    intro T3 X3 e3
    refine gGoto X3 hx (H d12_16) (pc' := 28) (by decide) (by decide) ?_
    exact gRetI X3 hx hlk hret (H d12_28) (by decide) (by decide) (⟨rfl, e3, rfl⟩)
theorem c_lastIndexOf_5 (l : Launch) (Z : State) (a0 : Array Value) (hw : ∀ d ∈ tables_1, d.before a0 Z = true) (a t : Addr) (ck : ClassId) (ch0 ch1 ch2 ch3 ch4 : Int32) (h0 : Heap) (hCpt : Cpt Z h0) (E : sE Z h0 a) (C : sC Z h0 a) (V : sV Z h0 a t) (A : sA Z h0 t ck 5 [by8 ch0, by8 ch1, by8 ch2, by8 ch3, by8 ch4]) (hch0 : rg ch0) (hch1 : rg ch1) (hch2 : rg ch2) (hch3 : rg ch3) (hch4 : rg ch4) :
    Ctr l Z mn13 jdk_42_method_82_code 2 (some .int) [] ⟨3, 0, 0, 58⟩ #[(.ref a), (.int (47 : Int32))] h0 (Just h0 (.int (lx5 ch0 ch1 ch2 ch3 ch4))) := by
  refine Ctr.of (plainFor_of_name pn_4) ?_
  intro p e s m below meth c s₁ hx H hml hret hown hnm hZ hlk X0 e0
  refine Goes.cast (show entryFrame m _ _ = mkF m 0 #[.val (.ref a), .val (.int (47 : Int32))] [] from rfl) ?_
  refine gLoadAN 1 X0 hx (H d11_0) rfl rfl rfl ?_
  refine gLoadIN 2 X0 hx (H d11_1) rfl rfl ?_
  refine gLoadAN 3 X0 hx (H d11_2) rfl rfl rfl ?_
  refine gCallVJ X0 hx hZ (y := mn15) hown e0 (by rw [hml]; rfl) E (ow hw 39 rfl) (ow hw 40 rfl) (ow hw 42 rfl) (ow hw 41 rfl) (ow hw 11 rfl) (ow hw 43 rfl) (by decide) (argsL := []) (st := [(.int (47 : Int32)), (.ref a)]) (c_length_5 l Z a0 hw a t ck ch0 ch1 ch2 ch3 ch4 h0 hCpt E C V A hch0 hch1 hch2 hch3 hch4) (lenOf pd_1 rfl) (H d11_3) (pc' := 6) rfl rfl rfl rfl (by decide) (W := 2) (Nat.le_of_eq rfl) (by decide) (by decide) (by decide) ?_
  intro T1 X1 e1
  refine gIconst 7 X1 hx (v := (1 : Int32)) (H d11_6) rfl rfl ?_
  refine gIsub 8 X1 hx (H d11_7) rfl ?_
  show Goes p e below _ T1 (mkF m 8 #[.val (.ref a), .val (.int (47 : Int32))] [(.int (4 : Int32)), (.int (47 : Int32)), (.ref a)])
  refine gCallVJ X1 hx hZ (y := mn14) hown e1 (by rw [hml]; rfl) E (ow hw 50 rfl) (ow hw 51 rfl) (ow hw 53 rfl) (ow hw 52 rfl) (ow hw 11 rfl) (ow hw 54 rfl) (by decide) (argsL := [(.int (47 : Int32)), (.int (4 : Int32))]) (st := []) (c_lastIndexOf_52 l Z a0 hw a t ck ch0 ch1 ch2 ch3 ch4 h0 hCpt E C V A hch0 hch1 hch2 hch3 hch4) (lenOf pd_6 rfl) (H d11_8) (pc' := 11) rfl rfl rfl rfl (by decide) (W := 0) (Nat.le_of_eq rfl) (by decide) (by decide) (by decide) ?_
  intro T2 X2 e2
  exact gRetI X2 hx hlk hret (H d11_11) (by decide) (by decide) (⟨rfl, e2, rfl⟩)
theorem c_nm_5_m (l : Launch) (Z : State) (a0 : Array Value) (hw : ∀ d ∈ tables_1, d.before a0 Z = true) (a t : Addr) (ck : ClassId) (ch0 ch1 ch2 ch3 ch4 : Int32) (h0 : Heap) (hSio : Sio Z h0) (hCpt : Cpt Z h0) (E : sE Z h0 a) (C : sC Z h0 a) (V : sV Z h0 a t) (A : sA Z h0 t ck 5 [by8 ch0, by8 ch1, by8 ch2, by8 ch3, by8 ch4]) (hch0 : rg ch0) (hch1 : rg ch1) (hch2 : rg ch2) (hch3 : rg ch3) (hch4 : rg ch4) (d0 : ¬ ch0.toInt = 47) (d1 : ¬ ch1.toInt = 47) (d2 : ¬ ch2.toInt = 47) (d3 : ¬ ch3.toInt = 47) (d4 : ¬ ch4.toInt = 47) :
    Ctr l Z mn0 prog_18_method_5_code 2 (some (.object "java/lang/String")) [] ⟨4, 0, 0, 73⟩ #[(.ref a)] h0 (Just h0 .null) := by
  refine Ctr.of (plainFor_of_name pn_0) ?_
  intro p e s m below meth c s₁ hx H hml hret hown hnm hZ hlk X0 e0
  refine Goes.cast (show entryFrame m _ _ = mkF m 0 #[.val (.ref a), .unset] [] from rfl) ?_
  refine gLoadAN 1 X0 hx (H d27_0) rfl rfl rfl ?_
  refine gBipush 3 X0 hx (v := (47 : Int32)) (H d27_1) rfl rfl ?_
  refine gCallVJ X0 hx hZ (y := mn13) hown e0 (by rw [hml]; rfl) E (ow hw 34 rfl) (ow hw 35 rfl) (ow hw 37 rfl) (ow hw 36 rfl) (ow hw 11 rfl) (ow hw 38 rfl) (by decide) (argsL := [(.int (47 : Int32))]) (st := []) (c_lastIndexOf_5 l Z a0 hw a t ck ch0 ch1 ch2 ch3 ch4 h0 hCpt E C V A hch0 hch1 hch2 hch3 hch4) (lenOf pd_4 rfl) (H d27_3) (pc' := 6) rfl rfl rfl rfl (by decide) (W := 0) (Nat.le_of_eq rfl) (by decide) (by decide) (by decide) ?_
  intro T1 X1 e1
  rw [show lx5 ch0 ch1 ch2 ch3 ch4 = -1 from by rw [lx5, if_neg d4, if_neg d3, if_neg d2, if_neg d1, if_neg d0]]
  refine gStoreIN 7 X1 hx (H d27_6) (l' := #[.val (.ref a), .val (.int (-1 : Int32))]) rfl rfl ?_
  refine gLoadIN 8 X1 hx (H d27_7) rfl rfl ?_
  refine gIfLe X1 hx (H d27_8) (pc' := 20) (by decide) (by decide) (pn := 11) rfl (fun (c8 : (-1 : Int) ≤ (0 : Int)) => ?_) (fun (c8 : (0 : Int) < (-1 : Int)) => ?_)
  · refine gNull 21 X1 hx (H d27_20) rfl ?_
    exact gRetA X1 hx hlk hret rfl rfl (H d27_21) (by decide) (by decide) (⟨rfl, e1, rfl⟩)
  · exact absurd c8 (by decide)
theorem c_nm_5_0 (l : Launch) (Z : State) (a0 : Array Value) (hw : ∀ d ∈ tables_1, d.before a0 Z = true) (a t : Addr) (ck : ClassId) (ch0 ch1 ch2 ch3 ch4 : Int32) (h0 : Heap) (hSio : Sio Z h0) (hCpt : Cpt Z h0) (E : sE Z h0 a) (C : sC Z h0 a) (V : sV Z h0 a t) (A : sA Z h0 t ck 5 [by8 ch0, by8 ch1, by8 ch2, by8 ch3, by8 ch4]) (hch0 : rg ch0) (hch1 : rg ch1) (hch2 : rg ch2) (hch3 : rg ch3) (hch4 : rg ch4) (d1 : ¬ ch1.toInt = 47) (d2 : ¬ ch2.toInt = 47) (d3 : ¬ ch3.toInt = 47) (d4 : ¬ ch4.toInt = 47) (dq : ch0.toInt = 47) :
    Ctr l Z mn0 prog_18_method_5_code 2 (some (.object "java/lang/String")) [] ⟨4, 0, 0, 73⟩ #[(.ref a)] h0 (Just h0 .null) := by
  refine Ctr.of (plainFor_of_name pn_0) ?_
  intro p e s m below meth c s₁ hx H hml hret hown hnm hZ hlk X0 e0
  refine Goes.cast (show entryFrame m _ _ = mkF m 0 #[.val (.ref a), .unset] [] from rfl) ?_
  refine gLoadAN 1 X0 hx (H d27_0) rfl rfl rfl ?_
  refine gBipush 3 X0 hx (v := (47 : Int32)) (H d27_1) rfl rfl ?_
  refine gCallVJ X0 hx hZ (y := mn13) hown e0 (by rw [hml]; rfl) E (ow hw 34 rfl) (ow hw 35 rfl) (ow hw 37 rfl) (ow hw 36 rfl) (ow hw 11 rfl) (ow hw 38 rfl) (by decide) (argsL := [(.int (47 : Int32))]) (st := []) (c_lastIndexOf_5 l Z a0 hw a t ck ch0 ch1 ch2 ch3 ch4 h0 hCpt E C V A hch0 hch1 hch2 hch3 hch4) (lenOf pd_4 rfl) (H d27_3) (pc' := 6) rfl rfl rfl rfl (by decide) (W := 0) (Nat.le_of_eq rfl) (by decide) (by decide) (by decide) ?_
  intro T1 X1 e1
  rw [show lx5 ch0 ch1 ch2 ch3 ch4 = 0 from by rw [lx5, if_neg d4, if_neg d3, if_neg d2, if_neg d1, if_pos dq]]
  refine gStoreIN 7 X1 hx (H d27_6) (l' := #[.val (.ref a), .val (.int (0 : Int32))]) rfl rfl ?_
  refine gLoadIN 8 X1 hx (H d27_7) rfl rfl ?_
  refine gIfLe X1 hx (H d27_8) (pc' := 20) (by decide) (by decide) (pn := 11) rfl (fun (c8 : (0 : Int) ≤ (0 : Int)) => ?_) (fun (c8 : (0 : Int) < (0 : Int)) => ?_)
  · refine gNull 21 X1 hx (H d27_20) rfl ?_
    exact gRetA X1 hx hlk hret rfl rfl (H d27_21) (by decide) (by decide) (⟨rfl, e1, rfl⟩)
  · exact absurd c8 (by decide)
theorem c_min_5_1 (l : Launch) (Z : State) (a0 : Array Value) (hw : ∀ d ∈ tables_1, d.before a0 Z = true)  (h0 : Heap)  :
    Ctr l Z mn4 jdk_29_method_69_code 2 (some .int) [] ⟨0, 0, 0, 0⟩ #[(.int (5 : Int32)), (.int (1 : Int32))] h0 (Just h0 (.int (1))) := by
  refine Ctr.of (Jvm.Free.JP.mathPlain rfl (by decide +kernel)) ?_
  intro p e s m below meth c s₁ hx H hml hret hown hnm hZ hlk X0 e0
  refine Goes.cast (show entryFrame m _ _ = mkF m 0 #[.val (.int (5 : Int32)), .val (.int (1 : Int32))] [] from rfl) ?_
  refine gLoadIN 1 X0 hx (H d1_0) rfl rfl ?_
  refine gLoadIN 2 X0 hx (H d1_1) rfl rfl ?_
  refine gIcmpGt X0 hx (H d1_2) (pc' := 9) (by decide) (by decide) (pn := 5) rfl (fun (c2 : (1 : Int) < (5 : Int)) => ?_) (fun (c2 : (5 : Int) ≤ (1 : Int)) => ?_)
  · refine gLoadIN 10 X0 hx (H d1_9) rfl rfl ?_
    exact gRetI X0 hx hlk hret (H d1_10) (by decide) (by decide) (⟨rfl, e0, rfl⟩)
  · exact absurd c2 (by decide)
theorem c_cor_5_0_1b (l : Launch) (Z : State) (a0 : Array Value) (hw : ∀ d ∈ tables_1, d.before a0 Z = true) (t : Addr) (ck : ClassId) (ch0 ch1 ch2 ch3 ch4 : Int32) (h0 : Heap) (A : sA Z h0 t ck 5 [by8 ch0, by8 ch1, by8 ch2, by8 ch3, by8 ch4]) :
    Ctr l Z mn27 jdk_65_method_133_code 5 (some (.array .byte)) [] ⟨1, 1, 1, 24⟩ #[(.ref t), (.int (0 : Int32)), (.int (1 : Int32))] h0 (fun v h L => ∃ (b : Addr) (ct : ClassId), v = some (.ref b) ∧ h0.size ≤ b ∧ Fr h0.size L ∧ Keep h0 h [] ∧ sA Z h b ct 1 [by8 ch0]) := by
  refine Ctr.of (plainFor_of_name pn_7) ?_
  intro p e s m below meth c s₁ hx H hml hret hown hnm hZ hlk X0 e0
  refine Goes.cast (show entryFrame m _ _ = mkF m 0 #[.val (.ref t), .val (.int (0 : Int32)), .val (.int (1 : Int32)), .unset, .unset] [] from rfl) ?_
  refine gLoadIN 1 X0 hx (H d23_0) rfl rfl ?_
  refine gLoadIN 2 X0 hx (H d23_1) rfl rfl ?_
  refine gCallS X0 hx hZ (y := mn25) hown e0 (by rw [hml]; rfl) (ow hw 105 rfl) (ow hw 106 rfl) (ow hw 100 rfl) (ow hw 107 rfl) (by decide) (argsL := [(.int (0 : Int32)), (.int (1 : Int32))]) (st := []) (c_clen_0_1 l Z a0 hw h0) (lenOf pd_8 rfl) (H d23_2) (pc' := 5) rfl rfl (by decide) (W := 0) (Nat.le_of_eq rfl) (by decide) (by decide) (by decide) ?_
  intro T1 v1 L1 X1 hQ1
  obtain ⟨rfl, eq1, rfl⟩ := hQ1
  rw [List.append_nil] at X1
  refine gLoadIN 6 X1 hx (H d23_5) rfl rfl ?_
  refine gLoadIN 7 X1 hx (H d23_6) rfl rfl ?_
  refine gIsub 8 X1 hx (H d23_7) rfl ?_
  show Goes p e below _ T1 (mkF m 8 #[.val (.ref t), .val (.int (0 : Int32)), .val (.int (1 : Int32)), .unset, .unset] [(.int (1 : Int32))])
  refine gStoreIN 9 X1 hx (H d23_8) (l' := #[.val (.ref t), .val (.int (0 : Int32)), .val (.int (1 : Int32)), .val (.int (1 : Int32)), .unset]) rfl rfl ?_
  refine gLoadIN 10 X1 hx (H d23_9) rfl rfl ?_
  refine gNewP X1 hx hZ (ow hw 23 rfl) eq1 (n := (1 : Int32)) (H d23_10) (by decide) (cap := 1) (by decide) (by decide) (by decide) (by decide) 1 (pc' := 12) rfl (fun T2 h2 b2 ck2 X2 e2 g2 E2 A2 => ?_)
  have ne_t_b2 : t ≠ b2 := Nat.ne_of_lt (Nat.lt_of_lt_of_eq A.lt g2.symm)
  have f2_0 := A.ext E2
  have sz_b2 : h0.size ≤ b2 := Nat.le_trans (Nat.le_refl _) (Nat.le_of_eq g2.symm)
  have zs2 : h0.size ≤ h2.size := Nat.le_trans (Nat.le_refl _) E2.1
  have K2 : Keep h0 h2 [] := (Keep.refl h0 []).ext E2
  have V2 : Arv Z h2 b2 ck2 .byte (1 : Int32) [(.int (0 : Int32))] (.int (0 : Int32)) := A2
  refine gStoreA 14 X2 hx (H d23_12) (l' := #[.val (.ref t), .val (.int (0 : Int32)), .val (.int (1 : Int32)), .val (.int (1 : Int32)), .val (.ref b2)]) rfl rfl rfl ?_
  refine gLoadAN 15 X2 hx (H d23_14) rfl rfl rfl ?_
  refine gLoadIN 16 X2 hx (H d23_15) rfl rfl ?_
  refine gLoadA 18 X2 hx (H d23_16) rfl rfl rfl ?_
  refine gIconst 19 X2 hx (v := (0 : Int32)) (H d23_18) rfl rfl ?_
  refine gLoadAN 20 X2 hx (H d23_19) rfl rfl rfl ?_
  refine gArrLen X2 hx hZ e2 f2_0 (H d23_20) (pc' := 21) rfl ?_
  refine gLoadIN 22 X2 hx (H d23_21) rfl rfl ?_
  refine gIsub 23 X2 hx (H d23_22) rfl ?_
  show Goes p e below _ T2 (mkF m 23 #[.val (.ref t), .val (.int (0 : Int32)), .val (.int (1 : Int32)), .val (.int (1 : Int32)), .val (.ref b2)] [(.int (5 : Int32)), (.int (0 : Int32)), (.ref b2), (.int (0 : Int32)), (.ref t)])
  refine gLoadIN 24 X2 hx (H d23_23) rfl rfl ?_
  refine gCallSJ X2 hx hZ (y := mn4) hown e2 (by rw [hml]; rfl) (ow hw 108 rfl) (ow hw 68 rfl) (ow hw 69 rfl) (ow hw 70 rfl) (by decide) (argsL := [(.int (5 : Int32)), (.int (1 : Int32))]) (st := [(.int (0 : Int32)), (.ref b2), (.int (0 : Int32)), (.ref t)]) (c_min_5_1 l Z a0 hw h2) (lenOf pd_6 rfl) (H d23_24) (pc' := 27) rfl rfl rfl rfl (by decide) (W := 4) (Nat.le_of_eq rfl) (by decide) (by decide) (by decide) ?_
  intro T3 X3 e3
  refine gArrCopy X3 hx hZ hown (ow hw 109 rfl) (ow hw 112 rfl) (ow hw 110 rfl) (ow hw 111 rfl) e3 (dv := (.int 0)) (dd := (.int 0)) f2_0 V2 rfl (by decide) (by decide) (by decide) (by decide) (by decide) (by decide) (Fr.nil h0.size) sz_b2 (by rw [hml]; rfl) (H d23_27) (pc' := 30) rfl (by decide) (W := 0) (Nat.le_of_eq rfl) (by decide) (fun T4 h4 L4 X4 e4 N4 K4 A4 => ?_)
  have KK : Keep h0 h4 [] := K2.trans K4 (allS (Or.inr sz_b2) all0)
  have VV : Arv Z h4 b2 ck2 .byte 1 [by8 ch0] (.int 0) := A4
  refine gLoadA 32 X4 hx (H d23_30) rfl rfl rfl ?_
  exact gRetA X4 hx hlk hret rfl rfl (H d23_32) (by decide) (by decide) (⟨_, _, rfl, sz_b2, N4, by rw [e4]; exact KK, by rw [e4]; exact VV⟩)
theorem c_cor_5_0_1 (l : Launch) (Z : State) (a0 : Array Value) (hw : ∀ d ∈ tables_1, d.before a0 Z = true) (t : Addr) (ck : ClassId) (ch0 ch1 ch2 ch3 ch4 : Int32) (h0 : Heap) (A : sA Z h0 t ck 5 [by8 ch0, by8 ch1, by8 ch2, by8 ch3, by8 ch4]) :
    Ctr l Z mn26 jdk_65_method_132_code 3 (some (.array .byte)) [] ⟨2, 1, 1, 40⟩ #[(.ref t), (.int (0 : Int32)), (.int (1 : Int32))] h0 (fun v h L => ∃ (b : Addr) (ct : ClassId), v = some (.ref b) ∧ h0.size ≤ b ∧ Fr h0.size L ∧ Keep h0 h [] ∧ sA Z h b ct 1 [by8 ch0]) := by
  refine Ctr.of (plainFor_of_name pn_7) ?_
  intro p e s m below meth c s₁ hx H hml hret hown hnm hZ hlk X0 e0
  refine Goes.cast (show entryFrame m _ _ = mkF m 0 #[.val (.ref t), .val (.int (0 : Int32)), .val (.int (1 : Int32))] [] from rfl) ?_
  refine gLoadIN 1 X0 hx (H d22_0) rfl rfl ?_
  refine gIfNeT X0 hx (H d22_1) (pc' := 10) (by decide) (by decide) (pn := 4) rfl (fun (c1 : ¬ (0 : Int) = (0 : Int)) => ?_) (fun (c1 : (0 : Int) = (0 : Int)) => ?_)
  · exact absurd c1 (by decide)
  · refine gLoadIN 5 X0 hx (H d22_4) rfl rfl ?_
    refine gLoadAN 6 X0 hx (H d22_5) rfl rfl rfl ?_
    refine gArrLen X0 hx hZ e0 A (H d22_6) (pc' := 7) rfl ?_
    refine gIcmpEqT X0 hx (H d22_7) (pc' := 17) (by decide) (by decide) (pn := 10) rfl (fun (c7 : (1 : Int) = (5 : Int)) => ?_) (fun (c7 : ¬ (1 : Int) = (5 : Int)) => ?_)
    · exact absurd c7 (by decide)
    · refine gLoadAN 11 X0 hx (H d22_10) rfl rfl rfl ?_
      refine gLoadIN 12 X0 hx (H d22_11) rfl rfl ?_
      refine gLoadIN 13 X0 hx (H d22_12) rfl rfl ?_
      refine gCallS X0 hx hZ (y := mn27) hown e0 (by rw [hml]; rfl) (ow hw 102 rfl) (ow hw 103 rfl) (ow hw 100 rfl) (ow hw 104 rfl) (by decide) (argsL := [(.ref t), (.int (0 : Int32)), (.int (1 : Int32))]) (st := []) (c_cor_5_0_1b l Z a0 hw t ck ch0 ch1 ch2 ch3 ch4 h0 A) (lenOf pd_19 rfl) (H d22_13) (pc' := 16) rfl rfl (by decide) (W := 0) (Nat.le_of_eq rfl) (by decide) (by decide) (by decide) ?_
      intro T1 v1 L1 X1 hQ1
      obtain ⟨b1, ct1, rfl, g1, g2, g3, g4⟩ := hQ1
      exact gRetA X1 hx hlk hret rfl rfl (H d22_16) (by decide) (by decide) (⟨_, _, rfl, g1, g2, g3, g4⟩)
theorem c_newString_5_0_1 (l : Launch) (Z : State) (a0 : Array Value) (hw : ∀ d ∈ tables_1, d.before a0 Z = true) (t : Addr) (ck : ClassId) (ch0 ch1 ch2 ch3 ch4 : Int32) (h0 : Heap) (A : sA Z h0 t ck 5 [by8 ch0, by8 ch1, by8 ch2, by8 ch3, by8 ch4]) :
    Ctr l Z mn20 jdk_43_method_47_code 3 (some (.object "java/lang/String")) [] ⟨3, 2, 5, 57⟩ #[(.ref t), (.int (0 : Int32)), (.int (1 : Int32))] h0 (SQd Z h0 1 [by8 ch0]) := by
  refine Ctr.of (plainFor_of_name pn_5) ?_
  intro p e s m below meth c s₁ hx H hml hret hown hnm hZ hlk X0 e0
  refine Goes.cast (show entryFrame m _ _ = mkF m 0 #[.val (.ref t), .val (.int (0 : Int32)), .val (.int (1 : Int32))] [] from rfl) ?_
  refine gLoadIN 1 X0 hx (H d16_0) rfl rfl ?_
  refine gIfNeT X0 hx (H d16_1) (pc' := 7) (by decide) (by decide) (pn := 4) rfl (fun (c1 : ¬ (1 : Int) = (0 : Int)) => ?_) (fun (c1 : (1 : Int) = (0 : Int)) => ?_)
  · refine gNew X0 hx hZ hown (ow hw 97 rfl) (ow hw 10 rfl) (ow hw 11 rfl) e0 (H d16_7) (pc' := 10) rfl (by decide) (by decide) (fun T1 h1 b1 X1 e1 g1 E1 A1 D1 => ?_)
    have ne_t_b1 : t ≠ b1 := Nat.ne_of_lt (Nat.lt_of_lt_of_eq A.lt g1.symm)
    have f1_0 := A.ext E1
    have sz_b1 : h0.size ≤ b1 := Nat.le_trans (Nat.le_refl _) (Nat.le_of_eq g1.symm)
    have zs1 : h0.size ≤ h1.size := Nat.le_trans (Nat.le_refl _) E1.1
    have K1 : Keep h0 h1 [] := (Keep.refl h0 []).ext E1
    have F1_value : Fld Z h1 b1 "java/lang/String" "value" "[B" .null := D1 (Or.inr (ow hw 24 rfl)) (ty := (.array .byte)) (by decide)
    have F1_coder : Fld Z h1 b1 "java/lang/String" "coder" "B" (.int (0 : Int32)) := D1 (Or.inr (ow hw 25 rfl)) (ty := .byte) (by decide)
    refine gDup 11 X1 hx (H d16_10) rfl rfl ?_
    refine gLoadAN 12 X1 hx (H d16_11) rfl rfl rfl ?_
    refine gLoadIN 13 X1 hx (H d16_12) rfl rfl ?_
    refine gLoadIN 14 X1 hx (H d16_13) rfl rfl ?_
    refine gLoadIN 15 X1 hx (H d16_14) rfl rfl ?_
    refine gIadd 16 X1 hx (H d16_15) rfl ?_
    show Goes p e below _ T1 (mkF m 16 #[.val (.ref t), .val (.int (0 : Int32)), .val (.int (1 : Int32))] [(.int (1 : Int32)), (.int (0 : Int32)), (.ref t), (.ref b1), (.ref b1)])
    refine gCallS X1 hx hZ (y := mn26) hown e1 (by rw [hml]; rfl) (ow hw 98 rfl) (ow hw 99 rfl) (ow hw 100 rfl) (ow hw 101 rfl) (by decide) (argsL := [(.ref t), (.int (0 : Int32)), (.int (1 : Int32))]) (st := [(.ref b1), (.ref b1)]) (c_cor_5_0_1 l Z a0 hw t ck ch0 ch1 ch2 ch3 ch4 h1 f1_0) (lenOf pd_19 rfl) (H d16_16) (pc' := 19) rfl rfl (by decide) (W := 2) (Nat.le_of_eq rfl) (by decide) (by decide) (by decide) ?_
    intro T2 v2 L2 X2 hQ2
    obtain ⟨q2, ctq2, rfl, gq2, Nq2, Kq2, Aq2⟩ := hQ2
    have N2 := Fr.app (Fr.nil h0.size) (fun y hy => Nat.le_trans zs1 (Nq2 y hy))
    have K2 : Keep h0 T2.heap [] := K1.trans Kq2 all0
    have f2_0 := f1_0.keep Kq2 nin0
    have f2_1 := A1.keep Kq2
    have f2_2 := F1_value.keep Kq2 nin0
    have f2_3 := F1_coder.keep Kq2 nin0
    have zs2 := Nat.le_trans zs1 Kq2.1
    have nq2 : q2 ≠ b1 := Ne.symm (Nat.ne_of_lt (Nat.lt_of_lt_of_le A1.lt gq2))
    refine gIconst 20 X2 hx (v := (0 : Int32)) (H d16_19) rfl rfl ?_
    refine gCallI X2 hx hZ (y := mn6) rfl hown rfl (by rw [hml]; rfl) (ow hw 113 rfl) (ow hw 114 rfl) (ow hw 11 rfl) (ow hw 115 rfl) (by decide) (argsL := [(.ref q2), (.int (0 : Int32))]) (st := [(.ref b1)]) (c_sinitB l Z a0 hw b1 q2 h0.size T2.heap sz_b1 f2_1 f2_3 f2_2) (lenOf pd_15 rfl) (H d16_20) (pc' := 23) rfl rfl (by decide) (W := 1) (Nat.le_of_eq rfl) (by decide) (by decide) (by decide) ?_
    intro T3 v3 L3 X3 hQ3
    obtain ⟨rfl, Nq3, Kq3, Eq3, Cq3, Vq3⟩ := hQ3
    have N3 := Fr.app N2 Nq3
    have K3 : Keep h0 T3.heap [] := K2.trans Kq3 (allS (Or.inr sz_b1) all0)
    have Ak3 := Aq2.keep Kq3 (ninS nq2 nin0)
    exact gRetA X3 hx hlk hret rfl rfl (H d16_23) (by decide) (by decide) (⟨b1, q2, ctq2, rfl, N3, K3, Eq3, Cq3, Vq3, Ak3⟩)
  · exact absurd c1 (by decide)
theorem c_sub_5_0_1 (l : Launch) (Z : State) (a0 : Array Value) (hw : ∀ d ∈ tables_1, d.before a0 Z = true) (a t : Addr) (ck : ClassId) (ch0 ch1 ch2 ch3 ch4 : Int32) (h0 : Heap) (hSio : Sio Z h0) (hCpt : Cpt Z h0) (E : sE Z h0 a) (C : sC Z h0 a) (V : sV Z h0 a t) (A : sA Z h0 t ck 5 [by8 ch0, by8 ch1, by8 ch2, by8 ch3, by8 ch4]) (hch0 : rg ch0) (hch1 : rg ch1) (hch2 : rg ch2) (hch3 : rg ch3) (hch4 : rg ch4) :
    Ctr l Z mn16 jdk_42_method_92_code 5 (some (.object "java/lang/String")) [] ⟨4, 2, 5, 71⟩ #[(.ref a), (.int (0 : Int32)), (.int (1 : Int32))] h0 (SQd Z h0 1 [by8 ch0]) := by
  refine Ctr.of (plainFor_of_name pn_4) ?_
  intro p e s m below meth c s₁ hx H hml hret hown hnm hZ hlk X0 e0
  refine Goes.cast (show entryFrame m _ _ = mkF m 0 #[.val (.ref a), .val (.int (0 : Int32)), .val (.int (1 : Int32)), .unset, .unset] [] from rfl) ?_
  refine gLoadAN 1 X0 hx (H d13_0) rfl rfl rfl ?_
  refine gCallVJ X0 hx hZ (y := mn15) hown e0 (by rw [hml]; rfl) E (ow hw 39 rfl) (ow hw 40 rfl) (ow hw 42 rfl) (ow hw 41 rfl) (ow hw 11 rfl) (ow hw 43 rfl) (by decide) (argsL := []) (st := []) (c_length_5 l Z a0 hw a t ck ch0 ch1 ch2 ch3 ch4 h0 hCpt E C V A hch0 hch1 hch2 hch3 hch4) (lenOf pd_1 rfl) (H d13_1) (pc' := 4) rfl rfl rfl rfl (by decide) (W := 0) (Nat.le_of_eq rfl) (by decide) (by decide) (by decide) ?_
  intro T1 X1 e1
  refine gStoreIN 5 X1 hx (H d13_4) (l' := #[.val (.ref a), .val (.int (0 : Int32)), .val (.int (1 : Int32)), .val (.int (5 : Int32)), .unset]) rfl rfl ?_
  refine gLoadIN 6 X1 hx (H d13_5) rfl rfl ?_
  refine gLoadIN 7 X1 hx (H d13_6) rfl rfl ?_
  refine gLoadIN 8 X1 hx (H d13_7) rfl rfl ?_
  refine gCallS X1 hx hZ (y := mn9) hown e1 (by rw [hml]; rfl) (ow hw 86 rfl) (ow hw 87 rfl) (ow hw 11 rfl) (ow hw 88 rfl) (by decide) (argsL := [(.int (0 : Int32)), (.int (1 : Int32)), (.int (5 : Int32))]) (st := []) (c_chkft l Z a0 hw (0 : Int32) (1 : Int32) (5 : Int32) h0 (by decide) (by decide) (by decide) hSio) (lenOf pd_10 rfl) (H d13_8) (pc' := 11) rfl rfl (by decide) (W := 0) (Nat.le_of_eq rfl) (by decide) (by decide) (by decide) ?_
  intro T2 v2 L2 X2 hQ2
  obtain ⟨rfl, eq2, rfl⟩ := hQ2
  rw [List.append_nil] at X2
  refine gLoadIN 12 X2 hx (H d13_11) rfl rfl ?_
  refine gIfNeT X2 hx (H d13_12) (pc' := 22) (by decide) (by decide) (pn := 15) rfl (fun (c12 : ¬ (0 : Int) = (0 : Int)) => ?_) (fun (c12 : (0 : Int) = (0 : Int)) => ?_)
  · exact absurd c12 (by decide)
  · refine gLoadIN 16 X2 hx (H d13_15) rfl rfl ?_
    refine gLoadIN 17 X2 hx (H d13_16) rfl rfl ?_
    refine gIcmpNeT X2 hx (H d13_17) (pc' := 22) (by decide) (by decide) (pn := 20) rfl (fun (c17 : ¬ (1 : Int) = (5 : Int)) => ?_) (fun (c17 : (1 : Int) = (5 : Int)) => ?_)
    · refine gLoadIN 23 X2 hx (H d13_22) rfl rfl ?_
      refine gLoadIN 24 X2 hx (H d13_23) rfl rfl ?_
      refine gIsub 25 X2 hx (H d13_24) rfl ?_
      show Goes p e below _ T2 (mkF m 25 #[.val (.ref a), .val (.int (0 : Int32)), .val (.int (1 : Int32)), .val (.int (5 : Int32)), .unset] [(.int (1 : Int32))])
      refine gStoreI 27 X2 hx (H d13_25) (l' := #[.val (.ref a), .val (.int (0 : Int32)), .val (.int (1 : Int32)), .val (.int (5 : Int32)), .val (.int (1 : Int32))]) rfl rfl ?_
      refine gLoadAN 28 X2 hx (H d13_27) rfl rfl rfl ?_
      refine gCallVJ X2 hx hZ (y := mn12) hown eq2 (by rw [hml]; rfl) E (ow hw 55 rfl) (ow hw 56 rfl) (ow hw 58 rfl) (ow hw 57 rfl) (ow hw 11 rfl) (ow hw 59 rfl) (by decide) (argsL := []) (st := []) (c_isLatin1 l Z a0 hw a h0 hCpt C) (lenOf pd_3 rfl) (H d13_28) (pc' := 31) rfl rfl rfl rfl (by decide) (W := 0) (Nat.le_of_eq rfl) (by decide) (by decide) (by decide) ?_
      intro T3 X3 e3
      refine gIfEqT X3 hx (H d13_31) (pc' := 47) (by decide) (by decide) (pn := 34) rfl (fun (c31 : (1 : Int) = (0 : Int)) => ?_) (fun (c31 : ¬ (1 : Int) = (0 : Int)) => ?_)
      · exact absurd c31 (by decide)
      · refine gLoadAN 35 X3 hx (H d13_34) rfl rfl rfl ?_
        refine gGetF X3 hx hZ hown (ow hw 28 rfl) Via.refl e3 V (H d13_35) (pc' := 38) rfl (fun T4 X4 e4 => ?_)
        refine gLoadIN 39 X4 hx (H d13_38) rfl rfl ?_
        refine gLoadI 41 X4 hx (H d13_39) rfl rfl ?_
        refine gCallS X4 hx hZ (y := mn20) hown e4 (by rw [hml]; rfl) (ow hw 94 rfl) (ow hw 95 rfl) (ow hw 62 rfl) (ow hw 96 rfl) (by decide) (argsL := [(.ref t), (.int (0 : Int32)), (.int (1 : Int32))]) (st := []) (c_newString_5_0_1 l Z a0 hw t ck ch0 ch1 ch2 ch3 ch4 h0 A) (lenOf pd_18 rfl) (H d13_41) (pc' := 44) rfl rfl (by decide) (W := 0) (Nat.le_of_eq rfl) (by decide) (by decide) (by decide) ?_
        intro T5 v5 L5 X5 hQ5
        obtain ⟨r5, t5, ct5, rfl, Nq5, Kq5, Eq5, Cq5, Vq5, Aq5⟩ := hQ5
        have N5 := Fr.app (Fr.nil h0.size) (fun y hy => Nat.le_trans (Nat.le_refl _) (Nq5 y hy))
        have f5_0 := E.keep Kq5
        have f5_1 := C.keep Kq5 nin0
        have f5_2 := V.keep Kq5 nin0
        have f5_3 := A.keep Kq5 nin0
        have f5_4 := own_cpt_keep hCpt Kq5 ns0
        have zs5 := Nat.le_trans (Nat.le_refl _) Kq5.1
        have K5 : Keep h0 T5.heap [] := (Keep.refl h0 []).trans Kq5 all0
        refine gGoto X5 hx (H d13_44) (pc' := 57) (by decide) (by decide) ?_
        exact gRetA X5 hx hlk hret rfl rfl (H d13_57) (by decide) (by decide) (⟨r5, t5, ct5, rfl, N5, K5, Eq5, Cq5, Vq5, Aq5⟩)
    · exact absurd c17 (by decide)
theorem c_nm_5_1 (l : Launch) (Z : State) (a0 : Array Value) (hw : ∀ d ∈ tables_1, d.before a0 Z = true) (a t : Addr) (ck : ClassId) (ch0 ch1 ch2 ch3 ch4 : Int32) (h0 : Heap) (hSio : Sio Z h0) (hCpt : Cpt Z h0) (E : sE Z h0 a) (C : sC Z h0 a) (V : sV Z h0 a t) (A : sA Z h0 t ck 5 [by8 ch0, by8 ch1, by8 ch2, by8 ch3, by8 ch4]) (hch0 : rg ch0) (hch1 : rg ch1) (hch2 : rg ch2) (hch3 : rg ch3) (hch4 : rg ch4) (d2 : ¬ ch2.toInt = 47) (d3 : ¬ ch3.toInt = 47) (d4 : ¬ ch4.toInt = 47) (dq : ch1.toInt = 47) :
    Ctr l Z mn0 prog_18_method_5_code 2 (some (.object "java/lang/String")) [] ⟨5, 2, 5, 87⟩ #[(.ref a)] h0 (SQd Z h0 1 [by8 ch0]) := by
  refine Ctr.of (plainFor_of_name pn_0) ?_
  intro p e s m below meth c s₁ hx H hml hret hown hnm hZ hlk X0 e0
  refine Goes.cast (show entryFrame m _ _ = mkF m 0 #[.val (.ref a), .unset] [] from rfl) ?_
  refine gLoadAN 1 X0 hx (H d27_0) rfl rfl rfl ?_
  refine gBipush 3 X0 hx (v := (47 : Int32)) (H d27_1) rfl rfl ?_
  refine gCallVJ X0 hx hZ (y := mn13) hown e0 (by rw [hml]; rfl) E (ow hw 34 rfl) (ow hw 35 rfl) (ow hw 37 rfl) (ow hw 36 rfl) (ow hw 11 rfl) (ow hw 38 rfl) (by decide) (argsL := [(.int (47 : Int32))]) (st := []) (c_lastIndexOf_5 l Z a0 hw a t ck ch0 ch1 ch2 ch3 ch4 h0 hCpt E C V A hch0 hch1 hch2 hch3 hch4) (lenOf pd_4 rfl) (H d27_3) (pc' := 6) rfl rfl rfl rfl (by decide) (W := 0) (Nat.le_of_eq rfl) (by decide) (by decide) (by decide) ?_
  intro T1 X1 e1
  rw [show lx5 ch0 ch1 ch2 ch3 ch4 = 1 from by rw [lx5, if_neg d4, if_neg d3, if_neg d2, if_pos dq]]
  refine gStoreIN 7 X1 hx (H d27_6) (l' := #[.val (.ref a), .val (.int (1 : Int32))]) rfl rfl ?_
  refine gLoadIN 8 X1 hx (H d27_7) rfl rfl ?_
  refine gIfLe X1 hx (H d27_8) (pc' := 20) (by decide) (by decide) (pn := 11) rfl (fun (c8 : (1 : Int) ≤ (0 : Int)) => ?_) (fun (c8 : (0 : Int) < (1 : Int)) => ?_)
  · exact absurd c8 (by decide)
  · refine gLoadAN 12 X1 hx (H d27_11) rfl rfl rfl ?_
    refine gIconst 13 X1 hx (v := (0 : Int32)) (H d27_12) rfl rfl ?_
    refine gLoadIN 14 X1 hx (H d27_13) rfl rfl ?_
    refine gCallV X1 hx hZ (y := mn16) hown e1 (by rw [hml]; rfl) E (ow hw 81 rfl) (ow hw 82 rfl) (ow hw 84 rfl) (ow hw 83 rfl) (ow hw 11 rfl) (ow hw 85 rfl) (by decide) (argsL := [(.int (0 : Int32)), (.int (1 : Int32))]) (st := []) (c_sub_5_0_1 l Z a0 hw a t ck ch0 ch1 ch2 ch3 ch4 h0 hSio hCpt E C V A hch0 hch1 hch2 hch3 hch4) (lenOf pd_7 rfl) (H d27_14) (pc' := 17) rfl rfl (by decide) (W := 0) (Nat.le_of_eq rfl) (by decide) (by decide) (by decide) ?_
    intro T2 v2 L2 X2 hQ2
    obtain ⟨r2, t2, ct2, rfl, Nq2, Kq2, Eq2, Cq2, Vq2, Aq2⟩ := hQ2
    have N2 := Fr.app (Fr.nil h0.size) (fun y hy => Nat.le_trans (Nat.le_refl _) (Nq2 y hy))
    have f2_0 := E.keep Kq2
    have f2_1 := C.keep Kq2 nin0
    have f2_2 := V.keep Kq2 nin0
    have f2_3 := A.keep Kq2 nin0
    have f2_4 := own_cpt_keep hCpt Kq2 ns0
    have zs2 := Nat.le_trans (Nat.le_refl _) Kq2.1
    have K2 : Keep h0 T2.heap [] := (Keep.refl h0 []).trans Kq2 all0
    refine gGoto X2 hx (H d27_17) (pc' := 21) (by decide) (by decide) ?_
    exact gRetA X2 hx hlk hret rfl rfl (H d27_21) (by decide) (by decide) (⟨r2, t2, ct2, rfl, N2, K2, Eq2, Cq2, Vq2, Aq2⟩)
theorem c_min_5_2 (l : Launch) (Z : State) (a0 : Array Value) (hw : ∀ d ∈ tables_1, d.before a0 Z = true)  (h0 : Heap)  :
    Ctr l Z mn4 jdk_29_method_69_code 2 (some .int) [] ⟨0, 0, 0, 0⟩ #[(.int (5 : Int32)), (.int (2 : Int32))] h0 (Just h0 (.int (2))) := by
  refine Ctr.of (Jvm.Free.JP.mathPlain rfl (by decide +kernel)) ?_
  intro p e s m below meth c s₁ hx H hml hret hown hnm hZ hlk X0 e0
  refine Goes.cast (show entryFrame m _ _ = mkF m 0 #[.val (.int (5 : Int32)), .val (.int (2 : Int32))] [] from rfl) ?_
  refine gLoadIN 1 X0 hx (H d1_0) rfl rfl ?_
  refine gLoadIN 2 X0 hx (H d1_1) rfl rfl ?_
  refine gIcmpGt X0 hx (H d1_2) (pc' := 9) (by decide) (by decide) (pn := 5) rfl (fun (c2 : (2 : Int) < (5 : Int)) => ?_) (fun (c2 : (5 : Int) ≤ (2 : Int)) => ?_)
  · refine gLoadIN 10 X0 hx (H d1_9) rfl rfl ?_
    exact gRetI X0 hx hlk hret (H d1_10) (by decide) (by decide) (⟨rfl, e0, rfl⟩)
  · exact absurd c2 (by decide)
theorem c_cor_5_0_2b (l : Launch) (Z : State) (a0 : Array Value) (hw : ∀ d ∈ tables_1, d.before a0 Z = true) (t : Addr) (ck : ClassId) (ch0 ch1 ch2 ch3 ch4 : Int32) (h0 : Heap) (A : sA Z h0 t ck 5 [by8 ch0, by8 ch1, by8 ch2, by8 ch3, by8 ch4]) :
    Ctr l Z mn27 jdk_65_method_133_code 5 (some (.array .byte)) [] ⟨1, 1, 2, 24⟩ #[(.ref t), (.int (0 : Int32)), (.int (2 : Int32))] h0 (fun v h L => ∃ (b : Addr) (ct : ClassId), v = some (.ref b) ∧ h0.size ≤ b ∧ Fr h0.size L ∧ Keep h0 h [] ∧ sA Z h b ct 2 [by8 ch0, by8 ch1]) := by
  refine Ctr.of (plainFor_of_name pn_7) ?_
  intro p e s m below meth c s₁ hx H hml hret hown hnm hZ hlk X0 e0
  refine Goes.cast (show entryFrame m _ _ = mkF m 0 #[.val (.ref t), .val (.int (0 : Int32)), .val (.int (2 : Int32)), .unset, .unset] [] from rfl) ?_
  refine gLoadIN 1 X0 hx (H d23_0) rfl rfl ?_
  refine gLoadIN 2 X0 hx (H d23_1) rfl rfl ?_
  refine gCallS X0 hx hZ (y := mn25) hown e0 (by rw [hml]; rfl) (ow hw 105 rfl) (ow hw 106 rfl) (ow hw 100 rfl) (ow hw 107 rfl) (by decide) (argsL := [(.int (0 : Int32)), (.int (2 : Int32))]) (st := []) (c_clen_0_2 l Z a0 hw h0) (lenOf pd_8 rfl) (H d23_2) (pc' := 5) rfl rfl (by decide) (W := 0) (Nat.le_of_eq rfl) (by decide) (by decide) (by decide) ?_
  intro T1 v1 L1 X1 hQ1
  obtain ⟨rfl, eq1, rfl⟩ := hQ1
  rw [List.append_nil] at X1
  refine gLoadIN 6 X1 hx (H d23_5) rfl rfl ?_
  refine gLoadIN 7 X1 hx (H d23_6) rfl rfl ?_
  refine gIsub 8 X1 hx (H d23_7) rfl ?_
  show Goes p e below _ T1 (mkF m 8 #[.val (.ref t), .val (.int (0 : Int32)), .val (.int (2 : Int32)), .unset, .unset] [(.int (2 : Int32))])
  refine gStoreIN 9 X1 hx (H d23_8) (l' := #[.val (.ref t), .val (.int (0 : Int32)), .val (.int (2 : Int32)), .val (.int (2 : Int32)), .unset]) rfl rfl ?_
  refine gLoadIN 10 X1 hx (H d23_9) rfl rfl ?_
  refine gNewP X1 hx hZ (ow hw 23 rfl) eq1 (n := (2 : Int32)) (H d23_10) (by decide) (cap := 2) (by decide) (by decide) (by decide) (by decide) 2 (pc' := 12) rfl (fun T2 h2 b2 ck2 X2 e2 g2 E2 A2 => ?_)
  have ne_t_b2 : t ≠ b2 := Nat.ne_of_lt (Nat.lt_of_lt_of_eq A.lt g2.symm)
  have f2_0 := A.ext E2
  have sz_b2 : h0.size ≤ b2 := Nat.le_trans (Nat.le_refl _) (Nat.le_of_eq g2.symm)
  have zs2 : h0.size ≤ h2.size := Nat.le_trans (Nat.le_refl _) E2.1
  have K2 : Keep h0 h2 [] := (Keep.refl h0 []).ext E2
  have V2 : Arv Z h2 b2 ck2 .byte (2 : Int32) [(.int (0 : Int32)), (.int (0 : Int32))] (.int (0 : Int32)) := A2
  refine gStoreA 14 X2 hx (H d23_12) (l' := #[.val (.ref t), .val (.int (0 : Int32)), .val (.int (2 : Int32)), .val (.int (2 : Int32)), .val (.ref b2)]) rfl rfl rfl ?_
  refine gLoadAN 15 X2 hx (H d23_14) rfl rfl rfl ?_
  refine gLoadIN 16 X2 hx (H d23_15) rfl rfl ?_
  refine gLoadA 18 X2 hx (H d23_16) rfl rfl rfl ?_
  refine gIconst 19 X2 hx (v := (0 : Int32)) (H d23_18) rfl rfl ?_
  refine gLoadAN 20 X2 hx (H d23_19) rfl rfl rfl ?_
  refine gArrLen X2 hx hZ e2 f2_0 (H d23_20) (pc' := 21) rfl ?_
  refine gLoadIN 22 X2 hx (H d23_21) rfl rfl ?_
  refine gIsub 23 X2 hx (H d23_22) rfl ?_
  show Goes p e below _ T2 (mkF m 23 #[.val (.ref t), .val (.int (0 : Int32)), .val (.int (2 : Int32)), .val (.int (2 : Int32)), .val (.ref b2)] [(.int (5 : Int32)), (.int (0 : Int32)), (.ref b2), (.int (0 : Int32)), (.ref t)])
  refine gLoadIN 24 X2 hx (H d23_23) rfl rfl ?_
  refine gCallSJ X2 hx hZ (y := mn4) hown e2 (by rw [hml]; rfl) (ow hw 108 rfl) (ow hw 68 rfl) (ow hw 69 rfl) (ow hw 70 rfl) (by decide) (argsL := [(.int (5 : Int32)), (.int (2 : Int32))]) (st := [(.int (0 : Int32)), (.ref b2), (.int (0 : Int32)), (.ref t)]) (c_min_5_2 l Z a0 hw h2) (lenOf pd_6 rfl) (H d23_24) (pc' := 27) rfl rfl rfl rfl (by decide) (W := 4) (Nat.le_of_eq rfl) (by decide) (by decide) (by decide) ?_
  intro T3 X3 e3
  refine gArrCopy X3 hx hZ hown (ow hw 109 rfl) (ow hw 112 rfl) (ow hw 110 rfl) (ow hw 111 rfl) e3 (dv := (.int 0)) (dd := (.int 0)) f2_0 V2 rfl (by decide) (by decide) (by decide) (by decide) (by decide) (by decide) (Fr.nil h0.size) sz_b2 (by rw [hml]; rfl) (H d23_27) (pc' := 30) rfl (by decide) (W := 0) (Nat.le_of_eq rfl) (by decide) (fun T4 h4 L4 X4 e4 N4 K4 A4 => ?_)
  have KK : Keep h0 h4 [] := K2.trans K4 (allS (Or.inr sz_b2) all0)
  have VV : Arv Z h4 b2 ck2 .byte 2 [by8 ch0, by8 ch1] (.int 0) := A4
  refine gLoadA 32 X4 hx (H d23_30) rfl rfl rfl ?_
  exact gRetA X4 hx hlk hret rfl rfl (H d23_32) (by decide) (by decide) (⟨_, _, rfl, sz_b2, N4, by rw [e4]; exact KK, by rw [e4]; exact VV⟩)
theorem c_cor_5_0_2 (l : Launch) (Z : State) (a0 : Array Value) (hw : ∀ d ∈ tables_1, d.before a0 Z = true) (t : Addr) (ck : ClassId) (ch0 ch1 ch2 ch3 ch4 : Int32) (h0 : Heap) (A : sA Z h0 t ck 5 [by8 ch0, by8 ch1, by8 ch2, by8 ch3, by8 ch4]) :
    Ctr l Z mn26 jdk_65_method_132_code 3 (some (.array .byte)) [] ⟨2, 1, 2, 40⟩ #[(.ref t), (.int (0 : Int32)), (.int (2 : Int32))] h0 (fun v h L => ∃ (b : Addr) (ct : ClassId), v = some (.ref b) ∧ h0.size ≤ b ∧ Fr h0.size L ∧ Keep h0 h [] ∧ sA Z h b ct 2 [by8 ch0, by8 ch1]) := by
  refine Ctr.of (plainFor_of_name pn_7) ?_
  intro p e s m below meth c s₁ hx H hml hret hown hnm hZ hlk X0 e0
  refine Goes.cast (show entryFrame m _ _ = mkF m 0 #[.val (.ref t), .val (.int (0 : Int32)), .val (.int (2 : Int32))] [] from rfl) ?_
  refine gLoadIN 1 X0 hx (H d22_0) rfl rfl ?_
  refine gIfNeT X0 hx (H d22_1) (pc' := 10) (by decide) (by decide) (pn := 4) rfl (fun (c1 : ¬ (0 : Int) = (0 : Int)) => ?_) (fun (c1 : (0 : Int) = (0 : Int)) => ?_)
  · exact absurd c1 (by decide)
  · refine gLoadIN 5 X0 hx (H d22_4) rfl rfl ?_
    refine gLoadAN 6 X0 hx (H d22_5) rfl rfl rfl ?_
    refine gArrLen X0 hx hZ e0 A (H d22_6) (pc' := 7) rfl ?_
    refine gIcmpEqT X0 hx (H d22_7) (pc' := 17) (by decide) (by decide) (pn := 10) rfl (fun (c7 : (2 : Int) = (5 : Int)) => ?_) (fun (c7 : ¬ (2 : Int) = (5 : Int)) => ?_)
    · exact absurd c7 (by decide)
    · refine gLoadAN 11 X0 hx (H d22_10) rfl rfl rfl ?_
      refine gLoadIN 12 X0 hx (H d22_11) rfl rfl ?_
      refine gLoadIN 13 X0 hx (H d22_12) rfl rfl ?_
      refine gCallS X0 hx hZ (y := mn27) hown e0 (by rw [hml]; rfl) (ow hw 102 rfl) (ow hw 103 rfl) (ow hw 100 rfl) (ow hw 104 rfl) (by decide) (argsL := [(.ref t), (.int (0 : Int32)), (.int (2 : Int32))]) (st := []) (c_cor_5_0_2b l Z a0 hw t ck ch0 ch1 ch2 ch3 ch4 h0 A) (lenOf pd_19 rfl) (H d22_13) (pc' := 16) rfl rfl (by decide) (W := 0) (Nat.le_of_eq rfl) (by decide) (by decide) (by decide) ?_
      intro T1 v1 L1 X1 hQ1
      obtain ⟨b1, ct1, rfl, g1, g2, g3, g4⟩ := hQ1
      exact gRetA X1 hx hlk hret rfl rfl (H d22_16) (by decide) (by decide) (⟨_, _, rfl, g1, g2, g3, g4⟩)
theorem c_newString_5_0_2 (l : Launch) (Z : State) (a0 : Array Value) (hw : ∀ d ∈ tables_1, d.before a0 Z = true) (t : Addr) (ck : ClassId) (ch0 ch1 ch2 ch3 ch4 : Int32) (h0 : Heap) (A : sA Z h0 t ck 5 [by8 ch0, by8 ch1, by8 ch2, by8 ch3, by8 ch4]) :
    Ctr l Z mn20 jdk_43_method_47_code 3 (some (.object "java/lang/String")) [] ⟨3, 2, 6, 57⟩ #[(.ref t), (.int (0 : Int32)), (.int (2 : Int32))] h0 (SQd Z h0 2 [by8 ch0, by8 ch1]) := by
  refine Ctr.of (plainFor_of_name pn_5) ?_
  intro p e s m below meth c s₁ hx H hml hret hown hnm hZ hlk X0 e0
  refine Goes.cast (show entryFrame m _ _ = mkF m 0 #[.val (.ref t), .val (.int (0 : Int32)), .val (.int (2 : Int32))] [] from rfl) ?_
  refine gLoadIN 1 X0 hx (H d16_0) rfl rfl ?_
  refine gIfNeT X0 hx (H d16_1) (pc' := 7) (by decide) (by decide) (pn := 4) rfl (fun (c1 : ¬ (2 : Int) = (0 : Int)) => ?_) (fun (c1 : (2 : Int) = (0 : Int)) => ?_)
  · refine gNew X0 hx hZ hown (ow hw 97 rfl) (ow hw 10 rfl) (ow hw 11 rfl) e0 (H d16_7) (pc' := 10) rfl (by decide) (by decide) (fun T1 h1 b1 X1 e1 g1 E1 A1 D1 => ?_)
    have ne_t_b1 : t ≠ b1 := Nat.ne_of_lt (Nat.lt_of_lt_of_eq A.lt g1.symm)
    have f1_0 := A.ext E1
    have sz_b1 : h0.size ≤ b1 := Nat.le_trans (Nat.le_refl _) (Nat.le_of_eq g1.symm)
    have zs1 : h0.size ≤ h1.size := Nat.le_trans (Nat.le_refl _) E1.1
    have K1 : Keep h0 h1 [] := (Keep.refl h0 []).ext E1
    have F1_value : Fld Z h1 b1 "java/lang/String" "value" "[B" .null := D1 (Or.inr (ow hw 24 rfl)) (ty := (.array .byte)) (by decide)
    have F1_coder : Fld Z h1 b1 "java/lang/String" "coder" "B" (.int (0 : Int32)) := D1 (Or.inr (ow hw 25 rfl)) (ty := .byte) (by decide)
    refine gDup 11 X1 hx (H d16_10) rfl rfl ?_
    refine gLoadAN 12 X1 hx (H d16_11) rfl rfl rfl ?_
    refine gLoadIN 13 X1 hx (H d16_12) rfl rfl ?_
    refine gLoadIN 14 X1 hx (H d16_13) rfl rfl ?_
    refine gLoadIN 15 X1 hx (H d16_14) rfl rfl ?_
    refine gIadd 16 X1 hx (H d16_15) rfl ?_
    show Goes p e below _ T1 (mkF m 16 #[.val (.ref t), .val (.int (0 : Int32)), .val (.int (2 : Int32))] [(.int (2 : Int32)), (.int (0 : Int32)), (.ref t), (.ref b1), (.ref b1)])
    refine gCallS X1 hx hZ (y := mn26) hown e1 (by rw [hml]; rfl) (ow hw 98 rfl) (ow hw 99 rfl) (ow hw 100 rfl) (ow hw 101 rfl) (by decide) (argsL := [(.ref t), (.int (0 : Int32)), (.int (2 : Int32))]) (st := [(.ref b1), (.ref b1)]) (c_cor_5_0_2 l Z a0 hw t ck ch0 ch1 ch2 ch3 ch4 h1 f1_0) (lenOf pd_19 rfl) (H d16_16) (pc' := 19) rfl rfl (by decide) (W := 2) (Nat.le_of_eq rfl) (by decide) (by decide) (by decide) ?_
    intro T2 v2 L2 X2 hQ2
    obtain ⟨q2, ctq2, rfl, gq2, Nq2, Kq2, Aq2⟩ := hQ2
    have N2 := Fr.app (Fr.nil h0.size) (fun y hy => Nat.le_trans zs1 (Nq2 y hy))
    have K2 : Keep h0 T2.heap [] := K1.trans Kq2 all0
    have f2_0 := f1_0.keep Kq2 nin0
    have f2_1 := A1.keep Kq2
    have f2_2 := F1_value.keep Kq2 nin0
    have f2_3 := F1_coder.keep Kq2 nin0
    have zs2 := Nat.le_trans zs1 Kq2.1
    have nq2 : q2 ≠ b1 := Ne.symm (Nat.ne_of_lt (Nat.lt_of_lt_of_le A1.lt gq2))
    refine gIconst 20 X2 hx (v := (0 : Int32)) (H d16_19) rfl rfl ?_
    refine gCallI X2 hx hZ (y := mn6) rfl hown rfl (by rw [hml]; rfl) (ow hw 113 rfl) (ow hw 114 rfl) (ow hw 11 rfl) (ow hw 115 rfl) (by decide) (argsL := [(.ref q2), (.int (0 : Int32))]) (st := [(.ref b1)]) (c_sinitB l Z a0 hw b1 q2 h0.size T2.heap sz_b1 f2_1 f2_3 f2_2) (lenOf pd_15 rfl) (H d16_20) (pc' := 23) rfl rfl (by decide) (W := 1) (Nat.le_of_eq rfl) (by decide) (by decide) (by decide) ?_
    intro T3 v3 L3 X3 hQ3
    obtain ⟨rfl, Nq3, Kq3, Eq3, Cq3, Vq3⟩ := hQ3
    have N3 := Fr.app N2 Nq3
    have K3 : Keep h0 T3.heap [] := K2.trans Kq3 (allS (Or.inr sz_b1) all0)
    have Ak3 := Aq2.keep Kq3 (ninS nq2 nin0)
    exact gRetA X3 hx hlk hret rfl rfl (H d16_23) (by decide) (by decide) (⟨b1, q2, ctq2, rfl, N3, K3, Eq3, Cq3, Vq3, Ak3⟩)
  · exact absurd c1 (by decide)
theorem c_sub_5_0_2 (l : Launch) (Z : State) (a0 : Array Value) (hw : ∀ d ∈ tables_1, d.before a0 Z = true) (a t : Addr) (ck : ClassId) (ch0 ch1 ch2 ch3 ch4 : Int32) (h0 : Heap) (hSio : Sio Z h0) (hCpt : Cpt Z h0) (E : sE Z h0 a) (C : sC Z h0 a) (V : sV Z h0 a t) (A : sA Z h0 t ck 5 [by8 ch0, by8 ch1, by8 ch2, by8 ch3, by8 ch4]) (hch0 : rg ch0) (hch1 : rg ch1) (hch2 : rg ch2) (hch3 : rg ch3) (hch4 : rg ch4) :
    Ctr l Z mn16 jdk_42_method_92_code 5 (some (.object "java/lang/String")) [] ⟨4, 2, 6, 71⟩ #[(.ref a), (.int (0 : Int32)), (.int (2 : Int32))] h0 (SQd Z h0 2 [by8 ch0, by8 ch1]) := by
  refine Ctr.of (plainFor_of_name pn_4) ?_
  intro p e s m below meth c s₁ hx H hml hret hown hnm hZ hlk X0 e0
  refine Goes.cast (show entryFrame m _ _ = mkF m 0 #[.val (.ref a), .val (.int (0 : Int32)), .val (.int (2 : Int32)), .unset, .unset] [] from rfl) ?_
  refine gLoadAN 1 X0 hx (H d13_0) rfl rfl rfl ?_
  refine gCallVJ X0 hx hZ (y := mn15) hown e0 (by rw [hml]; rfl) E (ow hw 39 rfl) (ow hw 40 rfl) (ow hw 42 rfl) (ow hw 41 rfl) (ow hw 11 rfl) (ow hw 43 rfl) (by decide) (argsL := []) (st := []) (c_length_5 l Z a0 hw a t ck ch0 ch1 ch2 ch3 ch4 h0 hCpt E C V A hch0 hch1 hch2 hch3 hch4) (lenOf pd_1 rfl) (H d13_1) (pc' := 4) rfl rfl rfl rfl (by decide) (W := 0) (Nat.le_of_eq rfl) (by decide) (by decide) (by decide) ?_
  intro T1 X1 e1
  refine gStoreIN 5 X1 hx (H d13_4) (l' := #[.val (.ref a), .val (.int (0 : Int32)), .val (.int (2 : Int32)), .val (.int (5 : Int32)), .unset]) rfl rfl ?_
  refine gLoadIN 6 X1 hx (H d13_5) rfl rfl ?_
  refine gLoadIN 7 X1 hx (H d13_6) rfl rfl ?_
  refine gLoadIN 8 X1 hx (H d13_7) rfl rfl ?_
  refine gCallS X1 hx hZ (y := mn9) hown e1 (by rw [hml]; rfl) (ow hw 86 rfl) (ow hw 87 rfl) (ow hw 11 rfl) (ow hw 88 rfl) (by decide) (argsL := [(.int (0 : Int32)), (.int (2 : Int32)), (.int (5 : Int32))]) (st := []) (c_chkft l Z a0 hw (0 : Int32) (2 : Int32) (5 : Int32) h0 (by decide) (by decide) (by decide) hSio) (lenOf pd_10 rfl) (H d13_8) (pc' := 11) rfl rfl (by decide) (W := 0) (Nat.le_of_eq rfl) (by decide) (by decide) (by decide) ?_
  intro T2 v2 L2 X2 hQ2
  obtain ⟨rfl, eq2, rfl⟩ := hQ2
  rw [List.append_nil] at X2
  refine gLoadIN 12 X2 hx (H d13_11) rfl rfl ?_
  refine gIfNeT X2 hx (H d13_12) (pc' := 22) (by decide) (by decide) (pn := 15) rfl (fun (c12 : ¬ (0 : Int) = (0 : Int)) => ?_) (fun (c12 : (0 : Int) = (0 : Int)) => ?_)
  · exact absurd c12 (by decide)
  · refine gLoadIN 16 X2 hx (H d13_15) rfl rfl ?_
    refine gLoadIN 17 X2 hx (H d13_16) rfl rfl ?_
    refine gIcmpNeT X2 hx (H d13_17) (pc' := 22) (by decide) (by decide) (pn := 20) rfl (fun (c17 : ¬ (2 : Int) = (5 : Int)) => ?_) (fun (c17 : (2 : Int) = (5 : Int)) => ?_)
    · refine gLoadIN 23 X2 hx (H d13_22) rfl rfl ?_
      refine gLoadIN 24 X2 hx (H d13_23) rfl rfl ?_
      refine gIsub 25 X2 hx (H d13_24) rfl ?_
      show Goes p e below _ T2 (mkF m 25 #[.val (.ref a), .val (.int (0 : Int32)), .val (.int (2 : Int32)), .val (.int (5 : Int32)), .unset] [(.int (2 : Int32))])
      refine gStoreI 27 X2 hx (H d13_25) (l' := #[.val (.ref a), .val (.int (0 : Int32)), .val (.int (2 : Int32)), .val (.int (5 : Int32)), .val (.int (2 : Int32))]) rfl rfl ?_
      refine gLoadAN 28 X2 hx (H d13_27) rfl rfl rfl ?_
      refine gCallVJ X2 hx hZ (y := mn12) hown eq2 (by rw [hml]; rfl) E (ow hw 55 rfl) (ow hw 56 rfl) (ow hw 58 rfl) (ow hw 57 rfl) (ow hw 11 rfl) (ow hw 59 rfl) (by decide) (argsL := []) (st := []) (c_isLatin1 l Z a0 hw a h0 hCpt C) (lenOf pd_3 rfl) (H d13_28) (pc' := 31) rfl rfl rfl rfl (by decide) (W := 0) (Nat.le_of_eq rfl) (by decide) (by decide) (by decide) ?_
      intro T3 X3 e3
      refine gIfEqT X3 hx (H d13_31) (pc' := 47) (by decide) (by decide) (pn := 34) rfl (fun (c31 : (1 : Int) = (0 : Int)) => ?_) (fun (c31 : ¬ (1 : Int) = (0 : Int)) => ?_)
      · exact absurd c31 (by decide)
      · refine gLoadAN 35 X3 hx (H d13_34) rfl rfl rfl ?_
        refine gGetF X3 hx hZ hown (ow hw 28 rfl) Via.refl e3 V (H d13_35) (pc' := 38) rfl (fun T4 X4 e4 => ?_)
        refine gLoadIN 39 X4 hx (H d13_38) rfl rfl ?_
        refine gLoadI 41 X4 hx (H d13_39) rfl rfl ?_
        refine gCallS X4 hx hZ (y := mn20) hown e4 (by rw [hml]; rfl) (ow hw 94 rfl) (ow hw 95 rfl) (ow hw 62 rfl) (ow hw 96 rfl) (by decide) (argsL := [(.ref t), (.int (0 : Int32)), (.int (2 : Int32))]) (st := []) (c_newString_5_0_2 l Z a0 hw t ck ch0 ch1 ch2 ch3 ch4 h0 A) (lenOf pd_18 rfl) (H d13_41) (pc' := 44) rfl rfl (by decide) (W := 0) (Nat.le_of_eq rfl) (by decide) (by decide) (by decide) ?_
        intro T5 v5 L5 X5 hQ5
        obtain ⟨r5, t5, ct5, rfl, Nq5, Kq5, Eq5, Cq5, Vq5, Aq5⟩ := hQ5
        have N5 := Fr.app (Fr.nil h0.size) (fun y hy => Nat.le_trans (Nat.le_refl _) (Nq5 y hy))
        have f5_0 := E.keep Kq5
        have f5_1 := C.keep Kq5 nin0
        have f5_2 := V.keep Kq5 nin0
        have f5_3 := A.keep Kq5 nin0
        have f5_4 := own_cpt_keep hCpt Kq5 ns0
        have zs5 := Nat.le_trans (Nat.le_refl _) Kq5.1
        have K5 : Keep h0 T5.heap [] := (Keep.refl h0 []).trans Kq5 all0
        refine gGoto X5 hx (H d13_44) (pc' := 57) (by decide) (by decide) ?_
        exact gRetA X5 hx hlk hret rfl rfl (H d13_57) (by decide) (by decide) (⟨r5, t5, ct5, rfl, N5, K5, Eq5, Cq5, Vq5, Aq5⟩)
    · exact absurd c17 (by decide)
theorem c_nm_5_2 (l : Launch) (Z : State) (a0 : Array Value) (hw : ∀ d ∈ tables_1, d.before a0 Z = true) (a t : Addr) (ck : ClassId) (ch0 ch1 ch2 ch3 ch4 : Int32) (h0 : Heap) (hSio : Sio Z h0) (hCpt : Cpt Z h0) (E : sE Z h0 a) (C : sC Z h0 a) (V : sV Z h0 a t) (A : sA Z h0 t ck 5 [by8 ch0, by8 ch1, by8 ch2, by8 ch3, by8 ch4]) (hch0 : rg ch0) (hch1 : rg ch1) (hch2 : rg ch2) (hch3 : rg ch3) (hch4 : rg ch4) (d3 : ¬ ch3.toInt = 47) (d4 : ¬ ch4.toInt = 47) (dq : ch2.toInt = 47) :
    Ctr l Z mn0 prog_18_method_5_code 2 (some (.object "java/lang/String")) [] ⟨5, 2, 6, 87⟩ #[(.ref a)] h0 (SQd Z h0 2 [by8 ch0, by8 ch1]) := by
  refine Ctr.of (plainFor_of_name pn_0) ?_
  intro p e s m below meth c s₁ hx H hml hret hown hnm hZ hlk X0 e0
  refine Goes.cast (show entryFrame m _ _ = mkF m 0 #[.val (.ref a), .unset] [] from rfl) ?_
  refine gLoadAN 1 X0 hx (H d27_0) rfl rfl rfl ?_
  refine gBipush 3 X0 hx (v := (47 : Int32)) (H d27_1) rfl rfl ?_
  refine gCallVJ X0 hx hZ (y := mn13) hown e0 (by rw [hml]; rfl) E (ow hw 34 rfl) (ow hw 35 rfl) (ow hw 37 rfl) (ow hw 36 rfl) (ow hw 11 rfl) (ow hw 38 rfl) (by decide) (argsL := [(.int (47 : Int32))]) (st := []) (c_lastIndexOf_5 l Z a0 hw a t ck ch0 ch1 ch2 ch3 ch4 h0 hCpt E C V A hch0 hch1 hch2 hch3 hch4) (lenOf pd_4 rfl) (H d27_3) (pc' := 6) rfl rfl rfl rfl (by decide) (W := 0) (Nat.le_of_eq rfl) (by decide) (by decide) (by decide) ?_
  intro T1 X1 e1
  rw [show lx5 ch0 ch1 ch2 ch3 ch4 = 2 from by rw [lx5, if_neg d4, if_neg d3, if_pos dq]]
  refine gStoreIN 7 X1 hx (H d27_6) (l' := #[.val (.ref a), .val (.int (2 : Int32))]) rfl rfl ?_
  refine gLoadIN 8 X1 hx (H d27_7) rfl rfl ?_
  refine gIfLe X1 hx (H d27_8) (pc' := 20) (by decide) (by decide) (pn := 11) rfl (fun (c8 : (2 : Int) ≤ (0 : Int)) => ?_) (fun (c8 : (0 : Int) < (2 : Int)) => ?_)
  · exact absurd c8 (by decide)
  · refine gLoadAN 12 X1 hx (H d27_11) rfl rfl rfl ?_
    refine gIconst 13 X1 hx (v := (0 : Int32)) (H d27_12) rfl rfl ?_
    refine gLoadIN 14 X1 hx (H d27_13) rfl rfl ?_
    refine gCallV X1 hx hZ (y := mn16) hown e1 (by rw [hml]; rfl) E (ow hw 81 rfl) (ow hw 82 rfl) (ow hw 84 rfl) (ow hw 83 rfl) (ow hw 11 rfl) (ow hw 85 rfl) (by decide) (argsL := [(.int (0 : Int32)), (.int (2 : Int32))]) (st := []) (c_sub_5_0_2 l Z a0 hw a t ck ch0 ch1 ch2 ch3 ch4 h0 hSio hCpt E C V A hch0 hch1 hch2 hch3 hch4) (lenOf pd_7 rfl) (H d27_14) (pc' := 17) rfl rfl (by decide) (W := 0) (Nat.le_of_eq rfl) (by decide) (by decide) (by decide) ?_
    intro T2 v2 L2 X2 hQ2
    obtain ⟨r2, t2, ct2, rfl, Nq2, Kq2, Eq2, Cq2, Vq2, Aq2⟩ := hQ2
    have N2 := Fr.app (Fr.nil h0.size) (fun y hy => Nat.le_trans (Nat.le_refl _) (Nq2 y hy))
    have f2_0 := E.keep Kq2
    have f2_1 := C.keep Kq2 nin0
    have f2_2 := V.keep Kq2 nin0
    have f2_3 := A.keep Kq2 nin0
    have f2_4 := own_cpt_keep hCpt Kq2 ns0
    have zs2 := Nat.le_trans (Nat.le_refl _) Kq2.1
    have K2 : Keep h0 T2.heap [] := (Keep.refl h0 []).trans Kq2 all0
    refine gGoto X2 hx (H d27_17) (pc' := 21) (by decide) (by decide) ?_
    exact gRetA X2 hx hlk hret rfl rfl (H d27_21) (by decide) (by decide) (⟨r2, t2, ct2, rfl, N2, K2, Eq2, Cq2, Vq2, Aq2⟩)
theorem c_min_5_3 (l : Launch) (Z : State) (a0 : Array Value) (hw : ∀ d ∈ tables_1, d.before a0 Z = true)  (h0 : Heap)  :
    Ctr l Z mn4 jdk_29_method_69_code 2 (some .int) [] ⟨0, 0, 0, 0⟩ #[(.int (5 : Int32)), (.int (3 : Int32))] h0 (Just h0 (.int (3))) := by
  refine Ctr.of (Jvm.Free.JP.mathPlain rfl (by decide +kernel)) ?_
  intro p e s m below meth c s₁ hx H hml hret hown hnm hZ hlk X0 e0
  refine Goes.cast (show entryFrame m _ _ = mkF m 0 #[.val (.int (5 : Int32)), .val (.int (3 : Int32))] [] from rfl) ?_
  refine gLoadIN 1 X0 hx (H d1_0) rfl rfl ?_
  refine gLoadIN 2 X0 hx (H d1_1) rfl rfl ?_
  refine gIcmpGt X0 hx (H d1_2) (pc' := 9) (by decide) (by decide) (pn := 5) rfl (fun (c2 : (3 : Int) < (5 : Int)) => ?_) (fun (c2 : (5 : Int) ≤ (3 : Int)) => ?_)
  · refine gLoadIN 10 X0 hx (H d1_9) rfl rfl ?_
    exact gRetI X0 hx hlk hret (H d1_10) (by decide) (by decide) (⟨rfl, e0, rfl⟩)
  · exact absurd c2 (by decide)
theorem c_cor_5_0_3b (l : Launch) (Z : State) (a0 : Array Value) (hw : ∀ d ∈ tables_1, d.before a0 Z = true) (t : Addr) (ck : ClassId) (ch0 ch1 ch2 ch3 ch4 : Int32) (h0 : Heap) (A : sA Z h0 t ck 5 [by8 ch0, by8 ch1, by8 ch2, by8 ch3, by8 ch4]) :
    Ctr l Z mn27 jdk_65_method_133_code 5 (some (.array .byte)) [] ⟨1, 1, 3, 24⟩ #[(.ref t), (.int (0 : Int32)), (.int (3 : Int32))] h0 (fun v h L => ∃ (b : Addr) (ct : ClassId), v = some (.ref b) ∧ h0.size ≤ b ∧ Fr h0.size L ∧ Keep h0 h [] ∧ sA Z h b ct 3 [by8 ch0, by8 ch1, by8 ch2]) := by
  refine Ctr.of (plainFor_of_name pn_7) ?_
  intro p e s m below meth c s₁ hx H hml hret hown hnm hZ hlk X0 e0
  refine Goes.cast (show entryFrame m _ _ = mkF m 0 #[.val (.ref t), .val (.int (0 : Int32)), .val (.int (3 : Int32)), .unset, .unset] [] from rfl) ?_
  refine gLoadIN 1 X0 hx (H d23_0) rfl rfl ?_
  refine gLoadIN 2 X0 hx (H d23_1) rfl rfl ?_
  refine gCallS X0 hx hZ (y := mn25) hown e0 (by rw [hml]; rfl) (ow hw 105 rfl) (ow hw 106 rfl) (ow hw 100 rfl) (ow hw 107 rfl) (by decide) (argsL := [(.int (0 : Int32)), (.int (3 : Int32))]) (st := []) (c_clen_0_3 l Z a0 hw h0) (lenOf pd_8 rfl) (H d23_2) (pc' := 5) rfl rfl (by decide) (W := 0) (Nat.le_of_eq rfl) (by decide) (by decide) (by decide) ?_
  intro T1 v1 L1 X1 hQ1
  obtain ⟨rfl, eq1, rfl⟩ := hQ1
  rw [List.append_nil] at X1
  refine gLoadIN 6 X1 hx (H d23_5) rfl rfl ?_
  refine gLoadIN 7 X1 hx (H d23_6) rfl rfl ?_
  refine gIsub 8 X1 hx (H d23_7) rfl ?_
  show Goes p e below _ T1 (mkF m 8 #[.val (.ref t), .val (.int (0 : Int32)), .val (.int (3 : Int32)), .unset, .unset] [(.int (3 : Int32))])
  refine gStoreIN 9 X1 hx (H d23_8) (l' := #[.val (.ref t), .val (.int (0 : Int32)), .val (.int (3 : Int32)), .val (.int (3 : Int32)), .unset]) rfl rfl ?_
  refine gLoadIN 10 X1 hx (H d23_9) rfl rfl ?_
  refine gNewP X1 hx hZ (ow hw 23 rfl) eq1 (n := (3 : Int32)) (H d23_10) (by decide) (cap := 3) (by decide) (by decide) (by decide) (by decide) 3 (pc' := 12) rfl (fun T2 h2 b2 ck2 X2 e2 g2 E2 A2 => ?_)
  have ne_t_b2 : t ≠ b2 := Nat.ne_of_lt (Nat.lt_of_lt_of_eq A.lt g2.symm)
  have f2_0 := A.ext E2
  have sz_b2 : h0.size ≤ b2 := Nat.le_trans (Nat.le_refl _) (Nat.le_of_eq g2.symm)
  have zs2 : h0.size ≤ h2.size := Nat.le_trans (Nat.le_refl _) E2.1
  have K2 : Keep h0 h2 [] := (Keep.refl h0 []).ext E2
  have V2 : Arv Z h2 b2 ck2 .byte (3 : Int32) [(.int (0 : Int32)), (.int (0 : Int32)), (.int (0 : Int32))] (.int (0 : Int32)) := A2
  refine gStoreA 14 X2 hx (H d23_12) (l' := #[.val (.ref t), .val (.int (0 : Int32)), .val (.int (3 : Int32)), .val (.int (3 : Int32)), .val (.ref b2)]) rfl rfl rfl ?_
  refine gLoadAN 15 X2 hx (H d23_14) rfl rfl rfl ?_
  refine gLoadIN 16 X2 hx (H d23_15) rfl rfl ?_
  refine gLoadA 18 X2 hx (H d23_16) rfl rfl rfl ?_
  refine gIconst 19 X2 hx (v := (0 : Int32)) (H d23_18) rfl rfl ?_
  refine gLoadAN 20 X2 hx (H d23_19) rfl rfl rfl ?_
  refine gArrLen X2 hx hZ e2 f2_0 (H d23_20) (pc' := 21) rfl ?_
  refine gLoadIN 22 X2 hx (H d23_21) rfl rfl ?_
  refine gIsub 23 X2 hx (H d23_22) rfl ?_
  show Goes p e below _ T2 (mkF m 23 #[.val (.ref t), .val (.int (0 : Int32)), .val (.int (3 : Int32)), .val (.int (3 : Int32)), .val (.ref b2)] [(.int (5 : Int32)), (.int (0 : Int32)), (.ref b2), (.int (0 : Int32)), (.ref t)])
  refine gLoadIN 24 X2 hx (H d23_23) rfl rfl ?_
  refine gCallSJ X2 hx hZ (y := mn4) hown e2 (by rw [hml]; rfl) (ow hw 108 rfl) (ow hw 68 rfl) (ow hw 69 rfl) (ow hw 70 rfl) (by decide) (argsL := [(.int (5 : Int32)), (.int (3 : Int32))]) (st := [(.int (0 : Int32)), (.ref b2), (.int (0 : Int32)), (.ref t)]) (c_min_5_3 l Z a0 hw h2) (lenOf pd_6 rfl) (H d23_24) (pc' := 27) rfl rfl rfl rfl (by decide) (W := 4) (Nat.le_of_eq rfl) (by decide) (by decide) (by decide) ?_
  intro T3 X3 e3
  refine gArrCopy X3 hx hZ hown (ow hw 109 rfl) (ow hw 112 rfl) (ow hw 110 rfl) (ow hw 111 rfl) e3 (dv := (.int 0)) (dd := (.int 0)) f2_0 V2 rfl (by decide) (by decide) (by decide) (by decide) (by decide) (by decide) (Fr.nil h0.size) sz_b2 (by rw [hml]; rfl) (H d23_27) (pc' := 30) rfl (by decide) (W := 0) (Nat.le_of_eq rfl) (by decide) (fun T4 h4 L4 X4 e4 N4 K4 A4 => ?_)
  have KK : Keep h0 h4 [] := K2.trans K4 (allS (Or.inr sz_b2) all0)
  have VV : Arv Z h4 b2 ck2 .byte 3 [by8 ch0, by8 ch1, by8 ch2] (.int 0) := A4
  refine gLoadA 32 X4 hx (H d23_30) rfl rfl rfl ?_
  exact gRetA X4 hx hlk hret rfl rfl (H d23_32) (by decide) (by decide) (⟨_, _, rfl, sz_b2, N4, by rw [e4]; exact KK, by rw [e4]; exact VV⟩)
theorem c_cor_5_0_3 (l : Launch) (Z : State) (a0 : Array Value) (hw : ∀ d ∈ tables_1, d.before a0 Z = true) (t : Addr) (ck : ClassId) (ch0 ch1 ch2 ch3 ch4 : Int32) (h0 : Heap) (A : sA Z h0 t ck 5 [by8 ch0, by8 ch1, by8 ch2, by8 ch3, by8 ch4]) :
    Ctr l Z mn26 jdk_65_method_132_code 3 (some (.array .byte)) [] ⟨2, 1, 3, 40⟩ #[(.ref t), (.int (0 : Int32)), (.int (3 : Int32))] h0 (fun v h L => ∃ (b : Addr) (ct : ClassId), v = some (.ref b) ∧ h0.size ≤ b ∧ Fr h0.size L ∧ Keep h0 h [] ∧ sA Z h b ct 3 [by8 ch0, by8 ch1, by8 ch2]) := by
  refine Ctr.of (plainFor_of_name pn_7) ?_
  intro p e s m below meth c s₁ hx H hml hret hown hnm hZ hlk X0 e0
  refine Goes.cast (show entryFrame m _ _ = mkF m 0 #[.val (.ref t), .val (.int (0 : Int32)), .val (.int (3 : Int32))] [] from rfl) ?_
  refine gLoadIN 1 X0 hx (H d22_0) rfl rfl ?_
  refine gIfNeT X0 hx (H d22_1) (pc' := 10) (by decide) (by decide) (pn := 4) rfl (fun (c1 : ¬ (0 : Int) = (0 : Int)) => ?_) (fun (c1 : (0 : Int) = (0 : Int)) => ?_)
  · exact absurd c1 (by decide)
  · refine gLoadIN 5 X0 hx (H d22_4) rfl rfl ?_
    refine gLoadAN 6 X0 hx (H d22_5) rfl rfl rfl ?_
    refine gArrLen X0 hx hZ e0 A (H d22_6) (pc' := 7) rfl ?_
    refine gIcmpEqT X0 hx (H d22_7) (pc' := 17) (by decide) (by decide) (pn := 10) rfl (fun (c7 : (3 : Int) = (5 : Int)) => ?_) (fun (c7 : ¬ (3 : Int) = (5 : Int)) => ?_)
    · exact absurd c7 (by decide)
    · refine gLoadAN 11 X0 hx (H d22_10) rfl rfl rfl ?_
      refine gLoadIN 12 X0 hx (H d22_11) rfl rfl ?_
      refine gLoadIN 13 X0 hx (H d22_12) rfl rfl ?_
      refine gCallS X0 hx hZ (y := mn27) hown e0 (by rw [hml]; rfl) (ow hw 102 rfl) (ow hw 103 rfl) (ow hw 100 rfl) (ow hw 104 rfl) (by decide) (argsL := [(.ref t), (.int (0 : Int32)), (.int (3 : Int32))]) (st := []) (c_cor_5_0_3b l Z a0 hw t ck ch0 ch1 ch2 ch3 ch4 h0 A) (lenOf pd_19 rfl) (H d22_13) (pc' := 16) rfl rfl (by decide) (W := 0) (Nat.le_of_eq rfl) (by decide) (by decide) (by decide) ?_
      intro T1 v1 L1 X1 hQ1
      obtain ⟨b1, ct1, rfl, g1, g2, g3, g4⟩ := hQ1
      exact gRetA X1 hx hlk hret rfl rfl (H d22_16) (by decide) (by decide) (⟨_, _, rfl, g1, g2, g3, g4⟩)
theorem c_newString_5_0_3 (l : Launch) (Z : State) (a0 : Array Value) (hw : ∀ d ∈ tables_1, d.before a0 Z = true) (t : Addr) (ck : ClassId) (ch0 ch1 ch2 ch3 ch4 : Int32) (h0 : Heap) (A : sA Z h0 t ck 5 [by8 ch0, by8 ch1, by8 ch2, by8 ch3, by8 ch4]) :
    Ctr l Z mn20 jdk_43_method_47_code 3 (some (.object "java/lang/String")) [] ⟨3, 2, 7, 57⟩ #[(.ref t), (.int (0 : Int32)), (.int (3 : Int32))] h0 (SQd Z h0 3 [by8 ch0, by8 ch1, by8 ch2]) := by
  refine Ctr.of (plainFor_of_name pn_5) ?_
  intro p e s m below meth c s₁ hx H hml hret hown hnm hZ hlk X0 e0
  refine Goes.cast (show entryFrame m _ _ = mkF m 0 #[.val (.ref t), .val (.int (0 : Int32)), .val (.int (3 : Int32))] [] from rfl) ?_
  refine gLoadIN 1 X0 hx (H d16_0) rfl rfl ?_
  refine gIfNeT X0 hx (H d16_1) (pc' := 7) (by decide) (by decide) (pn := 4) rfl (fun (c1 : ¬ (3 : Int) = (0 : Int)) => ?_) (fun (c1 : (3 : Int) = (0 : Int)) => ?_)
  · refine gNew X0 hx hZ hown (ow hw 97 rfl) (ow hw 10 rfl) (ow hw 11 rfl) e0 (H d16_7) (pc' := 10) rfl (by decide) (by decide) (fun T1 h1 b1 X1 e1 g1 E1 A1 D1 => ?_)
    have ne_t_b1 : t ≠ b1 := Nat.ne_of_lt (Nat.lt_of_lt_of_eq A.lt g1.symm)
    have f1_0 := A.ext E1
    have sz_b1 : h0.size ≤ b1 := Nat.le_trans (Nat.le_refl _) (Nat.le_of_eq g1.symm)
    have zs1 : h0.size ≤ h1.size := Nat.le_trans (Nat.le_refl _) E1.1
    have K1 : Keep h0 h1 [] := (Keep.refl h0 []).ext E1
    have F1_value : Fld Z h1 b1 "java/lang/String" "value" "[B" .null := D1 (Or.inr (ow hw 24 rfl)) (ty := (.array .byte)) (by decide)
    have F1_coder : Fld Z h1 b1 "java/lang/String" "coder" "B" (.int (0 : Int32)) := D1 (Or.inr (ow hw 25 rfl)) (ty := .byte) (by decide)
    refine gDup 11 X1 hx (H d16_10) rfl rfl ?_
    refine gLoadAN 12 X1 hx (H d16_11) rfl rfl rfl ?_
    refine gLoadIN 13 X1 hx (H d16_12) rfl rfl ?_
    refine gLoadIN 14 X1 hx (H d16_13) rfl rfl ?_
    refine gLoadIN 15 X1 hx (H d16_14) rfl rfl ?_
    refine gIadd 16 X1 hx (H d16_15) rfl ?_
    show Goes p e below _ T1 (mkF m 16 #[.val (.ref t), .val (.int (0 : Int32)), .val (.int (3 : Int32))] [(.int (3 : Int32)), (.int (0 : Int32)), (.ref t), (.ref b1), (.ref b1)])
    refine gCallS X1 hx hZ (y := mn26) hown e1 (by rw [hml]; rfl) (ow hw 98 rfl) (ow hw 99 rfl) (ow hw 100 rfl) (ow hw 101 rfl) (by decide) (argsL := [(.ref t), (.int (0 : Int32)), (.int (3 : Int32))]) (st := [(.ref b1), (.ref b1)]) (c_cor_5_0_3 l Z a0 hw t ck ch0 ch1 ch2 ch3 ch4 h1 f1_0) (lenOf pd_19 rfl) (H d16_16) (pc' := 19) rfl rfl (by decide) (W := 2) (Nat.le_of_eq rfl) (by decide) (by decide) (by decide) ?_
    intro T2 v2 L2 X2 hQ2
    obtain ⟨q2, ctq2, rfl, gq2, Nq2, Kq2, Aq2⟩ := hQ2
    have N2 := Fr.app (Fr.nil h0.size) (fun y hy => Nat.le_trans zs1 (Nq2 y hy))
    have K2 : Keep h0 T2.heap [] := K1.trans Kq2 all0
    have f2_0 := f1_0.keep Kq2 nin0
    have f2_1 := A1.keep Kq2
    have f2_2 := F1_value.keep Kq2 nin0
    have f2_3 := F1_coder.keep Kq2 nin0
    have zs2 := Nat.le_trans zs1 Kq2.1
    have nq2 : q2 ≠ b1 := Ne.symm (Nat.ne_of_lt (Nat.lt_of_lt_of_le A1.lt gq2))
    refine gIconst 20 X2 hx (v := (0 : Int32)) (H d16_19) rfl rfl ?_
    refine gCallI X2 hx hZ (y := mn6) rfl hown rfl (by rw [hml]; rfl) (ow hw 113 rfl) (ow hw 114 rfl) (ow hw 11 rfl) (ow hw 115 rfl) (by decide) (argsL := [(.ref q2), (.int (0 : Int32))]) (st := [(.ref b1)]) (c_sinitB l Z a0 hw b1 q2 h0.size T2.heap sz_b1 f2_1 f2_3 f2_2) (lenOf pd_15 rfl) (H d16_20) (pc' := 23) rfl rfl (by decide) (W := 1) (Nat.le_of_eq rfl) (by decide) (by decide) (by decide) ?_
    intro T3 v3 L3 X3 hQ3
    obtain ⟨rfl, Nq3, Kq3, Eq3, Cq3, Vq3⟩ := hQ3
    have N3 := Fr.app N2 Nq3
    have K3 : Keep h0 T3.heap [] := K2.trans Kq3 (allS (Or.inr sz_b1) all0)
    have Ak3 := Aq2.keep Kq3 (ninS nq2 nin0)
    exact gRetA X3 hx hlk hret rfl rfl (H d16_23) (by decide) (by decide) (⟨b1, q2, ctq2, rfl, N3, K3, Eq3, Cq3, Vq3, Ak3⟩)
  · exact absurd c1 (by decide)
theorem c_sub_5_0_3 (l : Launch) (Z : State) (a0 : Array Value) (hw : ∀ d ∈ tables_1, d.before a0 Z = true) (a t : Addr) (ck : ClassId) (ch0 ch1 ch2 ch3 ch4 : Int32) (h0 : Heap) (hSio : Sio Z h0) (hCpt : Cpt Z h0) (E : sE Z h0 a) (C : sC Z h0 a) (V : sV Z h0 a t) (A : sA Z h0 t ck 5 [by8 ch0, by8 ch1, by8 ch2, by8 ch3, by8 ch4]) (hch0 : rg ch0) (hch1 : rg ch1) (hch2 : rg ch2) (hch3 : rg ch3) (hch4 : rg ch4) :
    Ctr l Z mn16 jdk_42_method_92_code 5 (some (.object "java/lang/String")) [] ⟨4, 2, 7, 71⟩ #[(.ref a), (.int (0 : Int32)), (.int (3 : Int32))] h0 (SQd Z h0 3 [by8 ch0, by8 ch1, by8 ch2]) := by
  refine Ctr.of (plainFor_of_name pn_4) ?_
  intro p e s m below meth c s₁ hx H hml hret hown hnm hZ hlk X0 e0
  refine Goes.cast (show entryFrame m _ _ = mkF m 0 #[.val (.ref a), .val (.int (0 : Int32)), .val (.int (3 : Int32)), .unset, .unset] [] from rfl) ?_
  refine gLoadAN 1 X0 hx (H d13_0) rfl rfl rfl ?_
  refine gCallVJ X0 hx hZ (y := mn15) hown e0 (by rw [hml]; rfl) E (ow hw 39 rfl) (ow hw 40 rfl) (ow hw 42 rfl) (ow hw 41 rfl) (ow hw 11 rfl) (ow hw 43 rfl) (by decide) (argsL := []) (st := []) (c_length_5 l Z a0 hw a t ck ch0 ch1 ch2 ch3 ch4 h0 hCpt E C V A hch0 hch1 hch2 hch3 hch4) (lenOf pd_1 rfl) (H d13_1) (pc' := 4) rfl rfl rfl rfl (by decide) (W := 0) (Nat.le_of_eq rfl) (by decide) (by decide) (by decide) ?_
  intro T1 X1 e1
  refine gStoreIN 5 X1 hx (H d13_4) (l' := #[.val (.ref a), .val (.int (0 : Int32)), .val (.int (3 : Int32)), .val (.int (5 : Int32)), .unset]) rfl rfl ?_
  refine gLoadIN 6 X1 hx (H d13_5) rfl rfl ?_
  refine gLoadIN 7 X1 hx (H d13_6) rfl rfl ?_
  refine gLoadIN 8 X1 hx (H d13_7) rfl rfl ?_
  refine gCallS X1 hx hZ (y := mn9) hown e1 (by rw [hml]; rfl) (ow hw 86 rfl) (ow hw 87 rfl) (ow hw 11 rfl) (ow hw 88 rfl) (by decide) (argsL := [(.int (0 : Int32)), (.int (3 : Int32)), (.int (5 : Int32))]) (st := []) (c_chkft l Z a0 hw (0 : Int32) (3 : Int32) (5 : Int32) h0 (by decide) (by decide) (by decide) hSio) (lenOf pd_10 rfl) (H d13_8) (pc' := 11) rfl rfl (by decide) (W := 0) (Nat.le_of_eq rfl) (by decide) (by decide) (by decide) ?_
  intro T2 v2 L2 X2 hQ2
  obtain ⟨rfl, eq2, rfl⟩ := hQ2
  rw [List.append_nil] at X2
  refine gLoadIN 12 X2 hx (H d13_11) rfl rfl ?_
  refine gIfNeT X2 hx (H d13_12) (pc' := 22) (by decide) (by decide) (pn := 15) rfl (fun (c12 : ¬ (0 : Int) = (0 : Int)) => ?_) (fun (c12 : (0 : Int) = (0 : Int)) => ?_)
  · exact absurd c12 (by decide)
  · refine gLoadIN 16 X2 hx (H d13_15) rfl rfl ?_
    refine gLoadIN 17 X2 hx (H d13_16) rfl rfl ?_
    refine gIcmpNeT X2 hx (H d13_17) (pc' := 22) (by decide) (by decide) (pn := 20) rfl (fun (c17 : ¬ (3 : Int) = (5 : Int)) => ?_) (fun (c17 : (3 : Int) = (5 : Int)) => ?_)
    · refine gLoadIN 23 X2 hx (H d13_22) rfl rfl ?_
      refine gLoadIN 24 X2 hx (H d13_23) rfl rfl ?_
      refine gIsub 25 X2 hx (H d13_24) rfl ?_
      show Goes p e below _ T2 (mkF m 25 #[.val (.ref a), .val (.int (0 : Int32)), .val (.int (3 : Int32)), .val (.int (5 : Int32)), .unset] [(.int (3 : Int32))])
      refine gStoreI 27 X2 hx (H d13_25) (l' := #[.val (.ref a), .val (.int (0 : Int32)), .val (.int (3 : Int32)), .val (.int (5 : Int32)), .val (.int (3 : Int32))]) rfl rfl ?_
      refine gLoadAN 28 X2 hx (H d13_27) rfl rfl rfl ?_
      refine gCallVJ X2 hx hZ (y := mn12) hown eq2 (by rw [hml]; rfl) E (ow hw 55 rfl) (ow hw 56 rfl) (ow hw 58 rfl) (ow hw 57 rfl) (ow hw 11 rfl) (ow hw 59 rfl) (by decide) (argsL := []) (st := []) (c_isLatin1 l Z a0 hw a h0 hCpt C) (lenOf pd_3 rfl) (H d13_28) (pc' := 31) rfl rfl rfl rfl (by decide) (W := 0) (Nat.le_of_eq rfl) (by decide) (by decide) (by decide) ?_
      intro T3 X3 e3
      refine gIfEqT X3 hx (H d13_31) (pc' := 47) (by decide) (by decide) (pn := 34) rfl (fun (c31 : (1 : Int) = (0 : Int)) => ?_) (fun (c31 : ¬ (1 : Int) = (0 : Int)) => ?_)
      · exact absurd c31 (by decide)
      · refine gLoadAN 35 X3 hx (H d13_34) rfl rfl rfl ?_
        refine gGetF X3 hx hZ hown (ow hw 28 rfl) Via.refl e3 V (H d13_35) (pc' := 38) rfl (fun T4 X4 e4 => ?_)
        refine gLoadIN 39 X4 hx (H d13_38) rfl rfl ?_
        refine gLoadI 41 X4 hx (H d13_39) rfl rfl ?_
        refine gCallS X4 hx hZ (y := mn20) hown e4 (by rw [hml]; rfl) (ow hw 94 rfl) (ow hw 95 rfl) (ow hw 62 rfl) (ow hw 96 rfl) (by decide) (argsL := [(.ref t), (.int (0 : Int32)), (.int (3 : Int32))]) (st := []) (c_newString_5_0_3 l Z a0 hw t ck ch0 ch1 ch2 ch3 ch4 h0 A) (lenOf pd_18 rfl) (H d13_41) (pc' := 44) rfl rfl (by decide) (W := 0) (Nat.le_of_eq rfl) (by decide) (by decide) (by decide) ?_
        intro T5 v5 L5 X5 hQ5
        obtain ⟨r5, t5, ct5, rfl, Nq5, Kq5, Eq5, Cq5, Vq5, Aq5⟩ := hQ5
        have N5 := Fr.app (Fr.nil h0.size) (fun y hy => Nat.le_trans (Nat.le_refl _) (Nq5 y hy))
        have f5_0 := E.keep Kq5
        have f5_1 := C.keep Kq5 nin0
        have f5_2 := V.keep Kq5 nin0
        have f5_3 := A.keep Kq5 nin0
        have f5_4 := own_cpt_keep hCpt Kq5 ns0
        have zs5 := Nat.le_trans (Nat.le_refl _) Kq5.1
        have K5 : Keep h0 T5.heap [] := (Keep.refl h0 []).trans Kq5 all0
        refine gGoto X5 hx (H d13_44) (pc' := 57) (by decide) (by decide) ?_
        exact gRetA X5 hx hlk hret rfl rfl (H d13_57) (by decide) (by decide) (⟨r5, t5, ct5, rfl, N5, K5, Eq5, Cq5, Vq5, Aq5⟩)
    · exact absurd c17 (by decide)
theorem c_nm_5_3 (l : Launch) (Z : State) (a0 : Array Value) (hw : ∀ d ∈ tables_1, d.before a0 Z = true) (a t : Addr) (ck : ClassId) (ch0 ch1 ch2 ch3 ch4 : Int32) (h0 : Heap) (hSio : Sio Z h0) (hCpt : Cpt Z h0) (E : sE Z h0 a) (C : sC Z h0 a) (V : sV Z h0 a t) (A : sA Z h0 t ck 5 [by8 ch0, by8 ch1, by8 ch2, by8 ch3, by8 ch4]) (hch0 : rg ch0) (hch1 : rg ch1) (hch2 : rg ch2) (hch3 : rg ch3) (hch4 : rg ch4) (d4 : ¬ ch4.toInt = 47) (dq : ch3.toInt = 47) :
    Ctr l Z mn0 prog_18_method_5_code 2 (some (.object "java/lang/String")) [] ⟨5, 2, 7, 87⟩ #[(.ref a)] h0 (SQd Z h0 3 [by8 ch0, by8 ch1, by8 ch2]) := by
  refine Ctr.of (plainFor_of_name pn_0) ?_
  intro p e s m below meth c s₁ hx H hml hret hown hnm hZ hlk X0 e0
  refine Goes.cast (show entryFrame m _ _ = mkF m 0 #[.val (.ref a), .unset] [] from rfl) ?_
  refine gLoadAN 1 X0 hx (H d27_0) rfl rfl rfl ?_
  refine gBipush 3 X0 hx (v := (47 : Int32)) (H d27_1) rfl rfl ?_
  refine gCallVJ X0 hx hZ (y := mn13) hown e0 (by rw [hml]; rfl) E (ow hw 34 rfl) (ow hw 35 rfl) (ow hw 37 rfl) (ow hw 36 rfl) (ow hw 11 rfl) (ow hw 38 rfl) (by decide) (argsL := [(.int (47 : Int32))]) (st := []) (c_lastIndexOf_5 l Z a0 hw a t ck ch0 ch1 ch2 ch3 ch4 h0 hCpt E C V A hch0 hch1 hch2 hch3 hch4) (lenOf pd_4 rfl) (H d27_3) (pc' := 6) rfl rfl rfl rfl (by decide) (W := 0) (Nat.le_of_eq rfl) (by decide) (by decide) (by decide) ?_
  intro T1 X1 e1
  rw [show lx5 ch0 ch1 ch2 ch3 ch4 = 3 from by rw [lx5, if_neg d4, if_pos dq]]
  refine gStoreIN 7 X1 hx (H d27_6) (l' := #[.val (.ref a), .val (.int (3 : Int32))]) rfl rfl ?_
  refine gLoadIN 8 X1 hx (H d27_7) rfl rfl ?_
  refine gIfLe X1 hx (H d27_8) (pc' := 20) (by decide) (by decide) (pn := 11) rfl (fun (c8 : (3 : Int) ≤ (0 : Int)) => ?_) (fun (c8 : (0 : Int) < (3 : Int)) => ?_)
  · exact absurd c8 (by decide)
  · refine gLoadAN 12 X1 hx (H d27_11) rfl rfl rfl ?_
    refine gIconst 13 X1 hx (v := (0 : Int32)) (H d27_12) rfl rfl ?_
    refine gLoadIN 14 X1 hx (H d27_13) rfl rfl ?_
    refine gCallV X1 hx hZ (y := mn16) hown e1 (by rw [hml]; rfl) E (ow hw 81 rfl) (ow hw 82 rfl) (ow hw 84 rfl) (ow hw 83 rfl) (ow hw 11 rfl) (ow hw 85 rfl) (by decide) (argsL := [(.int (0 : Int32)), (.int (3 : Int32))]) (st := []) (c_sub_5_0_3 l Z a0 hw a t ck ch0 ch1 ch2 ch3 ch4 h0 hSio hCpt E C V A hch0 hch1 hch2 hch3 hch4) (lenOf pd_7 rfl) (H d27_14) (pc' := 17) rfl rfl (by decide) (W := 0) (Nat.le_of_eq rfl) (by decide) (by decide) (by decide) ?_
    intro T2 v2 L2 X2 hQ2
    obtain ⟨r2, t2, ct2, rfl, Nq2, Kq2, Eq2, Cq2, Vq2, Aq2⟩ := hQ2
    have N2 := Fr.app (Fr.nil h0.size) (fun y hy => Nat.le_trans (Nat.le_refl _) (Nq2 y hy))
    have f2_0 := E.keep Kq2
    have f2_1 := C.keep Kq2 nin0
    have f2_2 := V.keep Kq2 nin0
    have f2_3 := A.keep Kq2 nin0
    have f2_4 := own_cpt_keep hCpt Kq2 ns0
    have zs2 := Nat.le_trans (Nat.le_refl _) Kq2.1
    have K2 : Keep h0 T2.heap [] := (Keep.refl h0 []).trans Kq2 all0
    refine gGoto X2 hx (H d27_17) (pc' := 21) (by decide) (by decide) ?_
    exact gRetA X2 hx hlk hret rfl rfl (H d27_21) (by decide) (by decide) (⟨r2, t2, ct2, rfl, N2, K2, Eq2, Cq2, Vq2, Aq2⟩)
theorem c_clen_0_4 (l : Launch) (Z : State) (a0 : Array Value) (hw : ∀ d ∈ tables_1, d.before a0 Z = true)  (h0 : Heap)  :
    Ctr l Z mn25 jdk_65_method_131_code 2 none [] ⟨0, 0, 0, 0⟩ #[(.int (0 : Int32)), (.int (4 : Int32))] h0 (fun v h L => v = none ∧ h = h0 ∧ L = []) := by
  refine Ctr.of (plainFor_of_name pn_7) ?_
  intro p e s m below meth c s₁ hx H hml hret hown hnm hZ hlk X0 e0
  refine Goes.cast (show entryFrame m _ _ = mkF m 0 #[.val (.int (0 : Int32)), .val (.int (4 : Int32))] [] from rfl) ?_
  refine gLoadIN 1 X0 hx (H d21_0) rfl rfl ?_
  refine gLoadIN 2 X0 hx (H d21_1) rfl rfl ?_
  refine gIcmpGe X0 hx (H d21_2) (pc' := 37) (by decide) (by decide) (pn := 5) rfl (fun (c2 : (0 : Int) ≤ (4 : Int)) => ?_) (fun (c2 : (4 : Int) < (0 : Int)) => ?_)
  · exact gRetV X0 hx hlk hret (H d21_37) (by decide) (by decide) (⟨rfl, e0, rfl⟩)
  · exact absurd c2 (by decide)
theorem c_min_5_4 (l : Launch) (Z : State) (a0 : Array Value) (hw : ∀ d ∈ tables_1, d.before a0 Z = true)  (h0 : Heap)  :
    Ctr l Z mn4 jdk_29_method_69_code 2 (some .int) [] ⟨0, 0, 0, 0⟩ #[(.int (5 : Int32)), (.int (4 : Int32))] h0 (Just h0 (.int (4))) := by
  refine Ctr.of (Jvm.Free.JP.mathPlain rfl (by decide +kernel)) ?_
  intro p e s m below meth c s₁ hx H hml hret hown hnm hZ hlk X0 e0
  refine Goes.cast (show entryFrame m _ _ = mkF m 0 #[.val (.int (5 : Int32)), .val (.int (4 : Int32))] [] from rfl) ?_
  refine gLoadIN 1 X0 hx (H d1_0) rfl rfl ?_
  refine gLoadIN 2 X0 hx (H d1_1) rfl rfl ?_
  refine gIcmpGt X0 hx (H d1_2) (pc' := 9) (by decide) (by decide) (pn := 5) rfl (fun (c2 : (4 : Int) < (5 : Int)) => ?_) (fun (c2 : (5 : Int) ≤ (4 : Int)) => ?_)
  · refine gLoadIN 10 X0 hx (H d1_9) rfl rfl ?_
    exact gRetI X0 hx hlk hret (H d1_10) (by decide) (by decide) (⟨rfl, e0, rfl⟩)
  · exact absurd c2 (by decide)
theorem c_cor_5_0_4b (l : Launch) (Z : State) (a0 : Array Value) (hw : ∀ d ∈ tables_1, d.before a0 Z = true) (t : Addr) (ck : ClassId) (ch0 ch1 ch2 ch3 ch4 : Int32) (h0 : Heap) (A : sA Z h0 t ck 5 [by8 ch0, by8 ch1, by8 ch2, by8 ch3, by8 ch4]) :
    Ctr l Z mn27 jdk_65_method_133_code 5 (some (.array .byte)) [] ⟨1, 1, 4, 24⟩ #[(.ref t), (.int (0 : Int32)), (.int (4 : Int32))] h0 (fun v h L => ∃ (b : Addr) (ct : ClassId), v = some (.ref b) ∧ h0.size ≤ b ∧ Fr h0.size L ∧ Keep h0 h [] ∧ sA Z h b ct 4 [by8 ch0, by8 ch1, by8 ch2, by8 ch3]) := by
  refine Ctr.of (plainFor_of_name pn_7) ?_
  intro p e s m below meth c s₁ hx H hml hret hown hnm hZ hlk X0 e0
  refine Goes.cast (show entryFrame m _ _ = mkF m 0 #[.val (.ref t), .val (.int (0 : Int32)), .val (.int (4 : Int32)), .unset, .unset] [] from rfl) ?_
  refine gLoadIN 1 X0 hx (H d23_0) rfl rfl ?_
  refine gLoadIN 2 X0 hx (H d23_1) rfl rfl ?_
  refine gCallS X0 hx hZ (y := mn25) hown e0 (by rw [hml]; rfl) (ow hw 105 rfl) (ow hw 106 rfl) (ow hw 100 rfl) (ow hw 107 rfl) (by decide) (argsL := [(.int (0 : Int32)), (.int (4 : Int32))]) (st := []) (c_clen_0_4 l Z a0 hw h0) (lenOf pd_8 rfl) (H d23_2) (pc' := 5) rfl rfl (by decide) (W := 0) (Nat.le_of_eq rfl) (by decide) (by decide) (by decide) ?_
  intro T1 v1 L1 X1 hQ1
  obtain ⟨rfl, eq1, rfl⟩ := hQ1
  rw [List.append_nil] at X1
  refine gLoadIN 6 X1 hx (H d23_5) rfl rfl ?_
  refine gLoadIN 7 X1 hx (H d23_6) rfl rfl ?_
  refine gIsub 8 X1 hx (H d23_7) rfl ?_
  show Goes p e below _ T1 (mkF m 8 #[.val (.ref t), .val (.int (0 : Int32)), .val (.int (4 : Int32)), .unset, .unset] [(.int (4 : Int32))])
  refine gStoreIN 9 X1 hx (H d23_8) (l' := #[.val (.ref t), .val (.int (0 : Int32)), .val (.int (4 : Int32)), .val (.int (4 : Int32)), .unset]) rfl rfl ?_
  refine gLoadIN 10 X1 hx (H d23_9) rfl rfl ?_
  refine gNewP X1 hx hZ (ow hw 23 rfl) eq1 (n := (4 : Int32)) (H d23_10) (by decide) (cap := 4) (by decide) (by decide) (by decide) (by decide) 4 (pc' := 12) rfl (fun T2 h2 b2 ck2 X2 e2 g2 E2 A2 => ?_)
  have ne_t_b2 : t ≠ b2 := Nat.ne_of_lt (Nat.lt_of_lt_of_eq A.lt g2.symm)
  have f2_0 := A.ext E2
  have sz_b2 : h0.size ≤ b2 := Nat.le_trans (Nat.le_refl _) (Nat.le_of_eq g2.symm)
  have zs2 : h0.size ≤ h2.size := Nat.le_trans (Nat.le_refl _) E2.1
  have K2 : Keep h0 h2 [] := (Keep.refl h0 []).ext E2
  have V2 : Arv Z h2 b2 ck2 .byte (4 : Int32) [(.int (0 : Int32)), (.int (0 : Int32)), (.int (0 : Int32)), (.int (0 : Int32))] (.int (0 : Int32)) := A2
  refine gStoreA 14 X2 hx (H d23_12) (l' := #[.val (.ref t), .val (.int (0 : Int32)), .val (.int (4 : Int32)), .val (.int (4 : Int32)), .val (.ref b2)]) rfl rfl rfl ?_
  refine gLoadAN 15 X2 hx (H d23_14) rfl rfl rfl ?_
  refine gLoadIN 16 X2 hx (H d23_15) rfl rfl ?_
  refine gLoadA 18 X2 hx (H d23_16) rfl rfl rfl ?_
  refine gIconst 19 X2 hx (v := (0 : Int32)) (H d23_18) rfl rfl ?_
  refine gLoadAN 20 X2 hx (H d23_19) rfl rfl rfl ?_
  refine gArrLen X2 hx hZ e2 f2_0 (H d23_20) (pc' := 21) rfl ?_
  refine gLoadIN 22 X2 hx (H d23_21) rfl rfl ?_
  refine gIsub 23 X2 hx (H d23_22) rfl ?_
  show Goes p e below _ T2 (mkF m 23 #[.val (.ref t), .val (.int (0 : Int32)), .val (.int (4 : Int32)), .val (.int (4 : Int32)), .val (.ref b2)] [(.int (5 : Int32)), (.int (0 : Int32)), (.ref b2), (.int (0 : Int32)), (.ref t)])
  refine gLoadIN 24 X2 hx (H d23_23) rfl rfl ?_
  refine gCallSJ X2 hx hZ (y := mn4) hown e2 (by rw [hml]; rfl) (ow hw 108 rfl) (ow hw 68 rfl) (ow hw 69 rfl) (ow hw 70 rfl) (by decide) (argsL := [(.int (5 : Int32)), (.int (4 : Int32))]) (st := [(.int (0 : Int32)), (.ref b2), (.int (0 : Int32)), (.ref t)]) (c_min_5_4 l Z a0 hw h2) (lenOf pd_6 rfl) (H d23_24) (pc' := 27) rfl rfl rfl rfl (by decide) (W := 4) (Nat.le_of_eq rfl) (by decide) (by decide) (by decide) ?_
  intro T3 X3 e3
  refine gArrCopy X3 hx hZ hown (ow hw 109 rfl) (ow hw 112 rfl) (ow hw 110 rfl) (ow hw 111 rfl) e3 (dv := (.int 0)) (dd := (.int 0)) f2_0 V2 rfl (by decide) (by decide) (by decide) (by decide) (by decide) (by decide) (Fr.nil h0.size) sz_b2 (by rw [hml]; rfl) (H d23_27) (pc' := 30) rfl (by decide) (W := 0) (Nat.le_of_eq rfl) (by decide) (fun T4 h4 L4 X4 e4 N4 K4 A4 => ?_)
  have KK : Keep h0 h4 [] := K2.trans K4 (allS (Or.inr sz_b2) all0)
  have VV : Arv Z h4 b2 ck2 .byte 4 [by8 ch0, by8 ch1, by8 ch2, by8 ch3] (.int 0) := A4
  refine gLoadA 32 X4 hx (H d23_30) rfl rfl rfl ?_
  exact gRetA X4 hx hlk hret rfl rfl (H d23_32) (by decide) (by decide) (⟨_, _, rfl, sz_b2, N4, by rw [e4]; exact KK, by rw [e4]; exact VV⟩)
theorem c_cor_5_0_4 (l : Launch) (Z : State) (a0 : Array Value) (hw : ∀ d ∈ tables_1, d.before a0 Z = true) (t : Addr) (ck : ClassId) (ch0 ch1 ch2 ch3 ch4 : Int32) (h0 : Heap) (A : sA Z h0 t ck 5 [by8 ch0, by8 ch1, by8 ch2, by8 ch3, by8 ch4]) :
    Ctr l Z mn26 jdk_65_method_132_code 3 (some (.array .byte)) [] ⟨2, 1, 4, 40⟩ #[(.ref t), (.int (0 : Int32)), (.int (4 : Int32))] h0 (fun v h L => ∃ (b : Addr) (ct : ClassId), v = some (.ref b) ∧ h0.size ≤ b ∧ Fr h0.size L ∧ Keep h0 h [] ∧ sA Z h b ct 4 [by8 ch0, by8 ch1, by8 ch2, by8 ch3]) := by
  refine Ctr.of (plainFor_of_name pn_7) ?_
  intro p e s m below meth c s₁ hx H hml hret hown hnm hZ hlk X0 e0
  refine Goes.cast (show entryFrame m _ _ = mkF m 0 #[.val (.ref t), .val (.int (0 : Int32)), .val (.int (4 : Int32))] [] from rfl) ?_
  refine gLoadIN 1 X0 hx (H d22_0) rfl rfl ?_
  refine gIfNeT X0 hx (H d22_1) (pc' := 10) (by decide) (by decide) (pn := 4) rfl (fun (c1 : ¬ (0 : Int) = (0 : Int)) => ?_) (fun (c1 : (0 : Int) = (0 : Int)) => ?_)
  · exact absurd c1 (by decide)
  · refine gLoadIN 5 X0 hx (H d22_4) rfl rfl ?_
    refine gLoadAN 6 X0 hx (H d22_5) rfl rfl rfl ?_
    refine gArrLen X0 hx hZ e0 A (H d22_6) (pc' := 7) rfl ?_
    refine gIcmpEqT X0 hx (H d22_7) (pc' := 17) (by decide) (by decide) (pn := 10) rfl (fun (c7 : (4 : Int) = (5 : Int)) => ?_) (fun (c7 : ¬ (4 : Int) = (5 : Int)) => ?_)
    · exact absurd c7 (by decide)
    · refine gLoadAN 11 X0 hx (H d22_10) rfl rfl rfl ?_
      refine gLoadIN 12 X0 hx (H d22_11) rfl rfl ?_
      refine gLoadIN 13 X0 hx (H d22_12) rfl rfl ?_
      refine gCallS X0 hx hZ (y := mn27) hown e0 (by rw [hml]; rfl) (ow hw 102 rfl) (ow hw 103 rfl) (ow hw 100 rfl) (ow hw 104 rfl) (by decide) (argsL := [(.ref t), (.int (0 : Int32)), (.int (4 : Int32))]) (st := []) (c_cor_5_0_4b l Z a0 hw t ck ch0 ch1 ch2 ch3 ch4 h0 A) (lenOf pd_19 rfl) (H d22_13) (pc' := 16) rfl rfl (by decide) (W := 0) (Nat.le_of_eq rfl) (by decide) (by decide) (by decide) ?_
      intro T1 v1 L1 X1 hQ1
      obtain ⟨b1, ct1, rfl, g1, g2, g3, g4⟩ := hQ1
      exact gRetA X1 hx hlk hret rfl rfl (H d22_16) (by decide) (by decide) (⟨_, _, rfl, g1, g2, g3, g4⟩)
theorem c_newString_5_0_4 (l : Launch) (Z : State) (a0 : Array Value) (hw : ∀ d ∈ tables_1, d.before a0 Z = true) (t : Addr) (ck : ClassId) (ch0 ch1 ch2 ch3 ch4 : Int32) (h0 : Heap) (A : sA Z h0 t ck 5 [by8 ch0, by8 ch1, by8 ch2, by8 ch3, by8 ch4]) :
    Ctr l Z mn20 jdk_43_method_47_code 3 (some (.object "java/lang/String")) [] ⟨3, 2, 8, 57⟩ #[(.ref t), (.int (0 : Int32)), (.int (4 : Int32))] h0 (SQd Z h0 4 [by8 ch0, by8 ch1, by8 ch2, by8 ch3]) := by
  refine Ctr.of (plainFor_of_name pn_5) ?_
  intro p e s m below meth c s₁ hx H hml hret hown hnm hZ hlk X0 e0
  refine Goes.cast (show entryFrame m _ _ = mkF m 0 #[.val (.ref t), .val (.int (0 : Int32)), .val (.int (4 : Int32))] [] from rfl) ?_
  refine gLoadIN 1 X0 hx (H d16_0) rfl rfl ?_
  refine gIfNeT X0 hx (H d16_1) (pc' := 7) (by decide) (by decide) (pn := 4) rfl (fun (c1 : ¬ (4 : Int) = (0 : Int)) => ?_) (fun (c1 : (4 : Int) = (0 : Int)) => ?_)
  · refine gNew X0 hx hZ hown (ow hw 97 rfl) (ow hw 10 rfl) (ow hw 11 rfl) e0 (H d16_7) (pc' := 10) rfl (by decide) (by decide) (fun T1 h1 b1 X1 e1 g1 E1 A1 D1 => ?_)
    have ne_t_b1 : t ≠ b1 := Nat.ne_of_lt (Nat.lt_of_lt_of_eq A.lt g1.symm)
    have f1_0 := A.ext E1
    have sz_b1 : h0.size ≤ b1 := Nat.le_trans (Nat.le_refl _) (Nat.le_of_eq g1.symm)
    have zs1 : h0.size ≤ h1.size := Nat.le_trans (Nat.le_refl _) E1.1
    have K1 : Keep h0 h1 [] := (Keep.refl h0 []).ext E1
    have F1_value : Fld Z h1 b1 "java/lang/String" "value" "[B" .null := D1 (Or.inr (ow hw 24 rfl)) (ty := (.array .byte)) (by decide)
    have F1_coder : Fld Z h1 b1 "java/lang/String" "coder" "B" (.int (0 : Int32)) := D1 (Or.inr (ow hw 25 rfl)) (ty := .byte) (by decide)
    refine gDup 11 X1 hx (H d16_10) rfl rfl ?_
    refine gLoadAN 12 X1 hx (H d16_11) rfl rfl rfl ?_
    refine gLoadIN 13 X1 hx (H d16_12) rfl rfl ?_
    refine gLoadIN 14 X1 hx (H d16_13) rfl rfl ?_
    refine gLoadIN 15 X1 hx (H d16_14) rfl rfl ?_
    refine gIadd 16 X1 hx (H d16_15) rfl ?_
    show Goes p e below _ T1 (mkF m 16 #[.val (.ref t), .val (.int (0 : Int32)), .val (.int (4 : Int32))] [(.int (4 : Int32)), (.int (0 : Int32)), (.ref t), (.ref b1), (.ref b1)])
    refine gCallS X1 hx hZ (y := mn26) hown e1 (by rw [hml]; rfl) (ow hw 98 rfl) (ow hw 99 rfl) (ow hw 100 rfl) (ow hw 101 rfl) (by decide) (argsL := [(.ref t), (.int (0 : Int32)), (.int (4 : Int32))]) (st := [(.ref b1), (.ref b1)]) (c_cor_5_0_4 l Z a0 hw t ck ch0 ch1 ch2 ch3 ch4 h1 f1_0) (lenOf pd_19 rfl) (H d16_16) (pc' := 19) rfl rfl (by decide) (W := 2) (Nat.le_of_eq rfl) (by decide) (by decide) (by decide) ?_
    intro T2 v2 L2 X2 hQ2
    obtain ⟨q2, ctq2, rfl, gq2, Nq2, Kq2, Aq2⟩ := hQ2
    have N2 := Fr.app (Fr.nil h0.size) (fun y hy => Nat.le_trans zs1 (Nq2 y hy))
    have K2 : Keep h0 T2.heap [] := K1.trans Kq2 all0
    have f2_0 := f1_0.keep Kq2 nin0
    have f2_1 := A1.keep Kq2
    have f2_2 := F1_value.keep Kq2 nin0
    have f2_3 := F1_coder.keep Kq2 nin0
    have zs2 := Nat.le_trans zs1 Kq2.1
    have nq2 : q2 ≠ b1 := Ne.symm (Nat.ne_of_lt (Nat.lt_of_lt_of_le A1.lt gq2))
    refine gIconst 20 X2 hx (v := (0 : Int32)) (H d16_19) rfl rfl ?_
    refine gCallI X2 hx hZ (y := mn6) rfl hown rfl (by rw [hml]; rfl) (ow hw 113 rfl) (ow hw 114 rfl) (ow hw 11 rfl) (ow hw 115 rfl) (by decide) (argsL := [(.ref q2), (.int (0 : Int32))]) (st := [(.ref b1)]) (c_sinitB l Z a0 hw b1 q2 h0.size T2.heap sz_b1 f2_1 f2_3 f2_2) (lenOf pd_15 rfl) (H d16_20) (pc' := 23) rfl rfl (by decide) (W := 1) (Nat.le_of_eq rfl) (by decide) (by decide) (by decide) ?_
    intro T3 v3 L3 X3 hQ3
    obtain ⟨rfl, Nq3, Kq3, Eq3, Cq3, Vq3⟩ := hQ3
    have N3 := Fr.app N2 Nq3
    have K3 : Keep h0 T3.heap [] := K2.trans Kq3 (allS (Or.inr sz_b1) all0)
    have Ak3 := Aq2.keep Kq3 (ninS nq2 nin0)
    exact gRetA X3 hx hlk hret rfl rfl (H d16_23) (by decide) (by decide) (⟨b1, q2, ctq2, rfl, N3, K3, Eq3, Cq3, Vq3, Ak3⟩)
  · exact absurd c1 (by decide)
theorem c_sub_5_0_4 (l : Launch) (Z : State) (a0 : Array Value) (hw : ∀ d ∈ tables_1, d.before a0 Z = true) (a t : Addr) (ck : ClassId) (ch0 ch1 ch2 ch3 ch4 : Int32) (h0 : Heap) (hSio : Sio Z h0) (hCpt : Cpt Z h0) (E : sE Z h0 a) (C : sC Z h0 a) (V : sV Z h0 a t) (A : sA Z h0 t ck 5 [by8 ch0, by8 ch1, by8 ch2, by8 ch3, by8 ch4]) (hch0 : rg ch0) (hch1 : rg ch1) (hch2 : rg ch2) (hch3 : rg ch3) (hch4 : rg ch4) :
    Ctr l Z mn16 jdk_42_method_92_code 5 (some (.object "java/lang/String")) [] ⟨4, 2, 8, 71⟩ #[(.ref a), (.int (0 : Int32)), (.int (4 : Int32))] h0 (SQd Z h0 4 [by8 ch0, by8 ch1, by8 ch2, by8 ch3]) := by
  refine Ctr.of (plainFor_of_name pn_4) ?_
  intro p e s m below meth c s₁ hx H hml hret hown hnm hZ hlk X0 e0
  refine Goes.cast (show entryFrame m _ _ = mkF m 0 #[.val (.ref a), .val (.int (0 : Int32)), .val (.int (4 : Int32)), .unset, .unset] [] from rfl) ?_
  refine gLoadAN 1 X0 hx (H d13_0) rfl rfl rfl ?_
  refine gCallVJ X0 hx hZ (y := mn15) hown e0 (by rw [hml]; rfl) E (ow hw 39 rfl) (ow hw 40 rfl) (ow hw 42 rfl) (ow hw 41 rfl) (ow hw 11 rfl) (ow hw 43 rfl) (by decide) (argsL := []) (st := []) (c_length_5 l Z a0 hw a t ck ch0 ch1 ch2 ch3 ch4 h0 hCpt E C V A hch0 hch1 hch2 hch3 hch4) (lenOf pd_1 rfl) (H d13_1) (pc' := 4) rfl rfl rfl rfl (by decide) (W := 0) (Nat.le_of_eq rfl) (by decide) (by decide) (by decide) ?_
  intro T1 X1 e1
  refine gStoreIN 5 X1 hx (H d13_4) (l' := #[.val (.ref a), .val (.int (0 : Int32)), .val (.int (4 : Int32)), .val (.int (5 : Int32)), .unset]) rfl rfl ?_
  refine gLoadIN 6 X1 hx (H d13_5) rfl rfl ?_
  refine gLoadIN 7 X1 hx (H d13_6) rfl rfl ?_
  refine gLoadIN 8 X1 hx (H d13_7) rfl rfl ?_
  refine gCallS X1 hx hZ (y := mn9) hown e1 (by rw [hml]; rfl) (ow hw 86 rfl) (ow hw 87 rfl) (ow hw 11 rfl) (ow hw 88 rfl) (by decide) (argsL := [(.int (0 : Int32)), (.int (4 : Int32)), (.int (5 : Int32))]) (st := []) (c_chkft l Z a0 hw (0 : Int32) (4 : Int32) (5 : Int32) h0 (by decide) (by decide) (by decide) hSio) (lenOf pd_10 rfl) (H d13_8) (pc' := 11) rfl rfl (by decide) (W := 0) (Nat.le_of_eq rfl) (by decide) (by decide) (by decide) ?_
  intro T2 v2 L2 X2 hQ2
  obtain ⟨rfl, eq2, rfl⟩ := hQ2
  rw [List.append_nil] at X2
  refine gLoadIN 12 X2 hx (H d13_11) rfl rfl ?_
  refine gIfNeT X2 hx (H d13_12) (pc' := 22) (by decide) (by decide) (pn := 15) rfl (fun (c12 : ¬ (0 : Int) = (0 : Int)) => ?_) (fun (c12 : (0 : Int) = (0 : Int)) => ?_)
  · exact absurd c12 (by decide)
  · refine gLoadIN 16 X2 hx (H d13_15) rfl rfl ?_
    refine gLoadIN 17 X2 hx (H d13_16) rfl rfl ?_
    refine gIcmpNeT X2 hx (H d13_17) (pc' := 22) (by decide) (by decide) (pn := 20) rfl (fun (c17 : ¬ (4 : Int) = (5 : Int)) => ?_) (fun (c17 : (4 : Int) = (5 : Int)) => ?_)
    · refine gLoadIN 23 X2 hx (H d13_22) rfl rfl ?_
      refine gLoadIN 24 X2 hx (H d13_23) rfl rfl ?_
      refine gIsub 25 X2 hx (H d13_24) rfl ?_
      show Goes p e below _ T2 (mkF m 25 #[.val (.ref a), .val (.int (0 : Int32)), .val (.int (4 : Int32)), .val (.int (5 : Int32)), .unset] [(.int (4 : Int32))])
      refine gStoreI 27 X2 hx (H d13_25) (l' := #[.val (.ref a), .val (.int (0 : Int32)), .val (.int (4 : Int32)), .val (.int (5 : Int32)), .val (.int (4 : Int32))]) rfl rfl ?_
      refine gLoadAN 28 X2 hx (H d13_27) rfl rfl rfl ?_
      refine gCallVJ X2 hx hZ (y := mn12) hown eq2 (by rw [hml]; rfl) E (ow hw 55 rfl) (ow hw 56 rfl) (ow hw 58 rfl) (ow hw 57 rfl) (ow hw 11 rfl) (ow hw 59 rfl) (by decide) (argsL := []) (st := []) (c_isLatin1 l Z a0 hw a h0 hCpt C) (lenOf pd_3 rfl) (H d13_28) (pc' := 31) rfl rfl rfl rfl (by decide) (W := 0) (Nat.le_of_eq rfl) (by decide) (by decide) (by decide) ?_
      intro T3 X3 e3
      refine gIfEqT X3 hx (H d13_31) (pc' := 47) (by decide) (by decide) (pn := 34) rfl (fun (c31 : (1 : Int) = (0 : Int)) => ?_) (fun (c31 : ¬ (1 : Int) = (0 : Int)) => ?_)
      · exact absurd c31 (by decide)
      · refine gLoadAN 35 X3 hx (H d13_34) rfl rfl rfl ?_
        refine gGetF X3 hx hZ hown (ow hw 28 rfl) Via.refl e3 V (H d13_35) (pc' := 38) rfl (fun T4 X4 e4 => ?_)
        refine gLoadIN 39 X4 hx (H d13_38) rfl rfl ?_
        refine gLoadI 41 X4 hx (H d13_39) rfl rfl ?_
        refine gCallS X4 hx hZ (y := mn20) hown e4 (by rw [hml]; rfl) (ow hw 94 rfl) (ow hw 95 rfl) (ow hw 62 rfl) (ow hw 96 rfl) (by decide) (argsL := [(.ref t), (.int (0 : Int32)), (.int (4 : Int32))]) (st := []) (c_newString_5_0_4 l Z a0 hw t ck ch0 ch1 ch2 ch3 ch4 h0 A) (lenOf pd_18 rfl) (H d13_41) (pc' := 44) rfl rfl (by decide) (W := 0) (Nat.le_of_eq rfl) (by decide) (by decide) (by decide) ?_
        intro T5 v5 L5 X5 hQ5
        obtain ⟨r5, t5, ct5, rfl, Nq5, Kq5, Eq5, Cq5, Vq5, Aq5⟩ := hQ5
        have N5 := Fr.app (Fr.nil h0.size) (fun y hy => Nat.le_trans (Nat.le_refl _) (Nq5 y hy))
        have f5_0 := E.keep Kq5
        have f5_1 := C.keep Kq5 nin0
        have f5_2 := V.keep Kq5 nin0
        have f5_3 := A.keep Kq5 nin0
        have f5_4 := own_cpt_keep hCpt Kq5 ns0
        have zs5 := Nat.le_trans (Nat.le_refl _) Kq5.1
        have K5 : Keep h0 T5.heap [] := (Keep.refl h0 []).trans Kq5 all0
        refine gGoto X5 hx (H d13_44) (pc' := 57) (by decide) (by decide) ?_
        exact gRetA X5 hx hlk hret rfl rfl (H d13_57) (by decide) (by decide) (⟨r5, t5, ct5, rfl, N5, K5, Eq5, Cq5, Vq5, Aq5⟩)
    · exact absurd c17 (by decide)
theorem c_nm_5_4 (l : Launch) (Z : State) (a0 : Array Value) (hw : ∀ d ∈ tables_1, d.before a0 Z = true) (a t : Addr) (ck : ClassId) (ch0 ch1 ch2 ch3 ch4 : Int32) (h0 : Heap) (hSio : Sio Z h0) (hCpt : Cpt Z h0) (E : sE Z h0 a) (C : sC Z h0 a) (V : sV Z h0 a t) (A : sA Z h0 t ck 5 [by8 ch0, by8 ch1, by8 ch2, by8 ch3, by8 ch4]) (hch0 : rg ch0) (hch1 : rg ch1) (hch2 : rg ch2) (hch3 : rg ch3) (hch4 : rg ch4)  (dq : ch4.toInt = 47) :
    Ctr l Z mn0 prog_18_method_5_code 2 (some (.object "java/lang/String")) [] ⟨5, 2, 8, 87⟩ #[(.ref a)] h0 (SQd Z h0 4 [by8 ch0, by8 ch1, by8 ch2, by8 ch3]) := by
  refine Ctr.of (plainFor_of_name pn_0) ?_
  intro p e s m below meth c s₁ hx H hml hret hown hnm hZ hlk X0 e0
  refine Goes.cast (show entryFrame m _ _ = mkF m 0 #[.val (.ref a), .unset] [] from rfl) ?_
  refine gLoadAN 1 X0 hx (H d27_0) rfl rfl rfl ?_
  refine gBipush 3 X0 hx (v := (47 : Int32)) (H d27_1) rfl rfl ?_
  refine gCallVJ X0 hx hZ (y := mn13) hown e0 (by rw [hml]; rfl) E (ow hw 34 rfl) (ow hw 35 rfl) (ow hw 37 rfl) (ow hw 36 rfl) (ow hw 11 rfl) (ow hw 38 rfl) (by decide) (argsL := [(.int (47 : Int32))]) (st := []) (c_lastIndexOf_5 l Z a0 hw a t ck ch0 ch1 ch2 ch3 ch4 h0 hCpt E C V A hch0 hch1 hch2 hch3 hch4) (lenOf pd_4 rfl) (H d27_3) (pc' := 6) rfl rfl rfl rfl (by decide) (W := 0) (Nat.le_of_eq rfl) (by decide) (by decide) (by decide) ?_
  intro T1 X1 e1
  rw [show lx5 ch0 ch1 ch2 ch3 ch4 = 4 from by rw [lx5, if_pos dq]]
  refine gStoreIN 7 X1 hx (H d27_6) (l' := #[.val (.ref a), .val (.int (4 : Int32))]) rfl rfl ?_
  refine gLoadIN 8 X1 hx (H d27_7) rfl rfl ?_
  refine gIfLe X1 hx (H d27_8) (pc' := 20) (by decide) (by decide) (pn := 11) rfl (fun (c8 : (4 : Int) ≤ (0 : Int)) => ?_) (fun (c8 : (0 : Int) < (4 : Int)) => ?_)
  · exact absurd c8 (by decide)
  · refine gLoadAN 12 X1 hx (H d27_11) rfl rfl rfl ?_
    refine gIconst 13 X1 hx (v := (0 : Int32)) (H d27_12) rfl rfl ?_
    refine gLoadIN 14 X1 hx (H d27_13) rfl rfl ?_
    refine gCallV X1 hx hZ (y := mn16) hown e1 (by rw [hml]; rfl) E (ow hw 81 rfl) (ow hw 82 rfl) (ow hw 84 rfl) (ow hw 83 rfl) (ow hw 11 rfl) (ow hw 85 rfl) (by decide) (argsL := [(.int (0 : Int32)), (.int (4 : Int32))]) (st := []) (c_sub_5_0_4 l Z a0 hw a t ck ch0 ch1 ch2 ch3 ch4 h0 hSio hCpt E C V A hch0 hch1 hch2 hch3 hch4) (lenOf pd_7 rfl) (H d27_14) (pc' := 17) rfl rfl (by decide) (W := 0) (Nat.le_of_eq rfl) (by decide) (by decide) (by decide) ?_
    intro T2 v2 L2 X2 hQ2
    obtain ⟨r2, t2, ct2, rfl, Nq2, Kq2, Eq2, Cq2, Vq2, Aq2⟩ := hQ2
    have N2 := Fr.app (Fr.nil h0.size) (fun y hy => Nat.le_trans (Nat.le_refl _) (Nq2 y hy))
    have f2_0 := E.keep Kq2
    have f2_1 := C.keep Kq2 nin0
    have f2_2 := V.keep Kq2 nin0
    have f2_3 := A.keep Kq2 nin0
    have f2_4 := own_cpt_keep hCpt Kq2 ns0
    have zs2 := Nat.le_trans (Nat.le_refl _) Kq2.1
    have K2 : Keep h0 T2.heap [] := (Keep.refl h0 []).trans Kq2 all0
    refine gGoto X2 hx (H d27_17) (pc' := 21) (by decide) (by decide) ?_
    exact gRetA X2 hx hlk hret rfl rfl (H d27_21) (by decide) (by decide) (⟨r2, t2, ct2, rfl, N2, K2, Eq2, Cq2, Vq2, Aq2⟩)
theorem d14_0 : decode jdk_43_method_13_code 0 = .ok (.aload_n 0, 1) := by decide +kernel
theorem d14_1 : decode jdk_43_method_13_code 1 = .ok (.arraylength, 1) := by decide +kernel
theorem d14_2 : decode jdk_43_method_13_code 2 = .ok (.aload_n 1, 1) := by decide +kernel
theorem d14_3 : decode jdk_43_method_13_code 3 = .ok (.arraylength, 1) := by decide +kernel
theorem d14_4 : decode jdk_43_method_13_code 4 = .ok (.if_icmp .ne 30, 3) := by decide +kernel
theorem d14_7 : decode jdk_43_method_13_code 7 = .ok (.iconst 0, 1) := by decide +kernel
theorem d14_8 : decode jdk_43_method_13_code 8 = .ok (.istore_n 2, 1) := by decide +kernel
theorem d14_9 : decode jdk_43_method_13_code 9 = .ok (.iload_n 2, 1) := by decide +kernel
theorem d14_10 : decode jdk_43_method_13_code 10 = .ok (.aload_n 0, 1) := by decide +kernel
theorem d14_11 : decode jdk_43_method_13_code 11 = .ok (.arraylength, 1) := by decide +kernel
theorem d14_12 : decode jdk_43_method_13_code 12 = .ok (.if_icmp .ge 20, 3) := by decide +kernel
theorem d14_15 : decode jdk_43_method_13_code 15 = .ok (.aload_n 0, 1) := by decide +kernel
theorem d14_16 : decode jdk_43_method_13_code 16 = .ok (.iload_n 2, 1) := by decide +kernel
theorem d14_17 : decode jdk_43_method_13_code 17 = .ok (.baload, 1) := by decide +kernel
theorem d14_18 : decode jdk_43_method_13_code 18 = .ok (.aload_n 1, 1) := by decide +kernel
theorem d14_19 : decode jdk_43_method_13_code 19 = .ok (.iload_n 2, 1) := by decide +kernel
theorem d14_20 : decode jdk_43_method_13_code 20 = .ok (.baload, 1) := by decide +kernel
theorem d14_21 : decode jdk_43_method_13_code 21 = .ok (.if_icmp .eq 5, 3) := by decide +kernel
theorem d14_26 : decode jdk_43_method_13_code 26 = .ok (.iinc 2 1, 3) := by decide +kernel
theorem d14_29 : decode jdk_43_method_13_code 29 = .ok (.goto (-20), 3) := by decide +kernel
theorem d14_32 : decode jdk_43_method_13_code 32 = .ok (.iconst 1, 1) := by decide +kernel
theorem d14_33 : decode jdk_43_method_13_code 33 = .ok (.ireturn, 1) := by decide +kernel
abbrev mn18 : MethodName := ⟨"java/lang/StringLatin1", "equals", "([B[B)Z"⟩
theorem c_eqs_1l (l : Launch) (Z : State) (a0 : Array Value) (hw : ∀ d ∈ tables_1, d.before a0 Z = true) (t u : Addr) (ck ck2 : ClassId) (ch0 : Int32) (h0 : Heap) (A : sA Z h0 t ck 1 [by8 ch0]) (A2 : sA Z h0 u ck2 1 [by8 ch0]) :
    Ctr l Z mn18 jdk_43_method_13_code 3 (some .boolean) [] ⟨0, 0, 0, 0⟩ #[(.ref t), (.ref u)] h0 (Just h0 (.int 1)) := by
  refine Ctr.of (plainFor_of_name pn_5) ?_
  intro p e s m below meth c s₁ hx H hml hret hown hnm hZ hlk X0 e0
  refine Goes.cast (show entryFrame m _ _ = mkF m 0 #[.val (.ref t), .val (.ref u), .unset] [] from rfl) ?_
  refine gLoadAN 1 X0 hx (H d14_0) rfl rfl rfl ?_
  refine gArrLen X0 hx hZ e0 A (H d14_1) (pc' := 2) rfl ?_
  refine gLoadAN 3 X0 hx (H d14_2) rfl rfl rfl ?_
  refine gArrLen X0 hx hZ e0 A2 (H d14_3) (pc' := 4) rfl ?_
  refine gIcmpNeT X0 hx (H d14_4) (pc' := 34) (by decide) (by decide) (pn := 7) rfl (fun (c4 : ¬ (1 : Int) = (1 : Int)) => ?_) (fun (c4 : (1 : Int) = (1 : Int)) => ?_)
  · exact absurd c4 (by decide)
  · refine gIconst 8 X0 hx (v := (0 : Int32)) (H d14_7) rfl rfl ?_
    refine gStoreIN 9 X0 hx (H d14_8) (l' := #[.val (.ref t), .val (.ref u), .val (.int (0 : Int32))]) rfl rfl ?_
    refine gLoadIN 10 X0 hx (H d14_9) rfl rfl ?_
    refine gLoadAN 11 X0 hx (H d14_10) rfl rfl rfl ?_
    refine gArrLen X0 hx hZ e0 A (H d14_11) (pc' := 12) rfl ?_
    refine gIcmpGe X0 hx (H d14_12) (pc' := 32) (by decide) (by decide) (pn := 15) rfl (fun (c12 : (1 : Int) ≤ (0 : Int)) => ?_) (fun (c12 : (0 : Int) < (1 : Int)) => ?_)
    · exact absurd c12 (by decide)
    · refine gLoadAN 16 X0 hx (H d14_15) rfl rfl rfl ?_
      refine gLoadIN 17 X0 hx (H d14_16) rfl rfl ?_
      refine gBaload X0 hx hZ e0 A (j := (0 : Int32)) (v := (.int (ch0.toInt8.toInt32))) (by decide) (by decide) rfl (H d14_17) (pc' := 18) rfl ?_
      refine gLoadAN 19 X0 hx (H d14_18) rfl rfl rfl ?_
      refine gLoadIN 20 X0 hx (H d14_19) rfl rfl ?_
      refine gBaload X0 hx hZ e0 A2 (j := (0 : Int32)) (v := (.int (ch0.toInt8.toInt32))) (by decide) (by decide) rfl (H d14_20) (pc' := 21) rfl ?_
      refine gIcmpEq X0 hx (H d14_21) (pc' := 26) (by decide) (by decide) (pn := 24) rfl (fun (c21 : (ch0.toInt8.toInt32) = (ch0.toInt8.toInt32)) => ?_) (fun (c21 : ¬ (ch0.toInt8.toInt32) = (ch0.toInt8.toInt32)) => ?_)
      · refine gIinc X0 hx (v := (1 : Int32)) (H d14_26) (l' := #[.val (.ref t), .val (.ref u), .val (.int (1 : Int32))]) (pc' := 29) rfl rfl rfl rfl ?_
        refine gGoto X0 hx (H d14_29) (pc' := 9) (by decide) (by decide) ?_
        refine gLoadIN 10 X0 hx (H d14_9) rfl rfl ?_
        refine gLoadAN 11 X0 hx (H d14_10) rfl rfl rfl ?_
        refine gArrLen X0 hx hZ e0 A (H d14_11) (pc' := 12) rfl ?_
        refine gIcmpGe X0 hx (H d14_12) (pc' := 32) (by decide) (by decide) (pn := 15) rfl (fun (c12' : (1 : Int) ≤ (1 : Int)) => ?_) (fun (c12' : (1 : Int) < (1 : Int)) => ?_)
        · refine gIconst 33 X0 hx (v := (1 : Int32)) (H d14_32) rfl rfl ?_
          exact gRetN X0 hx hlk hret (by simp) (H d14_33) (w := (1 : Int32)) rfl (by decide) (by decide) (⟨rfl, e0, rfl⟩)
        · exact absurd c12' (by decide)
      · exact absurd rfl c21
theorem d10_0 : decode jdk_42_method_66_code 0 = .ok (.aload_n 0, 1) := by decide +kernel
theorem d10_1 : decode jdk_42_method_66_code 1 = .ok (.aload_n 1, 1) := by decide +kernel
theorem d10_2 : decode jdk_42_method_66_code 2 = .ok (.if_acmp .ne 5, 3) := by decide +kernel
theorem d10_7 : decode jdk_42_method_66_code 7 = .ok (.aload_n 1, 1) := by decide +kernel
theorem d10_8 : decode jdk_42_method_66_code 8 = .ok (.instanceof 10, 3) := by decide +kernel
theorem d10_11 : decode jdk_42_method_66_code 11 = .ok (.ifCond .eq 43, 3) := by decide +kernel
theorem d10_14 : decode jdk_42_method_66_code 14 = .ok (.aload_n 1, 1) := by decide +kernel
theorem d10_15 : decode jdk_42_method_66_code 15 = .ok (.checkcast 10, 3) := by decide +kernel
theorem d10_18 : decode jdk_42_method_66_code 18 = .ok (.astore_n 2, 1) := by decide +kernel
theorem d10_19 : decode jdk_42_method_66_code 19 = .ok (.getstatic 38, 3) := by decide +kernel
theorem d10_22 : decode jdk_42_method_66_code 22 = .ok (.ifCond .eq 14, 3) := by decide +kernel
theorem d10_25 : decode jdk_42_method_66_code 25 = .ok (.aload_n 0, 1) := by decide +kernel
theorem d10_26 : decode jdk_42_method_66_code 26 = .ok (.getfield 15, 3) := by decide +kernel
theorem d10_29 : decode jdk_42_method_66_code 29 = .ok (.aload_n 2, 1) := by decide +kernel
theorem d10_30 : decode jdk_42_method_66_code 30 = .ok (.getfield 15, 3) := by decide +kernel
theorem d10_33 : decode jdk_42_method_66_code 33 = .ok (.if_icmp .ne 21, 3) := by decide +kernel
theorem d10_36 : decode jdk_42_method_66_code 36 = .ok (.aload_n 0, 1) := by decide +kernel
theorem d10_37 : decode jdk_42_method_66_code 37 = .ok (.getfield 9, 3) := by decide +kernel
theorem d10_40 : decode jdk_42_method_66_code 40 = .ok (.aload_n 2, 1) := by decide +kernel
theorem d10_41 : decode jdk_42_method_66_code 41 = .ok (.getfield 9, 3) := by decide +kernel
theorem d10_44 : decode jdk_42_method_66_code 44 = .ok (.invokestatic 541, 3) := by decide +kernel
theorem pd_20 : parseMethodDescriptor "([B[B)Z" = some ⟨[(.array .byte), (.array .byte)], some .boolean⟩ := by decide +kernel
theorem d10_47 : decode jdk_42_method_66_code 47 = .ok (.ifCond .eq 7, 3) := by decide +kernel
theorem d10_50 : decode jdk_42_method_66_code 50 = .ok (.iconst 1, 1) := by decide +kernel
theorem d10_51 : decode jdk_42_method_66_code 51 = .ok (.goto 4, 3) := by decide +kernel
theorem d10_55 : decode jdk_42_method_66_code 55 = .ok (.ireturn, 1) := by decide +kernel
theorem d10_5 : decode jdk_42_method_66_code 5 = .ok (.iconst 1, 1) := by decide +kernel
theorem d10_6 : decode jdk_42_method_66_code 6 = .ok (.ireturn, 1) := by decide +kernel
abbrev mn11 : MethodName := ⟨"java/lang/String", "equals", "(Ljava/lang/Object;)Z"⟩
theorem c_eqs_1 (l : Launch) (Z : State) (a0 : Array Value) (hw : ∀ d ∈ tables_1, d.before a0 Z = true) (a b t u : Addr) (ck ck2 : ClassId) (ch0 : Int32) (h0 : Heap) (hCpt : Cpt Z h0) (E : sE Z h0 a) (C : sC Z h0 a) (V : sV Z h0 a t) (A : sA Z h0 t ck 1 [by8 ch0]) (E2 : sE Z h0 b) (C2 : sC Z h0 b) (V2 : sV Z h0 b u) (A2 : sA Z h0 u ck2 1 [by8 ch0]) :
    Ctr l Z mn11 jdk_42_method_66_code 3 (some .boolean) [] ⟨1, 0, 0, 16⟩ #[(.ref a), (.ref b)] h0 (Just h0 (.int 1)) := by
  refine Ctr.of (plainFor_of_name pn_4) ?_
  intro p e s m below meth c s₁ hx H hml hret hown hnm hZ hlk X0 e0
  refine Goes.cast (show entryFrame m _ _ = mkF m 0 #[.val (.ref a), .val (.ref b), .unset] [] from rfl) ?_
  obtain ⟨cz, SC, hcz⟩ := hCpt
  refine gLoadAN 1 X0 hx (H d10_0) rfl rfl rfl ?_
  refine gLoadAN 2 X0 hx (H d10_1) rfl rfl rfl ?_
  refine gAcmpNe X0 hx (H d10_2) rfl rfl (pc' := 7) (by decide) (by decide) (pn := 5) rfl (fun (c2 : ¬ (Value.ref a) = (.ref b)) => ?_) (fun (c2 : (Value.ref a) = (.ref b)) => ?_)
  · refine gLoadAN 8 X0 hx (H d10_7) rfl rfl rfl ?_
    refine gInstY X0 hx hZ hown (ow hw 121 rfl) e0 (Ins.self E2) (H d10_8) (pc' := 11) rfl (fun T1 X1 e1 => ?_)
    refine gIfEqT X1 hx (H d10_11) (pc' := 54) (by decide) (by decide) (pn := 14) rfl (fun (c11 : (1 : Int) = (0 : Int)) => ?_) (fun (c11 : ¬ (1 : Int) = (0 : Int)) => ?_)
    · exact absurd c11 (by decide)
    · refine gLoadAN 15 X1 hx (H d10_14) rfl rfl rfl ?_
      refine gCast X1 hx hZ hown (ow hw 121 rfl) e1 (Ins.self E2) (H d10_15) (pc' := 18) rfl (fun T2 X2 e2 => ?_)
      refine gStoreAN 19 X2 hx (H d10_18) (l' := #[.val (.ref a), .val (.ref b), .val (.ref b)]) rfl rfl rfl ?_
      refine gGetS X2 hx hZ hown (ow hw 49 rfl) Via.refl e2 SC (H d10_19) (pc' := 22) rfl (fun T3 X3 e3 => ?_)
      refine gIfEqT X3 hx (H d10_22) (pc' := 36) (by decide) (by decide) (pn := 25) rfl (fun (c22 : cz.toInt = (0 : Int)) => ?_) (fun (c22 : ¬ cz.toInt = (0 : Int)) => ?_)
      · exact absurd c22 hcz
      · refine gLoadAN 26 X3 hx (H d10_25) rfl rfl rfl ?_
        refine gGetF X3 hx hZ hown (ow hw 29 rfl) Via.refl e3 C (H d10_26) (pc' := 29) rfl (fun T4 X4 e4 => ?_)
        refine gLoadAN 30 X4 hx (H d10_29) rfl rfl rfl ?_
        refine gGetF X4 hx hZ hown (ow hw 29 rfl) Via.refl e4 C2 (H d10_30) (pc' := 33) rfl (fun T5 X5 e5 => ?_)
        refine gIcmpNeT X5 hx (H d10_33) (pc' := 54) (by decide) (by decide) (pn := 36) rfl (fun (c33 : ¬ (0 : Int) = (0 : Int)) => ?_) (fun (c33 : (0 : Int) = (0 : Int)) => ?_)
        · exact absurd c33 (by decide)
        · refine gLoadAN 37 X5 hx (H d10_36) rfl rfl rfl ?_
          refine gGetF X5 hx hZ hown (ow hw 28 rfl) Via.refl e5 V (H d10_37) (pc' := 40) rfl (fun T6 X6 e6 => ?_)
          refine gLoadAN 41 X6 hx (H d10_40) rfl rfl rfl ?_
          refine gGetF X6 hx hZ hown (ow hw 28 rfl) Via.refl e6 V2 (H d10_41) (pc' := 44) rfl (fun T7 X7 e7 => ?_)
          refine gCallSJ X7 hx hZ (y := mn18) hown e7 (by rw [hml]; rfl) (ow hw 122 rfl) (ow hw 123 rfl) (ow hw 62 rfl) (ow hw 124 rfl) (by decide) (argsL := [(.ref t), (.ref u)]) (st := []) (c_eqs_1l l Z a0 hw t u ck ck2 ch0 h0 A A2) (lenOf pd_20 rfl) (H d10_44) (pc' := 47) rfl rfl rfl rfl (by decide) (W := 0) (Nat.le_of_eq rfl) (by decide) (by decide) (by decide) ?_
          intro T8 X8 e8
          refine gIfEqT X8 hx (H d10_47) (pc' := 54) (by decide) (by decide) (pn := 50) rfl (fun (c47 : (1 : Int) = (0 : Int)) => ?_) (fun (c47 : ¬ (1 : Int) = (0 : Int)) => ?_)
          · exact absurd c47 (by decide)
          · refine gIconst 51 X8 hx (v := (1 : Int32)) (H d10_50) rfl rfl ?_
            refine gGoto X8 hx (H d10_51) (pc' := 55) (by decide) (by decide) ?_
            exact gRetN X8 hx hlk hret (by simp) (H d10_55) (w := (1 : Int32)) rfl (by decide) (by decide) (⟨rfl, e8, rfl⟩)
  · refine gIconst 6 X0 hx (v := (1 : Int32)) (H d10_5) rfl rfl ?_
    exact gRetN X0 hx hlk hret (by simp) (H d10_6) (w := (1 : Int32)) rfl (by decide) (by decide) (⟨rfl, e0, rfl⟩)
theorem c_eqs_2l (l : Launch) (Z : State) (a0 : Array Value) (hw : ∀ d ∈ tables_1, d.before a0 Z = true) (t u : Addr) (ck ck2 : ClassId) (ch0 ch1 : Int32) (h0 : Heap) (A : sA Z h0 t ck 2 [by8 ch0, by8 ch1]) (A2 : sA Z h0 u ck2 2 [by8 ch0, by8 ch1]) :
    Ctr l Z mn18 jdk_43_method_13_code 3 (some .boolean) [] ⟨0, 0, 0, 0⟩ #[(.ref t), (.ref u)] h0 (Just h0 (.int 1)) := by
  refine Ctr.of (plainFor_of_name pn_5) ?_
  intro p e s m below meth c s₁ hx H hml hret hown hnm hZ hlk X0 e0
  refine Goes.cast (show entryFrame m _ _ = mkF m 0 #[.val (.ref t), .val (.ref u), .unset] [] from rfl) ?_
  refine gLoadAN 1 X0 hx (H d14_0) rfl rfl rfl ?_
  refine gArrLen X0 hx hZ e0 A (H d14_1) (pc' := 2) rfl ?_
  refine gLoadAN 3 X0 hx (H d14_2) rfl rfl rfl ?_
  refine gArrLen X0 hx hZ e0 A2 (H d14_3) (pc' := 4) rfl ?_
  refine gIcmpNeT X0 hx (H d14_4) (pc' := 34) (by decide) (by decide) (pn := 7) rfl (fun (c4 : ¬ (2 : Int) = (2 : Int)) => ?_) (fun (c4 : (2 : Int) = (2 : Int)) => ?_)
  · exact absurd c4 (by decide)
  · refine gIconst 8 X0 hx (v := (0 : Int32)) (H d14_7) rfl rfl ?_
    refine gStoreIN 9 X0 hx (H d14_8) (l' := #[.val (.ref t), .val (.ref u), .val (.int (0 : Int32))]) rfl rfl ?_
    refine gLoadIN 10 X0 hx (H d14_9) rfl rfl ?_
    refine gLoadAN 11 X0 hx (H d14_10) rfl rfl rfl ?_
    refine gArrLen X0 hx hZ e0 A (H d14_11) (pc' := 12) rfl ?_
    refine gIcmpGe X0 hx (H d14_12) (pc' := 32) (by decide) (by decide) (pn := 15) rfl (fun (c12 : (2 : Int) ≤ (0 : Int)) => ?_) (fun (c12 : (0 : Int) < (2 : Int)) => ?_)
    · exact absurd c12 (by decide)
    · refine gLoadAN 16 X0 hx (H d14_15) rfl rfl rfl ?_
      refine gLoadIN 17 X0 hx (H d14_16) rfl rfl ?_
      refine gBaload X0 hx hZ e0 A (j := (0 : Int32)) (v := (.int (ch0.toInt8.toInt32))) (by decide) (by decide) rfl (H d14_17) (pc' := 18) rfl ?_
      refine gLoadAN 19 X0 hx (H d14_18) rfl rfl rfl ?_
      refine gLoadIN 20 X0 hx (H d14_19) rfl rfl ?_
      refine gBaload X0 hx hZ e0 A2 (j := (0 : Int32)) (v := (.int (ch0.toInt8.toInt32))) (by decide) (by decide) rfl (H d14_20) (pc' := 21) rfl ?_
      refine gIcmpEq X0 hx (H d14_21) (pc' := 26) (by decide) (by decide) (pn := 24) rfl (fun (c21 : (ch0.toInt8.toInt32) = (ch0.toInt8.toInt32)) => ?_) (fun (c21 : ¬ (ch0.toInt8.toInt32) = (ch0.toInt8.toInt32)) => ?_)
      · refine gIinc X0 hx (v := (1 : Int32)) (H d14_26) (l' := #[.val (.ref t), .val (.ref u), .val (.int (1 : Int32))]) (pc' := 29) rfl rfl rfl rfl ?_
        refine gGoto X0 hx (H d14_29) (pc' := 9) (by decide) (by decide) ?_
        refine gLoadIN 10 X0 hx (H d14_9) rfl rfl ?_
        refine gLoadAN 11 X0 hx (H d14_10) rfl rfl rfl ?_
        refine gArrLen X0 hx hZ e0 A (H d14_11) (pc' := 12) rfl ?_
        refine gIcmpGe X0 hx (H d14_12) (pc' := 32) (by decide) (by decide) (pn := 15) rfl (fun (c12' : (2 : Int) ≤ (1 : Int)) => ?_) (fun (c12' : (1 : Int) < (2 : Int)) => ?_)
        · exact absurd c12' (by decide)
        · refine gLoadAN 16 X0 hx (H d14_15) rfl rfl rfl ?_
          refine gLoadIN 17 X0 hx (H d14_16) rfl rfl ?_
          refine gBaload X0 hx hZ e0 A (j := (1 : Int32)) (v := (.int (ch1.toInt8.toInt32))) (by decide) (by decide) rfl (H d14_17) (pc' := 18) rfl ?_
          refine gLoadAN 19 X0 hx (H d14_18) rfl rfl rfl ?_
          refine gLoadIN 20 X0 hx (H d14_19) rfl rfl ?_
          refine gBaload X0 hx hZ e0 A2 (j := (1 : Int32)) (v := (.int (ch1.toInt8.toInt32))) (by decide) (by decide) rfl (H d14_20) (pc' := 21) rfl ?_
          refine gIcmpEq X0 hx (H d14_21) (pc' := 26) (by decide) (by decide) (pn := 24) rfl (fun (c21' : (ch1.toInt8.toInt32) = (ch1.toInt8.toInt32)) => ?_) (fun (c21' : ¬ (ch1.toInt8.toInt32) = (ch1.toInt8.toInt32)) => ?_)
          · refine gIinc X0 hx (v := (1 : Int32)) (H d14_26) (l' := #[.val (.ref t), .val (.ref u), .val (.int (2 : Int32))]) (pc' := 29) rfl rfl rfl rfl ?_
            refine gGoto X0 hx (H d14_29) (pc' := 9) (by decide) (by decide) ?_
            refine gLoadIN 10 X0 hx (H d14_9) rfl rfl ?_
            refine gLoadAN 11 X0 hx (H d14_10) rfl rfl rfl ?_
            refine gArrLen X0 hx hZ e0 A (H d14_11) (pc' := 12) rfl ?_
            refine gIcmpGe X0 hx (H d14_12) (pc' := 32) (by decide) (by decide) (pn := 15) rfl (fun (c12'' : (2 : Int) ≤ (2 : Int)) => ?_) (fun (c12'' : (2 : Int) < (2 : Int)) => ?_)
            · refine gIconst 33 X0 hx (v := (1 : Int32)) (H d14_32) rfl rfl ?_
              exact gRetN X0 hx hlk hret (by simp) (H d14_33) (w := (1 : Int32)) rfl (by decide) (by decide) (⟨rfl, e0, rfl⟩)
            · exact absurd c12'' (by decide)
          · exact absurd rfl c21'
      · exact absurd rfl c21
theorem c_eqs_2 (l : Launch) (Z : State) (a0 : Array Value) (hw : ∀ d ∈ tables_1, d.before a0 Z = true) (a b t u : Addr) (ck ck2 : ClassId) (ch0 ch1 : Int32) (h0 : Heap) (hCpt : Cpt Z h0) (E : sE Z h0 a) (C : sC Z h0 a) (V : sV Z h0 a t) (A : sA Z h0 t ck 2 [by8 ch0, by8 ch1]) (E2 : sE Z h0 b) (C2 : sC Z h0 b) (V2 : sV Z h0 b u) (A2 : sA Z h0 u ck2 2 [by8 ch0, by8 ch1]) :
    Ctr l Z mn11 jdk_42_method_66_code 3 (some .boolean) [] ⟨1, 0, 0, 16⟩ #[(.ref a), (.ref b)] h0 (Just h0 (.int 1)) := by
  refine Ctr.of (plainFor_of_name pn_4) ?_
  intro p e s m below meth c s₁ hx H hml hret hown hnm hZ hlk X0 e0
  refine Goes.cast (show entryFrame m _ _ = mkF m 0 #[.val (.ref a), .val (.ref b), .unset] [] from rfl) ?_
  obtain ⟨cz, SC, hcz⟩ := hCpt
  refine gLoadAN 1 X0 hx (H d10_0) rfl rfl rfl ?_
  refine gLoadAN 2 X0 hx (H d10_1) rfl rfl rfl ?_
  refine gAcmpNe X0 hx (H d10_2) rfl rfl (pc' := 7) (by decide) (by decide) (pn := 5) rfl (fun (c2 : ¬ (Value.ref a) = (.ref b)) => ?_) (fun (c2 : (Value.ref a) = (.ref b)) => ?_)
  · refine gLoadAN 8 X0 hx (H d10_7) rfl rfl rfl ?_
    refine gInstY X0 hx hZ hown (ow hw 121 rfl) e0 (Ins.self E2) (H d10_8) (pc' := 11) rfl (fun T1 X1 e1 => ?_)
    refine gIfEqT X1 hx (H d10_11) (pc' := 54) (by decide) (by decide) (pn := 14) rfl (fun (c11 : (1 : Int) = (0 : Int)) => ?_) (fun (c11 : ¬ (1 : Int) = (0 : Int)) => ?_)
    · exact absurd c11 (by decide)
    · refine gLoadAN 15 X1 hx (H d10_14) rfl rfl rfl ?_
      refine gCast X1 hx hZ hown (ow hw 121 rfl) e1 (Ins.self E2) (H d10_15) (pc' := 18) rfl (fun T2 X2 e2 => ?_)
      refine gStoreAN 19 X2 hx (H d10_18) (l' := #[.val (.ref a), .val (.ref b), .val (.ref b)]) rfl rfl rfl ?_
      refine gGetS X2 hx hZ hown (ow hw 49 rfl) Via.refl e2 SC (H d10_19) (pc' := 22) rfl (fun T3 X3 e3 => ?_)
      refine gIfEqT X3 hx (H d10_22) (pc' := 36) (by decide) (by decide) (pn := 25) rfl (fun (c22 : cz.toInt = (0 : Int)) => ?_) (fun (c22 : ¬ cz.toInt = (0 : Int)) => ?_)
      · exact absurd c22 hcz
      · refine gLoadAN 26 X3 hx (H d10_25) rfl rfl rfl ?_
        refine gGetF X3 hx hZ hown (ow hw 29 rfl) Via.refl e3 C (H d10_26) (pc' := 29) rfl (fun T4 X4 e4 => ?_)
        refine gLoadAN 30 X4 hx (H d10_29) rfl rfl rfl ?_
        refine gGetF X4 hx hZ hown (ow hw 29 rfl) Via.refl e4 C2 (H d10_30) (pc' := 33) rfl (fun T5 X5 e5 => ?_)
        refine gIcmpNeT X5 hx (H d10_33) (pc' := 54) (by decide) (by decide) (pn := 36) rfl (fun (c33 : ¬ (0 : Int) = (0 : Int)) => ?_) (fun (c33 : (0 : Int) = (0 : Int)) => ?_)
        · exact absurd c33 (by decide)
        · refine gLoadAN 37 X5 hx (H d10_36) rfl rfl rfl ?_
          refine gGetF X5 hx hZ hown (ow hw 28 rfl) Via.refl e5 V (H d10_37) (pc' := 40) rfl (fun T6 X6 e6 => ?_)
          refine gLoadAN 41 X6 hx (H d10_40) rfl rfl rfl ?_
          refine gGetF X6 hx hZ hown (ow hw 28 rfl) Via.refl e6 V2 (H d10_41) (pc' := 44) rfl (fun T7 X7 e7 => ?_)
          refine gCallSJ X7 hx hZ (y := mn18) hown e7 (by rw [hml]; rfl) (ow hw 122 rfl) (ow hw 123 rfl) (ow hw 62 rfl) (ow hw 124 rfl) (by decide) (argsL := [(.ref t), (.ref u)]) (st := []) (c_eqs_2l l Z a0 hw t u ck ck2 ch0 ch1 h0 A A2) (lenOf pd_20 rfl) (H d10_44) (pc' := 47) rfl rfl rfl rfl (by decide) (W := 0) (Nat.le_of_eq rfl) (by decide) (by decide) (by decide) ?_
          intro T8 X8 e8
          refine gIfEqT X8 hx (H d10_47) (pc' := 54) (by decide) (by decide) (pn := 50) rfl (fun (c47 : (1 : Int) = (0 : Int)) => ?_) (fun (c47 : ¬ (1 : Int) = (0 : Int)) => ?_)
          · exact absurd c47 (by decide)
          · refine gIconst 51 X8 hx (v := (1 : Int32)) (H d10_50) rfl rfl ?_
            refine gGoto X8 hx (H d10_51) (pc' := 55) (by decide) (by decide) ?_
            exact gRetN X8 hx hlk hret (by simp) (H d10_55) (w := (1 : Int32)) rfl (by decide) (by decide) (⟨rfl, e8, rfl⟩)
  · refine gIconst 6 X0 hx (v := (1 : Int32)) (H d10_5) rfl rfl ?_
    exact gRetN X0 hx hlk hret (by simp) (H d10_6) (w := (1 : Int32)) rfl (by decide) (by decide) (⟨rfl, e0, rfl⟩)
theorem c_eqs_3l (l : Launch) (Z : State) (a0 : Array Value) (hw : ∀ d ∈ tables_1, d.before a0 Z = true) (t u : Addr) (ck ck2 : ClassId) (ch0 ch1 ch2 : Int32) (h0 : Heap) (A : sA Z h0 t ck 3 [by8 ch0, by8 ch1, by8 ch2]) (A2 : sA Z h0 u ck2 3 [by8 ch0, by8 ch1, by8 ch2]) :
    Ctr l Z mn18 jdk_43_method_13_code 3 (some .boolean) [] ⟨0, 0, 0, 0⟩ #[(.ref t), (.ref u)] h0 (Just h0 (.int 1)) := by
  refine Ctr.of (plainFor_of_name pn_5) ?_
  intro p e s m below meth c s₁ hx H hml hret hown hnm hZ hlk X0 e0
  refine Goes.cast (show entryFrame m _ _ = mkF m 0 #[.val (.ref t), .val (.ref u), .unset] [] from rfl) ?_
  refine gLoadAN 1 X0 hx (H d14_0) rfl rfl rfl ?_
  refine gArrLen X0 hx hZ e0 A (H d14_1) (pc' := 2) rfl ?_
  refine gLoadAN 3 X0 hx (H d14_2) rfl rfl rfl ?_
  refine gArrLen X0 hx hZ e0 A2 (H d14_3) (pc' := 4) rfl ?_
  refine gIcmpNeT X0 hx (H d14_4) (pc' := 34) (by decide) (by decide) (pn := 7) rfl (fun (c4 : ¬ (3 : Int) = (3 : Int)) => ?_) (fun (c4 : (3 : Int) = (3 : Int)) => ?_)
  · exact absurd c4 (by decide)
  · refine gIconst 8 X0 hx (v := (0 : Int32)) (H d14_7) rfl rfl ?_
    refine gStoreIN 9 X0 hx (H d14_8) (l' := #[.val (.ref t), .val (.ref u), .val (.int (0 : Int32))]) rfl rfl ?_
    refine gLoadIN 10 X0 hx (H d14_9) rfl rfl ?_
    refine gLoadAN 11 X0 hx (H d14_10) rfl rfl rfl ?_
    refine gArrLen X0 hx hZ e0 A (H d14_11) (pc' := 12) rfl ?_
    refine gIcmpGe X0 hx (H d14_12) (pc' := 32) (by decide) (by decide) (pn := 15) rfl (fun (c12 : (3 : Int) ≤ (0 : Int)) => ?_) (fun (c12 : (0 : Int) < (3 : Int)) => ?_)
    · exact absurd c12 (by decide)
    · refine gLoadAN 16 X0 hx (H d14_15) rfl rfl rfl ?_
      refine gLoadIN 17 X0 hx (H d14_16) rfl rfl ?_
      refine gBaload X0 hx hZ e0 A (j := (0 : Int32)) (v := (.int (ch0.toInt8.toInt32))) (by decide) (by decide) rfl (H d14_17) (pc' := 18) rfl ?_
      refine gLoadAN 19 X0 hx (H d14_18) rfl rfl rfl ?_
      refine gLoadIN 20 X0 hx (H d14_19) rfl rfl ?_
      refine gBaload X0 hx hZ e0 A2 (j := (0 : Int32)) (v := (.int (ch0.toInt8.toInt32))) (by decide) (by decide) rfl (H d14_20) (pc' := 21) rfl ?_
      refine gIcmpEq X0 hx (H d14_21) (pc' := 26) (by decide) (by decide) (pn := 24) rfl (fun (c21 : (ch0.toInt8.toInt32) = (ch0.toInt8.toInt32)) => ?_) (fun (c21 : ¬ (ch0.toInt8.toInt32) = (ch0.toInt8.toInt32)) => ?_)
      · refine gIinc X0 hx (v := (1 : Int32)) (H d14_26) (l' := #[.val (.ref t), .val (.ref u), .val (.int (1 : Int32))]) (pc' := 29) rfl rfl rfl rfl ?_
        refine gGoto X0 hx (H d14_29) (pc' := 9) (by decide) (by decide) ?_
        refine gLoadIN 10 X0 hx (H d14_9) rfl rfl ?_
        refine gLoadAN 11 X0 hx (H d14_10) rfl rfl rfl ?_
        refine gArrLen X0 hx hZ e0 A (H d14_11) (pc' := 12) rfl ?_
        refine gIcmpGe X0 hx (H d14_12) (pc' := 32) (by decide) (by decide) (pn := 15) rfl (fun (c12' : (3 : Int) ≤ (1 : Int)) => ?_) (fun (c12' : (1 : Int) < (3 : Int)) => ?_)
        · exact absurd c12' (by decide)
        · refine gLoadAN 16 X0 hx (H d14_15) rfl rfl rfl ?_
          refine gLoadIN 17 X0 hx (H d14_16) rfl rfl ?_
          refine gBaload X0 hx hZ e0 A (j := (1 : Int32)) (v := (.int (ch1.toInt8.toInt32))) (by decide) (by decide) rfl (H d14_17) (pc' := 18) rfl ?_
          refine gLoadAN 19 X0 hx (H d14_18) rfl rfl rfl ?_
          refine gLoadIN 20 X0 hx (H d14_19) rfl rfl ?_
          refine gBaload X0 hx hZ e0 A2 (j := (1 : Int32)) (v := (.int (ch1.toInt8.toInt32))) (by decide) (by decide) rfl (H d14_20) (pc' := 21) rfl ?_
          refine gIcmpEq X0 hx (H d14_21) (pc' := 26) (by decide) (by decide) (pn := 24) rfl (fun (c21' : (ch1.toInt8.toInt32) = (ch1.toInt8.toInt32)) => ?_) (fun (c21' : ¬ (ch1.toInt8.toInt32) = (ch1.toInt8.toInt32)) => ?_)
          · refine gIinc X0 hx (v := (1 : Int32)) (H d14_26) (l' := #[.val (.ref t), .val (.ref u), .val (.int (2 : Int32))]) (pc' := 29) rfl rfl rfl rfl ?_
            refine gGoto X0 hx (H d14_29) (pc' := 9) (by decide) (by decide) ?_
            refine gLoadIN 10 X0 hx (H d14_9) rfl rfl ?_
            refine gLoadAN 11 X0 hx (H d14_10) rfl rfl rfl ?_
            refine gArrLen X0 hx hZ e0 A (H d14_11) (pc' := 12) rfl ?_
            refine gIcmpGe X0 hx (H d14_12) (pc' := 32) (by decide) (by decide) (pn := 15) rfl (fun (c12'' : (3 : Int) ≤ (2 : Int)) => ?_) (fun (c12'' : (2 : Int) < (3 : Int)) => ?_)
            · exact absurd c12'' (by decide)
            · refine gLoadAN 16 X0 hx (H d14_15) rfl rfl rfl ?_
              refine gLoadIN 17 X0 hx (H d14_16) rfl rfl ?_
              refine gBaload X0 hx hZ e0 A (j := (2 : Int32)) (v := (.int (ch2.toInt8.toInt32))) (by decide) (by decide) rfl (H d14_17) (pc' := 18) rfl ?_
              refine gLoadAN 19 X0 hx (H d14_18) rfl rfl rfl ?_
              refine gLoadIN 20 X0 hx (H d14_19) rfl rfl ?_
              refine gBaload X0 hx hZ e0 A2 (j := (2 : Int32)) (v := (.int (ch2.toInt8.toInt32))) (by decide) (by decide) rfl (H d14_20) (pc' := 21) rfl ?_
              refine gIcmpEq X0 hx (H d14_21) (pc' := 26) (by decide) (by decide) (pn := 24) rfl (fun (c21'' : (ch2.toInt8.toInt32) = (ch2.toInt8.toInt32)) => ?_) (fun (c21'' : ¬ (ch2.toInt8.toInt32) = (ch2.toInt8.toInt32)) => ?_)
              · refine gIinc X0 hx (v := (1 : Int32)) (H d14_26) (l' := #[.val (.ref t), .val (.ref u), .val (.int (3 : Int32))]) (pc' := 29) rfl rfl rfl rfl ?_
                refine gGoto X0 hx (H d14_29) (pc' := 9) (by decide) (by decide) ?_
                refine gLoadIN 10 X0 hx (H d14_9) rfl rfl ?_
                refine gLoadAN 11 X0 hx (H d14_10) rfl rfl rfl ?_
                refine gArrLen X0 hx hZ e0 A (H d14_11) (pc' := 12) rfl ?_
                refine gIcmpGe X0 hx (H d14_12) (pc' := 32) (by decide) (by decide) (pn := 15) rfl (fun (c12''' : (3 : Int) ≤ (3 : Int)) => ?_) (fun (c12''' : (3 : Int) < (3 : Int)) => ?_)
                · refine gIconst 33 X0 hx (v := (1 : Int32)) (H d14_32) rfl rfl ?_
                  exact gRetN X0 hx hlk hret (by simp) (H d14_33) (w := (1 : Int32)) rfl (by decide) (by decide) (⟨rfl, e0, rfl⟩)
                · exact absurd c12''' (by decide)
              · exact absurd rfl c21''
          · exact absurd rfl c21'
      · exact absurd rfl c21
theorem c_eqs_3 (l : Launch) (Z : State) (a0 : Array Value) (hw : ∀ d ∈ tables_1, d.before a0 Z = true) (a b t u : Addr) (ck ck2 : ClassId) (ch0 ch1 ch2 : Int32) (h0 : Heap) (hCpt : Cpt Z h0) (E : sE Z h0 a) (C : sC Z h0 a) (V : sV Z h0 a t) (A : sA Z h0 t ck 3 [by8 ch0, by8 ch1, by8 ch2]) (E2 : sE Z h0 b) (C2 : sC Z h0 b) (V2 : sV Z h0 b u) (A2 : sA Z h0 u ck2 3 [by8 ch0, by8 ch1, by8 ch2]) :
    Ctr l Z mn11 jdk_42_method_66_code 3 (some .boolean) [] ⟨1, 0, 0, 16⟩ #[(.ref a), (.ref b)] h0 (Just h0 (.int 1)) := by
  refine Ctr.of (plainFor_of_name pn_4) ?_
  intro p e s m below meth c s₁ hx H hml hret hown hnm hZ hlk X0 e0
  refine Goes.cast (show entryFrame m _ _ = mkF m 0 #[.val (.ref a), .val (.ref b), .unset] [] from rfl) ?_
  obtain ⟨cz, SC, hcz⟩ := hCpt
  refine gLoadAN 1 X0 hx (H d10_0) rfl rfl rfl ?_
  refine gLoadAN 2 X0 hx (H d10_1) rfl rfl rfl ?_
  refine gAcmpNe X0 hx (H d10_2) rfl rfl (pc' := 7) (by decide) (by decide) (pn := 5) rfl (fun (c2 : ¬ (Value.ref a) = (.ref b)) => ?_) (fun (c2 : (Value.ref a) = (.ref b)) => ?_)
  · refine gLoadAN 8 X0 hx (H d10_7) rfl rfl rfl ?_
    refine gInstY X0 hx hZ hown (ow hw 121 rfl) e0 (Ins.self E2) (H d10_8) (pc' := 11) rfl (fun T1 X1 e1 => ?_)
    refine gIfEqT X1 hx (H d10_11) (pc' := 54) (by decide) (by decide) (pn := 14) rfl (fun (c11 : (1 : Int) = (0 : Int)) => ?_) (fun (c11 : ¬ (1 : Int) = (0 : Int)) => ?_)
    · exact absurd c11 (by decide)
    · refine gLoadAN 15 X1 hx (H d10_14) rfl rfl rfl ?_
      refine gCast X1 hx hZ hown (ow hw 121 rfl) e1 (Ins.self E2) (H d10_15) (pc' := 18) rfl (fun T2 X2 e2 => ?_)
      refine gStoreAN 19 X2 hx (H d10_18) (l' := #[.val (.ref a), .val (.ref b), .val (.ref b)]) rfl rfl rfl ?_
      refine gGetS X2 hx hZ hown (ow hw 49 rfl) Via.refl e2 SC (H d10_19) (pc' := 22) rfl (fun T3 X3 e3 => ?_)
      refine gIfEqT X3 hx (H d10_22) (pc' := 36) (by decide) (by decide) (pn := 25) rfl (fun (c22 : cz.toInt = (0 : Int)) => ?_) (fun (c22 : ¬ cz.toInt = (0 : Int)) => ?_)
      · exact absurd c22 hcz
      · refine gLoadAN 26 X3 hx (H d10_25) rfl rfl rfl ?_
        refine gGetF X3 hx hZ hown (ow hw 29 rfl) Via.refl e3 C (H d10_26) (pc' := 29) rfl (fun T4 X4 e4 => ?_)
        refine gLoadAN 30 X4 hx (H d10_29) rfl rfl rfl ?_
        refine gGetF X4 hx hZ hown (ow hw 29 rfl) Via.refl e4 C2 (H d10_30) (pc' := 33) rfl (fun T5 X5 e5 => ?_)
        refine gIcmpNeT X5 hx (H d10_33) (pc' := 54) (by decide) (by decide) (pn := 36) rfl (fun (c33 : ¬ (0 : Int) = (0 : Int)) => ?_) (fun (c33 : (0 : Int) = (0 : Int)) => ?_)
        · exact absurd c33 (by decide)
        · refine gLoadAN 37 X5 hx (H d10_36) rfl rfl rfl ?_
          refine gGetF X5 hx hZ hown (ow hw 28 rfl) Via.refl e5 V (H d10_37) (pc' := 40) rfl (fun T6 X6 e6 => ?_)
          refine gLoadAN 41 X6 hx (H d10_40) rfl rfl rfl ?_
          refine gGetF X6 hx hZ hown (ow hw 28 rfl) Via.refl e6 V2 (H d10_41) (pc' := 44) rfl (fun T7 X7 e7 => ?_)
          refine gCallSJ X7 hx hZ (y := mn18) hown e7 (by rw [hml]; rfl) (ow hw 122 rfl) (ow hw 123 rfl) (ow hw 62 rfl) (ow hw 124 rfl) (by decide) (argsL := [(.ref t), (.ref u)]) (st := []) (c_eqs_3l l Z a0 hw t u ck ck2 ch0 ch1 ch2 h0 A A2) (lenOf pd_20 rfl) (H d10_44) (pc' := 47) rfl rfl rfl rfl (by decide) (W := 0) (Nat.le_of_eq rfl) (by decide) (by decide) (by decide) ?_
          intro T8 X8 e8
          refine gIfEqT X8 hx (H d10_47) (pc' := 54) (by decide) (by decide) (pn := 50) rfl (fun (c47 : (1 : Int) = (0 : Int)) => ?_) (fun (c47 : ¬ (1 : Int) = (0 : Int)) => ?_)
          · exact absurd c47 (by decide)
          · refine gIconst 51 X8 hx (v := (1 : Int32)) (H d10_50) rfl rfl ?_
            refine gGoto X8 hx (H d10_51) (pc' := 55) (by decide) (by decide) ?_
            exact gRetN X8 hx hlk hret (by simp) (H d10_55) (w := (1 : Int32)) rfl (by decide) (by decide) (⟨rfl, e8, rfl⟩)
  · refine gIconst 6 X0 hx (v := (1 : Int32)) (H d10_5) rfl rfl ?_
    exact gRetN X0 hx hlk hret (by simp) (H d10_6) (w := (1 : Int32)) rfl (by decide) (by decide) (⟨rfl, e0, rfl⟩)
theorem c_eqs_4l (l : Launch) (Z : State) (a0 : Array Value) (hw : ∀ d ∈ tables_1, d.before a0 Z = true) (t u : Addr) (ck ck2 : ClassId) (ch0 ch1 ch2 ch3 : Int32) (h0 : Heap) (A : sA Z h0 t ck 4 [by8 ch0, by8 ch1, by8 ch2, by8 ch3]) (A2 : sA Z h0 u ck2 4 [by8 ch0, by8 ch1, by8 ch2, by8 ch3]) :
    Ctr l Z mn18 jdk_43_method_13_code 3 (some .boolean) [] ⟨0, 0, 0, 0⟩ #[(.ref t), (.ref u)] h0 (Just h0 (.int 1)) := by
  refine Ctr.of (plainFor_of_name pn_5) ?_
  intro p e s m below meth c s₁ hx H hml hret hown hnm hZ hlk X0 e0
  refine Goes.cast (show entryFrame m _ _ = mkF m 0 #[.val (.ref t), .val (.ref u), .unset] [] from rfl) ?_
  refine gLoadAN 1 X0 hx (H d14_0) rfl rfl rfl ?_
  refine gArrLen X0 hx hZ e0 A (H d14_1) (pc' := 2) rfl ?_
  refine gLoadAN 3 X0 hx (H d14_2) rfl rfl rfl ?_
  refine gArrLen X0 hx hZ e0 A2 (H d14_3) (pc' := 4) rfl ?_
  refine gIcmpNeT X0 hx (H d14_4) (pc' := 34) (by decide) (by decide) (pn := 7) rfl (fun (c4 : ¬ (4 : Int) = (4 : Int)) => ?_) (fun (c4 : (4 : Int) = (4 : Int)) => ?_)
  · exact absurd c4 (by decide)
  · refine gIconst 8 X0 hx (v := (0 : Int32)) (H d14_7) rfl rfl ?_
    refine gStoreIN 9 X0 hx (H d14_8) (l' := #[.val (.ref t), .val (.ref u), .val (.int (0 : Int32))]) rfl rfl ?_
    refine gLoadIN 10 X0 hx (H d14_9) rfl rfl ?_
    refine gLoadAN 11 X0 hx (H d14_10) rfl rfl rfl ?_
    refine gArrLen X0 hx hZ e0 A (H d14_11) (pc' := 12) rfl ?_
    refine gIcmpGe X0 hx (H d14_12) (pc' := 32) (by decide) (by decide) (pn := 15) rfl (fun (c12 : (4 : Int) ≤ (0 : Int)) => ?_) (fun (c12 : (0 : Int) < (4 : Int)) => ?_)
    · exact absurd c12 (by decide)
    · refine gLoadAN 16 X0 hx (H d14_15) rfl rfl rfl ?_
      refine gLoadIN 17 X0 hx (H d14_16) rfl rfl ?_
      refine gBaload X0 hx hZ e0 A (j := (0 : Int32)) (v := (.int (ch0.toInt8.toInt32))) (by decide) (by decide) rfl (H d14_17) (pc' := 18) rfl ?_
      refine gLoadAN 19 X0 hx (H d14_18) rfl rfl rfl ?_
      refine gLoadIN 20 X0 hx (H d14_19) rfl rfl ?_
      refine gBaload X0 hx hZ e0 A2 (j := (0 : Int32)) (v := (.int (ch0.toInt8.toInt32))) (by decide) (by decide) rfl (H d14_20) (pc' := 21) rfl ?_
      refine gIcmpEq X0 hx (H d14_21) (pc' := 26) (by decide) (by decide) (pn := 24) rfl (fun (c21 : (ch0.toInt8.toInt32) = (ch0.toInt8.toInt32)) => ?_) (fun (c21 : ¬ (ch0.toInt8.toInt32) = (ch0.toInt8.toInt32)) => ?_)
      · refine gIinc X0 hx (v := (1 : Int32)) (H d14_26) (l' := #[.val (.ref t), .val (.ref u), .val (.int (1 : Int32))]) (pc' := 29) rfl rfl rfl rfl ?_
        refine gGoto X0 hx (H d14_29) (pc' := 9) (by decide) (by decide) ?_
        refine gLoadIN 10 X0 hx (H d14_9) rfl rfl ?_
        refine gLoadAN 11 X0 hx (H d14_10) rfl rfl rfl ?_
        refine gArrLen X0 hx hZ e0 A (H d14_11) (pc' := 12) rfl ?_
        refine gIcmpGe X0 hx (H d14_12) (pc' := 32) (by decide) (by decide) (pn := 15) rfl (fun (c12' : (4 : Int) ≤ (1 : Int)) => ?_) (fun (c12' : (1 : Int) < (4 : Int)) => ?_)
        · exact absurd c12' (by decide)
        · refine gLoadAN 16 X0 hx (H d14_15) rfl rfl rfl ?_
          refine gLoadIN 17 X0 hx (H d14_16) rfl rfl ?_
          refine gBaload X0 hx hZ e0 A (j := (1 : Int32)) (v := (.int (ch1.toInt8.toInt32))) (by decide) (by decide) rfl (H d14_17) (pc' := 18) rfl ?_
          refine gLoadAN 19 X0 hx (H d14_18) rfl rfl rfl ?_
          refine gLoadIN 20 X0 hx (H d14_19) rfl rfl ?_
          refine gBaload X0 hx hZ e0 A2 (j := (1 : Int32)) (v := (.int (ch1.toInt8.toInt32))) (by decide) (by decide) rfl (H d14_20) (pc' := 21) rfl ?_
          refine gIcmpEq X0 hx (H d14_21) (pc' := 26) (by decide) (by decide) (pn := 24) rfl (fun (c21' : (ch1.toInt8.toInt32) = (ch1.toInt8.toInt32)) => ?_) (fun (c21' : ¬ (ch1.toInt8.toInt32) = (ch1.toInt8.toInt32)) => ?_)
          · refine gIinc X0 hx (v := (1 : Int32)) (H d14_26) (l' := #[.val (.ref t), .val (.ref u), .val (.int (2 : Int32))]) (pc' := 29) rfl rfl rfl rfl ?_
            refine gGoto X0 hx (H d14_29) (pc' := 9) (by decide) (by decide) ?_
            refine gLoadIN 10 X0 hx (H d14_9) rfl rfl ?_
            refine gLoadAN 11 X0 hx (H d14_10) rfl rfl rfl ?_
            refine gArrLen X0 hx hZ e0 A (H d14_11) (pc' := 12) rfl ?_
            refine gIcmpGe X0 hx (H d14_12) (pc' := 32) (by decide) (by decide) (pn := 15) rfl (fun (c12'' : (4 : Int) ≤ (2 : Int)) => ?_) (fun (c12'' : (2 : Int) < (4 : Int)) => ?_)
            · exact absurd c12'' (by decide)
            · refine gLoadAN 16 X0 hx (H d14_15) rfl rfl rfl ?_
              refine gLoadIN 17 X0 hx (H d14_16) rfl rfl ?_
              refine gBaload X0 hx hZ e0 A (j := (2 : Int32)) (v := (.int (ch2.toInt8.toInt32))) (by decide) (by decide) rfl (H d14_17) (pc' := 18) rfl ?_
              refine gLoadAN 19 X0 hx (H d14_18) rfl rfl rfl ?_
              refine gLoadIN 20 X0 hx (H d14_19) rfl rfl ?_
              refine gBaload X0 hx hZ e0 A2 (j := (2 : Int32)) (v := (.int (ch2.toInt8.toInt32))) (by decide) (by decide) rfl (H d14_20) (pc' := 21) rfl ?_
              refine gIcmpEq X0 hx (H d14_21) (pc' := 26) (by decide) (by decide) (pn := 24) rfl (fun (c21'' : (ch2.toInt8.toInt32) = (ch2.toInt8.toInt32)) => ?_) (fun (c21'' : ¬ (ch2.toInt8.toInt32) = (ch2.toInt8.toInt32)) => ?_)
              · refine gIinc X0 hx (v := (1 : Int32)) (H d14_26) (l' := #[.val (.ref t), .val (.ref u), .val (.int (3 : Int32))]) (pc' := 29) rfl rfl rfl rfl ?_
                refine gGoto X0 hx (H d14_29) (pc' := 9) (by decide) (by decide) ?_
                refine gLoadIN 10 X0 hx (H d14_9) rfl rfl ?_
                refine gLoadAN 11 X0 hx (H d14_10) rfl rfl rfl ?_
                refine gArrLen X0 hx hZ e0 A (H d14_11) (pc' := 12) rfl ?_
                refine gIcmpGe X0 hx (H d14_12) (pc' := 32) (by decide) (by decide) (pn := 15) rfl (fun (c12''' : (4 : Int) ≤ (3 : Int)) => ?_) (fun (c12''' : (3 : Int) < (4 : Int)) => ?_)
                · exact absurd c12''' (by decide)
                · refine gLoadAN 16 X0 hx (H d14_15) rfl rfl rfl ?_
                  refine gLoadIN 17 X0 hx (H d14_16) rfl rfl ?_
                  refine gBaload X0 hx hZ e0 A (j := (3 : Int32)) (v := (.int (ch3.toInt8.toInt32))) (by decide) (by decide) rfl (H d14_17) (pc' := 18) rfl ?_
                  refine gLoadAN 19 X0 hx (H d14_18) rfl rfl rfl ?_
                  refine gLoadIN 20 X0 hx (H d14_19) rfl rfl ?_
                  refine gBaload X0 hx hZ e0 A2 (j := (3 : Int32)) (v := (.int (ch3.toInt8.toInt32))) (by decide) (by decide) rfl (H d14_20) (pc' := 21) rfl ?_
                  refine gIcmpEq X0 hx (H d14_21) (pc' := 26) (by decide) (by decide) (pn := 24) rfl (fun (c21''' : (ch3.toInt8.toInt32) = (ch3.toInt8.toInt32)) => ?_) (fun (c21''' : ¬ (ch3.toInt8.toInt32) = (ch3.toInt8.toInt32)) => ?_)
                  · refine gIinc X0 hx (v := (1 : Int32)) (H d14_26) (l' := #[.val (.ref t), .val (.ref u), .val (.int (4 : Int32))]) (pc' := 29) rfl rfl rfl rfl ?_
                    refine gGoto X0 hx (H d14_29) (pc' := 9) (by decide) (by decide) ?_
                    refine gLoadIN 10 X0 hx (H d14_9) rfl rfl ?_
                    refine gLoadAN 11 X0 hx (H d14_10) rfl rfl rfl ?_
                    refine gArrLen X0 hx hZ e0 A (H d14_11) (pc' := 12) rfl ?_
                    refine gIcmpGe X0 hx (H d14_12) (pc' := 32) (by decide) (by decide) (pn := 15) rfl (fun (c12'''' : (4 : Int) ≤ (4 : Int)) => ?_) (fun (c12'''' : (4 : Int) < (4 : Int)) => ?_)
                    · refine gIconst 33 X0 hx (v := (1 : Int32)) (H d14_32) rfl rfl ?_
                      exact gRetN X0 hx hlk hret (by simp) (H d14_33) (w := (1 : Int32)) rfl (by decide) (by decide) (⟨rfl, e0, rfl⟩)
                    · exact absurd c12'''' (by decide)
                  · exact absurd rfl c21'''
              · exact absurd rfl c21''
          · exact absurd rfl c21'
      · exact absurd rfl c21
theorem c_eqs_4 (l : Launch) (Z : State) (a0 : Array Value) (hw : ∀ d ∈ tables_1, d.before a0 Z = true) (a b t u : Addr) (ck ck2 : ClassId) (ch0 ch1 ch2 ch3 : Int32) (h0 : Heap) (hCpt : Cpt Z h0) (E : sE Z h0 a) (C : sC Z h0 a) (V : sV Z h0 a t) (A : sA Z h0 t ck 4 [by8 ch0, by8 ch1, by8 ch2, by8 ch3]) (E2 : sE Z h0 b) (C2 : sC Z h0 b) (V2 : sV Z h0 b u) (A2 : sA Z h0 u ck2 4 [by8 ch0, by8 ch1, by8 ch2, by8 ch3]) :
    Ctr l Z mn11 jdk_42_method_66_code 3 (some .boolean) [] ⟨1, 0, 0, 16⟩ #[(.ref a), (.ref b)] h0 (Just h0 (.int 1)) := by
  refine Ctr.of (plainFor_of_name pn_4) ?_
  intro p e s m below meth c s₁ hx H hml hret hown hnm hZ hlk X0 e0
  refine Goes.cast (show entryFrame m _ _ = mkF m 0 #[.val (.ref a), .val (.ref b), .unset] [] from rfl) ?_
  obtain ⟨cz, SC, hcz⟩ := hCpt
  refine gLoadAN 1 X0 hx (H d10_0) rfl rfl rfl ?_
  refine gLoadAN 2 X0 hx (H d10_1) rfl rfl rfl ?_
  refine gAcmpNe X0 hx (H d10_2) rfl rfl (pc' := 7) (by decide) (by decide) (pn := 5) rfl (fun (c2 : ¬ (Value.ref a) = (.ref b)) => ?_) (fun (c2 : (Value.ref a) = (.ref b)) => ?_)
  · refine gLoadAN 8 X0 hx (H d10_7) rfl rfl rfl ?_
    refine gInstY X0 hx hZ hown (ow hw 121 rfl) e0 (Ins.self E2) (H d10_8) (pc' := 11) rfl (fun T1 X1 e1 => ?_)
    refine gIfEqT X1 hx (H d10_11) (pc' := 54) (by decide) (by decide) (pn := 14) rfl (fun (c11 : (1 : Int) = (0 : Int)) => ?_) (fun (c11 : ¬ (1 : Int) = (0 : Int)) => ?_)
    · exact absurd c11 (by decide)
    · refine gLoadAN 15 X1 hx (H d10_14) rfl rfl rfl ?_
      refine gCast X1 hx hZ hown (ow hw 121 rfl) e1 (Ins.self E2) (H d10_15) (pc' := 18) rfl (fun T2 X2 e2 => ?_)
      refine gStoreAN 19 X2 hx (H d10_18) (l' := #[.val (.ref a), .val (.ref b), .val (.ref b)]) rfl rfl rfl ?_
      refine gGetS X2 hx hZ hown (ow hw 49 rfl) Via.refl e2 SC (H d10_19) (pc' := 22) rfl (fun T3 X3 e3 => ?_)
      refine gIfEqT X3 hx (H d10_22) (pc' := 36) (by decide) (by decide) (pn := 25) rfl (fun (c22 : cz.toInt = (0 : Int)) => ?_) (fun (c22 : ¬ cz.toInt = (0 : Int)) => ?_)
      · exact absurd c22 hcz
      · refine gLoadAN 26 X3 hx (H d10_25) rfl rfl rfl ?_
        refine gGetF X3 hx hZ hown (ow hw 29 rfl) Via.refl e3 C (H d10_26) (pc' := 29) rfl (fun T4 X4 e4 => ?_)
        refine gLoadAN 30 X4 hx (H d10_29) rfl rfl rfl ?_
        refine gGetF X4 hx hZ hown (ow hw 29 rfl) Via.refl e4 C2 (H d10_30) (pc' := 33) rfl (fun T5 X5 e5 => ?_)
        refine gIcmpNeT X5 hx (H d10_33) (pc' := 54) (by decide) (by decide) (pn := 36) rfl (fun (c33 : ¬ (0 : Int) = (0 : Int)) => ?_) (fun (c33 : (0 : Int) = (0 : Int)) => ?_)
        · exact absurd c33 (by decide)
        · refine gLoadAN 37 X5 hx (H d10_36) rfl rfl rfl ?_
          refine gGetF X5 hx hZ hown (ow hw 28 rfl) Via.refl e5 V (H d10_37) (pc' := 40) rfl (fun T6 X6 e6 => ?_)
          refine gLoadAN 41 X6 hx (H d10_40) rfl rfl rfl ?_
          refine gGetF X6 hx hZ hown (ow hw 28 rfl) Via.refl e6 V2 (H d10_41) (pc' := 44) rfl (fun T7 X7 e7 => ?_)
          refine gCallSJ X7 hx hZ (y := mn18) hown e7 (by rw [hml]; rfl) (ow hw 122 rfl) (ow hw 123 rfl) (ow hw 62 rfl) (ow hw 124 rfl) (by decide) (argsL := [(.ref t), (.ref u)]) (st := []) (c_eqs_4l l Z a0 hw t u ck ck2 ch0 ch1 ch2 ch3 h0 A A2) (lenOf pd_20 rfl) (H d10_44) (pc' := 47) rfl rfl rfl rfl (by decide) (W := 0) (Nat.le_of_eq rfl) (by decide) (by decide) (by decide) ?_
          intro T8 X8 e8
          refine gIfEqT X8 hx (H d10_47) (pc' := 54) (by decide) (by decide) (pn := 50) rfl (fun (c47 : (1 : Int) = (0 : Int)) => ?_) (fun (c47 : ¬ (1 : Int) = (0 : Int)) => ?_)
          · exact absurd c47 (by decide)
          · refine gIconst 51 X8 hx (v := (1 : Int32)) (H d10_50) rfl rfl ?_
            refine gGoto X8 hx (H d10_51) (pc' := 55) (by decide) (by decide) ?_
            exact gRetN X8 hx hlk hret (by simp) (H d10_55) (w := (1 : Int32)) rfl (by decide) (by decide) (⟨rfl, e8, rfl⟩)
  · refine gIconst 6 X0 hx (v := (1 : Int32)) (H d10_5) rfl rfl ?_
    exact gRetN X0 hx hlk hret (by simp) (H d10_6) (w := (1 : Int32)) rfl (by decide) (by decide) (⟨rfl, e0, rfl⟩)
theorem pd_9 : parseMethodDescriptor "(III)C" = some ⟨[.int, .int, .int], some .char⟩ := by decide +kernel
theorem pd_22 : parseMethodDescriptor "([CI)Ljava/lang/String;" = some ⟨[(.array .char), .int], some (.object "java/lang/String")⟩ := by decide +kernel
theorem pd_14 : parseMethodDescriptor "(Ljava/lang/String;)Ljava/lang/String;" = some ⟨[(.object "java/lang/String")], some (.object "java/lang/String")⟩ := by decide +kernel
theorem pd_12 : parseMethodDescriptor "(Ljava/lang/Object;)Z" = some ⟨[(.object "java/lang/Object")], some .boolean⟩ := by decide +kernel
theorem c_law (l : Launch) (Z : State) (a0 : Array Value) (hw : ∀ d ∈ tables_1, d.before a0 Z = true) (p0 p1 p2 p3 p4 p5 : Int32) (h0 : Heap) (hEL : EW Z a0 [("java/lang/String", 7)]) (hCpt : Cpt Z h0) (hSio : Sio Z h0) :
    CtrH l Z [("java/lang/String", 7)] [] x code maxLocals ret tables_1 room_1 #[(.int p0), (.int p1), (.int p2), (.int p3), (.int p4), (.int p5)] h0 (Law1 h0) := by
  refine CtrH.of (plainFor_of_name pn_1) ?_
  intro p e s m below meth c s₁ hx H hml hret hown hnm hZ hlk X0 e0 hS H0 hSafe
  replace hml : c.maxLocals = 12 := hml
  refine Goes.cast (show entryFrame m _ _ = mkF m 0 #[.val (.int p0), .val (.int p1), .val (.int p2), .val (.int p3), .val (.int p4), .val (.int p5), .unset, .unset, .unset, .unset, .unset, .unset] [] from rfl) ?_
  refine gLoadIN 1 X0 hx (H at_0) rfl rfl ?_
  refine gLdc 3 X0 hx hZ hown (ow hw 0 rfl) (H at_1) rfl ?_
  refine gIand 4 X0 hx (H at_3) rfl ?_
  refine gBipush 6 X0 hx (v := (6 : Int32)) (H at_4) rfl rfl ?_
  refine gIrem 7 X0 hx (H at_6) (by decide) rfl ?_
  generalize hg_nn : ((p0 &&& (2147483647 : Int32)) % (6 : Int32)) = nn
  have hnn := own_rem p0; rw [hg_nn] at hnn; clear hg_nn
  refine gStoreI 9 X0 hx (H at_7) (l' := #[.val (.int p0), .val (.int p1), .val (.int p2), .val (.int p3), .val (.int p4), .val (.int p5), .val (.int nn), .unset, .unset, .unset, .unset, .unset]) rfl rfl ?_
  refine gIconst 10 X0 hx (v := (5 : Int32)) (H at_9) rfl rfl ?_
  refine gNewP X0 hx hZ (ow hw 1 rfl) e0 (n := (5 : Int32)) (H at_10) (by decide) (cap := 5) (by decide) (by decide) (by decide) (by decide) 5 (pc' := 12) rfl (fun T1 h1 b1 ck1 X1 e1 g1 E1 A1 => ?_)
  have H1 := H0.trans (CHr.ext E1 H0.1)
  have hk1 := Nat.le_trans (Nat.zero_le _) E1.1
  have s1_b := Safe.ext E1 H0.1 (Safe.new (Nat.le_of_eq g1.symm))
  have f1_0 := hCpt.ext E1
  have f1_1 := hSio.ext E1
  have sz_b1 : h0.size ≤ b1 := Nat.le_trans (Nat.le_refl _) (Nat.le_of_eq g1.symm)
  have zs1 : h0.size ≤ h1.size := Nat.le_trans (Nat.le_refl _) E1.1
  have V1 : Arv Z h1 b1 ck1 .char (5 : Int32) [(.int (0 : Int32)), (.int (0 : Int32)), (.int (0 : Int32)), (.int (0 : Int32)), (.int (0 : Int32))] (.int (0 : Int32)) := A1
  refine gStoreA 14 X1 hx (H at_12) (l' := #[.val (.int p0), .val (.int p1), .val (.int p2), .val (.int p3), .val (.int p4), .val (.int p5), .val (.int nn), .val (.ref b1), .unset, .unset, .unset, .unset]) rfl rfl rfl ?_
  refine gLoadA 16 X1 hx (H at_14) rfl rfl rfl ?_
  refine gIconst 17 X1 hx (v := (0 : Int32)) (H at_16) rfl rfl ?_
  refine gLoadIN 18 X1 hx (H at_17) rfl rfl ?_
  refine gBipush 20 X1 hx (v := (8 : Int32)) (H at_18) rfl rfl ?_
  refine gLoadIN 21 X1 hx (H at_20) rfl rfl ?_
  refine gCallS X1 hx hZ (y := mn1) hown e1 (by rw [hml]; rfl) (ow hw 2 rfl) (ow hw 3 rfl) (ow hw 4 rfl) (ow hw 5 rfl) (by decide) (argsL := [(.int p0), (.int (8 : Int32)), (.int p1)]) (st := [(.int (0 : Int32)), (.ref b1)]) (c_ch l Z a0 hw p0 (8 : Int32) p1 h1) (lenOf pd_9 rfl) (H at_21) (pc' := 24) rfl rfl (by decide) (W := 2) (Nat.le_of_eq rfl) (by decide) (by decide) (by decide) ?_
  intro T2 v2 L2 X2 hQ2
  obtain ⟨ch0, rfl, hch0, eq2, rfl⟩ := hQ2
  rw [List.append_nil] at X2
  refine gCastore X2 hx hZ eq2 (x := ch0) V1 (j := (0 : Int32)) (by decide) (by decide) 0 (by decide) (by simp) (H at_24) (pc' := 25) rfl (fun T3 h3 X3 e3 W3 A3 => ?_)
  have S3 := s1_b
  have H3 := H1.trans (CHr.wr W3 S3 H1.1)
  have hk3 := Nat.le_trans hk1 (Nat.le_of_eq W3.size.symm)
  have s3_0 := Safe.wr W3 S3 H1.1 s1_b
  have f3_0 := f1_0.wr W3
  have f3_1 := f1_1.wr W3
  have zs3 : h0.size ≤ h3.size := by rw [W3.size]; exact zs1
  have N3 := Fr.snoc X3 (Fr.nil h0.size) sz_b1
  have V3 : Arv Z h3 b1 _ .char (5 : Int32) [(.int ch0), (.int (0 : Int32)), (.int (0 : Int32)), (.int (0 : Int32)), (.int (0 : Int32))] (.int (0 : Int32)) := (by have q := A3; rw [own_nc (own_c8 hch0)] at q; exact q)
  refine gLoadA 27 X3 hx (H at_25) rfl rfl rfl ?_
  refine gIconst 28 X3 hx (v := (1 : Int32)) (H at_27) rfl rfl ?_
  refine gLoadIN 29 X3 hx (H at_28) rfl rfl ?_
  refine gBipush 31 X3 hx (v := (9 : Int32)) (H at_29) rfl rfl ?_
  refine gLoadIN 32 X3 hx (H at_31) rfl rfl ?_
  refine gCallS X3 hx hZ (y := mn1) hown e3 (by rw [hml]; rfl) (ow hw 2 rfl) (ow hw 3 rfl) (ow hw 4 rfl) (ow hw 5 rfl) (by decide) (argsL := [(.int p0), (.int (9 : Int32)), (.int p2)]) (st := [(.int (1 : Int32)), (.ref b1)]) (c_ch l Z a0 hw p0 (9 : Int32) p2 h3) (lenOf pd_9 rfl) (H at_32) (pc' := 35) rfl rfl (by decide) (W := 2) (Nat.le_of_eq rfl) (by decide) (by decide) (by decide) ?_
  intro T4 v4 L4 X4 hQ4
  obtain ⟨ch1, rfl, hch1, eq4, rfl⟩ := hQ4
  rw [List.append_nil] at X4
  refine gCastore X4 hx hZ eq4 (x := ch1) V3 (j := (1 : Int32)) (by decide) (by decide) 1 (by decide) (by simp) (H at_35) (pc' := 36) rfl (fun T5 h5 X5 e5 W5 A5 => ?_)
  have S5 := s3_0
  have H5 := H3.trans (CHr.wr W5 S5 H3.1)
  have hk5 := Nat.le_trans hk3 (Nat.le_of_eq W5.size.symm)
  have s5_0 := Safe.wr W5 S5 H3.1 s3_0
  have f5_0 := f3_0.wr W5
  have f5_1 := f3_1.wr W5
  have zs5 : h0.size ≤ h5.size := by rw [W5.size]; exact zs3
  have N5 := Fr.snoc X5 N3 sz_b1
  have V5 : Arv Z h5 b1 _ .char (5 : Int32) [(.int ch0), (.int ch1), (.int (0 : Int32)), (.int (0 : Int32)), (.int (0 : Int32))] (.int (0 : Int32)) := (by have q := A5; rw [own_nc (own_c8 hch1)] at q; exact q)
  refine gLoadA 38 X5 hx (H at_36) rfl rfl rfl ?_
  refine gIconst 39 X5 hx (v := (2 : Int32)) (H at_38) rfl rfl ?_
  refine gLoadIN 40 X5 hx (H at_39) rfl rfl ?_
  refine gBipush 42 X5 hx (v := (10 : Int32)) (H at_40) rfl rfl ?_
  refine gLoadIN 43 X5 hx (H at_42) rfl rfl ?_
  refine gCallS X5 hx hZ (y := mn1) hown e5 (by rw [hml]; rfl) (ow hw 2 rfl) (ow hw 3 rfl) (ow hw 4 rfl) (ow hw 5 rfl) (by decide) (argsL := [(.int p0), (.int (10 : Int32)), (.int p3)]) (st := [(.int (2 : Int32)), (.ref b1)]) (c_ch l Z a0 hw p0 (10 : Int32) p3 h5) (lenOf pd_9 rfl) (H at_43) (pc' := 46) rfl rfl (by decide) (W := 2) (Nat.le_of_eq rfl) (by decide) (by decide) (by decide) ?_
  intro T6 v6 L6 X6 hQ6
  obtain ⟨ch2, rfl, hch2, eq6, rfl⟩ := hQ6
  rw [List.append_nil] at X6
  refine gCastore X6 hx hZ eq6 (x := ch2) V5 (j := (2 : Int32)) (by decide) (by decide) 2 (by decide) (by simp) (H at_46) (pc' := 47) rfl (fun T7 h7 X7 e7 W7 A7 => ?_)
  have S7 := s5_0
  have H7 := H5.trans (CHr.wr W7 S7 H5.1)
  have hk7 := Nat.le_trans hk5 (Nat.le_of_eq W7.size.symm)
  have s7_0 := Safe.wr W7 S7 H5.1 s5_0
  have f7_0 := f5_0.wr W7
  have f7_1 := f5_1.wr W7
  have zs7 : h0.size ≤ h7.size := by rw [W7.size]; exact zs5
  have N7 := Fr.snoc X7 N5 sz_b1
  have V7 : Arv Z h7 b1 _ .char (5 : Int32) [(.int ch0), (.int ch1), (.int ch2), (.int (0 : Int32)), (.int (0 : Int32))] (.int (0 : Int32)) := (by have q := A7; rw [own_nc (own_c8 hch2)] at q; exact q)
  refine gLoadA 49 X7 hx (H at_47) rfl rfl rfl ?_
  refine gIconst 50 X7 hx (v := (3 : Int32)) (H at_49) rfl rfl ?_
  refine gLoadIN 51 X7 hx (H at_50) rfl rfl ?_
  refine gBipush 53 X7 hx (v := (11 : Int32)) (H at_51) rfl rfl ?_
  refine gLoadI 55 X7 hx (H at_53) rfl rfl ?_
  refine gCallS X7 hx hZ (y := mn1) hown e7 (by rw [hml]; rfl) (ow hw 2 rfl) (ow hw 3 rfl) (ow hw 4 rfl) (ow hw 5 rfl) (by decide) (argsL := [(.int p0), (.int (11 : Int32)), (.int p4)]) (st := [(.int (3 : Int32)), (.ref b1)]) (c_ch l Z a0 hw p0 (11 : Int32) p4 h7) (lenOf pd_9 rfl) (H at_55) (pc' := 58) rfl rfl (by decide) (W := 2) (Nat.le_of_eq rfl) (by decide) (by decide) (by decide) ?_
  intro T8 v8 L8 X8 hQ8
  obtain ⟨ch3, rfl, hch3, eq8, rfl⟩ := hQ8
  rw [List.append_nil] at X8
  refine gCastore X8 hx hZ eq8 (x := ch3) V7 (j := (3 : Int32)) (by decide) (by decide) 3 (by decide) (by simp) (H at_58) (pc' := 59) rfl (fun T9 h9 X9 e9 W9 A9 => ?_)
  have S9 := s7_0
  have H9 := H7.trans (CHr.wr W9 S9 H7.1)
  have hk9 := Nat.le_trans hk7 (Nat.le_of_eq W9.size.symm)
  have s9_0 := Safe.wr W9 S9 H7.1 s7_0
  have f9_0 := f7_0.wr W9
  have f9_1 := f7_1.wr W9
  have zs9 : h0.size ≤ h9.size := by rw [W9.size]; exact zs7
  have N9 := Fr.snoc X9 N7 sz_b1
  have V9 : Arv Z h9 b1 _ .char (5 : Int32) [(.int ch0), (.int ch1), (.int ch2), (.int ch3), (.int (0 : Int32))] (.int (0 : Int32)) := (by have q := A9; rw [own_nc (own_c8 hch3)] at q; exact q)
  refine gLoadA 61 X9 hx (H at_59) rfl rfl rfl ?_
  refine gIconst 62 X9 hx (v := (4 : Int32)) (H at_61) rfl rfl ?_
  refine gLoadIN 63 X9 hx (H at_62) rfl rfl ?_
  refine gBipush 65 X9 hx (v := (12 : Int32)) (H at_63) rfl rfl ?_
  refine gLoadI 67 X9 hx (H at_65) rfl rfl ?_
  refine gCallS X9 hx hZ (y := mn1) hown e9 (by rw [hml]; rfl) (ow hw 2 rfl) (ow hw 3 rfl) (ow hw 4 rfl) (ow hw 5 rfl) (by decide) (argsL := [(.int p0), (.int (12 : Int32)), (.int p5)]) (st := [(.int (4 : Int32)), (.ref b1)]) (c_ch l Z a0 hw p0 (12 : Int32) p5 h9) (lenOf pd_9 rfl) (H at_67) (pc' := 70) rfl rfl (by decide) (W := 2) (Nat.le_of_eq rfl) (by decide) (by decide) (by decide) ?_
  intro T10 v10 L10 X10 hQ10
  obtain ⟨ch4, rfl, hch4, eq10, rfl⟩ := hQ10
  rw [List.append_nil] at X10
  refine gCastore X10 hx hZ eq10 (x := ch4) V9 (j := (4 : Int32)) (by decide) (by decide) 4 (by decide) (by simp) (H at_70) (pc' := 71) rfl (fun T11 h11 X11 e11 W11 A11 => ?_)
  have S11 := s9_0
  have H11 := H9.trans (CHr.wr W11 S11 H9.1)
  have hk11 := Nat.le_trans hk9 (Nat.le_of_eq W11.size.symm)
  have s11_0 := Safe.wr W11 S11 H9.1 s9_0
  have f11_0 := f9_0.wr W11
  have f11_1 := f9_1.wr W11
  have zs11 : h0.size ≤ h11.size := by rw [W11.size]; exact zs9
  have N11 := Fr.snoc X11 N9 sz_b1
  have V11 : Arv Z h11 b1 _ .char (5 : Int32) [(.int ch0), (.int ch1), (.int ch2), (.int ch3), (.int ch4)] (.int (0 : Int32)) := (by have q := A11; rw [own_nc (own_c8 hch4)] at q; exact q)
  refine gLoadA 73 X11 hx (H at_71) rfl rfl rfl ?_
  refine gLoadI 75 X11 hx (H at_73) rfl rfl ?_
  rcases hnn with rfl | rfl | rfl | rfl | rfl | rfl
  · refine gCallSH X11 hx hZ (y := mn3) hown e11 (by rw [hml]; rfl) hS hk11 hEL H11 (ow hw 6 rfl) (ow hw 7 rfl) (ow hw 4 rfl) (ow hw 8 rfl) (by decide) sl0 (argsL := [(.ref b1), (.int (0 : Int32))]) (st := []) (c_mk_0 l Z a0 hw b1 _ ch0 ch1 ch2 ch3 ch4 h11 hEL f11_0 V11 hch0 hch1 hch2 hch3 hch4) (lenOf pd_22 rfl) (H at_75) (pc' := 78) rfl rfl (by decide) (W := 0) (Nat.le_of_eq rfl) (by decide) (by decide) (by decide) ?_
    intro T12 v12 L12 X12 hS hZ hown C12 H12 hQ12
    have s12_0 := C12.safe V11.lt s11_0
    obtain ⟨r12, t12, ct12, rfl, Nq12, Kq12, Eq12, Cq12, Vq12, Aq12⟩ := hQ12
    have N12 := Fr.app N11 (fun y hy => Nat.le_trans zs11 (Nq12 y hy))
    have f12_0 := own_cpt_keep f11_0 Kq12 ns0
    have f12_1 := own_sio_keep f11_1 Kq12 ns0
    have f12_2 := V11.keep Kq12 nin0
    have zs12 := Nat.le_trans zs11 Kq12.1
    refine gStoreA 80 X12 hx (H at_78) (l' := #[.val (.int p0), .val (.int p1), .val (.int p2), .val (.int p3), .val (.int p4), .val (.int p5), .val (.int (0 : Int32)), .val (.ref b1), .val (.ref r12), .unset, .unset, .unset]) rfl rfl rfl ?_
    refine gIconst 81 X12 hx (v := (-1 : Int32)) (H at_80) rfl rfl ?_
    refine gStoreI 83 X12 hx (H at_81) (l' := #[.val (.int p0), .val (.int p1), .val (.int p2), .val (.int p3), .val (.int p4), .val (.int p5), .val (.int (0 : Int32)), .val (.ref b1), .val (.ref r12), .val (.int (-1 : Int32)), .unset, .unset]) rfl rfl ?_
    refine gLoadI 85 X12 hx (H at_83) rfl rfl ?_
    refine gIfLe X12 hx (H at_85) (pc' := 100) (by decide) (by decide) (pn := 88) rfl (fun (c85 : (0 : Int) ≤ (0 : Int)) => ?_) (fun (c85 : (0 : Int) < (0 : Int)) => ?_)
    · refine gLoadI 102 X12 hx (H at_100) rfl rfl ?_
      refine gIconst 103 X12 hx (v := (1 : Int32)) (H at_102) rfl rfl ?_
      refine gIcmpLe X12 hx (H at_103) (pc' := 118) (by decide) (by decide) (pn := 106) rfl (fun (c103 : (0 : Int) ≤ (1 : Int)) => ?_) (fun (c103 : (1 : Int) < (0 : Int)) => ?_)
      · refine gLoadI 120 X12 hx (H at_118) rfl rfl ?_
        refine gIconst 121 X12 hx (v := (2 : Int32)) (H at_120) rfl rfl ?_
        refine gIcmpLe X12 hx (H at_121) (pc' := 136) (by decide) (by decide) (pn := 124) rfl (fun (c121 : (0 : Int) ≤ (2 : Int)) => ?_) (fun (c121 : (2 : Int) < (0 : Int)) => ?_)
        · refine gLoadI 138 X12 hx (H at_136) rfl rfl ?_
          refine gIconst 139 X12 hx (v := (3 : Int32)) (H at_138) rfl rfl ?_
          refine gIcmpLe X12 hx (H at_139) (pc' := 154) (by decide) (by decide) (pn := 142) rfl (fun (c139 : (0 : Int) ≤ (3 : Int)) => ?_) (fun (c139 : (3 : Int) < (0 : Int)) => ?_)
          · refine gLoadI 156 X12 hx (H at_154) rfl rfl ?_
            refine gIconst 157 X12 hx (v := (4 : Int32)) (H at_156) rfl rfl ?_
            refine gIcmpLe X12 hx (H at_157) (pc' := 172) (by decide) (by decide) (pn := 160) rfl (fun (c157 : (0 : Int) ≤ (4 : Int)) => ?_) (fun (c157 : (4 : Int) < (0 : Int)) => ?_)
            · refine gLoadI 174 X12 hx (H at_172) rfl rfl ?_
              refine gIfLe X12 hx (H at_174) (pc' := 187) (by decide) (by decide) (pn := 177) rfl (fun (c174 : (-1 : Int) ≤ (0 : Int)) => ?_) (fun (c174 : (0 : Int) < (-1 : Int)) => ?_)
              · refine gNull 188 X12 hx (H at_187) rfl ?_
                refine gStoreA 190 X12 hx (H at_188) (l' := #[.val (.int p0), .val (.int p1), .val (.int p2), .val (.int p3), .val (.int p4), .val (.int p5), .val (.int (0 : Int32)), .val (.ref b1), .val (.ref r12), .val (.int (-1 : Int32)), .val .null, .unset]) rfl rfl rfl ?_
                refine gLoadA 192 X12 hx (H at_190) rfl rfl rfl ?_
                refine gCallSJ X12 hx hZ (y := mn0) hown rfl (by rw [hml]; rfl) (ow hw 30 rfl) (ow hw 31 rfl) (ow hw 32 rfl) (ow hw 33 rfl) (by decide) (argsL := [(.ref r12)]) (st := []) (c_nm_0_m l Z a0 hw r12 t12 ct12  T12.heap f12_1 f12_0 Eq12 Cq12 Vq12 Aq12  ) (lenOf pd_14 rfl) (H at_192) (pc' := 195) rfl rfl rfl rfl (by decide) (W := 0) (Nat.le_of_eq rfl) (by decide) (by decide) (by decide) ?_
                intro T13 X13 e13
                refine gStoreA 197 X13 hx (H at_195) (l' := #[.val (.int p0), .val (.int p1), .val (.int p2), .val (.int p3), .val (.int p4), .val (.int p5), .val (.int (0 : Int32)), .val (.ref b1), .val (.ref r12), .val (.int (-1 : Int32)), .val .null, .val .null]) rfl rfl rfl ?_
                refine gLoadA 199 X13 hx (H at_197) rfl rfl rfl ?_
                refine gIfnonnullZ X13 hx (H at_199) (pc' := 202) rfl ?_
                refine gLoadA 204 X13 hx (H at_202) rfl rfl rfl ?_
                refine gIfnonnullZ X13 hx (H at_204) (pc' := 207) rfl ?_
                refine gIconst 208 X13 hx (v := (1 : Int32)) (H at_207) rfl rfl ?_
                refine gGoto X13 hx (H at_208) (pc' := 212) (by decide) (by decide) ?_
                exact gRetHN X13 hx hlk hret (by simp) (H at_212) (w := (1 : Int32)) rfl e13 hS (Nat.le_refl _) hZ hEL H12 (by decide) (by decide) (⟨rfl, N12⟩)
              · exact absurd c174 (by decide)
            · exact absurd c157 (by decide)
          · exact absurd c139 (by decide)
        · exact absurd c121 (by decide)
      · exact absurd c103 (by decide)
    · exact absurd c85 (by decide)
  · refine gCallS X11 hx hZ (y := mn3) hown e11 (by rw [hml]; rfl) (ow hw 6 rfl) (ow hw 7 rfl) (ow hw 4 rfl) (ow hw 8 rfl) (by decide) (argsL := [(.ref b1), (.int (1 : Int32))]) (st := []) (c_mk_1 l Z a0 hw b1 _ ch0 ch1 ch2 ch3 ch4 h11 f11_0 V11 hch0 hch1 hch2 hch3 hch4) (lenOf pd_22 rfl) (H at_75) (pc' := 78) rfl rfl (by decide) (W := 0) (Nat.le_of_eq rfl) (by decide) (by decide) (by decide) ?_
    intro T14 v14 L14 X14 hQ14
    obtain ⟨r14, t14, ct14, rfl, Nq14, Kq14, Eq14, Cq14, Vq14, Aq14⟩ := hQ14
    have N14 := Fr.app N11 (fun y hy => Nat.le_trans zs11 (Nq14 y hy))
    have H14 := H11.trans (CHr.keep Kq14 sf0 H11.1)
    have hk14 := Nat.le_trans hk11 Kq14.1
    have s14_0 := Safe.keep Kq14 sf0 H11.1 s11_0
    have f14_0 := own_cpt_keep f11_0 Kq14 ns0
    have f14_1 := own_sio_keep f11_1 Kq14 ns0
    have f14_2 := V11.keep Kq14 nin0
    have zs14 := Nat.le_trans zs11 Kq14.1
    refine gStoreA 80 X14 hx (H at_78) (l' := #[.val (.int p0), .val (.int p1), .val (.int p2), .val (.int p3), .val (.int p4), .val (.int p5), .val (.int (1 : Int32)), .val (.ref b1), .val (.ref r14), .unset, .unset, .unset]) rfl rfl rfl ?_
    by_cases d0 : ch0.toInt = 47
    · refine gIconst 81 X14 hx (v := (-1 : Int32)) (H at_80) rfl rfl ?_
      refine gStoreI 83 X14 hx (H at_81) (l' := #[.val (.int p0), .val (.int p1), .val (.int p2), .val (.int p3), .val (.int p4), .val (.int p5), .val (.int (1 : Int32)), .val (.ref b1), .val (.ref r14), .val (.int (-1 : Int32)), .unset, .unset]) rfl rfl ?_
      refine gLoadI 85 X14 hx (H at_83) rfl rfl ?_
      refine gIfLe X14 hx (H at_85) (pc' := 100) (by decide) (by decide) (pn := 88) rfl (fun (c85 : (1 : Int) ≤ (0 : Int)) => ?_) (fun (c85 : (0 : Int) < (1 : Int)) => ?_)
      · exact absurd c85 (by decide)
      · refine gLoadA 90 X14 hx (H at_88) rfl rfl rfl ?_
        refine gIconst 91 X14 hx (v := (0 : Int32)) (H at_90) rfl rfl ?_
        refine gCaload X14 hx hZ rfl f14_2 (j := (0 : Int32)) (v := (.int ch0)) (by decide) (by decide) rfl (H at_91) (pc' := 92) rfl ?_
        refine gBipush 94 X14 hx (v := (47 : Int32)) (H at_92) rfl rfl ?_
        refine gIcmpNeT X14 hx (H at_94) (pc' := 100) (by decide) (by decide) (pn := 97) rfl (fun (c94 : ¬ ch0.toInt = (47 : Int)) => ?_) (fun (c94 : ch0.toInt = (47 : Int)) => ?_)
        · exact absurd d0 c94
        · refine gIconst 98 X14 hx (v := (0 : Int32)) (H at_97) rfl rfl ?_
          refine gStoreI 100 X14 hx (H at_98) (l' := #[.val (.int p0), .val (.int p1), .val (.int p2), .val (.int p3), .val (.int p4), .val (.int p5), .val (.int (1 : Int32)), .val (.ref b1), .val (.ref r14), .val (.int (0 : Int32)), .unset, .unset]) rfl rfl ?_
          refine gLoadI 102 X14 hx (H at_100) rfl rfl ?_
          refine gIconst 103 X14 hx (v := (1 : Int32)) (H at_102) rfl rfl ?_
          refine gIcmpLe X14 hx (H at_103) (pc' := 118) (by decide) (by decide) (pn := 106) rfl (fun (c103 : (1 : Int) ≤ (1 : Int)) => ?_) (fun (c103 : (1 : Int) < (1 : Int)) => ?_)
          · refine gLoadI 120 X14 hx (H at_118) rfl rfl ?_
            refine gIconst 121 X14 hx (v := (2 : Int32)) (H at_120) rfl rfl ?_
            refine gIcmpLe X14 hx (H at_121) (pc' := 136) (by decide) (by decide) (pn := 124) rfl (fun (c121 : (1 : Int) ≤ (2 : Int)) => ?_) (fun (c121 : (2 : Int) < (1 : Int)) => ?_)
            · refine gLoadI 138 X14 hx (H at_136) rfl rfl ?_
              refine gIconst 139 X14 hx (v := (3 : Int32)) (H at_138) rfl rfl ?_
              refine gIcmpLe X14 hx (H at_139) (pc' := 154) (by decide) (by decide) (pn := 142) rfl (fun (c139 : (1 : Int) ≤ (3 : Int)) => ?_) (fun (c139 : (3 : Int) < (1 : Int)) => ?_)
              · refine gLoadI 156 X14 hx (H at_154) rfl rfl ?_
                refine gIconst 157 X14 hx (v := (4 : Int32)) (H at_156) rfl rfl ?_
                refine gIcmpLe X14 hx (H at_157) (pc' := 172) (by decide) (by decide) (pn := 160) rfl (fun (c157 : (1 : Int) ≤ (4 : Int)) => ?_) (fun (c157 : (4 : Int) < (1 : Int)) => ?_)
                · refine gLoadI 174 X14 hx (H at_172) rfl rfl ?_
                  refine gIfLe X14 hx (H at_174) (pc' := 187) (by decide) (by decide) (pn := 177) rfl (fun (c174 : (0 : Int) ≤ (0 : Int)) => ?_) (fun (c174 : (0 : Int) < (0 : Int)) => ?_)
                  · refine gNull 188 X14 hx (H at_187) rfl ?_
                    refine gStoreA 190 X14 hx (H at_188) (l' := #[.val (.int p0), .val (.int p1), .val (.int p2), .val (.int p3), .val (.int p4), .val (.int p5), .val (.int (1 : Int32)), .val (.ref b1), .val (.ref r14), .val (.int (0 : Int32)), .val .null, .unset]) rfl rfl rfl ?_
                    refine gLoadA 192 X14 hx (H at_190) rfl rfl rfl ?_
                    refine gCallSJ X14 hx hZ (y := mn0) hown rfl (by rw [hml]; rfl) (ow hw 30 rfl) (ow hw 31 rfl) (ow hw 32 rfl) (ow hw 33 rfl) (by decide) (argsL := [(.ref r14)]) (st := []) (c_nm_1_0 l Z a0 hw r14 t14 ct14 ch0 T14.heap f14_1 f14_0 Eq14 Cq14 Vq14 Aq14 hch0  d0) (lenOf pd_14 rfl) (H at_192) (pc' := 195) rfl rfl rfl rfl (by decide) (W := 0) (Nat.le_of_eq rfl) (by decide) (by decide) (by decide) ?_
                    intro T15 X15 e15
                    refine gStoreA 197 X15 hx (H at_195) (l' := #[.val (.int p0), .val (.int p1), .val (.int p2), .val (.int p3), .val (.int p4), .val (.int p5), .val (.int (1 : Int32)), .val (.ref b1), .val (.ref r14), .val (.int (0 : Int32)), .val .null, .val .null]) rfl rfl rfl ?_
                    refine gLoadA 199 X15 hx (H at_197) rfl rfl rfl ?_
                    refine gIfnonnullZ X15 hx (H at_199) (pc' := 202) rfl ?_
                    refine gLoadA 204 X15 hx (H at_202) rfl rfl rfl ?_
                    refine gIfnonnullZ X15 hx (H at_204) (pc' := 207) rfl ?_
                    refine gIconst 208 X15 hx (v := (1 : Int32)) (H at_207) rfl rfl ?_
                    refine gGoto X15 hx (H at_208) (pc' := 212) (by decide) (by decide) ?_
                    exact gRetHN X15 hx hlk hret (by simp) (H at_212) (w := (1 : Int32)) rfl e15 hS hk14 hZ hEL H14 (by decide) (by decide) (⟨rfl, N14⟩)
                  · exact absurd c174 (by decide)
                · exact absurd c157 (by decide)
              · exact absurd c139 (by decide)
            · exact absurd c121 (by decide)
          · exact absurd c103 (by decide)
    · refine gIconst 81 X14 hx (v := (-1 : Int32)) (H at_80) rfl rfl ?_
      refine gStoreI 83 X14 hx (H at_81) (l' := #[.val (.int p0), .val (.int p1), .val (.int p2), .val (.int p3), .val (.int p4), .val (.int p5), .val (.int (1 : Int32)), .val (.ref b1), .val (.ref r14), .val (.int (-1 : Int32)), .unset, .unset]) rfl rfl ?_
      refine gLoadI 85 X14 hx (H at_83) rfl rfl ?_
      refine gIfLe X14 hx (H at_85) (pc' := 100) (by decide) (by decide) (pn := 88) rfl (fun (c85 : (1 : Int) ≤ (0 : Int)) => ?_) (fun (c85 : (0 : Int) < (1 : Int)) => ?_)
      · exact absurd c85 (by decide)
      · refine gLoadA 90 X14 hx (H at_88) rfl rfl rfl ?_
        refine gIconst 91 X14 hx (v := (0 : Int32)) (H at_90) rfl rfl ?_
        refine gCaload X14 hx hZ rfl f14_2 (j := (0 : Int32)) (v := (.int ch0)) (by decide) (by decide) rfl (H at_91) (pc' := 92) rfl ?_
        refine gBipush 94 X14 hx (v := (47 : Int32)) (H at_92) rfl rfl ?_
        refine gIcmpNeT X14 hx (H at_94) (pc' := 100) (by decide) (by decide) (pn := 97) rfl (fun (c94 : ¬ ch0.toInt = (47 : Int)) => ?_) (fun (c94 : ch0.toInt = (47 : Int)) => ?_)
        · refine gLoadI 102 X14 hx (H at_100) rfl rfl ?_
          refine gIconst 103 X14 hx (v := (1 : Int32)) (H at_102) rfl rfl ?_
          refine gIcmpLe X14 hx (H at_103) (pc' := 118) (by decide) (by decide) (pn := 106) rfl (fun (c103 : (1 : Int) ≤ (1 : Int)) => ?_) (fun (c103 : (1 : Int) < (1 : Int)) => ?_)
          · refine gLoadI 120 X14 hx (H at_118) rfl rfl ?_
            refine gIconst 121 X14 hx (v := (2 : Int32)) (H at_120) rfl rfl ?_
            refine gIcmpLe X14 hx (H at_121) (pc' := 136) (by decide) (by decide) (pn := 124) rfl (fun (c121 : (1 : Int) ≤ (2 : Int)) => ?_) (fun (c121 : (2 : Int) < (1 : Int)) => ?_)
            · refine gLoadI 138 X14 hx (H at_136) rfl rfl ?_
              refine gIconst 139 X14 hx (v := (3 : Int32)) (H at_138) rfl rfl ?_
              refine gIcmpLe X14 hx (H at_139) (pc' := 154) (by decide) (by decide) (pn := 142) rfl (fun (c139 : (1 : Int) ≤ (3 : Int)) => ?_) (fun (c139 : (3 : Int) < (1 : Int)) => ?_)
              · refine gLoadI 156 X14 hx (H at_154) rfl rfl ?_
                refine gIconst 157 X14 hx (v := (4 : Int32)) (H at_156) rfl rfl ?_
                refine gIcmpLe X14 hx (H at_157) (pc' := 172) (by decide) (by decide) (pn := 160) rfl (fun (c157 : (1 : Int) ≤ (4 : Int)) => ?_) (fun (c157 : (4 : Int) < (1 : Int)) => ?_)
                · refine gLoadI 174 X14 hx (H at_172) rfl rfl ?_
                  refine gIfLe X14 hx (H at_174) (pc' := 187) (by decide) (by decide) (pn := 177) rfl (fun (c174 : (-1 : Int) ≤ (0 : Int)) => ?_) (fun (c174 : (0 : Int) < (-1 : Int)) => ?_)
                  · refine gNull 188 X14 hx (H at_187) rfl ?_
                    refine gStoreA 190 X14 hx (H at_188) (l' := #[.val (.int p0), .val (.int p1), .val (.int p2), .val (.int p3), .val (.int p4), .val (.int p5), .val (.int (1 : Int32)), .val (.ref b1), .val (.ref r14), .val (.int (-1 : Int32)), .val .null, .unset]) rfl rfl rfl ?_
                    refine gLoadA 192 X14 hx (H at_190) rfl rfl rfl ?_
                    refine gCallSJ X14 hx hZ (y := mn0) hown rfl (by rw [hml]; rfl) (ow hw 30 rfl) (ow hw 31 rfl) (ow hw 32 rfl) (ow hw 33 rfl) (by decide) (argsL := [(.ref r14)]) (st := []) (c_nm_1_m l Z a0 hw r14 t14 ct14 ch0 T14.heap f14_1 f14_0 Eq14 Cq14 Vq14 Aq14 hch0 d0) (lenOf pd_14 rfl) (H at_192) (pc' := 195) rfl rfl rfl rfl (by decide) (W := 0) (Nat.le_of_eq rfl) (by decide) (by decide) (by decide) ?_
                    intro T16 X16 e16
                    refine gStoreA 197 X16 hx (H at_195) (l' := #[.val (.int p0), .val (.int p1), .val (.int p2), .val (.int p3), .val (.int p4), .val (.int p5), .val (.int (1 : Int32)), .val (.ref b1), .val (.ref r14), .val (.int (-1 : Int32)), .val .null, .val .null]) rfl rfl rfl ?_
                    refine gLoadA 199 X16 hx (H at_197) rfl rfl rfl ?_
                    refine gIfnonnullZ X16 hx (H at_199) (pc' := 202) rfl ?_
                    refine gLoadA 204 X16 hx (H at_202) rfl rfl rfl ?_
                    refine gIfnonnullZ X16 hx (H at_204) (pc' := 207) rfl ?_
                    refine gIconst 208 X16 hx (v := (1 : Int32)) (H at_207) rfl rfl ?_
                    refine gGoto X16 hx (H at_208) (pc' := 212) (by decide) (by decide) ?_
                    exact gRetHN X16 hx hlk hret (by simp) (H at_212) (w := (1 : Int32)) rfl e16 hS hk14 hZ hEL H14 (by decide) (by decide) (⟨rfl, N14⟩)
                  · exact absurd c174 (by decide)
                · exact absurd c157 (by decide)
              · exact absurd c139 (by decide)
            · exact absurd c121 (by decide)
          · exact absurd c103 (by decide)
        · exact absurd c94 d0
  · refine gCallS X11 hx hZ (y := mn3) hown e11 (by rw [hml]; rfl) (ow hw 6 rfl) (ow hw 7 rfl) (ow hw 4 rfl) (ow hw 8 rfl) (by decide) (argsL := [(.ref b1), (.int (2 : Int32))]) (st := []) (c_mk_2 l Z a0 hw b1 _ ch0 ch1 ch2 ch3 ch4 h11 f11_0 V11 hch0 hch1 hch2 hch3 hch4) (lenOf pd_22 rfl) (H at_75) (pc' := 78) rfl rfl (by decide) (W := 0) (Nat.le_of_eq rfl) (by decide) (by decide) (by decide) ?_
    intro T17 v17 L17 X17 hQ17
    obtain ⟨r17, t17, ct17, rfl, Nq17, Kq17, Eq17, Cq17, Vq17, Aq17⟩ := hQ17
    have N17 := Fr.app N11 (fun y hy => Nat.le_trans zs11 (Nq17 y hy))
    have H17 := H11.trans (CHr.keep Kq17 sf0 H11.1)
    have hk17 := Nat.le_trans hk11 Kq17.1
    have s17_0 := Safe.keep Kq17 sf0 H11.1 s11_0
    have f17_0 := own_cpt_keep f11_0 Kq17 ns0
    have f17_1 := own_sio_keep f11_1 Kq17 ns0
    have f17_2 := V11.keep Kq17 nin0
    have zs17 := Nat.le_trans zs11 Kq17.1
    refine gStoreA 80 X17 hx (H at_78) (l' := #[.val (.int p0), .val (.int p1), .val (.int p2), .val (.int p3), .val (.int p4), .val (.int p5), .val (.int (2 : Int32)), .val (.ref b1), .val (.ref r17), .unset, .unset, .unset]) rfl rfl rfl ?_
    by_cases d1 : ch1.toInt = 47
    · refine gIconst 81 X17 hx (v := (-1 : Int32)) (H at_80) rfl rfl ?_
      refine gStoreI 83 X17 hx (H at_81) (l' := #[.val (.int p0), .val (.int p1), .val (.int p2), .val (.int p3), .val (.int p4), .val (.int p5), .val (.int (2 : Int32)), .val (.ref b1), .val (.ref r17), .val (.int (-1 : Int32)), .unset, .unset]) rfl rfl ?_
      have J : ∀ pv : Int32, Goes p e below (FinH Z [("java/lang/String", 7)] s room_1.cells room_1.slots (Law1 h0)) T17 (mkF m 100 #[.val (.int p0), .val (.int p1), .val (.int p2), .val (.int p3), .val (.int p4), .val (.int p5), .val (.int (2 : Int32)), .val (.ref b1), .val (.ref r17), .val (.int pv), .unset, .unset] []) := by
        intro pv
        refine gLoadI 102 X17 hx (H at_100) rfl rfl ?_
        refine gIconst 103 X17 hx (v := (1 : Int32)) (H at_102) rfl rfl ?_
        refine gIcmpLe X17 hx (H at_103) (pc' := 118) (by decide) (by decide) (pn := 106) rfl (fun (c103 : (2 : Int) ≤ (1 : Int)) => ?_) (fun (c103 : (1 : Int) < (2 : Int)) => ?_)
        · exact absurd c103 (by decide)
        · refine gLoadA 108 X17 hx (H at_106) rfl rfl rfl ?_
          refine gIconst 109 X17 hx (v := (1 : Int32)) (H at_108) rfl rfl ?_
          refine gCaload X17 hx hZ rfl f17_2 (j := (1 : Int32)) (v := (.int ch1)) (by decide) (by decide) rfl (H at_109) (pc' := 110) rfl ?_
          refine gBipush 112 X17 hx (v := (47 : Int32)) (H at_110) rfl rfl ?_
          refine gIcmpNeT X17 hx (H at_112) (pc' := 118) (by decide) (by decide) (pn := 115) rfl (fun (c112 : ¬ ch1.toInt = (47 : Int)) => ?_) (fun (c112 : ch1.toInt = (47 : Int)) => ?_)
          · exact absurd d1 c112
          · refine gIconst 116 X17 hx (v := (1 : Int32)) (H at_115) rfl rfl ?_
            refine gStoreI 118 X17 hx (H at_116) (l' := #[.val (.int p0), .val (.int p1), .val (.int p2), .val (.int p3), .val (.int p4), .val (.int p5), .val (.int (2 : Int32)), .val (.ref b1), .val (.ref r17), .val (.int (1 : Int32)), .unset, .unset]) rfl rfl ?_
            refine gLoadI 120 X17 hx (H at_118) rfl rfl ?_
            refine gIconst 121 X17 hx (v := (2 : Int32)) (H at_120) rfl rfl ?_
            refine gIcmpLe X17 hx (H at_121) (pc' := 136) (by decide) (by decide) (pn := 124) rfl (fun (c121 : (2 : Int) ≤ (2 : Int)) => ?_) (fun (c121 : (2 : Int) < (2 : Int)) => ?_)
            · refine gLoadI 138 X17 hx (H at_136) rfl rfl ?_
              refine gIconst 139 X17 hx (v := (3 : Int32)) (H at_138) rfl rfl ?_
              refine gIcmpLe X17 hx (H at_139) (pc' := 154) (by decide) (by decide) (pn := 142) rfl (fun (c139 : (2 : Int) ≤ (3 : Int)) => ?_) (fun (c139 : (3 : Int) < (2 : Int)) => ?_)
              · refine gLoadI 156 X17 hx (H at_154) rfl rfl ?_
                refine gIconst 157 X17 hx (v := (4 : Int32)) (H at_156) rfl rfl ?_
                refine gIcmpLe X17 hx (H at_157) (pc' := 172) (by decide) (by decide) (pn := 160) rfl (fun (c157 : (2 : Int) ≤ (4 : Int)) => ?_) (fun (c157 : (4 : Int) < (2 : Int)) => ?_)
                · refine gLoadI 174 X17 hx (H at_172) rfl rfl ?_
                  refine gIfLe X17 hx (H at_174) (pc' := 187) (by decide) (by decide) (pn := 177) rfl (fun (c174 : (1 : Int) ≤ (0 : Int)) => ?_) (fun (c174 : (0 : Int) < (1 : Int)) => ?_)
                  · exact absurd c174 (by decide)
                  · refine gLoadA 179 X17 hx (H at_177) rfl rfl rfl ?_
                    refine gLoadI 181 X17 hx (H at_179) rfl rfl ?_
                    refine gCallS X17 hx hZ (y := mn3) hown rfl (by rw [hml]; rfl) (ow hw 6 rfl) (ow hw 7 rfl) (ow hw 4 rfl) (ow hw 8 rfl) (by decide) (argsL := [(.ref b1), (.int (1 : Int32))]) (st := []) (c_mk_1 l Z a0 hw b1 _ ch0 ch1 ch2 ch3 ch4 T17.heap f17_0 f17_2 hch0 hch1 hch2 hch3 hch4) (lenOf pd_22 rfl) (H at_181) (pc' := 184) rfl rfl (by decide) (W := 0) (Nat.le_of_eq rfl) (by decide) (by decide) (by decide) ?_
                    intro T18 v18 L18 X18 hQ18
                    obtain ⟨r18, t18, ct18, rfl, Nq18, Kq18, Eq18, Cq18, Vq18, Aq18⟩ := hQ18
                    have N18 := Fr.app N17 (fun y hy => Nat.le_trans zs17 (Nq18 y hy))
                    have H18 := H17.trans (CHr.keep Kq18 sf0 H17.1)
                    have hk18 := Nat.le_trans hk17 Kq18.1
                    have s18_0 := Safe.keep Kq18 sf0 H17.1 s17_0
                    have f18_0 := own_cpt_keep f17_0 Kq18 ns0
                    have f18_1 := own_sio_keep f17_1 Kq18 ns0
                    have f18_2 := f17_2.keep Kq18 nin0
                    have f18_3 := Eq17.keep Kq18
                    have f18_4 := Cq17.keep Kq18 nin0
                    have f18_5 := Vq17.keep Kq18 nin0
                    have f18_6 := Aq17.keep Kq18 nin0
                    have zs18 := Nat.le_trans zs17 Kq18.1
                    refine gGoto X18 hx (H at_184) (pc' := 188) (by decide) (by decide) ?_
                    refine gStoreA 190 X18 hx (H at_188) (l' := #[.val (.int p0), .val (.int p1), .val (.int p2), .val (.int p3), .val (.int p4), .val (.int p5), .val (.int (2 : Int32)), .val (.ref b1), .val (.ref r17), .val (.int (1 : Int32)), .val (.ref r18), .unset]) rfl rfl rfl ?_
                    refine gLoadA 192 X18 hx (H at_190) rfl rfl rfl ?_
                    refine gCallS X18 hx hZ (y := mn0) hown rfl (by rw [hml]; rfl) (ow hw 30 rfl) (ow hw 31 rfl) (ow hw 32 rfl) (ow hw 33 rfl) (by decide) (argsL := [(.ref r17)]) (st := []) (c_nm_2_1 l Z a0 hw r17 t17 ct17 ch0 ch1 T18.heap f18_1 f18_0 f18_3 f18_4 f18_5 f18_6 hch0 hch1  d1) (lenOf pd_14 rfl) (H at_192) (pc' := 195) rfl rfl (by decide) (W := 0) (Nat.le_of_eq rfl) (by decide) (by decide) (by decide) ?_
                    intro T19 v19 L19 X19 hQ19
                    obtain ⟨r19, t19, ct19, rfl, Nq19, Kq19, Eq19, Cq19, Vq19, Aq19⟩ := hQ19
                    have N19 := Fr.app N18 (fun y hy => Nat.le_trans zs18 (Nq19 y hy))
                    have H19 := H18.trans (CHr.keep Kq19 sf0 H18.1)
                    have hk19 := Nat.le_trans hk18 Kq19.1
                    have s19_0 := Safe.keep Kq19 sf0 H18.1 s18_0
                    have f19_0 := own_cpt_keep f18_0 Kq19 ns0
                    have f19_1 := own_sio_keep f18_1 Kq19 ns0
                    have f19_2 := f18_2.keep Kq19 nin0
                    have f19_3 := f18_3.keep Kq19
                    have f19_4 := f18_4.keep Kq19 nin0
                    have f19_5 := f18_5.keep Kq19 nin0
                    have f19_6 := f18_6.keep Kq19 nin0
                    have f19_7 := Eq18.keep Kq19
                    have f19_8 := Cq18.keep Kq19 nin0
                    have f19_9 := Vq18.keep Kq19 nin0
                    have f19_10 := Aq18.keep Kq19 nin0
                    have zs19 := Nat.le_trans zs18 Kq19.1
                    refine gStoreA 197 X19 hx (H at_195) (l' := #[.val (.int p0), .val (.int p1), .val (.int p2), .val (.int p3), .val (.int p4), .val (.int p5), .val (.int (2 : Int32)), .val (.ref b1), .val (.ref r17), .val (.int (1 : Int32)), .val (.ref r18), .val (.ref r19)]) rfl rfl rfl ?_
                    refine gLoadA 199 X19 hx (H at_197) rfl rfl rfl ?_
                    refine gIfnonnullR X19 hx (H at_199) (pc' := 213) (by decide) (by decide) ?_
                    refine gLoadA 215 X19 hx (H at_213) rfl rfl rfl ?_
                    refine gIfnullR X19 hx (H at_215) (pc' := 218) rfl ?_
                    refine gLoadA 220 X19 hx (H at_218) rfl rfl rfl ?_
                    refine gLoadA 222 X19 hx (H at_220) rfl rfl rfl ?_
                    refine gCallVJ X19 hx hZ (y := mn11) hown rfl (by rw [hml]; rfl) Eq19 (ow hw 116 rfl) (ow hw 117 rfl) (ow hw 119 rfl) (ow hw 118 rfl) (ow hw 11 rfl) (ow hw 120 rfl) (by decide) (argsL := [(.ref r18)]) (st := []) (c_eqs_1 l Z a0 hw r19 r18 t19 t18 ct19 ct18 ch0 _ f19_0 Eq19 Cq19 Vq19 Aq19 f19_7 f19_8 f19_9 f19_10) (lenOf pd_12 rfl) (H at_222) (pc' := 225) rfl rfl rfl rfl (by decide) (W := 0) (Nat.le_of_eq rfl) (by decide) (by decide) (by decide) ?_
                    intro T20 X20 e20
                    refine gIfEqT X20 hx (H at_225) (pc' := 232) (by decide) (by decide) (pn := 228) rfl (fun (c225 : (1 : Int) = (0 : Int)) => ?_) (fun (c225 : ¬ (1 : Int) = (0 : Int)) => ?_)
                    · exact absurd c225 (by decide)
                    · refine gIconst 229 X20 hx (v := (1 : Int32)) (H at_228) rfl rfl ?_
                      refine gGoto X20 hx (H at_229) (pc' := 233) (by decide) (by decide) ?_
                      exact gRetHN X20 hx hlk hret (by simp) (H at_233) (w := (1 : Int32)) rfl e20 hS hk19 hZ hEL H19 (by decide) (by decide) (⟨rfl, N19⟩)
                · exact absurd c157 (by decide)
              · exact absurd c139 (by decide)
            · exact absurd c121 (by decide)
      refine gLoadI 85 X17 hx (H at_83) rfl rfl ?_
      refine gIfLe X17 hx (H at_85) (pc' := 100) (by decide) (by decide) (pn := 88) rfl (fun (c85 : (2 : Int) ≤ (0 : Int)) => ?_) (fun (c85 : (0 : Int) < (2 : Int)) => ?_)
      · exact absurd c85 (by decide)
      · refine gLoadA 90 X17 hx (H at_88) rfl rfl rfl ?_
        refine gIconst 91 X17 hx (v := (0 : Int32)) (H at_90) rfl rfl ?_
        refine gCaload X17 hx hZ rfl f17_2 (j := (0 : Int32)) (v := (.int ch0)) (by decide) (by decide) rfl (H at_91) (pc' := 92) rfl ?_
        refine gBipush 94 X17 hx (v := (47 : Int32)) (H at_92) rfl rfl ?_
        refine gIcmpNeT X17 hx (H at_94) (pc' := 100) (by decide) (by decide) (pn := 97) rfl (fun (c94 : ¬ ch0.toInt = (47 : Int)) => ?_) (fun (c94 : ch0.toInt = (47 : Int)) => ?_)
        · exact J _
        · refine gIconst 98 X17 hx (v := (0 : Int32)) (H at_97) rfl rfl ?_
          refine gStoreI 100 X17 hx (H at_98) (l' := #[.val (.int p0), .val (.int p1), .val (.int p2), .val (.int p3), .val (.int p4), .val (.int p5), .val (.int (2 : Int32)), .val (.ref b1), .val (.ref r17), .val (.int (0 : Int32)), .unset, .unset]) rfl rfl ?_
          exact J _
    · by_cases d0 : ch0.toInt = 47
      · refine gIconst 81 X17 hx (v := (-1 : Int32)) (H at_80) rfl rfl ?_
        refine gStoreI 83 X17 hx (H at_81) (l' := #[.val (.int p0), .val (.int p1), .val (.int p2), .val (.int p3), .val (.int p4), .val (.int p5), .val (.int (2 : Int32)), .val (.ref b1), .val (.ref r17), .val (.int (-1 : Int32)), .unset, .unset]) rfl rfl ?_
        refine gLoadI 85 X17 hx (H at_83) rfl rfl ?_
        refine gIfLe X17 hx (H at_85) (pc' := 100) (by decide) (by decide) (pn := 88) rfl (fun (c85 : (2 : Int) ≤ (0 : Int)) => ?_) (fun (c85 : (0 : Int) < (2 : Int)) => ?_)
        · exact absurd c85 (by decide)
        · refine gLoadA 90 X17 hx (H at_88) rfl rfl rfl ?_
          refine gIconst 91 X17 hx (v := (0 : Int32)) (H at_90) rfl rfl ?_
          refine gCaload X17 hx hZ rfl f17_2 (j := (0 : Int32)) (v := (.int ch0)) (by decide) (by decide) rfl (H at_91) (pc' := 92) rfl ?_
          refine gBipush 94 X17 hx (v := (47 : Int32)) (H at_92) rfl rfl ?_
          refine gIcmpNeT X17 hx (H at_94) (pc' := 100) (by decide) (by decide) (pn := 97) rfl (fun (c94 : ¬ ch0.toInt = (47 : Int)) => ?_) (fun (c94 : ch0.toInt = (47 : Int)) => ?_)
          · exact absurd d0 c94
          · refine gIconst 98 X17 hx (v := (0 : Int32)) (H at_97) rfl rfl ?_
            refine gStoreI 100 X17 hx (H at_98) (l' := #[.val (.int p0), .val (.int p1), .val (.int p2), .val (.int p3), .val (.int p4), .val (.int p5), .val (.int (2 : Int32)), .val (.ref b1), .val (.ref r17), .val (.int (0 : Int32)), .unset, .unset]) rfl rfl ?_
            refine gLoadI 102 X17 hx (H at_100) rfl rfl ?_
            refine gIconst 103 X17 hx (v := (1 : Int32)) (H at_102) rfl rfl ?_
            refine gIcmpLe X17 hx (H at_103) (pc' := 118) (by decide) (by decide) (pn := 106) rfl (fun (c103 : (2 : Int) ≤ (1 : Int)) => ?_) (fun (c103 : (1 : Int) < (2 : Int)) => ?_)
            · exact absurd c103 (by decide)
            · refine gLoadA 108 X17 hx (H at_106) rfl rfl rfl ?_
              refine gIconst 109 X17 hx (v := (1 : Int32)) (H at_108) rfl rfl ?_
              refine gCaload X17 hx hZ rfl f17_2 (j := (1 : Int32)) (v := (.int ch1)) (by decide) (by decide) rfl (H at_109) (pc' := 110) rfl ?_
              refine gBipush 112 X17 hx (v := (47 : Int32)) (H at_110) rfl rfl ?_
              refine gIcmpNeT X17 hx (H at_112) (pc' := 118) (by decide) (by decide) (pn := 115) rfl (fun (c112 : ¬ ch1.toInt = (47 : Int)) => ?_) (fun (c112 : ch1.toInt = (47 : Int)) => ?_)
              · refine gLoadI 120 X17 hx (H at_118) rfl rfl ?_
                refine gIconst 121 X17 hx (v := (2 : Int32)) (H at_120) rfl rfl ?_
                refine gIcmpLe X17 hx (H at_121) (pc' := 136) (by decide) (by decide) (pn := 124) rfl (fun (c121 : (2 : Int) ≤ (2 : Int)) => ?_) (fun (c121 : (2 : Int) < (2 : Int)) => ?_)
                · refine gLoadI 138 X17 hx (H at_136) rfl rfl ?_
                  refine gIconst 139 X17 hx (v := (3 : Int32)) (H at_138) rfl rfl ?_
                  refine gIcmpLe X17 hx (H at_139) (pc' := 154) (by decide) (by decide) (pn := 142) rfl (fun (c139 : (2 : Int) ≤ (3 : Int)) => ?_) (fun (c139 : (3 : Int) < (2 : Int)) => ?_)
                  · refine gLoadI 156 X17 hx (H at_154) rfl rfl ?_
                    refine gIconst 157 X17 hx (v := (4 : Int32)) (H at_156) rfl rfl ?_
                    refine gIcmpLe X17 hx (H at_157) (pc' := 172) (by decide) (by decide) (pn := 160) rfl (fun (c157 : (2 : Int) ≤ (4 : Int)) => ?_) (fun (c157 : (4 : Int) < (2 : Int)) => ?_)
                    · refine gLoadI 174 X17 hx (H at_172) rfl rfl ?_
                      refine gIfLe X17 hx (H at_174) (pc' := 187) (by decide) (by decide) (pn := 177) rfl (fun (c174 : (0 : Int) ≤ (0 : Int)) => ?_) (fun (c174 : (0 : Int) < (0 : Int)) => ?_)
                      · refine gNull 188 X17 hx (H at_187) rfl ?_
                        refine gStoreA 190 X17 hx (H at_188) (l' := #[.val (.int p0), .val (.int p1), .val (.int p2), .val (.int p3), .val (.int p4), .val (.int p5), .val (.int (2 : Int32)), .val (.ref b1), .val (.ref r17), .val (.int (0 : Int32)), .val .null, .unset]) rfl rfl rfl ?_
                        refine gLoadA 192 X17 hx (H at_190) rfl rfl rfl ?_
                        refine gCallSJ X17 hx hZ (y := mn0) hown rfl (by rw [hml]; rfl) (ow hw 30 rfl) (ow hw 31 rfl) (ow hw 32 rfl) (ow hw 33 rfl) (by decide) (argsL := [(.ref r17)]) (st := []) (c_nm_2_0 l Z a0 hw r17 t17 ct17 ch0 ch1 T17.heap f17_1 f17_0 Eq17 Cq17 Vq17 Aq17 hch0 hch1 d1 d0) (lenOf pd_14 rfl) (H at_192) (pc' := 195) rfl rfl rfl rfl (by decide) (W := 0) (Nat.le_of_eq rfl) (by decide) (by decide) (by decide) ?_
                        intro T21 X21 e21
                        refine gStoreA 197 X21 hx (H at_195) (l' := #[.val (.int p0), .val (.int p1), .val (.int p2), .val (.int p3), .val (.int p4), .val (.int p5), .val (.int (2 : Int32)), .val (.ref b1), .val (.ref r17), .val (.int (0 : Int32)), .val .null, .val .null]) rfl rfl rfl ?_
                        refine gLoadA 199 X21 hx (H at_197) rfl rfl rfl ?_
                        refine gIfnonnullZ X21 hx (H at_199) (pc' := 202) rfl ?_
                        refine gLoadA 204 X21 hx (H at_202) rfl rfl rfl ?_
                        refine gIfnonnullZ X21 hx (H at_204) (pc' := 207) rfl ?_
                        refine gIconst 208 X21 hx (v := (1 : Int32)) (H at_207) rfl rfl ?_
                        refine gGoto X21 hx (H at_208) (pc' := 212) (by decide) (by decide) ?_
                        exact gRetHN X21 hx hlk hret (by simp) (H at_212) (w := (1 : Int32)) rfl e21 hS hk17 hZ hEL H17 (by decide) (by decide) (⟨rfl, N17⟩)
                      · exact absurd c174 (by decide)
                    · exact absurd c157 (by decide)
                  · exact absurd c139 (by decide)
                · exact absurd c121 (by decide)
              · exact absurd c112 d1
      · refine gIconst 81 X17 hx (v := (-1 : Int32)) (H at_80) rfl rfl ?_
        refine gStoreI 83 X17 hx (H at_81) (l' := #[.val (.int p0), .val (.int p1), .val (.int p2), .val (.int p3), .val (.int p4), .val (.int p5), .val (.int (2 : Int32)), .val (.ref b1), .val (.ref r17), .val (.int (-1 : Int32)), .unset, .unset]) rfl rfl ?_
        refine gLoadI 85 X17 hx (H at_83) rfl rfl ?_
        refine gIfLe X17 hx (H at_85) (pc' := 100) (by decide) (by decide) (pn := 88) rfl (fun (c85 : (2 : Int) ≤ (0 : Int)) => ?_) (fun (c85 : (0 : Int) < (2 : Int)) => ?_)
        · exact absurd c85 (by decide)
        · refine gLoadA 90 X17 hx (H at_88) rfl rfl rfl ?_
          refine gIconst 91 X17 hx (v := (0 : Int32)) (H at_90) rfl rfl ?_
          refine gCaload X17 hx hZ rfl f17_2 (j := (0 : Int32)) (v := (.int ch0)) (by decide) (by decide) rfl (H at_91) (pc' := 92) rfl ?_
          refine gBipush 94 X17 hx (v := (47 : Int32)) (H at_92) rfl rfl ?_
          refine gIcmpNeT X17 hx (H at_94) (pc' := 100) (by decide) (by decide) (pn := 97) rfl (fun (c94 : ¬ ch0.toInt = (47 : Int)) => ?_) (fun (c94 : ch0.toInt = (47 : Int)) => ?_)
          · refine gLoadI 102 X17 hx (H at_100) rfl rfl ?_
            refine gIconst 103 X17 hx (v := (1 : Int32)) (H at_102) rfl rfl ?_
            refine gIcmpLe X17 hx (H at_103) (pc' := 118) (by decide) (by decide) (pn := 106) rfl (fun (c103 : (2 : Int) ≤ (1 : Int)) => ?_) (fun (c103 : (1 : Int) < (2 : Int)) => ?_)
            · exact absurd c103 (by decide)
            · refine gLoadA 108 X17 hx (H at_106) rfl rfl rfl ?_
              refine gIconst 109 X17 hx (v := (1 : Int32)) (H at_108) rfl rfl ?_
              refine gCaload X17 hx hZ rfl f17_2 (j := (1 : Int32)) (v := (.int ch1)) (by decide) (by decide) rfl (H at_109) (pc' := 110) rfl ?_
              refine gBipush 112 X17 hx (v := (47 : Int32)) (H at_110) rfl rfl ?_
              refine gIcmpNeT X17 hx (H at_112) (pc' := 118) (by decide) (by decide) (pn := 115) rfl (fun (c112 : ¬ ch1.toInt = (47 : Int)) => ?_) (fun (c112 : ch1.toInt = (47 : Int)) => ?_)
              · refine gLoadI 120 X17 hx (H at_118) rfl rfl ?_
                refine gIconst 121 X17 hx (v := (2 : Int32)) (H at_120) rfl rfl ?_
                refine gIcmpLe X17 hx (H at_121) (pc' := 136) (by decide) (by decide) (pn := 124) rfl (fun (c121 : (2 : Int) ≤ (2 : Int)) => ?_) (fun (c121 : (2 : Int) < (2 : Int)) => ?_)
                · refine gLoadI 138 X17 hx (H at_136) rfl rfl ?_
                  refine gIconst 139 X17 hx (v := (3 : Int32)) (H at_138) rfl rfl ?_
                  refine gIcmpLe X17 hx (H at_139) (pc' := 154) (by decide) (by decide) (pn := 142) rfl (fun (c139 : (2 : Int) ≤ (3 : Int)) => ?_) (fun (c139 : (3 : Int) < (2 : Int)) => ?_)
                  · refine gLoadI 156 X17 hx (H at_154) rfl rfl ?_
                    refine gIconst 157 X17 hx (v := (4 : Int32)) (H at_156) rfl rfl ?_
                    refine gIcmpLe X17 hx (H at_157) (pc' := 172) (by decide) (by decide) (pn := 160) rfl (fun (c157 : (2 : Int) ≤ (4 : Int)) => ?_) (fun (c157 : (4 : Int) < (2 : Int)) => ?_)
                    · refine gLoadI 174 X17 hx (H at_172) rfl rfl ?_
                      refine gIfLe X17 hx (H at_174) (pc' := 187) (by decide) (by decide) (pn := 177) rfl (fun (c174 : (-1 : Int) ≤ (0 : Int)) => ?_) (fun (c174 : (0 : Int) < (-1 : Int)) => ?_)
                      · refine gNull 188 X17 hx (H at_187) rfl ?_
                        refine gStoreA 190 X17 hx (H at_188) (l' := #[.val (.int p0), .val (.int p1), .val (.int p2), .val (.int p3), .val (.int p4), .val (.int p5), .val (.int (2 : Int32)), .val (.ref b1), .val (.ref r17), .val (.int (-1 : Int32)), .val .null, .unset]) rfl rfl rfl ?_
                        refine gLoadA 192 X17 hx (H at_190) rfl rfl rfl ?_
                        refine gCallSJ X17 hx hZ (y := mn0) hown rfl (by rw [hml]; rfl) (ow hw 30 rfl) (ow hw 31 rfl) (ow hw 32 rfl) (ow hw 33 rfl) (by decide) (argsL := [(.ref r17)]) (st := []) (c_nm_2_m l Z a0 hw r17 t17 ct17 ch0 ch1 T17.heap f17_1 f17_0 Eq17 Cq17 Vq17 Aq17 hch0 hch1 d0 d1) (lenOf pd_14 rfl) (H at_192) (pc' := 195) rfl rfl rfl rfl (by decide) (W := 0) (Nat.le_of_eq rfl) (by decide) (by decide) (by decide) ?_
                        intro T22 X22 e22
                        refine gStoreA 197 X22 hx (H at_195) (l' := #[.val (.int p0), .val (.int p1), .val (.int p2), .val (.int p3), .val (.int p4), .val (.int p5), .val (.int (2 : Int32)), .val (.ref b1), .val (.ref r17), .val (.int (-1 : Int32)), .val .null, .val .null]) rfl rfl rfl ?_
                        refine gLoadA 199 X22 hx (H at_197) rfl rfl rfl ?_
                        refine gIfnonnullZ X22 hx (H at_199) (pc' := 202) rfl ?_
                        refine gLoadA 204 X22 hx (H at_202) rfl rfl rfl ?_
                        refine gIfnonnullZ X22 hx (H at_204) (pc' := 207) rfl ?_
                        refine gIconst 208 X22 hx (v := (1 : Int32)) (H at_207) rfl rfl ?_
                        refine gGoto X22 hx (H at_208) (pc' := 212) (by decide) (by decide) ?_
                        exact gRetHN X22 hx hlk hret (by simp) (H at_212) (w := (1 : Int32)) rfl e22 hS hk17 hZ hEL H17 (by decide) (by decide) (⟨rfl, N17⟩)
                      · exact absurd c174 (by decide)
                    · exact absurd c157 (by decide)
                  · exact absurd c139 (by decide)
                · exact absurd c121 (by decide)
              · exact absurd c112 d1
          · exact absurd c94 d0
  · refine gCallS X11 hx hZ (y := mn3) hown e11 (by rw [hml]; rfl) (ow hw 6 rfl) (ow hw 7 rfl) (ow hw 4 rfl) (ow hw 8 rfl) (by decide) (argsL := [(.ref b1), (.int (3 : Int32))]) (st := []) (c_mk_3 l Z a0 hw b1 _ ch0 ch1 ch2 ch3 ch4 h11 f11_0 V11 hch0 hch1 hch2 hch3 hch4) (lenOf pd_22 rfl) (H at_75) (pc' := 78) rfl rfl (by decide) (W := 0) (Nat.le_of_eq rfl) (by decide) (by decide) (by decide) ?_
    intro T23 v23 L23 X23 hQ23
    obtain ⟨r23, t23, ct23, rfl, Nq23, Kq23, Eq23, Cq23, Vq23, Aq23⟩ := hQ23
    have N23 := Fr.app N11 (fun y hy => Nat.le_trans zs11 (Nq23 y hy))
    have H23 := H11.trans (CHr.keep Kq23 sf0 H11.1)
    have hk23 := Nat.le_trans hk11 Kq23.1
    have s23_0 := Safe.keep Kq23 sf0 H11.1 s11_0
    have f23_0 := own_cpt_keep f11_0 Kq23 ns0
    have f23_1 := own_sio_keep f11_1 Kq23 ns0
    have f23_2 := V11.keep Kq23 nin0
    have zs23 := Nat.le_trans zs11 Kq23.1
    refine gStoreA 80 X23 hx (H at_78) (l' := #[.val (.int p0), .val (.int p1), .val (.int p2), .val (.int p3), .val (.int p4), .val (.int p5), .val (.int (3 : Int32)), .val (.ref b1), .val (.ref r23), .unset, .unset, .unset]) rfl rfl rfl ?_
    by_cases d2 : ch2.toInt = 47
    · refine gIconst 81 X23 hx (v := (-1 : Int32)) (H at_80) rfl rfl ?_
      refine gStoreI 83 X23 hx (H at_81) (l' := #[.val (.int p0), .val (.int p1), .val (.int p2), .val (.int p3), .val (.int p4), .val (.int p5), .val (.int (3 : Int32)), .val (.ref b1), .val (.ref r23), .val (.int (-1 : Int32)), .unset, .unset]) rfl rfl ?_
      have J : ∀ pv : Int32, Goes p e below (FinH Z [("java/lang/String", 7)] s room_1.cells room_1.slots (Law1 h0)) T23 (mkF m 118 #[.val (.int p0), .val (.int p1), .val (.int p2), .val (.int p3), .val (.int p4), .val (.int p5), .val (.int (3 : Int32)), .val (.ref b1), .val (.ref r23), .val (.int pv), .unset, .unset] []) := by
        intro pv
        refine gLoadI 120 X23 hx (H at_118) rfl rfl ?_
        refine gIconst 121 X23 hx (v := (2 : Int32)) (H at_120) rfl rfl ?_
        refine gIcmpLe X23 hx (H at_121) (pc' := 136) (by decide) (by decide) (pn := 124) rfl (fun (c121 : (3 : Int) ≤ (2 : Int)) => ?_) (fun (c121 : (2 : Int) < (3 : Int)) => ?_)
        · exact absurd c121 (by decide)
        · refine gLoadA 126 X23 hx (H at_124) rfl rfl rfl ?_
          refine gIconst 127 X23 hx (v := (2 : Int32)) (H at_126) rfl rfl ?_
          refine gCaload X23 hx hZ rfl f23_2 (j := (2 : Int32)) (v := (.int ch2)) (by decide) (by decide) rfl (H at_127) (pc' := 128) rfl ?_
          refine gBipush 130 X23 hx (v := (47 : Int32)) (H at_128) rfl rfl ?_
          refine gIcmpNeT X23 hx (H at_130) (pc' := 136) (by decide) (by decide) (pn := 133) rfl (fun (c130 : ¬ ch2.toInt = (47 : Int)) => ?_) (fun (c130 : ch2.toInt = (47 : Int)) => ?_)
          · exact absurd d2 c130
          · refine gIconst 134 X23 hx (v := (2 : Int32)) (H at_133) rfl rfl ?_
            refine gStoreI 136 X23 hx (H at_134) (l' := #[.val (.int p0), .val (.int p1), .val (.int p2), .val (.int p3), .val (.int p4), .val (.int p5), .val (.int (3 : Int32)), .val (.ref b1), .val (.ref r23), .val (.int (2 : Int32)), .unset, .unset]) rfl rfl ?_
            refine gLoadI 138 X23 hx (H at_136) rfl rfl ?_
            refine gIconst 139 X23 hx (v := (3 : Int32)) (H at_138) rfl rfl ?_
            refine gIcmpLe X23 hx (H at_139) (pc' := 154) (by decide) (by decide) (pn := 142) rfl (fun (c139 : (3 : Int) ≤ (3 : Int)) => ?_) (fun (c139 : (3 : Int) < (3 : Int)) => ?_)
            · refine gLoadI 156 X23 hx (H at_154) rfl rfl ?_
              refine gIconst 157 X23 hx (v := (4 : Int32)) (H at_156) rfl rfl ?_
              refine gIcmpLe X23 hx (H at_157) (pc' := 172) (by decide) (by decide) (pn := 160) rfl (fun (c157 : (3 : Int) ≤ (4 : Int)) => ?_) (fun (c157 : (4 : Int) < (3 : Int)) => ?_)
              · refine gLoadI 174 X23 hx (H at_172) rfl rfl ?_
                refine gIfLe X23 hx (H at_174) (pc' := 187) (by decide) (by decide) (pn := 177) rfl (fun (c174 : (2 : Int) ≤ (0 : Int)) => ?_) (fun (c174 : (0 : Int) < (2 : Int)) => ?_)
                · exact absurd c174 (by decide)
                · refine gLoadA 179 X23 hx (H at_177) rfl rfl rfl ?_
                  refine gLoadI 181 X23 hx (H at_179) rfl rfl ?_
                  refine gCallS X23 hx hZ (y := mn3) hown rfl (by rw [hml]; rfl) (ow hw 6 rfl) (ow hw 7 rfl) (ow hw 4 rfl) (ow hw 8 rfl) (by decide) (argsL := [(.ref b1), (.int (2 : Int32))]) (st := []) (c_mk_2 l Z a0 hw b1 _ ch0 ch1 ch2 ch3 ch4 T23.heap f23_0 f23_2 hch0 hch1 hch2 hch3 hch4) (lenOf pd_22 rfl) (H at_181) (pc' := 184) rfl rfl (by decide) (W := 0) (Nat.le_of_eq rfl) (by decide) (by decide) (by decide) ?_
                  intro T24 v24 L24 X24 hQ24
                  obtain ⟨r24, t24, ct24, rfl, Nq24, Kq24, Eq24, Cq24, Vq24, Aq24⟩ := hQ24
                  have N24 := Fr.app N23 (fun y hy => Nat.le_trans zs23 (Nq24 y hy))
                  have H24 := H23.trans (CHr.keep Kq24 sf0 H23.1)
                  have hk24 := Nat.le_trans hk23 Kq24.1
                  have s24_0 := Safe.keep Kq24 sf0 H23.1 s23_0
                  have f24_0 := own_cpt_keep f23_0 Kq24 ns0
                  have f24_1 := own_sio_keep f23_1 Kq24 ns0
                  have f24_2 := f23_2.keep Kq24 nin0
                  have f24_3 := Eq23.keep Kq24
                  have f24_4 := Cq23.keep Kq24 nin0
                  have f24_5 := Vq23.keep Kq24 nin0
                  have f24_6 := Aq23.keep Kq24 nin0
                  have zs24 := Nat.le_trans zs23 Kq24.1
                  refine gGoto X24 hx (H at_184) (pc' := 188) (by decide) (by decide) ?_
                  refine gStoreA 190 X24 hx (H at_188) (l' := #[.val (.int p0), .val (.int p1), .val (.int p2), .val (.int p3), .val (.int p4), .val (.int p5), .val (.int (3 : Int32)), .val (.ref b1), .val (.ref r23), .val (.int (2 : Int32)), .val (.ref r24), .unset]) rfl rfl rfl ?_
                  refine gLoadA 192 X24 hx (H at_190) rfl rfl rfl ?_
                  refine gCallS X24 hx hZ (y := mn0) hown rfl (by rw [hml]; rfl) (ow hw 30 rfl) (ow hw 31 rfl) (ow hw 32 rfl) (ow hw 33 rfl) (by decide) (argsL := [(.ref r23)]) (st := []) (c_nm_3_2 l Z a0 hw r23 t23 ct23 ch0 ch1 ch2 T24.heap f24_1 f24_0 f24_3 f24_4 f24_5 f24_6 hch0 hch1 hch2  d2) (lenOf pd_14 rfl) (H at_192) (pc' := 195) rfl rfl (by decide) (W := 0) (Nat.le_of_eq rfl) (by decide) (by decide) (by decide) ?_
                  intro T25 v25 L25 X25 hQ25
                  obtain ⟨r25, t25, ct25, rfl, Nq25, Kq25, Eq25, Cq25, Vq25, Aq25⟩ := hQ25
                  have N25 := Fr.app N24 (fun y hy => Nat.le_trans zs24 (Nq25 y hy))
                  have H25 := H24.trans (CHr.keep Kq25 sf0 H24.1)
                  have hk25 := Nat.le_trans hk24 Kq25.1
                  have s25_0 := Safe.keep Kq25 sf0 H24.1 s24_0
                  have f25_0 := own_cpt_keep f24_0 Kq25 ns0
                  have f25_1 := own_sio_keep f24_1 Kq25 ns0
                  have f25_2 := f24_2.keep Kq25 nin0
                  have f25_3 := f24_3.keep Kq25
                  have f25_4 := f24_4.keep Kq25 nin0
                  have f25_5 := f24_5.keep Kq25 nin0
                  have f25_6 := f24_6.keep Kq25 nin0
                  have f25_7 := Eq24.keep Kq25
                  have f25_8 := Cq24.keep Kq25 nin0
                  have f25_9 := Vq24.keep Kq25 nin0
                  have f25_10 := Aq24.keep Kq25 nin0
                  have zs25 := Nat.le_trans zs24 Kq25.1
                  refine gStoreA 197 X25 hx (H at_195) (l' := #[.val (.int p0), .val (.int p1), .val (.int p2), .val (.int p3), .val (.int p4), .val (.int p5), .val (.int (3 : Int32)), .val (.ref b1), .val (.ref r23), .val (.int (2 : Int32)), .val (.ref r24), .val (.ref r25)]) rfl rfl rfl ?_
                  refine gLoadA 199 X25 hx (H at_197) rfl rfl rfl ?_
                  refine gIfnonnullR X25 hx (H at_199) (pc' := 213) (by decide) (by decide) ?_
                  refine gLoadA 215 X25 hx (H at_213) rfl rfl rfl ?_
                  refine gIfnullR X25 hx (H at_215) (pc' := 218) rfl ?_
                  refine gLoadA 220 X25 hx (H at_218) rfl rfl rfl ?_
                  refine gLoadA 222 X25 hx (H at_220) rfl rfl rfl ?_
                  refine gCallVJ X25 hx hZ (y := mn11) hown rfl (by rw [hml]; rfl) Eq25 (ow hw 116 rfl) (ow hw 117 rfl) (ow hw 119 rfl) (ow hw 118 rfl) (ow hw 11 rfl) (ow hw 120 rfl) (by decide) (argsL := [(.ref r24)]) (st := []) (c_eqs_2 l Z a0 hw r25 r24 t25 t24 ct25 ct24 ch0 ch1 _ f25_0 Eq25 Cq25 Vq25 Aq25 f25_7 f25_8 f25_9 f25_10) (lenOf pd_12 rfl) (H at_222) (pc' := 225) rfl rfl rfl rfl (by decide) (W := 0) (Nat.le_of_eq rfl) (by decide) (by decide) (by decide) ?_
                  intro T26 X26 e26
                  refine gIfEqT X26 hx (H at_225) (pc' := 232) (by decide) (by decide) (pn := 228) rfl (fun (c225 : (1 : Int) = (0 : Int)) => ?_) (fun (c225 : ¬ (1 : Int) = (0 : Int)) => ?_)
                  · exact absurd c225 (by decide)
                  · refine gIconst 229 X26 hx (v := (1 : Int32)) (H at_228) rfl rfl ?_
                    refine gGoto X26 hx (H at_229) (pc' := 233) (by decide) (by decide) ?_
                    exact gRetHN X26 hx hlk hret (by simp) (H at_233) (w := (1 : Int32)) rfl e26 hS hk25 hZ hEL H25 (by decide) (by decide) (⟨rfl, N25⟩)
              · exact absurd c157 (by decide)
            · exact absurd c139 (by decide)
      refine gLoadI 85 X23 hx (H at_83) rfl rfl ?_
      refine gIfLe X23 hx (H at_85) (pc' := 100) (by decide) (by decide) (pn := 88) rfl (fun (c85 : (3 : Int) ≤ (0 : Int)) => ?_) (fun (c85 : (0 : Int) < (3 : Int)) => ?_)
      · exact absurd c85 (by decide)
      · refine gLoadA 90 X23 hx (H at_88) rfl rfl rfl ?_
        refine gIconst 91 X23 hx (v := (0 : Int32)) (H at_90) rfl rfl ?_
        refine gCaload X23 hx hZ rfl f23_2 (j := (0 : Int32)) (v := (.int ch0)) (by decide) (by decide) rfl (H at_91) (pc' := 92) rfl ?_
        refine gBipush 94 X23 hx (v := (47 : Int32)) (H at_92) rfl rfl ?_
        refine gIcmpNeT X23 hx (H at_94) (pc' := 100) (by decide) (by decide) (pn := 97) rfl (fun (c94 : ¬ ch0.toInt = (47 : Int)) => ?_) (fun (c94 : ch0.toInt = (47 : Int)) => ?_)
        · refine gLoadI 102 X23 hx (H at_100) rfl rfl ?_
          refine gIconst 103 X23 hx (v := (1 : Int32)) (H at_102) rfl rfl ?_
          refine gIcmpLe X23 hx (H at_103) (pc' := 118) (by decide) (by decide) (pn := 106) rfl (fun (c103 : (3 : Int) ≤ (1 : Int)) => ?_) (fun (c103 : (1 : Int) < (3 : Int)) => ?_)
          · exact absurd c103 (by decide)
          · refine gLoadA 108 X23 hx (H at_106) rfl rfl rfl ?_
            refine gIconst 109 X23 hx (v := (1 : Int32)) (H at_108) rfl rfl ?_
            refine gCaload X23 hx hZ rfl f23_2 (j := (1 : Int32)) (v := (.int ch1)) (by decide) (by decide) rfl (H at_109) (pc' := 110) rfl ?_
            refine gBipush 112 X23 hx (v := (47 : Int32)) (H at_110) rfl rfl ?_
            refine gIcmpNeT X23 hx (H at_112) (pc' := 118) (by decide) (by decide) (pn := 115) rfl (fun (c112 : ¬ ch1.toInt = (47 : Int)) => ?_) (fun (c112 : ch1.toInt = (47 : Int)) => ?_)
            · exact J _
            · refine gIconst 116 X23 hx (v := (1 : Int32)) (H at_115) rfl rfl ?_
              refine gStoreI 118 X23 hx (H at_116) (l' := #[.val (.int p0), .val (.int p1), .val (.int p2), .val (.int p3), .val (.int p4), .val (.int p5), .val (.int (3 : Int32)), .val (.ref b1), .val (.ref r23), .val (.int (1 : Int32)), .unset, .unset]) rfl rfl ?_
              exact J _
        · refine gIconst 98 X23 hx (v := (0 : Int32)) (H at_97) rfl rfl ?_
          refine gStoreI 100 X23 hx (H at_98) (l' := #[.val (.int p0), .val (.int p1), .val (.int p2), .val (.int p3), .val (.int p4), .val (.int p5), .val (.int (3 : Int32)), .val (.ref b1), .val (.ref r23), .val (.int (0 : Int32)), .unset, .unset]) rfl rfl ?_
          refine gLoadI 102 X23 hx (H at_100) rfl rfl ?_
          refine gIconst 103 X23 hx (v := (1 : Int32)) (H at_102) rfl rfl ?_
          refine gIcmpLe X23 hx (H at_103) (pc' := 118) (by decide) (by decide) (pn := 106) rfl (fun (c103 : (3 : Int) ≤ (1 : Int)) => ?_) (fun (c103 : (1 : Int) < (3 : Int)) => ?_)
          · exact absurd c103 (by decide)
          · refine gLoadA 108 X23 hx (H at_106) rfl rfl rfl ?_
            refine gIconst 109 X23 hx (v := (1 : Int32)) (H at_108) rfl rfl ?_
            refine gCaload X23 hx hZ rfl f23_2 (j := (1 : Int32)) (v := (.int ch1)) (by decide) (by decide) rfl (H at_109) (pc' := 110) rfl ?_
            refine gBipush 112 X23 hx (v := (47 : Int32)) (H at_110) rfl rfl ?_
            refine gIcmpNeT X23 hx (H at_112) (pc' := 118) (by decide) (by decide) (pn := 115) rfl (fun (c112 : ¬ ch1.toInt = (47 : Int)) => ?_) (fun (c112 : ch1.toInt = (47 : Int)) => ?_)
            · exact J _
            · refine gIconst 116 X23 hx (v := (1 : Int32)) (H at_115) rfl rfl ?_
              refine gStoreI 118 X23 hx (H at_116) (l' := #[.val (.int p0), .val (.int p1), .val (.int p2), .val (.int p3), .val (.int p4), .val (.int p5), .val (.int (3 : Int32)), .val (.ref b1), .val (.ref r23), .val (.int (1 : Int32)), .unset, .unset]) rfl rfl ?_
              exact J _
    · by_cases d1 : ch1.toInt = 47
      · refine gIconst 81 X23 hx (v := (-1 : Int32)) (H at_80) rfl rfl ?_
        refine gStoreI 83 X23 hx (H at_81) (l' := #[.val (.int p0), .val (.int p1), .val (.int p2), .val (.int p3), .val (.int p4), .val (.int p5), .val (.int (3 : Int32)), .val (.ref b1), .val (.ref r23), .val (.int (-1 : Int32)), .unset, .unset]) rfl rfl ?_
        have J : ∀ pv : Int32, Goes p e below (FinH Z [("java/lang/String", 7)] s room_1.cells room_1.slots (Law1 h0)) T23 (mkF m 100 #[.val (.int p0), .val (.int p1), .val (.int p2), .val (.int p3), .val (.int p4), .val (.int p5), .val (.int (3 : Int32)), .val (.ref b1), .val (.ref r23), .val (.int pv), .unset, .unset] []) := by
          intro pv
          refine gLoadI 102 X23 hx (H at_100) rfl rfl ?_
          refine gIconst 103 X23 hx (v := (1 : Int32)) (H at_102) rfl rfl ?_
          refine gIcmpLe X23 hx (H at_103) (pc' := 118) (by decide) (by decide) (pn := 106) rfl (fun (c103 : (3 : Int) ≤ (1 : Int)) => ?_) (fun (c103 : (1 : Int) < (3 : Int)) => ?_)
          · exact absurd c103 (by decide)
          · refine gLoadA 108 X23 hx (H at_106) rfl rfl rfl ?_
            refine gIconst 109 X23 hx (v := (1 : Int32)) (H at_108) rfl rfl ?_
            refine gCaload X23 hx hZ rfl f23_2 (j := (1 : Int32)) (v := (.int ch1)) (by decide) (by decide) rfl (H at_109) (pc' := 110) rfl ?_
            refine gBipush 112 X23 hx (v := (47 : Int32)) (H at_110) rfl rfl ?_
            refine gIcmpNeT X23 hx (H at_112) (pc' := 118) (by decide) (by decide) (pn := 115) rfl (fun (c112 : ¬ ch1.toInt = (47 : Int)) => ?_) (fun (c112 : ch1.toInt = (47 : Int)) => ?_)
            · exact absurd d1 c112
            · refine gIconst 116 X23 hx (v := (1 : Int32)) (H at_115) rfl rfl ?_
              refine gStoreI 118 X23 hx (H at_116) (l' := #[.val (.int p0), .val (.int p1), .val (.int p2), .val (.int p3), .val (.int p4), .val (.int p5), .val (.int (3 : Int32)), .val (.ref b1), .val (.ref r23), .val (.int (1 : Int32)), .unset, .unset]) rfl rfl ?_
              refine gLoadI 120 X23 hx (H at_118) rfl rfl ?_
              refine gIconst 121 X23 hx (v := (2 : Int32)) (H at_120) rfl rfl ?_
              refine gIcmpLe X23 hx (H at_121) (pc' := 136) (by decide) (by decide) (pn := 124) rfl (fun (c121 : (3 : Int) ≤ (2 : Int)) => ?_) (fun (c121 : (2 : Int) < (3 : Int)) => ?_)
              · exact absurd c121 (by decide)
              · refine gLoadA 126 X23 hx (H at_124) rfl rfl rfl ?_
                refine gIconst 127 X23 hx (v := (2 : Int32)) (H at_126) rfl rfl ?_
                refine gCaload X23 hx hZ rfl f23_2 (j := (2 : Int32)) (v := (.int ch2)) (by decide) (by decide) rfl (H at_127) (pc' := 128) rfl ?_
                refine gBipush 130 X23 hx (v := (47 : Int32)) (H at_128) rfl rfl ?_
                refine gIcmpNeT X23 hx (H at_130) (pc' := 136) (by decide) (by decide) (pn := 133) rfl (fun (c130 : ¬ ch2.toInt = (47 : Int)) => ?_) (fun (c130 : ch2.toInt = (47 : Int)) => ?_)
                · refine gLoadI 138 X23 hx (H at_136) rfl rfl ?_
                  refine gIconst 139 X23 hx (v := (3 : Int32)) (H at_138) rfl rfl ?_
                  refine gIcmpLe X23 hx (H at_139) (pc' := 154) (by decide) (by decide) (pn := 142) rfl (fun (c139 : (3 : Int) ≤ (3 : Int)) => ?_) (fun (c139 : (3 : Int) < (3 : Int)) => ?_)
                  · refine gLoadI 156 X23 hx (H at_154) rfl rfl ?_
                    refine gIconst 157 X23 hx (v := (4 : Int32)) (H at_156) rfl rfl ?_
                    refine gIcmpLe X23 hx (H at_157) (pc' := 172) (by decide) (by decide) (pn := 160) rfl (fun (c157 : (3 : Int) ≤ (4 : Int)) => ?_) (fun (c157 : (4 : Int) < (3 : Int)) => ?_)
                    · refine gLoadI 174 X23 hx (H at_172) rfl rfl ?_
                      refine gIfLe X23 hx (H at_174) (pc' := 187) (by decide) (by decide) (pn := 177) rfl (fun (c174 : (1 : Int) ≤ (0 : Int)) => ?_) (fun (c174 : (0 : Int) < (1 : Int)) => ?_)
                      · exact absurd c174 (by decide)
                      · refine gLoadA 179 X23 hx (H at_177) rfl rfl rfl ?_
                        refine gLoadI 181 X23 hx (H at_179) rfl rfl ?_
                        refine gCallS X23 hx hZ (y := mn3) hown rfl (by rw [hml]; rfl) (ow hw 6 rfl) (ow hw 7 rfl) (ow hw 4 rfl) (ow hw 8 rfl) (by decide) (argsL := [(.ref b1), (.int (1 : Int32))]) (st := []) (c_mk_1 l Z a0 hw b1 _ ch0 ch1 ch2 ch3 ch4 T23.heap f23_0 f23_2 hch0 hch1 hch2 hch3 hch4) (lenOf pd_22 rfl) (H at_181) (pc' := 184) rfl rfl (by decide) (W := 0) (Nat.le_of_eq rfl) (by decide) (by decide) (by decide) ?_
                        intro T27 v27 L27 X27 hQ27
                        obtain ⟨r27, t27, ct27, rfl, Nq27, Kq27, Eq27, Cq27, Vq27, Aq27⟩ := hQ27
                        have N27 := Fr.app N23 (fun y hy => Nat.le_trans zs23 (Nq27 y hy))
                        have H27 := H23.trans (CHr.keep Kq27 sf0 H23.1)
                        have hk27 := Nat.le_trans hk23 Kq27.1
                        have s27_0 := Safe.keep Kq27 sf0 H23.1 s23_0
                        have f27_0 := own_cpt_keep f23_0 Kq27 ns0
                        have f27_1 := own_sio_keep f23_1 Kq27 ns0
                        have f27_2 := f23_2.keep Kq27 nin0
                        have f27_3 := Eq23.keep Kq27
                        have f27_4 := Cq23.keep Kq27 nin0
                        have f27_5 := Vq23.keep Kq27 nin0
                        have f27_6 := Aq23.keep Kq27 nin0
                        have zs27 := Nat.le_trans zs23 Kq27.1
                        refine gGoto X27 hx (H at_184) (pc' := 188) (by decide) (by decide) ?_
                        refine gStoreA 190 X27 hx (H at_188) (l' := #[.val (.int p0), .val (.int p1), .val (.int p2), .val (.int p3), .val (.int p4), .val (.int p5), .val (.int (3 : Int32)), .val (.ref b1), .val (.ref r23), .val (.int (1 : Int32)), .val (.ref r27), .unset]) rfl rfl rfl ?_
                        refine gLoadA 192 X27 hx (H at_190) rfl rfl rfl ?_
                        refine gCallS X27 hx hZ (y := mn0) hown rfl (by rw [hml]; rfl) (ow hw 30 rfl) (ow hw 31 rfl) (ow hw 32 rfl) (ow hw 33 rfl) (by decide) (argsL := [(.ref r23)]) (st := []) (c_nm_3_1 l Z a0 hw r23 t23 ct23 ch0 ch1 ch2 T27.heap f27_1 f27_0 f27_3 f27_4 f27_5 f27_6 hch0 hch1 hch2 d2 d1) (lenOf pd_14 rfl) (H at_192) (pc' := 195) rfl rfl (by decide) (W := 0) (Nat.le_of_eq rfl) (by decide) (by decide) (by decide) ?_
                        intro T28 v28 L28 X28 hQ28
                        obtain ⟨r28, t28, ct28, rfl, Nq28, Kq28, Eq28, Cq28, Vq28, Aq28⟩ := hQ28
                        have N28 := Fr.app N27 (fun y hy => Nat.le_trans zs27 (Nq28 y hy))
                        have H28 := H27.trans (CHr.keep Kq28 sf0 H27.1)
                        have hk28 := Nat.le_trans hk27 Kq28.1
                        have s28_0 := Safe.keep Kq28 sf0 H27.1 s27_0
                        have f28_0 := own_cpt_keep f27_0 Kq28 ns0
                        have f28_1 := own_sio_keep f27_1 Kq28 ns0
                        have f28_2 := f27_2.keep Kq28 nin0
                        have f28_3 := f27_3.keep Kq28
                        have f28_4 := f27_4.keep Kq28 nin0
                        have f28_5 := f27_5.keep Kq28 nin0
                        have f28_6 := f27_6.keep Kq28 nin0
                        have f28_7 := Eq27.keep Kq28
                        have f28_8 := Cq27.keep Kq28 nin0
                        have f28_9 := Vq27.keep Kq28 nin0
                        have f28_10 := Aq27.keep Kq28 nin0
                        have zs28 := Nat.le_trans zs27 Kq28.1
                        refine gStoreA 197 X28 hx (H at_195) (l' := #[.val (.int p0), .val (.int p1), .val (.int p2), .val (.int p3), .val (.int p4), .val (.int p5), .val (.int (3 : Int32)), .val (.ref b1), .val (.ref r23), .val (.int (1 : Int32)), .val (.ref r27), .val (.ref r28)]) rfl rfl rfl ?_
                        refine gLoadA 199 X28 hx (H at_197) rfl rfl rfl ?_
                        refine gIfnonnullR X28 hx (H at_199) (pc' := 213) (by decide) (by decide) ?_
                        refine gLoadA 215 X28 hx (H at_213) rfl rfl rfl ?_
                        refine gIfnullR X28 hx (H at_215) (pc' := 218) rfl ?_
                        refine gLoadA 220 X28 hx (H at_218) rfl rfl rfl ?_
                        refine gLoadA 222 X28 hx (H at_220) rfl rfl rfl ?_
                        refine gCallVJ X28 hx hZ (y := mn11) hown rfl (by rw [hml]; rfl) Eq28 (ow hw 116 rfl) (ow hw 117 rfl) (ow hw 119 rfl) (ow hw 118 rfl) (ow hw 11 rfl) (ow hw 120 rfl) (by decide) (argsL := [(.ref r27)]) (st := []) (c_eqs_1 l Z a0 hw r28 r27 t28 t27 ct28 ct27 ch0 _ f28_0 Eq28 Cq28 Vq28 Aq28 f28_7 f28_8 f28_9 f28_10) (lenOf pd_12 rfl) (H at_222) (pc' := 225) rfl rfl rfl rfl (by decide) (W := 0) (Nat.le_of_eq rfl) (by decide) (by decide) (by decide) ?_
                        intro T29 X29 e29
                        refine gIfEqT X29 hx (H at_225) (pc' := 232) (by decide) (by decide) (pn := 228) rfl (fun (c225 : (1 : Int) = (0 : Int)) => ?_) (fun (c225 : ¬ (1 : Int) = (0 : Int)) => ?_)
                        · exact absurd c225 (by decide)
                        · refine gIconst 229 X29 hx (v := (1 : Int32)) (H at_228) rfl rfl ?_
                          refine gGoto X29 hx (H at_229) (pc' := 233) (by decide) (by decide) ?_
                          exact gRetHN X29 hx hlk hret (by simp) (H at_233) (w := (1 : Int32)) rfl e29 hS hk28 hZ hEL H28 (by decide) (by decide) (⟨rfl, N28⟩)
                    · exact absurd c157 (by decide)
                  · exact absurd c139 (by decide)
                · exact absurd c130 d2
        refine gLoadI 85 X23 hx (H at_83) rfl rfl ?_
        refine gIfLe X23 hx (H at_85) (pc' := 100) (by decide) (by decide) (pn := 88) rfl (fun (c85 : (3 : Int) ≤ (0 : Int)) => ?_) (fun (c85 : (0 : Int) < (3 : Int)) => ?_)
        · exact absurd c85 (by decide)
        · refine gLoadA 90 X23 hx (H at_88) rfl rfl rfl ?_
          refine gIconst 91 X23 hx (v := (0 : Int32)) (H at_90) rfl rfl ?_
          refine gCaload X23 hx hZ rfl f23_2 (j := (0 : Int32)) (v := (.int ch0)) (by decide) (by decide) rfl (H at_91) (pc' := 92) rfl ?_
          refine gBipush 94 X23 hx (v := (47 : Int32)) (H at_92) rfl rfl ?_
          refine gIcmpNeT X23 hx (H at_94) (pc' := 100) (by decide) (by decide) (pn := 97) rfl (fun (c94 : ¬ ch0.toInt = (47 : Int)) => ?_) (fun (c94 : ch0.toInt = (47 : Int)) => ?_)
          · exact J _
          · refine gIconst 98 X23 hx (v := (0 : Int32)) (H at_97) rfl rfl ?_
            refine gStoreI 100 X23 hx (H at_98) (l' := #[.val (.int p0), .val (.int p1), .val (.int p2), .val (.int p3), .val (.int p4), .val (.int p5), .val (.int (3 : Int32)), .val (.ref b1), .val (.ref r23), .val (.int (0 : Int32)), .unset, .unset]) rfl rfl ?_
            exact J _
      · by_cases d0 : ch0.toInt = 47
        · refine gIconst 81 X23 hx (v := (-1 : Int32)) (H at_80) rfl rfl ?_
          refine gStoreI 83 X23 hx (H at_81) (l' := #[.val (.int p0), .val (.int p1), .val (.int p2), .val (.int p3), .val (.int p4), .val (.int p5), .val (.int (3 : Int32)), .val (.ref b1), .val (.ref r23), .val (.int (-1 : Int32)), .unset, .unset]) rfl rfl ?_
          refine gLoadI 85 X23 hx (H at_83) rfl rfl ?_
          refine gIfLe X23 hx (H at_85) (pc' := 100) (by decide) (by decide) (pn := 88) rfl (fun (c85 : (3 : Int) ≤ (0 : Int)) => ?_) (fun (c85 : (0 : Int) < (3 : Int)) => ?_)
          · exact absurd c85 (by decide)
          · refine gLoadA 90 X23 hx (H at_88) rfl rfl rfl ?_
            refine gIconst 91 X23 hx (v := (0 : Int32)) (H at_90) rfl rfl ?_
            refine gCaload X23 hx hZ rfl f23_2 (j := (0 : Int32)) (v := (.int ch0)) (by decide) (by decide) rfl (H at_91) (pc' := 92) rfl ?_
            refine gBipush 94 X23 hx (v := (47 : Int32)) (H at_92) rfl rfl ?_
            refine gIcmpNeT X23 hx (H at_94) (pc' := 100) (by decide) (by decide) (pn := 97) rfl (fun (c94 : ¬ ch0.toInt = (47 : Int)) => ?_) (fun (c94 : ch0.toInt = (47 : Int)) => ?_)
            · exact absurd d0 c94
            · refine gIconst 98 X23 hx (v := (0 : Int32)) (H at_97) rfl rfl ?_
              refine gStoreI 100 X23 hx (H at_98) (l' := #[.val (.int p0), .val (.int p1), .val (.int p2), .val (.int p3), .val (.int p4), .val (.int p5), .val (.int (3 : Int32)), .val (.ref b1), .val (.ref r23), .val (.int (0 : Int32)), .unset, .unset]) rfl rfl ?_
              refine gLoadI 102 X23 hx (H at_100) rfl rfl ?_
              refine gIconst 103 X23 hx (v := (1 : Int32)) (H at_102) rfl rfl ?_
              refine gIcmpLe X23 hx (H at_103) (pc' := 118) (by decide) (by decide) (pn := 106) rfl (fun (c103 : (3 : Int) ≤ (1 : Int)) => ?_) (fun (c103 : (1 : Int) < (3 : Int)) => ?_)
              · exact absurd c103 (by decide)
              · refine gLoadA 108 X23 hx (H at_106) rfl rfl rfl ?_
                refine gIconst 109 X23 hx (v := (1 : Int32)) (H at_108) rfl rfl ?_
                refine gCaload X23 hx hZ rfl f23_2 (j := (1 : Int32)) (v := (.int ch1)) (by decide) (by decide) rfl (H at_109) (pc' := 110) rfl ?_
                refine gBipush 112 X23 hx (v := (47 : Int32)) (H at_110) rfl rfl ?_
                refine gIcmpNeT X23 hx (H at_112) (pc' := 118) (by decide) (by decide) (pn := 115) rfl (fun (c112 : ¬ ch1.toInt = (47 : Int)) => ?_) (fun (c112 : ch1.toInt = (47 : Int)) => ?_)
                · refine gLoadI 120 X23 hx (H at_118) rfl rfl ?_
                  refine gIconst 121 X23 hx (v := (2 : Int32)) (H at_120) rfl rfl ?_
                  refine gIcmpLe X23 hx (H at_121) (pc' := 136) (by decide) (by decide) (pn := 124) rfl (fun (c121 : (3 : Int) ≤ (2 : Int)) => ?_) (fun (c121 : (2 : Int) < (3 : Int)) => ?_)
                  · exact absurd c121 (by decide)
                  · refine gLoadA 126 X23 hx (H at_124) rfl rfl rfl ?_
                    refine gIconst 127 X23 hx (v := (2 : Int32)) (H at_126) rfl rfl ?_
                    refine gCaload X23 hx hZ rfl f23_2 (j := (2 : Int32)) (v := (.int ch2)) (by decide) (by decide) rfl (H at_127) (pc' := 128) rfl ?_
                    refine gBipush 130 X23 hx (v := (47 : Int32)) (H at_128) rfl rfl ?_
                    refine gIcmpNeT X23 hx (H at_130) (pc' := 136) (by decide) (by decide) (pn := 133) rfl (fun (c130 : ¬ ch2.toInt = (47 : Int)) => ?_) (fun (c130 : ch2.toInt = (47 : Int)) => ?_)
                    · refine gLoadI 138 X23 hx (H at_136) rfl rfl ?_
                      refine gIconst 139 X23 hx (v := (3 : Int32)) (H at_138) rfl rfl ?_
                      refine gIcmpLe X23 hx (H at_139) (pc' := 154) (by decide) (by decide) (pn := 142) rfl (fun (c139 : (3 : Int) ≤ (3 : Int)) => ?_) (fun (c139 : (3 : Int) < (3 : Int)) => ?_)
                      · refine gLoadI 156 X23 hx (H at_154) rfl rfl ?_
                        refine gIconst 157 X23 hx (v := (4 : Int32)) (H at_156) rfl rfl ?_
                        refine gIcmpLe X23 hx (H at_157) (pc' := 172) (by decide) (by decide) (pn := 160) rfl (fun (c157 : (3 : Int) ≤ (4 : Int)) => ?_) (fun (c157 : (4 : Int) < (3 : Int)) => ?_)
                        · refine gLoadI 174 X23 hx (H at_172) rfl rfl ?_
                          refine gIfLe X23 hx (H at_174) (pc' := 187) (by decide) (by decide) (pn := 177) rfl (fun (c174 : (0 : Int) ≤ (0 : Int)) => ?_) (fun (c174 : (0 : Int) < (0 : Int)) => ?_)
                          · refine gNull 188 X23 hx (H at_187) rfl ?_
                            refine gStoreA 190 X23 hx (H at_188) (l' := #[.val (.int p0), .val (.int p1), .val (.int p2), .val (.int p3), .val (.int p4), .val (.int p5), .val (.int (3 : Int32)), .val (.ref b1), .val (.ref r23), .val (.int (0 : Int32)), .val .null, .unset]) rfl rfl rfl ?_
                            refine gLoadA 192 X23 hx (H at_190) rfl rfl rfl ?_
                            refine gCallSJ X23 hx hZ (y := mn0) hown rfl (by rw [hml]; rfl) (ow hw 30 rfl) (ow hw 31 rfl) (ow hw 32 rfl) (ow hw 33 rfl) (by decide) (argsL := [(.ref r23)]) (st := []) (c_nm_3_0 l Z a0 hw r23 t23 ct23 ch0 ch1 ch2 T23.heap f23_1 f23_0 Eq23 Cq23 Vq23 Aq23 hch0 hch1 hch2 d1 d2 d0) (lenOf pd_14 rfl) (H at_192) (pc' := 195) rfl rfl rfl rfl (by decide) (W := 0) (Nat.le_of_eq rfl) (by decide) (by decide) (by decide) ?_
                            intro T30 X30 e30
                            refine gStoreA 197 X30 hx (H at_195) (l' := #[.val (.int p0), .val (.int p1), .val (.int p2), .val (.int p3), .val (.int p4), .val (.int p5), .val (.int (3 : Int32)), .val (.ref b1), .val (.ref r23), .val (.int (0 : Int32)), .val .null, .val .null]) rfl rfl rfl ?_
                            refine gLoadA 199 X30 hx (H at_197) rfl rfl rfl ?_
                            refine gIfnonnullZ X30 hx (H at_199) (pc' := 202) rfl ?_
                            refine gLoadA 204 X30 hx (H at_202) rfl rfl rfl ?_
                            refine gIfnonnullZ X30 hx (H at_204) (pc' := 207) rfl ?_
                            refine gIconst 208 X30 hx (v := (1 : Int32)) (H at_207) rfl rfl ?_
                            refine gGoto X30 hx (H at_208) (pc' := 212) (by decide) (by decide) ?_
                            exact gRetHN X30 hx hlk hret (by simp) (H at_212) (w := (1 : Int32)) rfl e30 hS hk23 hZ hEL H23 (by decide) (by decide) (⟨rfl, N23⟩)
                          · exact absurd c174 (by decide)
                        · exact absurd c157 (by decide)
                      · exact absurd c139 (by decide)
                    · exact absurd c130 d2
                · exact absurd c112 d1
        · refine gIconst 81 X23 hx (v := (-1 : Int32)) (H at_80) rfl rfl ?_
          refine gStoreI 83 X23 hx (H at_81) (l' := #[.val (.int p0), .val (.int p1), .val (.int p2), .val (.int p3), .val (.int p4), .val (.int p5), .val (.int (3 : Int32)), .val (.ref b1), .val (.ref r23), .val (.int (-1 : Int32)), .unset, .unset]) rfl rfl ?_
          refine gLoadI 85 X23 hx (H at_83) rfl rfl ?_
          refine gIfLe X23 hx (H at_85) (pc' := 100) (by decide) (by decide) (pn := 88) rfl (fun (c85 : (3 : Int) ≤ (0 : Int)) => ?_) (fun (c85 : (0 : Int) < (3 : Int)) => ?_)
          · exact absurd c85 (by decide)
          · refine gLoadA 90 X23 hx (H at_88) rfl rfl rfl ?_
            refine gIconst 91 X23 hx (v := (0 : Int32)) (H at_90) rfl rfl ?_
            refine gCaload X23 hx hZ rfl f23_2 (j := (0 : Int32)) (v := (.int ch0)) (by decide) (by decide) rfl (H at_91) (pc' := 92) rfl ?_
            refine gBipush 94 X23 hx (v := (47 : Int32)) (H at_92) rfl rfl ?_
            refine gIcmpNeT X23 hx (H at_94) (pc' := 100) (by decide) (by decide) (pn := 97) rfl (fun (c94 : ¬ ch0.toInt = (47 : Int)) => ?_) (fun (c94 : ch0.toInt = (47 : Int)) => ?_)
            · refine gLoadI 102 X23 hx (H at_100) rfl rfl ?_
              refine gIconst 103 X23 hx (v := (1 : Int32)) (H at_102) rfl rfl ?_
              refine gIcmpLe X23 hx (H at_103) (pc' := 118) (by decide) (by decide) (pn := 106) rfl (fun (c103 : (3 : Int) ≤ (1 : Int)) => ?_) (fun (c103 : (1 : Int) < (3 : Int)) => ?_)
              · exact absurd c103 (by decide)
              · refine gLoadA 108 X23 hx (H at_106) rfl rfl rfl ?_
                refine gIconst 109 X23 hx (v := (1 : Int32)) (H at_108) rfl rfl ?_
                refine gCaload X23 hx hZ rfl f23_2 (j := (1 : Int32)) (v := (.int ch1)) (by decide) (by decide) rfl (H at_109) (pc' := 110) rfl ?_
                refine gBipush 112 X23 hx (v := (47 : Int32)) (H at_110) rfl rfl ?_
                refine gIcmpNeT X23 hx (H at_112) (pc' := 118) (by decide) (by decide) (pn := 115) rfl (fun (c112 : ¬ ch1.toInt = (47 : Int)) => ?_) (fun (c112 : ch1.toInt = (47 : Int)) => ?_)
                · refine gLoadI 120 X23 hx (H at_118) rfl rfl ?_
                  refine gIconst 121 X23 hx (v := (2 : Int32)) (H at_120) rfl rfl ?_
                  refine gIcmpLe X23 hx (H at_121) (pc' := 136) (by decide) (by decide) (pn := 124) rfl (fun (c121 : (3 : Int) ≤ (2 : Int)) => ?_) (fun (c121 : (2 : Int) < (3 : Int)) => ?_)
                  · exact absurd c121 (by decide)
                  · refine gLoadA 126 X23 hx (H at_124) rfl rfl rfl ?_
                    refine gIconst 127 X23 hx (v := (2 : Int32)) (H at_126) rfl rfl ?_
                    refine gCaload X23 hx hZ rfl f23_2 (j := (2 : Int32)) (v := (.int ch2)) (by decide) (by decide) rfl (H at_127) (pc' := 128) rfl ?_
                    refine gBipush 130 X23 hx (v := (47 : Int32)) (H at_128) rfl rfl ?_
                    refine gIcmpNeT X23 hx (H at_130) (pc' := 136) (by decide) (by decide) (pn := 133) rfl (fun (c130 : ¬ ch2.toInt = (47 : Int)) => ?_) (fun (c130 : ch2.toInt = (47 : Int)) => ?_)
                    · refine gLoadI 138 X23 hx (H at_136) rfl rfl ?_
                      refine gIconst 139 X23 hx (v := (3 : Int32)) (H at_138) rfl rfl ?_
                      refine gIcmpLe X23 hx (H at_139) (pc' := 154) (by decide) (by decide) (pn := 142) rfl (fun (c139 : (3 : Int) ≤ (3 : Int)) => ?_) (fun (c139 : (3 : Int) < (3 : Int)) => ?_)
                      · refine gLoadI 156 X23 hx (H at_154) rfl rfl ?_
                        refine gIconst 157 X23 hx (v := (4 : Int32)) (H at_156) rfl rfl ?_
                        refine gIcmpLe X23 hx (H at_157) (pc' := 172) (by decide) (by decide) (pn := 160) rfl (fun (c157 : (3 : Int) ≤ (4 : Int)) => ?_) (fun (c157 : (4 : Int) < (3 : Int)) => ?_)
                        · refine gLoadI 174 X23 hx (H at_172) rfl rfl ?_
                          refine gIfLe X23 hx (H at_174) (pc' := 187) (by decide) (by decide) (pn := 177) rfl (fun (c174 : (-1 : Int) ≤ (0 : Int)) => ?_) (fun (c174 : (0 : Int) < (-1 : Int)) => ?_)
                          · refine gNull 188 X23 hx (H at_187) rfl ?_
                            refine gStoreA 190 X23 hx (H at_188) (l' := #[.val (.int p0), .val (.int p1), .val (.int p2), .val (.int p3), .val (.int p4), .val (.int p5), .val (.int (3 : Int32)), .val (.ref b1), .val (.ref r23), .val (.int (-1 : Int32)), .val .null, .unset]) rfl rfl rfl ?_
                            refine gLoadA 192 X23 hx (H at_190) rfl rfl rfl ?_
                            refine gCallSJ X23 hx hZ (y := mn0) hown rfl (by rw [hml]; rfl) (ow hw 30 rfl) (ow hw 31 rfl) (ow hw 32 rfl) (ow hw 33 rfl) (by decide) (argsL := [(.ref r23)]) (st := []) (c_nm_3_m l Z a0 hw r23 t23 ct23 ch0 ch1 ch2 T23.heap f23_1 f23_0 Eq23 Cq23 Vq23 Aq23 hch0 hch1 hch2 d0 d1 d2) (lenOf pd_14 rfl) (H at_192) (pc' := 195) rfl rfl rfl rfl (by decide) (W := 0) (Nat.le_of_eq rfl) (by decide) (by decide) (by decide) ?_
                            intro T31 X31 e31
                            refine gStoreA 197 X31 hx (H at_195) (l' := #[.val (.int p0), .val (.int p1), .val (.int p2), .val (.int p3), .val (.int p4), .val (.int p5), .val (.int (3 : Int32)), .val (.ref b1), .val (.ref r23), .val (.int (-1 : Int32)), .val .null, .val .null]) rfl rfl rfl ?_
                            refine gLoadA 199 X31 hx (H at_197) rfl rfl rfl ?_
                            refine gIfnonnullZ X31 hx (H at_199) (pc' := 202) rfl ?_
                            refine gLoadA 204 X31 hx (H at_202) rfl rfl rfl ?_
                            refine gIfnonnullZ X31 hx (H at_204) (pc' := 207) rfl ?_
                            refine gIconst 208 X31 hx (v := (1 : Int32)) (H at_207) rfl rfl ?_
                            refine gGoto X31 hx (H at_208) (pc' := 212) (by decide) (by decide) ?_
                            exact gRetHN X31 hx hlk hret (by simp) (H at_212) (w := (1 : Int32)) rfl e31 hS hk23 hZ hEL H23 (by decide) (by decide) (⟨rfl, N23⟩)
                          · exact absurd c174 (by decide)
                        · exact absurd c157 (by decide)
                      · exact absurd c139 (by decide)
                    · exact absurd c130 d2
                · exact absurd c112 d1
            · exact absurd c94 d0
  · refine gCallS X11 hx hZ (y := mn3) hown e11 (by rw [hml]; rfl) (ow hw 6 rfl) (ow hw 7 rfl) (ow hw 4 rfl) (ow hw 8 rfl) (by decide) (argsL := [(.ref b1), (.int (4 : Int32))]) (st := []) (c_mk_4 l Z a0 hw b1 _ ch0 ch1 ch2 ch3 ch4 h11 f11_0 V11 hch0 hch1 hch2 hch3 hch4) (lenOf pd_22 rfl) (H at_75) (pc' := 78) rfl rfl (by decide) (W := 0) (Nat.le_of_eq rfl) (by decide) (by decide) (by decide) ?_
    intro T32 v32 L32 X32 hQ32
    obtain ⟨r32, t32, ct32, rfl, Nq32, Kq32, Eq32, Cq32, Vq32, Aq32⟩ := hQ32
    have N32 := Fr.app N11 (fun y hy => Nat.le_trans zs11 (Nq32 y hy))
    have H32 := H11.trans (CHr.keep Kq32 sf0 H11.1)
    have hk32 := Nat.le_trans hk11 Kq32.1
    have s32_0 := Safe.keep Kq32 sf0 H11.1 s11_0
    have f32_0 := own_cpt_keep f11_0 Kq32 ns0
    have f32_1 := own_sio_keep f11_1 Kq32 ns0
    have f32_2 := V11.keep Kq32 nin0
    have zs32 := Nat.le_trans zs11 Kq32.1
    refine gStoreA 80 X32 hx (H at_78) (l' := #[.val (.int p0), .val (.int p1), .val (.int p2), .val (.int p3), .val (.int p4), .val (.int p5), .val (.int (4 : Int32)), .val (.ref b1), .val (.ref r32), .unset, .unset, .unset]) rfl rfl rfl ?_
    by_cases d3 : ch3.toInt = 47
    · refine gIconst 81 X32 hx (v := (-1 : Int32)) (H at_80) rfl rfl ?_
      refine gStoreI 83 X32 hx (H at_81) (l' := #[.val (.int p0), .val (.int p1), .val (.int p2), .val (.int p3), .val (.int p4), .val (.int p5), .val (.int (4 : Int32)), .val (.ref b1), .val (.ref r32), .val (.int (-1 : Int32)), .unset, .unset]) rfl rfl ?_
      have J : ∀ pv : Int32, Goes p e below (FinH Z [("java/lang/String", 7)] s room_1.cells room_1.slots (Law1 h0)) T32 (mkF m 136 #[.val (.int p0), .val (.int p1), .val (.int p2), .val (.int p3), .val (.int p4), .val (.int p5), .val (.int (4 : Int32)), .val (.ref b1), .val (.ref r32), .val (.int pv), .unset, .unset] []) := by
        intro pv
        refine gLoadI 138 X32 hx (H at_136) rfl rfl ?_
        refine gIconst 139 X32 hx (v := (3 : Int32)) (H at_138) rfl rfl ?_
        refine gIcmpLe X32 hx (H at_139) (pc' := 154) (by decide) (by decide) (pn := 142) rfl (fun (c139 : (4 : Int) ≤ (3 : Int)) => ?_) (fun (c139 : (3 : Int) < (4 : Int)) => ?_)
        · exact absurd c139 (by decide)
        · refine gLoadA 144 X32 hx (H at_142) rfl rfl rfl ?_
          refine gIconst 145 X32 hx (v := (3 : Int32)) (H at_144) rfl rfl ?_
          refine gCaload X32 hx hZ rfl f32_2 (j := (3 : Int32)) (v := (.int ch3)) (by decide) (by decide) rfl (H at_145) (pc' := 146) rfl ?_
          refine gBipush 148 X32 hx (v := (47 : Int32)) (H at_146) rfl rfl ?_
          refine gIcmpNeT X32 hx (H at_148) (pc' := 154) (by decide) (by decide) (pn := 151) rfl (fun (c148 : ¬ ch3.toInt = (47 : Int)) => ?_) (fun (c148 : ch3.toInt = (47 : Int)) => ?_)
          · exact absurd d3 c148
          · refine gIconst 152 X32 hx (v := (3 : Int32)) (H at_151) rfl rfl ?_
            refine gStoreI 154 X32 hx (H at_152) (l' := #[.val (.int p0), .val (.int p1), .val (.int p2), .val (.int p3), .val (.int p4), .val (.int p5), .val (.int (4 : Int32)), .val (.ref b1), .val (.ref r32), .val (.int (3 : Int32)), .unset, .unset]) rfl rfl ?_
            refine gLoadI 156 X32 hx (H at_154) rfl rfl ?_
            refine gIconst 157 X32 hx (v := (4 : Int32)) (H at_156) rfl rfl ?_
            refine gIcmpLe X32 hx (H at_157) (pc' := 172) (by decide) (by decide) (pn := 160) rfl (fun (c157 : (4 : Int) ≤ (4 : Int)) => ?_) (fun (c157 : (4 : Int) < (4 : Int)) => ?_)
            · refine gLoadI 174 X32 hx (H at_172) rfl rfl ?_
              refine gIfLe X32 hx (H at_174) (pc' := 187) (by decide) (by decide) (pn := 177) rfl (fun (c174 : (3 : Int) ≤ (0 : Int)) => ?_) (fun (c174 : (0 : Int) < (3 : Int)) => ?_)
              · exact absurd c174 (by decide)
              · refine gLoadA 179 X32 hx (H at_177) rfl rfl rfl ?_
                refine gLoadI 181 X32 hx (H at_179) rfl rfl ?_
                refine gCallS X32 hx hZ (y := mn3) hown rfl (by rw [hml]; rfl) (ow hw 6 rfl) (ow hw 7 rfl) (ow hw 4 rfl) (ow hw 8 rfl) (by decide) (argsL := [(.ref b1), (.int (3 : Int32))]) (st := []) (c_mk_3 l Z a0 hw b1 _ ch0 ch1 ch2 ch3 ch4 T32.heap f32_0 f32_2 hch0 hch1 hch2 hch3 hch4) (lenOf pd_22 rfl) (H at_181) (pc' := 184) rfl rfl (by decide) (W := 0) (Nat.le_of_eq rfl) (by decide) (by decide) (by decide) ?_
                intro T33 v33 L33 X33 hQ33
                obtain ⟨r33, t33, ct33, rfl, Nq33, Kq33, Eq33, Cq33, Vq33, Aq33⟩ := hQ33
                have N33 := Fr.app N32 (fun y hy => Nat.le_trans zs32 (Nq33 y hy))
                have H33 := H32.trans (CHr.keep Kq33 sf0 H32.1)
                have hk33 := Nat.le_trans hk32 Kq33.1
                have s33_0 := Safe.keep Kq33 sf0 H32.1 s32_0
                have f33_0 := own_cpt_keep f32_0 Kq33 ns0
                have f33_1 := own_sio_keep f32_1 Kq33 ns0
                have f33_2 := f32_2.keep Kq33 nin0
                have f33_3 := Eq32.keep Kq33
                have f33_4 := Cq32.keep Kq33 nin0
                have f33_5 := Vq32.keep Kq33 nin0
                have f33_6 := Aq32.keep Kq33 nin0
                have zs33 := Nat.le_trans zs32 Kq33.1
                refine gGoto X33 hx (H at_184) (pc' := 188) (by decide) (by decide) ?_
                refine gStoreA 190 X33 hx (H at_188) (l' := #[.val (.int p0), .val (.int p1), .val (.int p2), .val (.int p3), .val (.int p4), .val (.int p5), .val (.int (4 : Int32)), .val (.ref b1), .val (.ref r32), .val (.int (3 : Int32)), .val (.ref r33), .unset]) rfl rfl rfl ?_
                refine gLoadA 192 X33 hx (H at_190) rfl rfl rfl ?_
                refine gCallS X33 hx hZ (y := mn0) hown rfl (by rw [hml]; rfl) (ow hw 30 rfl) (ow hw 31 rfl) (ow hw 32 rfl) (ow hw 33 rfl) (by decide) (argsL := [(.ref r32)]) (st := []) (c_nm_4_3 l Z a0 hw r32 t32 ct32 ch0 ch1 ch2 ch3 T33.heap f33_1 f33_0 f33_3 f33_4 f33_5 f33_6 hch0 hch1 hch2 hch3  d3) (lenOf pd_14 rfl) (H at_192) (pc' := 195) rfl rfl (by decide) (W := 0) (Nat.le_of_eq rfl) (by decide) (by decide) (by decide) ?_
                intro T34 v34 L34 X34 hQ34
                obtain ⟨r34, t34, ct34, rfl, Nq34, Kq34, Eq34, Cq34, Vq34, Aq34⟩ := hQ34
                have N34 := Fr.app N33 (fun y hy => Nat.le_trans zs33 (Nq34 y hy))
                have H34 := H33.trans (CHr.keep Kq34 sf0 H33.1)
                have hk34 := Nat.le_trans hk33 Kq34.1
                have s34_0 := Safe.keep Kq34 sf0 H33.1 s33_0
                have f34_0 := own_cpt_keep f33_0 Kq34 ns0
                have f34_1 := own_sio_keep f33_1 Kq34 ns0
                have f34_2 := f33_2.keep Kq34 nin0
                have f34_3 := f33_3.keep Kq34
                have f34_4 := f33_4.keep Kq34 nin0
                have f34_5 := f33_5.keep Kq34 nin0
                have f34_6 := f33_6.keep Kq34 nin0
                have f34_7 := Eq33.keep Kq34
                have f34_8 := Cq33.keep Kq34 nin0
                have f34_9 := Vq33.keep Kq34 nin0
                have f34_10 := Aq33.keep Kq34 nin0
                have zs34 := Nat.le_trans zs33 Kq34.1
                refine gStoreA 197 X34 hx (H at_195) (l' := #[.val (.int p0), .val (.int p1), .val (.int p2), .val (.int p3), .val (.int p4), .val (.int p5), .val (.int (4 : Int32)), .val (.ref b1), .val (.ref r32), .val (.int (3 : Int32)), .val (.ref r33), .val (.ref r34)]) rfl rfl rfl ?_
                refine gLoadA 199 X34 hx (H at_197) rfl rfl rfl ?_
                refine gIfnonnullR X34 hx (H at_199) (pc' := 213) (by decide) (by decide) ?_
                refine gLoadA 215 X34 hx (H at_213) rfl rfl rfl ?_
                refine gIfnullR X34 hx (H at_215) (pc' := 218) rfl ?_
                refine gLoadA 220 X34 hx (H at_218) rfl rfl rfl ?_
                refine gLoadA 222 X34 hx (H at_220) rfl rfl rfl ?_
                refine gCallVJ X34 hx hZ (y := mn11) hown rfl (by rw [hml]; rfl) Eq34 (ow hw 116 rfl) (ow hw 117 rfl) (ow hw 119 rfl) (ow hw 118 rfl) (ow hw 11 rfl) (ow hw 120 rfl) (by decide) (argsL := [(.ref r33)]) (st := []) (c_eqs_3 l Z a0 hw r34 r33 t34 t33 ct34 ct33 ch0 ch1 ch2 _ f34_0 Eq34 Cq34 Vq34 Aq34 f34_7 f34_8 f34_9 f34_10) (lenOf pd_12 rfl) (H at_222) (pc' := 225) rfl rfl rfl rfl (by decide) (W := 0) (Nat.le_of_eq rfl) (by decide) (by decide) (by decide) ?_
                intro T35 X35 e35
                refine gIfEqT X35 hx (H at_225) (pc' := 232) (by decide) (by decide) (pn := 228) rfl (fun (c225 : (1 : Int) = (0 : Int)) => ?_) (fun (c225 : ¬ (1 : Int) = (0 : Int)) => ?_)
                · exact absurd c225 (by decide)
                · refine gIconst 229 X35 hx (v := (1 : Int32)) (H at_228) rfl rfl ?_
                  refine gGoto X35 hx (H at_229) (pc' := 233) (by decide) (by decide) ?_
                  exact gRetHN X35 hx hlk hret (by simp) (H at_233) (w := (1 : Int32)) rfl e35 hS hk34 hZ hEL H34 (by decide) (by decide) (⟨rfl, N34⟩)
            · exact absurd c157 (by decide)
      refine gLoadI 85 X32 hx (H at_83) rfl rfl ?_
      refine gIfLe X32 hx (H at_85) (pc' := 100) (by decide) (by decide) (pn := 88) rfl (fun (c85 : (4 : Int) ≤ (0 : Int)) => ?_) (fun (c85 : (0 : Int) < (4 : Int)) => ?_)
      · exact absurd c85 (by decide)
      · refine gLoadA 90 X32 hx (H at_88) rfl rfl rfl ?_
        refine gIconst 91 X32 hx (v := (0 : Int32)) (H at_90) rfl rfl ?_
        refine gCaload X32 hx hZ rfl f32_2 (j := (0 : Int32)) (v := (.int ch0)) (by decide) (by decide) rfl (H at_91) (pc' := 92) rfl ?_
        refine gBipush 94 X32 hx (v := (47 : Int32)) (H at_92) rfl rfl ?_
        refine gIcmpNeT X32 hx (H at_94) (pc' := 100) (by decide) (by decide) (pn := 97) rfl (fun (c94 : ¬ ch0.toInt = (47 : Int)) => ?_) (fun (c94 : ch0.toInt = (47 : Int)) => ?_)
        · refine gLoadI 102 X32 hx (H at_100) rfl rfl ?_
          refine gIconst 103 X32 hx (v := (1 : Int32)) (H at_102) rfl rfl ?_
          refine gIcmpLe X32 hx (H at_103) (pc' := 118) (by decide) (by decide) (pn := 106) rfl (fun (c103 : (4 : Int) ≤ (1 : Int)) => ?_) (fun (c103 : (1 : Int) < (4 : Int)) => ?_)
          · exact absurd c103 (by decide)
          · refine gLoadA 108 X32 hx (H at_106) rfl rfl rfl ?_
            refine gIconst 109 X32 hx (v := (1 : Int32)) (H at_108) rfl rfl ?_
            refine gCaload X32 hx hZ rfl f32_2 (j := (1 : Int32)) (v := (.int ch1)) (by decide) (by decide) rfl (H at_109) (pc' := 110) rfl ?_
            refine gBipush 112 X32 hx (v := (47 : Int32)) (H at_110) rfl rfl ?_
            refine gIcmpNeT X32 hx (H at_112) (pc' := 118) (by decide) (by decide) (pn := 115) rfl (fun (c112 : ¬ ch1.toInt = (47 : Int)) => ?_) (fun (c112 : ch1.toInt = (47 : Int)) => ?_)
            · refine gLoadI 120 X32 hx (H at_118) rfl rfl ?_
              refine gIconst 121 X32 hx (v := (2 : Int32)) (H at_120) rfl rfl ?_
              refine gIcmpLe X32 hx (H at_121) (pc' := 136) (by decide) (by decide) (pn := 124) rfl (fun (c121 : (4 : Int) ≤ (2 : Int)) => ?_) (fun (c121 : (2 : Int) < (4 : Int)) => ?_)
              · exact absurd c121 (by decide)
              · refine gLoadA 126 X32 hx (H at_124) rfl rfl rfl ?_
                refine gIconst 127 X32 hx (v := (2 : Int32)) (H at_126) rfl rfl ?_
                refine gCaload X32 hx hZ rfl f32_2 (j := (2 : Int32)) (v := (.int ch2)) (by decide) (by decide) rfl (H at_127) (pc' := 128) rfl ?_
                refine gBipush 130 X32 hx (v := (47 : Int32)) (H at_128) rfl rfl ?_
                refine gIcmpNeT X32 hx (H at_130) (pc' := 136) (by decide) (by decide) (pn := 133) rfl (fun (c130 : ¬ ch2.toInt = (47 : Int)) => ?_) (fun (c130 : ch2.toInt = (47 : Int)) => ?_)
                · exact J _
                · refine gIconst 134 X32 hx (v := (2 : Int32)) (H at_133) rfl rfl ?_
                  refine gStoreI 136 X32 hx (H at_134) (l' := #[.val (.int p0), .val (.int p1), .val (.int p2), .val (.int p3), .val (.int p4), .val (.int p5), .val (.int (4 : Int32)), .val (.ref b1), .val (.ref r32), .val (.int (2 : Int32)), .unset, .unset]) rfl rfl ?_
                  exact J _
            · refine gIconst 116 X32 hx (v := (1 : Int32)) (H at_115) rfl rfl ?_
              refine gStoreI 118 X32 hx (H at_116) (l' := #[.val (.int p0), .val (.int p1), .val (.int p2), .val (.int p3), .val (.int p4), .val (.int p5), .val (.int (4 : Int32)), .val (.ref b1), .val (.ref r32), .val (.int (1 : Int32)), .unset, .unset]) rfl rfl ?_
              refine gLoadI 120 X32 hx (H at_118) rfl rfl ?_
              refine gIconst 121 X32 hx (v := (2 : Int32)) (H at_120) rfl rfl ?_
              refine gIcmpLe X32 hx (H at_121) (pc' := 136) (by decide) (by decide) (pn := 124) rfl (fun (c121 : (4 : Int) ≤ (2 : Int)) => ?_) (fun (c121 : (2 : Int) < (4 : Int)) => ?_)
              · exact absurd c121 (by decide)
              · refine gLoadA 126 X32 hx (H at_124) rfl rfl rfl ?_
                refine gIconst 127 X32 hx (v := (2 : Int32)) (H at_126) rfl rfl ?_
                refine gCaload X32 hx hZ rfl f32_2 (j := (2 : Int32)) (v := (.int ch2)) (by decide) (by decide) rfl (H at_127) (pc' := 128) rfl ?_
                refine gBipush 130 X32 hx (v := (47 : Int32)) (H at_128) rfl rfl ?_
                refine gIcmpNeT X32 hx (H at_130) (pc' := 136) (by decide) (by decide) (pn := 133) rfl (fun (c130 : ¬ ch2.toInt = (47 : Int)) => ?_) (fun (c130 : ch2.toInt = (47 : Int)) => ?_)
                · exact J _
                · refine gIconst 134 X32 hx (v := (2 : Int32)) (H at_133) rfl rfl ?_
                  refine gStoreI 136 X32 hx (H at_134) (l' := #[.val (.int p0), .val (.int p1), .val (.int p2), .val (.int p3), .val (.int p4), .val (.int p5), .val (.int (4 : Int32)), .val (.ref b1), .val (.ref r32), .val (.int (2 : Int32)), .unset, .unset]) rfl rfl ?_
                  exact J _
        · refine gIconst 98 X32 hx (v := (0 : Int32)) (H at_97) rfl rfl ?_
          refine gStoreI 100 X32 hx (H at_98) (l' := #[.val (.int p0), .val (.int p1), .val (.int p2), .val (.int p3), .val (.int p4), .val (.int p5), .val (.int (4 : Int32)), .val (.ref b1), .val (.ref r32), .val (.int (0 : Int32)), .unset, .unset]) rfl rfl ?_
          refine gLoadI 102 X32 hx (H at_100) rfl rfl ?_
          refine gIconst 103 X32 hx (v := (1 : Int32)) (H at_102) rfl rfl ?_
          refine gIcmpLe X32 hx (H at_103) (pc' := 118) (by decide) (by decide) (pn := 106) rfl (fun (c103 : (4 : Int) ≤ (1 : Int)) => ?_) (fun (c103 : (1 : Int) < (4 : Int)) => ?_)
          · exact absurd c103 (by decide)
          · refine gLoadA 108 X32 hx (H at_106) rfl rfl rfl ?_
            refine gIconst 109 X32 hx (v := (1 : Int32)) (H at_108) rfl rfl ?_
            refine gCaload X32 hx hZ rfl f32_2 (j := (1 : Int32)) (v := (.int ch1)) (by decide) (by decide) rfl (H at_109) (pc' := 110) rfl ?_
            refine gBipush 112 X32 hx (v := (47 : Int32)) (H at_110) rfl rfl ?_
            refine gIcmpNeT X32 hx (H at_112) (pc' := 118) (by decide) (by decide) (pn := 115) rfl (fun (c112 : ¬ ch1.toInt = (47 : Int)) => ?_) (fun (c112 : ch1.toInt = (47 : Int)) => ?_)
            · refine gLoadI 120 X32 hx (H at_118) rfl rfl ?_
              refine gIconst 121 X32 hx (v := (2 : Int32)) (H at_120) rfl rfl ?_
              refine gIcmpLe X32 hx (H at_121) (pc' := 136) (by decide) (by decide) (pn := 124) rfl (fun (c121 : (4 : Int) ≤ (2 : Int)) => ?_) (fun (c121 : (2 : Int) < (4 : Int)) => ?_)
              · exact absurd c121 (by decide)
              · refine gLoadA 126 X32 hx (H at_124) rfl rfl rfl ?_
                refine gIconst 127 X32 hx (v := (2 : Int32)) (H at_126) rfl rfl ?_
                refine gCaload X32 hx hZ rfl f32_2 (j := (2 : Int32)) (v := (.int ch2)) (by decide) (by decide) rfl (H at_127) (pc' := 128) rfl ?_
                refine gBipush 130 X32 hx (v := (47 : Int32)) (H at_128) rfl rfl ?_
                refine gIcmpNeT X32 hx (H at_130) (pc' := 136) (by decide) (by decide) (pn := 133) rfl (fun (c130 : ¬ ch2.toInt = (47 : Int)) => ?_) (fun (c130 : ch2.toInt = (47 : Int)) => ?_)
                · exact J _
                · refine gIconst 134 X32 hx (v := (2 : Int32)) (H at_133) rfl rfl ?_
                  refine gStoreI 136 X32 hx (H at_134) (l' := #[.val (.int p0), .val (.int p1), .val (.int p2), .val (.int p3), .val (.int p4), .val (.int p5), .val (.int (4 : Int32)), .val (.ref b1), .val (.ref r32), .val (.int (2 : Int32)), .unset, .unset]) rfl rfl ?_
                  exact J _
            · refine gIconst 116 X32 hx (v := (1 : Int32)) (H at_115) rfl rfl ?_
              refine gStoreI 118 X32 hx (H at_116) (l' := #[.val (.int p0), .val (.int p1), .val (.int p2), .val (.int p3), .val (.int p4), .val (.int p5), .val (.int (4 : Int32)), .val (.ref b1), .val (.ref r32), .val (.int (1 : Int32)), .unset, .unset]) rfl rfl ?_
              refine gLoadI 120 X32 hx (H at_118) rfl rfl ?_
              refine gIconst 121 X32 hx (v := (2 : Int32)) (H at_120) rfl rfl ?_
              refine gIcmpLe X32 hx (H at_121) (pc' := 136) (by decide) (by decide) (pn := 124) rfl (fun (c121 : (4 : Int) ≤ (2 : Int)) => ?_) (fun (c121 : (2 : Int) < (4 : Int)) => ?_)
              · exact absurd c121 (by decide)
              · refine gLoadA 126 X32 hx (H at_124) rfl rfl rfl ?_
                refine gIconst 127 X32 hx (v := (2 : Int32)) (H at_126) rfl rfl ?_
                refine gCaload X32 hx hZ rfl f32_2 (j := (2 : Int32)) (v := (.int ch2)) (by decide) (by decide) rfl (H at_127) (pc' := 128) rfl ?_
                refine gBipush 130 X32 hx (v := (47 : Int32)) (H at_128) rfl rfl ?_
                refine gIcmpNeT X32 hx (H at_130) (pc' := 136) (by decide) (by decide) (pn := 133) rfl (fun (c130 : ¬ ch2.toInt = (47 : Int)) => ?_) (fun (c130 : ch2.toInt = (47 : Int)) => ?_)
                · exact J _
                · refine gIconst 134 X32 hx (v := (2 : Int32)) (H at_133) rfl rfl ?_
                  refine gStoreI 136 X32 hx (H at_134) (l' := #[.val (.int p0), .val (.int p1), .val (.int p2), .val (.int p3), .val (.int p4), .val (.int p5), .val (.int (4 : Int32)), .val (.ref b1), .val (.ref r32), .val (.int (2 : Int32)), .unset, .unset]) rfl rfl ?_
                  exact J _
    · by_cases d2 : ch2.toInt = 47
      · refine gIconst 81 X32 hx (v := (-1 : Int32)) (H at_80) rfl rfl ?_
        refine gStoreI 83 X32 hx (H at_81) (l' := #[.val (.int p0), .val (.int p1), .val (.int p2), .val (.int p3), .val (.int p4), .val (.int p5), .val (.int (4 : Int32)), .val (.ref b1), .val (.ref r32), .val (.int (-1 : Int32)), .unset, .unset]) rfl rfl ?_
        have J : ∀ pv : Int32, Goes p e below (FinH Z [("java/lang/String", 7)] s room_1.cells room_1.slots (Law1 h0)) T32 (mkF m 118 #[.val (.int p0), .val (.int p1), .val (.int p2), .val (.int p3), .val (.int p4), .val (.int p5), .val (.int (4 : Int32)), .val (.ref b1), .val (.ref r32), .val (.int pv), .unset, .unset] []) := by
          intro pv
          refine gLoadI 120 X32 hx (H at_118) rfl rfl ?_
          refine gIconst 121 X32 hx (v := (2 : Int32)) (H at_120) rfl rfl ?_
          refine gIcmpLe X32 hx (H at_121) (pc' := 136) (by decide) (by decide) (pn := 124) rfl (fun (c121 : (4 : Int) ≤ (2 : Int)) => ?_) (fun (c121 : (2 : Int) < (4 : Int)) => ?_)
          · exact absurd c121 (by decide)
          · refine gLoadA 126 X32 hx (H at_124) rfl rfl rfl ?_
            refine gIconst 127 X32 hx (v := (2 : Int32)) (H at_126) rfl rfl ?_
            refine gCaload X32 hx hZ rfl f32_2 (j := (2 : Int32)) (v := (.int ch2)) (by decide) (by decide) rfl (H at_127) (pc' := 128) rfl ?_
            refine gBipush 130 X32 hx (v := (47 : Int32)) (H at_128) rfl rfl ?_
            refine gIcmpNeT X32 hx (H at_130) (pc' := 136) (by decide) (by decide) (pn := 133) rfl (fun (c130 : ¬ ch2.toInt = (47 : Int)) => ?_) (fun (c130 : ch2.toInt = (47 : Int)) => ?_)
            · exact absurd d2 c130
            · refine gIconst 134 X32 hx (v := (2 : Int32)) (H at_133) rfl rfl ?_
              refine gStoreI 136 X32 hx (H at_134) (l' := #[.val (.int p0), .val (.int p1), .val (.int p2), .val (.int p3), .val (.int p4), .val (.int p5), .val (.int (4 : Int32)), .val (.ref b1), .val (.ref r32), .val (.int (2 : Int32)), .unset, .unset]) rfl rfl ?_
              refine gLoadI 138 X32 hx (H at_136) rfl rfl ?_
              refine gIconst 139 X32 hx (v := (3 : Int32)) (H at_138) rfl rfl ?_
              refine gIcmpLe X32 hx (H at_139) (pc' := 154) (by decide) (by decide) (pn := 142) rfl (fun (c139 : (4 : Int) ≤ (3 : Int)) => ?_) (fun (c139 : (3 : Int) < (4 : Int)) => ?_)
              · exact absurd c139 (by decide)
              · refine gLoadA 144 X32 hx (H at_142) rfl rfl rfl ?_
                refine gIconst 145 X32 hx (v := (3 : Int32)) (H at_144) rfl rfl ?_
                refine gCaload X32 hx hZ rfl f32_2 (j := (3 : Int32)) (v := (.int ch3)) (by decide) (by decide) rfl (H at_145) (pc' := 146) rfl ?_
                refine gBipush 148 X32 hx (v := (47 : Int32)) (H at_146) rfl rfl ?_
                refine gIcmpNeT X32 hx (H at_148) (pc' := 154) (by decide) (by decide) (pn := 151) rfl (fun (c148 : ¬ ch3.toInt = (47 : Int)) => ?_) (fun (c148 : ch3.toInt = (47 : Int)) => ?_)
                · refine gLoadI 156 X32 hx (H at_154) rfl rfl ?_
                  refine gIconst 157 X32 hx (v := (4 : Int32)) (H at_156) rfl rfl ?_
                  refine gIcmpLe X32 hx (H at_157) (pc' := 172) (by decide) (by decide) (pn := 160) rfl (fun (c157 : (4 : Int) ≤ (4 : Int)) => ?_) (fun (c157 : (4 : Int) < (4 : Int)) => ?_)
                  · refine gLoadI 174 X32 hx (H at_172) rfl rfl ?_
                    refine gIfLe X32 hx (H at_174) (pc' := 187) (by decide) (by decide) (pn := 177) rfl (fun (c174 : (2 : Int) ≤ (0 : Int)) => ?_) (fun (c174 : (0 : Int) < (2 : Int)) => ?_)
                    · exact absurd c174 (by decide)
                    · refine gLoadA 179 X32 hx (H at_177) rfl rfl rfl ?_
                      refine gLoadI 181 X32 hx (H at_179) rfl rfl ?_
                      refine gCallS X32 hx hZ (y := mn3) hown rfl (by rw [hml]; rfl) (ow hw 6 rfl) (ow hw 7 rfl) (ow hw 4 rfl) (ow hw 8 rfl) (by decide) (argsL := [(.ref b1), (.int (2 : Int32))]) (st := []) (c_mk_2 l Z a0 hw b1 _ ch0 ch1 ch2 ch3 ch4 T32.heap f32_0 f32_2 hch0 hch1 hch2 hch3 hch4) (lenOf pd_22 rfl) (H at_181) (pc' := 184) rfl rfl (by decide) (W := 0) (Nat.le_of_eq rfl) (by decide) (by decide) (by decide) ?_
                      intro T36 v36 L36 X36 hQ36
                      obtain ⟨r36, t36, ct36, rfl, Nq36, Kq36, Eq36, Cq36, Vq36, Aq36⟩ := hQ36
                      have N36 := Fr.app N32 (fun y hy => Nat.le_trans zs32 (Nq36 y hy))
                      have H36 := H32.trans (CHr.keep Kq36 sf0 H32.1)
                      have hk36 := Nat.le_trans hk32 Kq36.1
                      have s36_0 := Safe.keep Kq36 sf0 H32.1 s32_0
                      have f36_0 := own_cpt_keep f32_0 Kq36 ns0
                      have f36_1 := own_sio_keep f32_1 Kq36 ns0
                      have f36_2 := f32_2.keep Kq36 nin0
                      have f36_3 := Eq32.keep Kq36
                      have f36_4 := Cq32.keep Kq36 nin0
                      have f36_5 := Vq32.keep Kq36 nin0
                      have f36_6 := Aq32.keep Kq36 nin0
                      have zs36 := Nat.le_trans zs32 Kq36.1
                      refine gGoto X36 hx (H at_184) (pc' := 188) (by decide) (by decide) ?_
                      refine gStoreA 190 X36 hx (H at_188) (l' := #[.val (.int p0), .val (.int p1), .val (.int p2), .val (.int p3), .val (.int p4), .val (.int p5), .val (.int (4 : Int32)), .val (.ref b1), .val (.ref r32), .val (.int (2 : Int32)), .val (.ref r36), .unset]) rfl rfl rfl ?_
                      refine gLoadA 192 X36 hx (H at_190) rfl rfl rfl ?_
                      refine gCallS X36 hx hZ (y := mn0) hown rfl (by rw [hml]; rfl) (ow hw 30 rfl) (ow hw 31 rfl) (ow hw 32 rfl) (ow hw 33 rfl) (by decide) (argsL := [(.ref r32)]) (st := []) (c_nm_4_2 l Z a0 hw r32 t32 ct32 ch0 ch1 ch2 ch3 T36.heap f36_1 f36_0 f36_3 f36_4 f36_5 f36_6 hch0 hch1 hch2 hch3 d3 d2) (lenOf pd_14 rfl) (H at_192) (pc' := 195) rfl rfl (by decide) (W := 0) (Nat.le_of_eq rfl) (by decide) (by decide) (by decide) ?_
                      intro T37 v37 L37 X37 hQ37
                      obtain ⟨r37, t37, ct37, rfl, Nq37, Kq37, Eq37, Cq37, Vq37, Aq37⟩ := hQ37
                      have N37 := Fr.app N36 (fun y hy => Nat.le_trans zs36 (Nq37 y hy))
                      have H37 := H36.trans (CHr.keep Kq37 sf0 H36.1)
                      have hk37 := Nat.le_trans hk36 Kq37.1
                      have s37_0 := Safe.keep Kq37 sf0 H36.1 s36_0
                      have f37_0 := own_cpt_keep f36_0 Kq37 ns0
                      have f37_1 := own_sio_keep f36_1 Kq37 ns0
                      have f37_2 := f36_2.keep Kq37 nin0
                      have f37_3 := f36_3.keep Kq37
                      have f37_4 := f36_4.keep Kq37 nin0
                      have f37_5 := f36_5.keep Kq37 nin0
                      have f37_6 := f36_6.keep Kq37 nin0
                      have f37_7 := Eq36.keep Kq37
                      have f37_8 := Cq36.keep Kq37 nin0
                      have f37_9 := Vq36.keep Kq37 nin0
                      have f37_10 := Aq36.keep Kq37 nin0
                      have zs37 := Nat.le_trans zs36 Kq37.1
                      refine gStoreA 197 X37 hx (H at_195) (l' := #[.val (.int p0), .val (.int p1), .val (.int p2), .val (.int p3), .val (.int p4), .val (.int p5), .val (.int (4 : Int32)), .val (.ref b1), .val (.ref r32), .val (.int (2 : Int32)), .val (.ref r36), .val (.ref r37)]) rfl rfl rfl ?_
                      refine gLoadA 199 X37 hx (H at_197) rfl rfl rfl ?_
                      refine gIfnonnullR X37 hx (H at_199) (pc' := 213) (by decide) (by decide) ?_
                      refine gLoadA 215 X37 hx (H at_213) rfl rfl rfl ?_
                      refine gIfnullR X37 hx (H at_215) (pc' := 218) rfl ?_
                      refine gLoadA 220 X37 hx (H at_218) rfl rfl rfl ?_
                      refine gLoadA 222 X37 hx (H at_220) rfl rfl rfl ?_
                      refine gCallVJ X37 hx hZ (y := mn11) hown rfl (by rw [hml]; rfl) Eq37 (ow hw 116 rfl) (ow hw 117 rfl) (ow hw 119 rfl) (ow hw 118 rfl) (ow hw 11 rfl) (ow hw 120 rfl) (by decide) (argsL := [(.ref r36)]) (st := []) (c_eqs_2 l Z a0 hw r37 r36 t37 t36 ct37 ct36 ch0 ch1 _ f37_0 Eq37 Cq37 Vq37 Aq37 f37_7 f37_8 f37_9 f37_10) (lenOf pd_12 rfl) (H at_222) (pc' := 225) rfl rfl rfl rfl (by decide) (W := 0) (Nat.le_of_eq rfl) (by decide) (by decide) (by decide) ?_
                      intro T38 X38 e38
                      refine gIfEqT X38 hx (H at_225) (pc' := 232) (by decide) (by decide) (pn := 228) rfl (fun (c225 : (1 : Int) = (0 : Int)) => ?_) (fun (c225 : ¬ (1 : Int) = (0 : Int)) => ?_)
                      · exact absurd c225 (by decide)
                      · refine gIconst 229 X38 hx (v := (1 : Int32)) (H at_228) rfl rfl ?_
                        refine gGoto X38 hx (H at_229) (pc' := 233) (by decide) (by decide) ?_
                        exact gRetHN X38 hx hlk hret (by simp) (H at_233) (w := (1 : Int32)) rfl e38 hS hk37 hZ hEL H37 (by decide) (by decide) (⟨rfl, N37⟩)
                  · exact absurd c157 (by decide)
                · exact absurd c148 d3
        refine gLoadI 85 X32 hx (H at_83) rfl rfl ?_
        refine gIfLe X32 hx (H at_85) (pc' := 100) (by decide) (by decide) (pn := 88) rfl (fun (c85 : (4 : Int) ≤ (0 : Int)) => ?_) (fun (c85 : (0 : Int) < (4 : Int)) => ?_)
        · exact absurd c85 (by decide)
        · refine gLoadA 90 X32 hx (H at_88) rfl rfl rfl ?_
          refine gIconst 91 X32 hx (v := (0 : Int32)) (H at_90) rfl rfl ?_
          refine gCaload X32 hx hZ rfl f32_2 (j := (0 : Int32)) (v := (.int ch0)) (by decide) (by decide) rfl (H at_91) (pc' := 92) rfl ?_
          refine gBipush 94 X32 hx (v := (47 : Int32)) (H at_92) rfl rfl ?_
          refine gIcmpNeT X32 hx (H at_94) (pc' := 100) (by decide) (by decide) (pn := 97) rfl (fun (c94 : ¬ ch0.toInt = (47 : Int)) => ?_) (fun (c94 : ch0.toInt = (47 : Int)) => ?_)
          · refine gLoadI 102 X32 hx (H at_100) rfl rfl ?_
            refine gIconst 103 X32 hx (v := (1 : Int32)) (H at_102) rfl rfl ?_
            refine gIcmpLe X32 hx (H at_103) (pc' := 118) (by decide) (by decide) (pn := 106) rfl (fun (c103 : (4 : Int) ≤ (1 : Int)) => ?_) (fun (c103 : (1 : Int) < (4 : Int)) => ?_)
            · exact absurd c103 (by decide)
            · refine gLoadA 108 X32 hx (H at_106) rfl rfl rfl ?_
              refine gIconst 109 X32 hx (v := (1 : Int32)) (H at_108) rfl rfl ?_
              refine gCaload X32 hx hZ rfl f32_2 (j := (1 : Int32)) (v := (.int ch1)) (by decide) (by decide) rfl (H at_109) (pc' := 110) rfl ?_
              refine gBipush 112 X32 hx (v := (47 : Int32)) (H at_110) rfl rfl ?_
              refine gIcmpNeT X32 hx (H at_112) (pc' := 118) (by decide) (by decide) (pn := 115) rfl (fun (c112 : ¬ ch1.toInt = (47 : Int)) => ?_) (fun (c112 : ch1.toInt = (47 : Int)) => ?_)
              · exact J _
              · refine gIconst 116 X32 hx (v := (1 : Int32)) (H at_115) rfl rfl ?_
                refine gStoreI 118 X32 hx (H at_116) (l' := #[.val (.int p0), .val (.int p1), .val (.int p2), .val (.int p3), .val (.int p4), .val (.int p5), .val (.int (4 : Int32)), .val (.ref b1), .val (.ref r32), .val (.int (1 : Int32)), .unset, .unset]) rfl rfl ?_
                exact J _
          · refine gIconst 98 X32 hx (v := (0 : Int32)) (H at_97) rfl rfl ?_
            refine gStoreI 100 X32 hx (H at_98) (l' := #[.val (.int p0), .val (.int p1), .val (.int p2), .val (.int p3), .val (.int p4), .val (.int p5), .val (.int (4 : Int32)), .val (.ref b1), .val (.ref r32), .val (.int (0 : Int32)), .unset, .unset]) rfl rfl ?_
            refine gLoadI 102 X32 hx (H at_100) rfl rfl ?_
            refine gIconst 103 X32 hx (v := (1 : Int32)) (H at_102) rfl rfl ?_
            refine gIcmpLe X32 hx (H at_103) (pc' := 118) (by decide) (by decide) (pn := 106) rfl (fun (c103 : (4 : Int) ≤ (1 : Int)) => ?_) (fun (c103 : (1 : Int) < (4 : Int)) => ?_)
            · exact absurd c103 (by decide)
            · refine gLoadA 108 X32 hx (H at_106) rfl rfl rfl ?_
              refine gIconst 109 X32 hx (v := (1 : Int32)) (H at_108) rfl rfl ?_
              refine gCaload X32 hx hZ rfl f32_2 (j := (1 : Int32)) (v := (.int ch1)) (by decide) (by decide) rfl (H at_109) (pc' := 110) rfl ?_
              refine gBipush 112 X32 hx (v := (47 : Int32)) (H at_110) rfl rfl ?_
              refine gIcmpNeT X32 hx (H at_112) (pc' := 118) (by decide) (by decide) (pn := 115) rfl (fun (c112 : ¬ ch1.toInt = (47 : Int)) => ?_) (fun (c112 : ch1.toInt = (47 : Int)) => ?_)
              · exact J _
              · refine gIconst 116 X32 hx (v := (1 : Int32)) (H at_115) rfl rfl ?_
                refine gStoreI 118 X32 hx (H at_116) (l' := #[.val (.int p0), .val (.int p1), .val (.int p2), .val (.int p3), .val (.int p4), .val (.int p5), .val (.int (4 : Int32)), .val (.ref b1), .val (.ref r32), .val (.int (1 : Int32)), .unset, .unset]) rfl rfl ?_
                exact J _
      · by_cases d1 : ch1.toInt = 47
        · refine gIconst 81 X32 hx (v := (-1 : Int32)) (H at_80) rfl rfl ?_
          refine gStoreI 83 X32 hx (H at_81) (l' := #[.val (.int p0), .val (.int p1), .val (.int p2), .val (.int p3), .val (.int p4), .val (.int p5), .val (.int (4 : Int32)), .val (.ref b1), .val (.ref r32), .val (.int (-1 : Int32)), .unset, .unset]) rfl rfl ?_
          have J : ∀ pv : Int32, Goes p e below (FinH Z [("java/lang/String", 7)] s room_1.cells room_1.slots (Law1 h0)) T32 (mkF m 100 #[.val (.int p0), .val (.int p1), .val (.int p2), .val (.int p3), .val (.int p4), .val (.int p5), .val (.int (4 : Int32)), .val (.ref b1), .val (.ref r32), .val (.int pv), .unset, .unset] []) := by
            intro pv
            refine gLoadI 102 X32 hx (H at_100) rfl rfl ?_
            refine gIconst 103 X32 hx (v := (1 : Int32)) (H at_102) rfl rfl ?_
            refine gIcmpLe X32 hx (H at_103) (pc' := 118) (by decide) (by decide) (pn := 106) rfl (fun (c103 : (4 : Int) ≤ (1 : Int)) => ?_) (fun (c103 : (1 : Int) < (4 : Int)) => ?_)
            · exact absurd c103 (by decide)
            · refine gLoadA 108 X32 hx (H at_106) rfl rfl rfl ?_
              refine gIconst 109 X32 hx (v := (1 : Int32)) (H at_108) rfl rfl ?_
              refine gCaload X32 hx hZ rfl f32_2 (j := (1 : Int32)) (v := (.int ch1)) (by decide) (by decide) rfl (H at_109) (pc' := 110) rfl ?_
              refine gBipush 112 X32 hx (v := (47 : Int32)) (H at_110) rfl rfl ?_
              refine gIcmpNeT X32 hx (H at_112) (pc' := 118) (by decide) (by decide) (pn := 115) rfl (fun (c112 : ¬ ch1.toInt = (47 : Int)) => ?_) (fun (c112 : ch1.toInt = (47 : Int)) => ?_)
              · exact absurd d1 c112
              · refine gIconst 116 X32 hx (v := (1 : Int32)) (H at_115) rfl rfl ?_
                refine gStoreI 118 X32 hx (H at_116) (l' := #[.val (.int p0), .val (.int p1), .val (.int p2), .val (.int p3), .val (.int p4), .val (.int p5), .val (.int (4 : Int32)), .val (.ref b1), .val (.ref r32), .val (.int (1 : Int32)), .unset, .unset]) rfl rfl ?_
                refine gLoadI 120 X32 hx (H at_118) rfl rfl ?_
                refine gIconst 121 X32 hx (v := (2 : Int32)) (H at_120) rfl rfl ?_
                refine gIcmpLe X32 hx (H at_121) (pc' := 136) (by decide) (by decide) (pn := 124) rfl (fun (c121 : (4 : Int) ≤ (2 : Int)) => ?_) (fun (c121 : (2 : Int) < (4 : Int)) => ?_)
                · exact absurd c121 (by decide)
                · refine gLoadA 126 X32 hx (H at_124) rfl rfl rfl ?_
                  refine gIconst 127 X32 hx (v := (2 : Int32)) (H at_126) rfl rfl ?_
                  refine gCaload X32 hx hZ rfl f32_2 (j := (2 : Int32)) (v := (.int ch2)) (by decide) (by decide) rfl (H at_127) (pc' := 128) rfl ?_
                  refine gBipush 130 X32 hx (v := (47 : Int32)) (H at_128) rfl rfl ?_
                  refine gIcmpNeT X32 hx (H at_130) (pc' := 136) (by decide) (by decide) (pn := 133) rfl (fun (c130 : ¬ ch2.toInt = (47 : Int)) => ?_) (fun (c130 : ch2.toInt = (47 : Int)) => ?_)
                  · refine gLoadI 138 X32 hx (H at_136) rfl rfl ?_
                    refine gIconst 139 X32 hx (v := (3 : Int32)) (H at_138) rfl rfl ?_
                    refine gIcmpLe X32 hx (H at_139) (pc' := 154) (by decide) (by decide) (pn := 142) rfl (fun (c139 : (4 : Int) ≤ (3 : Int)) => ?_) (fun (c139 : (3 : Int) < (4 : Int)) => ?_)
                    · exact absurd c139 (by decide)
                    · refine gLoadA 144 X32 hx (H at_142) rfl rfl rfl ?_
                      refine gIconst 145 X32 hx (v := (3 : Int32)) (H at_144) rfl rfl ?_
                      refine gCaload X32 hx hZ rfl f32_2 (j := (3 : Int32)) (v := (.int ch3)) (by decide) (by decide) rfl (H at_145) (pc' := 146) rfl ?_
                      refine gBipush 148 X32 hx (v := (47 : Int32)) (H at_146) rfl rfl ?_
                      refine gIcmpNeT X32 hx (H at_148) (pc' := 154) (by decide) (by decide) (pn := 151) rfl (fun (c148 : ¬ ch3.toInt = (47 : Int)) => ?_) (fun (c148 : ch3.toInt = (47 : Int)) => ?_)
                      · refine gLoadI 156 X32 hx (H at_154) rfl rfl ?_
                        refine gIconst 157 X32 hx (v := (4 : Int32)) (H at_156) rfl rfl ?_
                        refine gIcmpLe X32 hx (H at_157) (pc' := 172) (by decide) (by decide) (pn := 160) rfl (fun (c157 : (4 : Int) ≤ (4 : Int)) => ?_) (fun (c157 : (4 : Int) < (4 : Int)) => ?_)
                        · refine gLoadI 174 X32 hx (H at_172) rfl rfl ?_
                          refine gIfLe X32 hx (H at_174) (pc' := 187) (by decide) (by decide) (pn := 177) rfl (fun (c174 : (1 : Int) ≤ (0 : Int)) => ?_) (fun (c174 : (0 : Int) < (1 : Int)) => ?_)
                          · exact absurd c174 (by decide)
                          · refine gLoadA 179 X32 hx (H at_177) rfl rfl rfl ?_
                            refine gLoadI 181 X32 hx (H at_179) rfl rfl ?_
                            refine gCallS X32 hx hZ (y := mn3) hown rfl (by rw [hml]; rfl) (ow hw 6 rfl) (ow hw 7 rfl) (ow hw 4 rfl) (ow hw 8 rfl) (by decide) (argsL := [(.ref b1), (.int (1 : Int32))]) (st := []) (c_mk_1 l Z a0 hw b1 _ ch0 ch1 ch2 ch3 ch4 T32.heap f32_0 f32_2 hch0 hch1 hch2 hch3 hch4) (lenOf pd_22 rfl) (H at_181) (pc' := 184) rfl rfl (by decide) (W := 0) (Nat.le_of_eq rfl) (by decide) (by decide) (by decide) ?_
                            intro T39 v39 L39 X39 hQ39
                            obtain ⟨r39, t39, ct39, rfl, Nq39, Kq39, Eq39, Cq39, Vq39, Aq39⟩ := hQ39
                            have N39 := Fr.app N32 (fun y hy => Nat.le_trans zs32 (Nq39 y hy))
                            have H39 := H32.trans (CHr.keep Kq39 sf0 H32.1)
                            have hk39 := Nat.le_trans hk32 Kq39.1
                            have s39_0 := Safe.keep Kq39 sf0 H32.1 s32_0
                            have f39_0 := own_cpt_keep f32_0 Kq39 ns0
                            have f39_1 := own_sio_keep f32_1 Kq39 ns0
                            have f39_2 := f32_2.keep Kq39 nin0
                            have f39_3 := Eq32.keep Kq39
                            have f39_4 := Cq32.keep Kq39 nin0
                            have f39_5 := Vq32.keep Kq39 nin0
                            have f39_6 := Aq32.keep Kq39 nin0
                            have zs39 := Nat.le_trans zs32 Kq39.1
                            refine gGoto X39 hx (H at_184) (pc' := 188) (by decide) (by decide) ?_
                            refine gStoreA 190 X39 hx (H at_188) (l' := #[.val (.int p0), .val (.int p1), .val (.int p2), .val (.int p3), .val (.int p4), .val (.int p5), .val (.int (4 : Int32)), .val (.ref b1), .val (.ref r32), .val (.int (1 : Int32)), .val (.ref r39), .unset]) rfl rfl rfl ?_
                            refine gLoadA 192 X39 hx (H at_190) rfl rfl rfl ?_
                            refine gCallS X39 hx hZ (y := mn0) hown rfl (by rw [hml]; rfl) (ow hw 30 rfl) (ow hw 31 rfl) (ow hw 32 rfl) (ow hw 33 rfl) (by decide) (argsL := [(.ref r32)]) (st := []) (c_nm_4_1 l Z a0 hw r32 t32 ct32 ch0 ch1 ch2 ch3 T39.heap f39_1 f39_0 f39_3 f39_4 f39_5 f39_6 hch0 hch1 hch2 hch3 d2 d3 d1) (lenOf pd_14 rfl) (H at_192) (pc' := 195) rfl rfl (by decide) (W := 0) (Nat.le_of_eq rfl) (by decide) (by decide) (by decide) ?_
                            intro T40 v40 L40 X40 hQ40
                            obtain ⟨r40, t40, ct40, rfl, Nq40, Kq40, Eq40, Cq40, Vq40, Aq40⟩ := hQ40
                            have N40 := Fr.app N39 (fun y hy => Nat.le_trans zs39 (Nq40 y hy))
                            have H40 := H39.trans (CHr.keep Kq40 sf0 H39.1)
                            have hk40 := Nat.le_trans hk39 Kq40.1
                            have s40_0 := Safe.keep Kq40 sf0 H39.1 s39_0
                            have f40_0 := own_cpt_keep f39_0 Kq40 ns0
                            have f40_1 := own_sio_keep f39_1 Kq40 ns0
                            have f40_2 := f39_2.keep Kq40 nin0
                            have f40_3 := f39_3.keep Kq40
                            have f40_4 := f39_4.keep Kq40 nin0
                            have f40_5 := f39_5.keep Kq40 nin0
                            have f40_6 := f39_6.keep Kq40 nin0
                            have f40_7 := Eq39.keep Kq40
                            have f40_8 := Cq39.keep Kq40 nin0
                            have f40_9 := Vq39.keep Kq40 nin0
                            have f40_10 := Aq39.keep Kq40 nin0
                            have zs40 := Nat.le_trans zs39 Kq40.1
                            refine gStoreA 197 X40 hx (H at_195) (l' := #[.val (.int p0), .val (.int p1), .val (.int p2), .val (.int p3), .val (.int p4), .val (.int p5), .val (.int (4 : Int32)), .val (.ref b1), .val (.ref r32), .val (.int (1 : Int32)), .val (.ref r39), .val (.ref r40)]) rfl rfl rfl ?_
                            refine gLoadA 199 X40 hx (H at_197) rfl rfl rfl ?_
                            refine gIfnonnullR X40 hx (H at_199) (pc' := 213) (by decide) (by decide) ?_
                            refine gLoadA 215 X40 hx (H at_213) rfl rfl rfl ?_
                            refine gIfnullR X40 hx (H at_215) (pc' := 218) rfl ?_
                            refine gLoadA 220 X40 hx (H at_218) rfl rfl rfl ?_
                            refine gLoadA 222 X40 hx (H at_220) rfl rfl rfl ?_
                            refine gCallVJ X40 hx hZ (y := mn11) hown rfl (by rw [hml]; rfl) Eq40 (ow hw 116 rfl) (ow hw 117 rfl) (ow hw 119 rfl) (ow hw 118 rfl) (ow hw 11 rfl) (ow hw 120 rfl) (by decide) (argsL := [(.ref r39)]) (st := []) (c_eqs_1 l Z a0 hw r40 r39 t40 t39 ct40 ct39 ch0 _ f40_0 Eq40 Cq40 Vq40 Aq40 f40_7 f40_8 f40_9 f40_10) (lenOf pd_12 rfl) (H at_222) (pc' := 225) rfl rfl rfl rfl (by decide) (W := 0) (Nat.le_of_eq rfl) (by decide) (by decide) (by decide) ?_
                            intro T41 X41 e41
                            refine gIfEqT X41 hx (H at_225) (pc' := 232) (by decide) (by decide) (pn := 228) rfl (fun (c225 : (1 : Int) = (0 : Int)) => ?_) (fun (c225 : ¬ (1 : Int) = (0 : Int)) => ?_)
                            · exact absurd c225 (by decide)
                            · refine gIconst 229 X41 hx (v := (1 : Int32)) (H at_228) rfl rfl ?_
                              refine gGoto X41 hx (H at_229) (pc' := 233) (by decide) (by decide) ?_
                              exact gRetHN X41 hx hlk hret (by simp) (H at_233) (w := (1 : Int32)) rfl e41 hS hk40 hZ hEL H40 (by decide) (by decide) (⟨rfl, N40⟩)
                        · exact absurd c157 (by decide)
                      · exact absurd c148 d3
                  · exact absurd c130 d2
          refine gLoadI 85 X32 hx (H at_83) rfl rfl ?_
          refine gIfLe X32 hx (H at_85) (pc' := 100) (by decide) (by decide) (pn := 88) rfl (fun (c85 : (4 : Int) ≤ (0 : Int)) => ?_) (fun (c85 : (0 : Int) < (4 : Int)) => ?_)
          · exact absurd c85 (by decide)
          · refine gLoadA 90 X32 hx (H at_88) rfl rfl rfl ?_
            refine gIconst 91 X32 hx (v := (0 : Int32)) (H at_90) rfl rfl ?_
            refine gCaload X32 hx hZ rfl f32_2 (j := (0 : Int32)) (v := (.int ch0)) (by decide) (by decide) rfl (H at_91) (pc' := 92) rfl ?_
            refine gBipush 94 X32 hx (v := (47 : Int32)) (H at_92) rfl rfl ?_
            refine gIcmpNeT X32 hx (H at_94) (pc' := 100) (by decide) (by decide) (pn := 97) rfl (fun (c94 : ¬ ch0.toInt = (47 : Int)) => ?_) (fun (c94 : ch0.toInt = (47 : Int)) => ?_)
            · exact J _
            · refine gIconst 98 X32 hx (v := (0 : Int32)) (H at_97) rfl rfl ?_
              refine gStoreI 100 X32 hx (H at_98) (l' := #[.val (.int p0), .val (.int p1), .val (.int p2), .val (.int p3), .val (.int p4), .val (.int p5), .val (.int (4 : Int32)), .val (.ref b1), .val (.ref r32), .val (.int (0 : Int32)), .unset, .unset]) rfl rfl ?_
              exact J _
        · by_cases d0 : ch0.toInt = 47
          · refine gIconst 81 X32 hx (v := (-1 : Int32)) (H at_80) rfl rfl ?_
            refine gStoreI 83 X32 hx (H at_81) (l' := #[.val (.int p0), .val (.int p1), .val (.int p2), .val (.int p3), .val (.int p4), .val (.int p5), .val (.int (4 : Int32)), .val (.ref b1), .val (.ref r32), .val (.int (-1 : Int32)), .unset, .unset]) rfl rfl ?_
            refine gLoadI 85 X32 hx (H at_83) rfl rfl ?_
            refine gIfLe X32 hx (H at_85) (pc' := 100) (by decide) (by decide) (pn := 88) rfl (fun (c85 : (4 : Int) ≤ (0 : Int)) => ?_) (fun (c85 : (0 : Int) < (4 : Int)) => ?_)
            · exact absurd c85 (by decide)
            · refine gLoadA 90 X32 hx (H at_88) rfl rfl rfl ?_
              refine gIconst 91 X32 hx (v := (0 : Int32)) (H at_90) rfl rfl ?_
              refine gCaload X32 hx hZ rfl f32_2 (j := (0 : Int32)) (v := (.int ch0)) (by decide) (by decide) rfl (H at_91) (pc' := 92) rfl ?_
              refine gBipush 94 X32 hx (v := (47 : Int32)) (H at_92) rfl rfl ?_
              refine gIcmpNeT X32 hx (H at_94) (pc' := 100) (by decide) (by decide) (pn := 97) rfl (fun (c94 : ¬ ch0.toInt = (47 : Int)) => ?_) (fun (c94 : ch0.toInt = (47 : Int)) => ?_)
              · exact absurd d0 c94
              · refine gIconst 98 X32 hx (v := (0 : Int32)) (H at_97) rfl rfl ?_
                refine gStoreI 100 X32 hx (H at_98) (l' := #[.val (.int p0), .val (.int p1), .val (.int p2), .val (.int p3), .val (.int p4), .val (.int p5), .val (.int (4 : Int32)), .val (.ref b1), .val (.ref r32), .val (.int (0 : Int32)), .unset, .unset]) rfl rfl ?_
                refine gLoadI 102 X32 hx (H at_100) rfl rfl ?_
                refine gIconst 103 X32 hx (v := (1 : Int32)) (H at_102) rfl rfl ?_
                refine gIcmpLe X32 hx (H at_103) (pc' := 118) (by decide) (by decide) (pn := 106) rfl (fun (c103 : (4 : Int) ≤ (1 : Int)) => ?_) (fun (c103 : (1 : Int) < (4 : Int)) => ?_)
                · exact absurd c103 (by decide)
                · refine gLoadA 108 X32 hx (H at_106) rfl rfl rfl ?_
                  refine gIconst 109 X32 hx (v := (1 : Int32)) (H at_108) rfl rfl ?_
                  refine gCaload X32 hx hZ rfl f32_2 (j := (1 : Int32)) (v := (.int ch1)) (by decide) (by decide) rfl (H at_109) (pc' := 110) rfl ?_
                  refine gBipush 112 X32 hx (v := (47 : Int32)) (H at_110) rfl rfl ?_
                  refine gIcmpNeT X32 hx (H at_112) (pc' := 118) (by decide) (by decide) (pn := 115) rfl (fun (c112 : ¬ ch1.toInt = (47 : Int)) => ?_) (fun (c112 : ch1.toInt = (47 : Int)) => ?_)
                  · refine gLoadI 120 X32 hx (H at_118) rfl rfl ?_
                    refine gIconst 121 X32 hx (v := (2 : Int32)) (H at_120) rfl rfl ?_
                    refine gIcmpLe X32 hx (H at_121) (pc' := 136) (by decide) (by decide) (pn := 124) rfl (fun (c121 : (4 : Int) ≤ (2 : Int)) => ?_) (fun (c121 : (2 : Int) < (4 : Int)) => ?_)
                    · exact absurd c121 (by decide)
                    · refine gLoadA 126 X32 hx (H at_124) rfl rfl rfl ?_
                      refine gIconst 127 X32 hx (v := (2 : Int32)) (H at_126) rfl rfl ?_
                      refine gCaload X32 hx hZ rfl f32_2 (j := (2 : Int32)) (v := (.int ch2)) (by decide) (by decide) rfl (H at_127) (pc' := 128) rfl ?_
                      refine gBipush 130 X32 hx (v := (47 : Int32)) (H at_128) rfl rfl ?_
                      refine gIcmpNeT X32 hx (H at_130) (pc' := 136) (by decide) (by decide) (pn := 133) rfl (fun (c130 : ¬ ch2.toInt = (47 : Int)) => ?_) (fun (c130 : ch2.toInt = (47 : Int)) => ?_)
                      · refine gLoadI 138 X32 hx (H at_136) rfl rfl ?_
                        refine gIconst 139 X32 hx (v := (3 : Int32)) (H at_138) rfl rfl ?_
                        refine gIcmpLe X32 hx (H at_139) (pc' := 154) (by decide) (by decide) (pn := 142) rfl (fun (c139 : (4 : Int) ≤ (3 : Int)) => ?_) (fun (c139 : (3 : Int) < (4 : Int)) => ?_)
                        · exact absurd c139 (by decide)
                        · refine gLoadA 144 X32 hx (H at_142) rfl rfl rfl ?_
                          refine gIconst 145 X32 hx (v := (3 : Int32)) (H at_144) rfl rfl ?_
                          refine gCaload X32 hx hZ rfl f32_2 (j := (3 : Int32)) (v := (.int ch3)) (by decide) (by decide) rfl (H at_145) (pc' := 146) rfl ?_
                          refine gBipush 148 X32 hx (v := (47 : Int32)) (H at_146) rfl rfl ?_
                          refine gIcmpNeT X32 hx (H at_148) (pc' := 154) (by decide) (by decide) (pn := 151) rfl (fun (c148 : ¬ ch3.toInt = (47 : Int)) => ?_) (fun (c148 : ch3.toInt = (47 : Int)) => ?_)
                          · refine gLoadI 156 X32 hx (H at_154) rfl rfl ?_
                            refine gIconst 157 X32 hx (v := (4 : Int32)) (H at_156) rfl rfl ?_
                            refine gIcmpLe X32 hx (H at_157) (pc' := 172) (by decide) (by decide) (pn := 160) rfl (fun (c157 : (4 : Int) ≤ (4 : Int)) => ?_) (fun (c157 : (4 : Int) < (4 : Int)) => ?_)
                            · refine gLoadI 174 X32 hx (H at_172) rfl rfl ?_
                              refine gIfLe X32 hx (H at_174) (pc' := 187) (by decide) (by decide) (pn := 177) rfl (fun (c174 : (0 : Int) ≤ (0 : Int)) => ?_) (fun (c174 : (0 : Int) < (0 : Int)) => ?_)
                              · refine gNull 188 X32 hx (H at_187) rfl ?_
                                refine gStoreA 190 X32 hx (H at_188) (l' := #[.val (.int p0), .val (.int p1), .val (.int p2), .val (.int p3), .val (.int p4), .val (.int p5), .val (.int (4 : Int32)), .val (.ref b1), .val (.ref r32), .val (.int (0 : Int32)), .val .null, .unset]) rfl rfl rfl ?_
                                refine gLoadA 192 X32 hx (H at_190) rfl rfl rfl ?_
                                refine gCallSJ X32 hx hZ (y := mn0) hown rfl (by rw [hml]; rfl) (ow hw 30 rfl) (ow hw 31 rfl) (ow hw 32 rfl) (ow hw 33 rfl) (by decide) (argsL := [(.ref r32)]) (st := []) (c_nm_4_0 l Z a0 hw r32 t32 ct32 ch0 ch1 ch2 ch3 T32.heap f32_1 f32_0 Eq32 Cq32 Vq32 Aq32 hch0 hch1 hch2 hch3 d1 d2 d3 d0) (lenOf pd_14 rfl) (H at_192) (pc' := 195) rfl rfl rfl rfl (by decide) (W := 0) (Nat.le_of_eq rfl) (by decide) (by decide) (by decide) ?_
                                intro T42 X42 e42
                                refine gStoreA 197 X42 hx (H at_195) (l' := #[.val (.int p0), .val (.int p1), .val (.int p2), .val (.int p3), .val (.int p4), .val (.int p5), .val (.int (4 : Int32)), .val (.ref b1), .val (.ref r32), .val (.int (0 : Int32)), .val .null, .val .null]) rfl rfl rfl ?_
                                refine gLoadA 199 X42 hx (H at_197) rfl rfl rfl ?_
                                refine gIfnonnullZ X42 hx (H at_199) (pc' := 202) rfl ?_
                                refine gLoadA 204 X42 hx (H at_202) rfl rfl rfl ?_
                                refine gIfnonnullZ X42 hx (H at_204) (pc' := 207) rfl ?_
                                refine gIconst 208 X42 hx (v := (1 : Int32)) (H at_207) rfl rfl ?_
                                refine gGoto X42 hx (H at_208) (pc' := 212) (by decide) (by decide) ?_
                                exact gRetHN X42 hx hlk hret (by simp) (H at_212) (w := (1 : Int32)) rfl e42 hS hk32 hZ hEL H32 (by decide) (by decide) (⟨rfl, N32⟩)
                              · exact absurd c174 (by decide)
                            · exact absurd c157 (by decide)
                          · exact absurd c148 d3
                      · exact absurd c130 d2
                  · exact absurd c112 d1
          · refine gIconst 81 X32 hx (v := (-1 : Int32)) (H at_80) rfl rfl ?_
            refine gStoreI 83 X32 hx (H at_81) (l' := #[.val (.int p0), .val (.int p1), .val (.int p2), .val (.int p3), .val (.int p4), .val (.int p5), .val (.int (4 : Int32)), .val (.ref b1), .val (.ref r32), .val (.int (-1 : Int32)), .unset, .unset]) rfl rfl ?_
            refine gLoadI 85 X32 hx (H at_83) rfl rfl ?_
            refine gIfLe X32 hx (H at_85) (pc' := 100) (by decide) (by decide) (pn := 88) rfl (fun (c85 : (4 : Int) ≤ (0 : Int)) => ?_) (fun (c85 : (0 : Int) < (4 : Int)) => ?_)
            · exact absurd c85 (by decide)
            · refine gLoadA 90 X32 hx (H at_88) rfl rfl rfl ?_
              refine gIconst 91 X32 hx (v := (0 : Int32)) (H at_90) rfl rfl ?_
              refine gCaload X32 hx hZ rfl f32_2 (j := (0 : Int32)) (v := (.int ch0)) (by decide) (by decide) rfl (H at_91) (pc' := 92) rfl ?_
              refine gBipush 94 X32 hx (v := (47 : Int32)) (H at_92) rfl rfl ?_
              refine gIcmpNeT X32 hx (H at_94) (pc' := 100) (by decide) (by decide) (pn := 97) rfl (fun (c94 : ¬ ch0.toInt = (47 : Int)) => ?_) (fun (c94 : ch0.toInt = (47 : Int)) => ?_)
              · refine gLoadI 102 X32 hx (H at_100) rfl rfl ?_
                refine gIconst 103 X32 hx (v := (1 : Int32)) (H at_102) rfl rfl ?_
                refine gIcmpLe X32 hx (H at_103) (pc' := 118) (by decide) (by decide) (pn := 106) rfl (fun (c103 : (4 : Int) ≤ (1 : Int)) => ?_) (fun (c103 : (1 : Int) < (4 : Int)) => ?_)
                · exact absurd c103 (by decide)
                · refine gLoadA 108 X32 hx (H at_106) rfl rfl rfl ?_
                  refine gIconst 109 X32 hx (v := (1 : Int32)) (H at_108) rfl rfl ?_
                  refine gCaload X32 hx hZ rfl f32_2 (j := (1 : Int32)) (v := (.int ch1)) (by decide) (by decide) rfl (H at_109) (pc' := 110) rfl ?_
                  refine gBipush 112 X32 hx (v := (47 : Int32)) (H at_110) rfl rfl ?_
                  refine gIcmpNeT X32 hx (H at_112) (pc' := 118) (by decide) (by decide) (pn := 115) rfl (fun (c112 : ¬ ch1.toInt = (47 : Int)) => ?_) (fun (c112 : ch1.toInt = (47 : Int)) => ?_)
                  · refine gLoadI 120 X32 hx (H at_118) rfl rfl ?_
                    refine gIconst 121 X32 hx (v := (2 : Int32)) (H at_120) rfl rfl ?_
                    refine gIcmpLe X32 hx (H at_121) (pc' := 136) (by decide) (by decide) (pn := 124) rfl (fun (c121 : (4 : Int) ≤ (2 : Int)) => ?_) (fun (c121 : (2 : Int) < (4 : Int)) => ?_)
                    · exact absurd c121 (by decide)
                    · refine gLoadA 126 X32 hx (H at_124) rfl rfl rfl ?_
                      refine gIconst 127 X32 hx (v := (2 : Int32)) (H at_126) rfl rfl ?_
                      refine gCaload X32 hx hZ rfl f32_2 (j := (2 : Int32)) (v := (.int ch2)) (by decide) (by decide) rfl (H at_127) (pc' := 128) rfl ?_
                      refine gBipush 130 X32 hx (v := (47 : Int32)) (H at_128) rfl rfl ?_
                      refine gIcmpNeT X32 hx (H at_130) (pc' := 136) (by decide) (by decide) (pn := 133) rfl (fun (c130 : ¬ ch2.toInt = (47 : Int)) => ?_) (fun (c130 : ch2.toInt = (47 : Int)) => ?_)
                      · refine gLoadI 138 X32 hx (H at_136) rfl rfl ?_
                        refine gIconst 139 X32 hx (v := (3 : Int32)) (H at_138) rfl rfl ?_
                        refine gIcmpLe X32 hx (H at_139) (pc' := 154) (by decide) (by decide) (pn := 142) rfl (fun (c139 : (4 : Int) ≤ (3 : Int)) => ?_) (fun (c139 : (3 : Int) < (4 : Int)) => ?_)
                        · exact absurd c139 (by decide)
                        · refine gLoadA 144 X32 hx (H at_142) rfl rfl rfl ?_
                          refine gIconst 145 X32 hx (v := (3 : Int32)) (H at_144) rfl rfl ?_
                          refine gCaload X32 hx hZ rfl f32_2 (j := (3 : Int32)) (v := (.int ch3)) (by decide) (by decide) rfl (H at_145) (pc' := 146) rfl ?_
                          refine gBipush 148 X32 hx (v := (47 : Int32)) (H at_146) rfl rfl ?_
                          refine gIcmpNeT X32 hx (H at_148) (pc' := 154) (by decide) (by decide) (pn := 151) rfl (fun (c148 : ¬ ch3.toInt = (47 : Int)) => ?_) (fun (c148 : ch3.toInt = (47 : Int)) => ?_)
                          · refine gLoadI 156 X32 hx (H at_154) rfl rfl ?_
                            refine gIconst 157 X32 hx (v := (4 : Int32)) (H at_156) rfl rfl ?_
                            refine gIcmpLe X32 hx (H at_157) (pc' := 172) (by decide) (by decide) (pn := 160) rfl (fun (c157 : (4 : Int) ≤ (4 : Int)) => ?_) (fun (c157 : (4 : Int) < (4 : Int)) => ?_)
                            · refine gLoadI 174 X32 hx (H at_172) rfl rfl ?_
                              refine gIfLe X32 hx (H at_174) (pc' := 187) (by decide) (by decide) (pn := 177) rfl (fun (c174 : (-1 : Int) ≤ (0 : Int)) => ?_) (fun (c174 : (0 : Int) < (-1 : Int)) => ?_)
                              · refine gNull 188 X32 hx (H at_187) rfl ?_
                                refine gStoreA 190 X32 hx (H at_188) (l' := #[.val (.int p0), .val (.int p1), .val (.int p2), .val (.int p3), .val (.int p4), .val (.int p5), .val (.int (4 : Int32)), .val (.ref b1), .val (.ref r32), .val (.int (-1 : Int32)), .val .null, .unset]) rfl rfl rfl ?_
                                refine gLoadA 192 X32 hx (H at_190) rfl rfl rfl ?_
                                refine gCallSJ X32 hx hZ (y := mn0) hown rfl (by rw [hml]; rfl) (ow hw 30 rfl) (ow hw 31 rfl) (ow hw 32 rfl) (ow hw 33 rfl) (by decide) (argsL := [(.ref r32)]) (st := []) (c_nm_4_m l Z a0 hw r32 t32 ct32 ch0 ch1 ch2 ch3 T32.heap f32_1 f32_0 Eq32 Cq32 Vq32 Aq32 hch0 hch1 hch2 hch3 d0 d1 d2 d3) (lenOf pd_14 rfl) (H at_192) (pc' := 195) rfl rfl rfl rfl (by decide) (W := 0) (Nat.le_of_eq rfl) (by decide) (by decide) (by decide) ?_
                                intro T43 X43 e43
                                refine gStoreA 197 X43 hx (H at_195) (l' := #[.val (.int p0), .val (.int p1), .val (.int p2), .val (.int p3), .val (.int p4), .val (.int p5), .val (.int (4 : Int32)), .val (.ref b1), .val (.ref r32), .val (.int (-1 : Int32)), .val .null, .val .null]) rfl rfl rfl ?_
                                refine gLoadA 199 X43 hx (H at_197) rfl rfl rfl ?_
                                refine gIfnonnullZ X43 hx (H at_199) (pc' := 202) rfl ?_
                                refine gLoadA 204 X43 hx (H at_202) rfl rfl rfl ?_
                                refine gIfnonnullZ X43 hx (H at_204) (pc' := 207) rfl ?_
                                refine gIconst 208 X43 hx (v := (1 : Int32)) (H at_207) rfl rfl ?_
                                refine gGoto X43 hx (H at_208) (pc' := 212) (by decide) (by decide) ?_
                                exact gRetHN X43 hx hlk hret (by simp) (H at_212) (w := (1 : Int32)) rfl e43 hS hk32 hZ hEL H32 (by decide) (by decide) (⟨rfl, N32⟩)
                              · exact absurd c174 (by decide)
                            · exact absurd c157 (by decide)
                          · exact absurd c148 d3
                      · exact absurd c130 d2
                  · exact absurd c112 d1
              · exact absurd c94 d0
  · refine gCallS X11 hx hZ (y := mn3) hown e11 (by rw [hml]; rfl) (ow hw 6 rfl) (ow hw 7 rfl) (ow hw 4 rfl) (ow hw 8 rfl) (by decide) (argsL := [(.ref b1), (.int (5 : Int32))]) (st := []) (c_mk_5 l Z a0 hw b1 _ ch0 ch1 ch2 ch3 ch4 h11 f11_0 V11 hch0 hch1 hch2 hch3 hch4) (lenOf pd_22 rfl) (H at_75) (pc' := 78) rfl rfl (by decide) (W := 0) (Nat.le_of_eq rfl) (by decide) (by decide) (by decide) ?_
    intro T44 v44 L44 X44 hQ44
    obtain ⟨r44, t44, ct44, rfl, Nq44, Kq44, Eq44, Cq44, Vq44, Aq44⟩ := hQ44
    have N44 := Fr.app N11 (fun y hy => Nat.le_trans zs11 (Nq44 y hy))
    have H44 := H11.trans (CHr.keep Kq44 sf0 H11.1)
    have hk44 := Nat.le_trans hk11 Kq44.1
    have s44_0 := Safe.keep Kq44 sf0 H11.1 s11_0
    have f44_0 := own_cpt_keep f11_0 Kq44 ns0
    have f44_1 := own_sio_keep f11_1 Kq44 ns0
    have f44_2 := V11.keep Kq44 nin0
    have zs44 := Nat.le_trans zs11 Kq44.1
    refine gStoreA 80 X44 hx (H at_78) (l' := #[.val (.int p0), .val (.int p1), .val (.int p2), .val (.int p3), .val (.int p4), .val (.int p5), .val (.int (5 : Int32)), .val (.ref b1), .val (.ref r44), .unset, .unset, .unset]) rfl rfl rfl ?_
    by_cases d4 : ch4.toInt = 47
    · refine gIconst 81 X44 hx (v := (-1 : Int32)) (H at_80) rfl rfl ?_
      refine gStoreI 83 X44 hx (H at_81) (l' := #[.val (.int p0), .val (.int p1), .val (.int p2), .val (.int p3), .val (.int p4), .val (.int p5), .val (.int (5 : Int32)), .val (.ref b1), .val (.ref r44), .val (.int (-1 : Int32)), .unset, .unset]) rfl rfl ?_
      have J : ∀ pv : Int32, Goes p e below (FinH Z [("java/lang/String", 7)] s room_1.cells room_1.slots (Law1 h0)) T44 (mkF m 154 #[.val (.int p0), .val (.int p1), .val (.int p2), .val (.int p3), .val (.int p4), .val (.int p5), .val (.int (5 : Int32)), .val (.ref b1), .val (.ref r44), .val (.int pv), .unset, .unset] []) := by
        intro pv
        refine gLoadI 156 X44 hx (H at_154) rfl rfl ?_
        refine gIconst 157 X44 hx (v := (4 : Int32)) (H at_156) rfl rfl ?_
        refine gIcmpLe X44 hx (H at_157) (pc' := 172) (by decide) (by decide) (pn := 160) rfl (fun (c157 : (5 : Int) ≤ (4 : Int)) => ?_) (fun (c157 : (4 : Int) < (5 : Int)) => ?_)
        · exact absurd c157 (by decide)
        · refine gLoadA 162 X44 hx (H at_160) rfl rfl rfl ?_
          refine gIconst 163 X44 hx (v := (4 : Int32)) (H at_162) rfl rfl ?_
          refine gCaload X44 hx hZ rfl f44_2 (j := (4 : Int32)) (v := (.int ch4)) (by decide) (by decide) rfl (H at_163) (pc' := 164) rfl ?_
          refine gBipush 166 X44 hx (v := (47 : Int32)) (H at_164) rfl rfl ?_
          refine gIcmpNeT X44 hx (H at_166) (pc' := 172) (by decide) (by decide) (pn := 169) rfl (fun (c166 : ¬ ch4.toInt = (47 : Int)) => ?_) (fun (c166 : ch4.toInt = (47 : Int)) => ?_)
          · exact absurd d4 c166
          · refine gIconst 170 X44 hx (v := (4 : Int32)) (H at_169) rfl rfl ?_
            refine gStoreI 172 X44 hx (H at_170) (l' := #[.val (.int p0), .val (.int p1), .val (.int p2), .val (.int p3), .val (.int p4), .val (.int p5), .val (.int (5 : Int32)), .val (.ref b1), .val (.ref r44), .val (.int (4 : Int32)), .unset, .unset]) rfl rfl ?_
            refine gLoadI 174 X44 hx (H at_172) rfl rfl ?_
            refine gIfLe X44 hx (H at_174) (pc' := 187) (by decide) (by decide) (pn := 177) rfl (fun (c174 : (4 : Int) ≤ (0 : Int)) => ?_) (fun (c174 : (0 : Int) < (4 : Int)) => ?_)
            · exact absurd c174 (by decide)
            · refine gLoadA 179 X44 hx (H at_177) rfl rfl rfl ?_
              refine gLoadI 181 X44 hx (H at_179) rfl rfl ?_
              refine gCallS X44 hx hZ (y := mn3) hown rfl (by rw [hml]; rfl) (ow hw 6 rfl) (ow hw 7 rfl) (ow hw 4 rfl) (ow hw 8 rfl) (by decide) (argsL := [(.ref b1), (.int (4 : Int32))]) (st := []) (c_mk_4 l Z a0 hw b1 _ ch0 ch1 ch2 ch3 ch4 T44.heap f44_0 f44_2 hch0 hch1 hch2 hch3 hch4) (lenOf pd_22 rfl) (H at_181) (pc' := 184) rfl rfl (by decide) (W := 0) (Nat.le_of_eq rfl) (by decide) (by decide) (by decide) ?_
              intro T45 v45 L45 X45 hQ45
              obtain ⟨r45, t45, ct45, rfl, Nq45, Kq45, Eq45, Cq45, Vq45, Aq45⟩ := hQ45
              have N45 := Fr.app N44 (fun y hy => Nat.le_trans zs44 (Nq45 y hy))
              have H45 := H44.trans (CHr.keep Kq45 sf0 H44.1)
              have hk45 := Nat.le_trans hk44 Kq45.1
              have s45_0 := Safe.keep Kq45 sf0 H44.1 s44_0
              have f45_0 := own_cpt_keep f44_0 Kq45 ns0
              have f45_1 := own_sio_keep f44_1 Kq45 ns0
              have f45_2 := f44_2.keep Kq45 nin0
              have f45_3 := Eq44.keep Kq45
              have f45_4 := Cq44.keep Kq45 nin0
              have f45_5 := Vq44.keep Kq45 nin0
              have f45_6 := Aq44.keep Kq45 nin0
              have zs45 := Nat.le_trans zs44 Kq45.1
              refine gGoto X45 hx (H at_184) (pc' := 188) (by decide) (by decide) ?_
              refine gStoreA 190 X45 hx (H at_188) (l' := #[.val (.int p0), .val (.int p1), .val (.int p2), .val (.int p3), .val (.int p4), .val (.int p5), .val (.int (5 : Int32)), .val (.ref b1), .val (.ref r44), .val (.int (4 : Int32)), .val (.ref r45), .unset]) rfl rfl rfl ?_
              refine gLoadA 192 X45 hx (H at_190) rfl rfl rfl ?_
              refine gCallS X45 hx hZ (y := mn0) hown rfl (by rw [hml]; rfl) (ow hw 30 rfl) (ow hw 31 rfl) (ow hw 32 rfl) (ow hw 33 rfl) (by decide) (argsL := [(.ref r44)]) (st := []) (c_nm_5_4 l Z a0 hw r44 t44 ct44 ch0 ch1 ch2 ch3 ch4 T45.heap f45_1 f45_0 f45_3 f45_4 f45_5 f45_6 hch0 hch1 hch2 hch3 hch4  d4) (lenOf pd_14 rfl) (H at_192) (pc' := 195) rfl rfl (by decide) (W := 0) (Nat.le_of_eq rfl) (by decide) (by decide) (by decide) ?_
              intro T46 v46 L46 X46 hQ46
              obtain ⟨r46, t46, ct46, rfl, Nq46, Kq46, Eq46, Cq46, Vq46, Aq46⟩ := hQ46
              have N46 := Fr.app N45 (fun y hy => Nat.le_trans zs45 (Nq46 y hy))
              have H46 := H45.trans (CHr.keep Kq46 sf0 H45.1)
              have hk46 := Nat.le_trans hk45 Kq46.1
              have s46_0 := Safe.keep Kq46 sf0 H45.1 s45_0
              have f46_0 := own_cpt_keep f45_0 Kq46 ns0
              have f46_1 := own_sio_keep f45_1 Kq46 ns0
              have f46_2 := f45_2.keep Kq46 nin0
              have f46_3 := f45_3.keep Kq46
              have f46_4 := f45_4.keep Kq46 nin0
              have f46_5 := f45_5.keep Kq46 nin0
              have f46_6 := f45_6.keep Kq46 nin0
              have f46_7 := Eq45.keep Kq46
              have f46_8 := Cq45.keep Kq46 nin0
              have f46_9 := Vq45.keep Kq46 nin0
              have f46_10 := Aq45.keep Kq46 nin0
              have zs46 := Nat.le_trans zs45 Kq46.1
              refine gStoreA 197 X46 hx (H at_195) (l' := #[.val (.int p0), .val (.int p1), .val (.int p2), .val (.int p3), .val (.int p4), .val (.int p5), .val (.int (5 : Int32)), .val (.ref b1), .val (.ref r44), .val (.int (4 : Int32)), .val (.ref r45), .val (.ref r46)]) rfl rfl rfl ?_
              refine gLoadA 199 X46 hx (H at_197) rfl rfl rfl ?_
              refine gIfnonnullR X46 hx (H at_199) (pc' := 213) (by decide) (by decide) ?_
              refine gLoadA 215 X46 hx (H at_213) rfl rfl rfl ?_
              refine gIfnullR X46 hx (H at_215) (pc' := 218) rfl ?_
              refine gLoadA 220 X46 hx (H at_218) rfl rfl rfl ?_
              refine gLoadA 222 X46 hx (H at_220) rfl rfl rfl ?_
              refine gCallVJ X46 hx hZ (y := mn11) hown rfl (by rw [hml]; rfl) Eq46 (ow hw 116 rfl) (ow hw 117 rfl) (ow hw 119 rfl) (ow hw 118 rfl) (ow hw 11 rfl) (ow hw 120 rfl) (by decide) (argsL := [(.ref r45)]) (st := []) (c_eqs_4 l Z a0 hw r46 r45 t46 t45 ct46 ct45 ch0 ch1 ch2 ch3 _ f46_0 Eq46 Cq46 Vq46 Aq46 f46_7 f46_8 f46_9 f46_10) (lenOf pd_12 rfl) (H at_222) (pc' := 225) rfl rfl rfl rfl (by decide) (W := 0) (Nat.le_of_eq rfl) (by decide) (by decide) (by decide) ?_
              intro T47 X47 e47
              refine gIfEqT X47 hx (H at_225) (pc' := 232) (by decide) (by decide) (pn := 228) rfl (fun (c225 : (1 : Int) = (0 : Int)) => ?_) (fun (c225 : ¬ (1 : Int) = (0 : Int)) => ?_)
              · exact absurd c225 (by decide)
              · refine gIconst 229 X47 hx (v := (1 : Int32)) (H at_228) rfl rfl ?_
                refine gGoto X47 hx (H at_229) (pc' := 233) (by decide) (by decide) ?_
                exact gRetHN X47 hx hlk hret (by simp) (H at_233) (w := (1 : Int32)) rfl e47 hS hk46 hZ hEL H46 (by decide) (by decide) (⟨rfl, N46⟩)
      refine gLoadI 85 X44 hx (H at_83) rfl rfl ?_
      refine gIfLe X44 hx (H at_85) (pc' := 100) (by decide) (by decide) (pn := 88) rfl (fun (c85 : (5 : Int) ≤ (0 : Int)) => ?_) (fun (c85 : (0 : Int) < (5 : Int)) => ?_)
      · exact absurd c85 (by decide)
      · refine gLoadA 90 X44 hx (H at_88) rfl rfl rfl ?_
        refine gIconst 91 X44 hx (v := (0 : Int32)) (H at_90) rfl rfl ?_
        refine gCaload X44 hx hZ rfl f44_2 (j := (0 : Int32)) (v := (.int ch0)) (by decide) (by decide) rfl (H at_91) (pc' := 92) rfl ?_
        refine gBipush 94 X44 hx (v := (47 : Int32)) (H at_92) rfl rfl ?_
        refine gIcmpNeT X44 hx (H at_94) (pc' := 100) (by decide) (by decide) (pn := 97) rfl (fun (c94 : ¬ ch0.toInt = (47 : Int)) => ?_) (fun (c94 : ch0.toInt = (47 : Int)) => ?_)
        · refine gLoadI 102 X44 hx (H at_100) rfl rfl ?_
          refine gIconst 103 X44 hx (v := (1 : Int32)) (H at_102) rfl rfl ?_
          refine gIcmpLe X44 hx (H at_103) (pc' := 118) (by decide) (by decide) (pn := 106) rfl (fun (c103 : (5 : Int) ≤ (1 : Int)) => ?_) (fun (c103 : (1 : Int) < (5 : Int)) => ?_)
          · exact absurd c103 (by decide)
          · refine gLoadA 108 X44 hx (H at_106) rfl rfl rfl ?_
            refine gIconst 109 X44 hx (v := (1 : Int32)) (H at_108) rfl rfl ?_
            refine gCaload X44 hx hZ rfl f44_2 (j := (1 : Int32)) (v := (.int ch1)) (by decide) (by decide) rfl (H at_109) (pc' := 110) rfl ?_
            refine gBipush 112 X44 hx (v := (47 : Int32)) (H at_110) rfl rfl ?_
            refine gIcmpNeT X44 hx (H at_112) (pc' := 118) (by decide) (by decide) (pn := 115) rfl (fun (c112 : ¬ ch1.toInt = (47 : Int)) => ?_) (fun (c112 : ch1.toInt = (47 : Int)) => ?_)
            · refine gLoadI 120 X44 hx (H at_118) rfl rfl ?_
              refine gIconst 121 X44 hx (v := (2 : Int32)) (H at_120) rfl rfl ?_
              refine gIcmpLe X44 hx (H at_121) (pc' := 136) (by decide) (by decide) (pn := 124) rfl (fun (c121 : (5 : Int) ≤ (2 : Int)) => ?_) (fun (c121 : (2 : Int) < (5 : Int)) => ?_)
              · exact absurd c121 (by decide)
              · refine gLoadA 126 X44 hx (H at_124) rfl rfl rfl ?_
                refine gIconst 127 X44 hx (v := (2 : Int32)) (H at_126) rfl rfl ?_
                refine gCaload X44 hx hZ rfl f44_2 (j := (2 : Int32)) (v := (.int ch2)) (by decide) (by decide) rfl (H at_127) (pc' := 128) rfl ?_
                refine gBipush 130 X44 hx (v := (47 : Int32)) (H at_128) rfl rfl ?_
                refine gIcmpNeT X44 hx (H at_130) (pc' := 136) (by decide) (by decide) (pn := 133) rfl (fun (c130 : ¬ ch2.toInt = (47 : Int)) => ?_) (fun (c130 : ch2.toInt = (47 : Int)) => ?_)
                · refine gLoadI 138 X44 hx (H at_136) rfl rfl ?_
                  refine gIconst 139 X44 hx (v := (3 : Int32)) (H at_138) rfl rfl ?_
                  refine gIcmpLe X44 hx (H at_139) (pc' := 154) (by decide) (by decide) (pn := 142) rfl (fun (c139 : (5 : Int) ≤ (3 : Int)) => ?_) (fun (c139 : (3 : Int) < (5 : Int)) => ?_)
                  · exact absurd c139 (by decide)
                  · refine gLoadA 144 X44 hx (H at_142) rfl rfl rfl ?_
                    refine gIconst 145 X44 hx (v := (3 : Int32)) (H at_144) rfl rfl ?_
                    refine gCaload X44 hx hZ rfl f44_2 (j := (3 : Int32)) (v := (.int ch3)) (by decide) (by decide) rfl (H at_145) (pc' := 146) rfl ?_
                    refine gBipush 148 X44 hx (v := (47 : Int32)) (H at_146) rfl rfl ?_
                    refine gIcmpNeT X44 hx (H at_148) (pc' := 154) (by decide) (by decide) (pn := 151) rfl (fun (c148 : ¬ ch3.toInt = (47 : Int)) => ?_) (fun (c148 : ch3.toInt = (47 : Int)) => ?_)
                    · exact J _
                    · refine gIconst 152 X44 hx (v := (3 : Int32)) (H at_151) rfl rfl ?_
                      refine gStoreI 154 X44 hx (H at_152) (l' := #[.val (.int p0), .val (.int p1), .val (.int p2), .val (.int p3), .val (.int p4), .val (.int p5), .val (.int (5 : Int32)), .val (.ref b1), .val (.ref r44), .val (.int (3 : Int32)), .unset, .unset]) rfl rfl ?_
                      exact J _
                · refine gIconst 134 X44 hx (v := (2 : Int32)) (H at_133) rfl rfl ?_
                  refine gStoreI 136 X44 hx (H at_134) (l' := #[.val (.int p0), .val (.int p1), .val (.int p2), .val (.int p3), .val (.int p4), .val (.int p5), .val (.int (5 : Int32)), .val (.ref b1), .val (.ref r44), .val (.int (2 : Int32)), .unset, .unset]) rfl rfl ?_
                  refine gLoadI 138 X44 hx (H at_136) rfl rfl ?_
                  refine gIconst 139 X44 hx (v := (3 : Int32)) (H at_138) rfl rfl ?_
                  refine gIcmpLe X44 hx (H at_139) (pc' := 154) (by decide) (by decide) (pn := 142) rfl (fun (c139 : (5 : Int) ≤ (3 : Int)) => ?_) (fun (c139 : (3 : Int) < (5 : Int)) => ?_)
                  · exact absurd c139 (by decide)
                  · refine gLoadA 144 X44 hx (H at_142) rfl rfl rfl ?_
                    refine gIconst 145 X44 hx (v := (3 : Int32)) (H at_144) rfl rfl ?_
                    refine gCaload X44 hx hZ rfl f44_2 (j := (3 : Int32)) (v := (.int ch3)) (by decide) (by decide) rfl (H at_145) (pc' := 146) rfl ?_
                    refine gBipush 148 X44 hx (v := (47 : Int32)) (H at_146) rfl rfl ?_
                    refine gIcmpNeT X44 hx (H at_148) (pc' := 154) (by decide) (by decide) (pn := 151) rfl (fun (c148 : ¬ ch3.toInt = (47 : Int)) => ?_) (fun (c148 : ch3.toInt = (47 : Int)) => ?_)
                    · exact J _
                    · refine gIconst 152 X44 hx (v := (3 : Int32)) (H at_151) rfl rfl ?_
                      refine gStoreI 154 X44 hx (H at_152) (l' := #[.val (.int p0), .val (.int p1), .val (.int p2), .val (.int p3), .val (.int p4), .val (.int p5), .val (.int (5 : Int32)), .val (.ref b1), .val (.ref r44), .val (.int (3 : Int32)), .unset, .unset]) rfl rfl ?_
                      exact J _
            · refine gIconst 116 X44 hx (v := (1 : Int32)) (H at_115) rfl rfl ?_
              refine gStoreI 118 X44 hx (H at_116) (l' := #[.val (.int p0), .val (.int p1), .val (.int p2), .val (.int p3), .val (.int p4), .val (.int p5), .val (.int (5 : Int32)), .val (.ref b1), .val (.ref r44), .val (.int (1 : Int32)), .unset, .unset]) rfl rfl ?_
              refine gLoadI 120 X44 hx (H at_118) rfl rfl ?_
              refine gIconst 121 X44 hx (v := (2 : Int32)) (H at_120) rfl rfl ?_
              refine gIcmpLe X44 hx (H at_121) (pc' := 136) (by decide) (by decide) (pn := 124) rfl (fun (c121 : (5 : Int) ≤ (2 : Int)) => ?_) (fun (c121 : (2 : Int) < (5 : Int)) => ?_)
              · exact absurd c121 (by decide)
              · refine gLoadA 126 X44 hx (H at_124) rfl rfl rfl ?_
                refine gIconst 127 X44 hx (v := (2 : Int32)) (H at_126) rfl rfl ?_
                refine gCaload X44 hx hZ rfl f44_2 (j := (2 : Int32)) (v := (.int ch2)) (by decide) (by decide) rfl (H at_127) (pc' := 128) rfl ?_
                refine gBipush 130 X44 hx (v := (47 : Int32)) (H at_128) rfl rfl ?_
                refine gIcmpNeT X44 hx (H at_130) (pc' := 136) (by decide) (by decide) (pn := 133) rfl (fun (c130 : ¬ ch2.toInt = (47 : Int)) => ?_) (fun (c130 : ch2.toInt = (47 : Int)) => ?_)
                · refine gLoadI 138 X44 hx (H at_136) rfl rfl ?_
                  refine gIconst 139 X44 hx (v := (3 : Int32)) (H at_138) rfl rfl ?_
                  refine gIcmpLe X44 hx (H at_139) (pc' := 154) (by decide) (by decide) (pn := 142) rfl (fun (c139 : (5 : Int) ≤ (3 : Int)) => ?_) (fun (c139 : (3 : Int) < (5 : Int)) => ?_)
                  · exact absurd c139 (by decide)
                  · refine gLoadA 144 X44 hx (H at_142) rfl rfl rfl ?_
                    refine gIconst 145 X44 hx (v := (3 : Int32)) (H at_144) rfl rfl ?_
                    refine gCaload X44 hx hZ rfl f44_2 (j := (3 : Int32)) (v := (.int ch3)) (by decide) (by decide) rfl (H at_145) (pc' := 146) rfl ?_
                    refine gBipush 148 X44 hx (v := (47 : Int32)) (H at_146) rfl rfl ?_
                    refine gIcmpNeT X44 hx (H at_148) (pc' := 154) (by decide) (by decide) (pn := 151) rfl (fun (c148 : ¬ ch3.toInt = (47 : Int)) => ?_) (fun (c148 : ch3.toInt = (47 : Int)) => ?_)
                    · exact J _
                    · refine gIconst 152 X44 hx (v := (3 : Int32)) (H at_151) rfl rfl ?_
                      refine gStoreI 154 X44 hx (H at_152) (l' := #[.val (.int p0), .val (.int p1), .val (.int p2), .val (.int p3), .val (.int p4), .val (.int p5), .val (.int (5 : Int32)), .val (.ref b1), .val (.ref r44), .val (.int (3 : Int32)), .unset, .unset]) rfl rfl ?_
                      exact J _
                · refine gIconst 134 X44 hx (v := (2 : Int32)) (H at_133) rfl rfl ?_
                  refine gStoreI 136 X44 hx (H at_134) (l' := #[.val (.int p0), .val (.int p1), .val (.int p2), .val (.int p3), .val (.int p4), .val (.int p5), .val (.int (5 : Int32)), .val (.ref b1), .val (.ref r44), .val (.int (2 : Int32)), .unset, .unset]) rfl rfl ?_
                  refine gLoadI 138 X44 hx (H at_136) rfl rfl ?_
                  refine gIconst 139 X44 hx (v := (3 : Int32)) (H at_138) rfl rfl ?_
                  refine gIcmpLe X44 hx (H at_139) (pc' := 154) (by decide) (by decide) (pn := 142) rfl (fun (c139 : (5 : Int) ≤ (3 : Int)) => ?_) (fun (c139 : (3 : Int) < (5 : Int)) => ?_)
                  · exact absurd c139 (by decide)
                  · refine gLoadA 144 X44 hx (H at_142) rfl rfl rfl ?_
                    refine gIconst 145 X44 hx (v := (3 : Int32)) (H at_144) rfl rfl ?_
                    refine gCaload X44 hx hZ rfl f44_2 (j := (3 : Int32)) (v := (.int ch3)) (by decide) (by decide) rfl (H at_145) (pc' := 146) rfl ?_
                    refine gBipush 148 X44 hx (v := (47 : Int32)) (H at_146) rfl rfl ?_
                    refine gIcmpNeT X44 hx (H at_148) (pc' := 154) (by decide) (by decide) (pn := 151) rfl (fun (c148 : ¬ ch3.toInt = (47 : Int)) => ?_) (fun (c148 : ch3.toInt = (47 : Int)) => ?_)
                    · exact J _
                    · refine gIconst 152 X44 hx (v := (3 : Int32)) (H at_151) rfl rfl ?_
                      refine gStoreI 154 X44 hx (H at_152) (l' := #[.val (.int p0), .val (.int p1), .val (.int p2), .val (.int p3), .val (.int p4), .val (.int p5), .val (.int (5 : Int32)), .val (.ref b1), .val (.ref r44), .val (.int (3 : Int32)), .unset, .unset]) rfl rfl ?_
                      exact J _
        · refine gIconst 98 X44 hx (v := (0 : Int32)) (H at_97) rfl rfl ?_
          refine gStoreI 100 X44 hx (H at_98) (l' := #[.val (.int p0), .val (.int p1), .val (.int p2), .val (.int p3), .val (.int p4), .val (.int p5), .val (.int (5 : Int32)), .val (.ref b1), .val (.ref r44), .val (.int (0 : Int32)), .unset, .unset]) rfl rfl ?_
          refine gLoadI 102 X44 hx (H at_100) rfl rfl ?_
          refine gIconst 103 X44 hx (v := (1 : Int32)) (H at_102) rfl rfl ?_
          refine gIcmpLe X44 hx (H at_103) (pc' := 118) (by decide) (by decide) (pn := 106) rfl (fun (c103 : (5 : Int) ≤ (1 : Int)) => ?_) (fun (c103 : (1 : Int) < (5 : Int)) => ?_)
          · exact absurd c103 (by decide)
          · refine gLoadA 108 X44 hx (H at_106) rfl rfl rfl ?_
            refine gIconst 109 X44 hx (v := (1 : Int32)) (H at_108) rfl rfl ?_
            refine gCaload X44 hx hZ rfl f44_2 (j := (1 : Int32)) (v := (.int ch1)) (by decide) (by decide) rfl (H at_109) (pc' := 110) rfl ?_
            refine gBipush 112 X44 hx (v := (47 : Int32)) (H at_110) rfl rfl ?_
            refine gIcmpNeT X44 hx (H at_112) (pc' := 118) (by decide) (by decide) (pn := 115) rfl (fun (c112 : ¬ ch1.toInt = (47 : Int)) => ?_) (fun (c112 : ch1.toInt = (47 : Int)) => ?_)
            · refine gLoadI 120 X44 hx (H at_118) rfl rfl ?_
              refine gIconst 121 X44 hx (v := (2 : Int32)) (H at_120) rfl rfl ?_
              refine gIcmpLe X44 hx (H at_121) (pc' := 136) (by decide) (by decide) (pn := 124) rfl (fun (c121 : (5 : Int) ≤ (2 : Int)) => ?_) (fun (c121 : (2 : Int) < (5 : Int)) => ?_)
              · exact absurd c121 (by decide)
              · refine gLoadA 126 X44 hx (H at_124) rfl rfl rfl ?_
                refine gIconst 127 X44 hx (v := (2 : Int32)) (H at_126) rfl rfl ?_
                refine gCaload X44 hx hZ rfl f44_2 (j := (2 : Int32)) (v := (.int ch2)) (by decide) (by decide) rfl (H at_127) (pc' := 128) rfl ?_
                refine gBipush 130 X44 hx (v := (47 : Int32)) (H at_128) rfl rfl ?_
                refine gIcmpNeT X44 hx (H at_130) (pc' := 136) (by decide) (by decide) (pn := 133) rfl (fun (c130 : ¬ ch2.toInt = (47 : Int)) => ?_) (fun (c130 : ch2.toInt = (47 : Int)) => ?_)
                · refine gLoadI 138 X44 hx (H at_136) rfl rfl ?_
                  refine gIconst 139 X44 hx (v := (3 : Int32)) (H at_138) rfl rfl ?_
                  refine gIcmpLe X44 hx (H at_139) (pc' := 154) (by decide) (by decide) (pn := 142) rfl (fun (c139 : (5 : Int) ≤ (3 : Int)) => ?_) (fun (c139 : (3 : Int) < (5 : Int)) => ?_)
                  · exact absurd c139 (by decide)
                  · refine gLoadA 144 X44 hx (H at_142) rfl rfl rfl ?_
                    refine gIconst 145 X44 hx (v := (3 : Int32)) (H at_144) rfl rfl ?_
                    refine gCaload X44 hx hZ rfl f44_2 (j := (3 : Int32)) (v := (.int ch3)) (by decide) (by decide) rfl (H at_145) (pc' := 146) rfl ?_
                    refine gBipush 148 X44 hx (v := (47 : Int32)) (H at_146) rfl rfl ?_
                    refine gIcmpNeT X44 hx (H at_148) (pc' := 154) (by decide) (by decide) (pn := 151) rfl (fun (c148 : ¬ ch3.toInt = (47 : Int)) => ?_) (fun (c148 : ch3.toInt = (47 : Int)) => ?_)
                    · exact J _
                    · refine gIconst 152 X44 hx (v := (3 : Int32)) (H at_151) rfl rfl ?_
                      refine gStoreI 154 X44 hx (H at_152) (l' := #[.val (.int p0), .val (.int p1), .val (.int p2), .val (.int p3), .val (.int p4), .val (.int p5), .val (.int (5 : Int32)), .val (.ref b1), .val (.ref r44), .val (.int (3 : Int32)), .unset, .unset]) rfl rfl ?_
                      exact J _
                · refine gIconst 134 X44 hx (v := (2 : Int32)) (H at_133) rfl rfl ?_
                  refine gStoreI 136 X44 hx (H at_134) (l' := #[.val (.int p0), .val (.int p1), .val (.int p2), .val (.int p3), .val (.int p4), .val (.int p5), .val (.int (5 : Int32)), .val (.ref b1), .val (.ref r44), .val (.int (2 : Int32)), .unset, .unset]) rfl rfl ?_
                  refine gLoadI 138 X44 hx (H at_136) rfl rfl ?_
                  refine gIconst 139 X44 hx (v := (3 : Int32)) (H at_138) rfl rfl ?_
                  refine gIcmpLe X44 hx (H at_139) (pc' := 154) (by decide) (by decide) (pn := 142) rfl (fun (c139 : (5 : Int) ≤ (3 : Int)) => ?_) (fun (c139 : (3 : Int) < (5 : Int)) => ?_)
                  · exact absurd c139 (by decide)
                  · refine gLoadA 144 X44 hx (H at_142) rfl rfl rfl ?_
                    refine gIconst 145 X44 hx (v := (3 : Int32)) (H at_144) rfl rfl ?_
                    refine gCaload X44 hx hZ rfl f44_2 (j := (3 : Int32)) (v := (.int ch3)) (by decide) (by decide) rfl (H at_145) (pc' := 146) rfl ?_
                    refine gBipush 148 X44 hx (v := (47 : Int32)) (H at_146) rfl rfl ?_
                    refine gIcmpNeT X44 hx (H at_148) (pc' := 154) (by decide) (by decide) (pn := 151) rfl (fun (c148 : ¬ ch3.toInt = (47 : Int)) => ?_) (fun (c148 : ch3.toInt = (47 : Int)) => ?_)
                    · exact J _
                    · refine gIconst 152 X44 hx (v := (3 : Int32)) (H at_151) rfl rfl ?_
                      refine gStoreI 154 X44 hx (H at_152) (l' := #[.val (.int p0), .val (.int p1), .val (.int p2), .val (.int p3), .val (.int p4), .val (.int p5), .val (.int (5 : Int32)), .val (.ref b1), .val (.ref r44), .val (.int (3 : Int32)), .unset, .unset]) rfl rfl ?_
                      exact J _
            · refine gIconst 116 X44 hx (v := (1 : Int32)) (H at_115) rfl rfl ?_
              refine gStoreI 118 X44 hx (H at_116) (l' := #[.val (.int p0), .val (.int p1), .val (.int p2), .val (.int p3), .val (.int p4), .val (.int p5), .val (.int (5 : Int32)), .val (.ref b1), .val (.ref r44), .val (.int (1 : Int32)), .unset, .unset]) rfl rfl ?_
              refine gLoadI 120 X44 hx (H at_118) rfl rfl ?_
              refine gIconst 121 X44 hx (v := (2 : Int32)) (H at_120) rfl rfl ?_
              refine gIcmpLe X44 hx (H at_121) (pc' := 136) (by decide) (by decide) (pn := 124) rfl (fun (c121 : (5 : Int) ≤ (2 : Int)) => ?_) (fun (c121 : (2 : Int) < (5 : Int)) => ?_)
              · exact absurd c121 (by decide)
              · refine gLoadA 126 X44 hx (H at_124) rfl rfl rfl ?_
                refine gIconst 127 X44 hx (v := (2 : Int32)) (H at_126) rfl rfl ?_
                refine gCaload X44 hx hZ rfl f44_2 (j := (2 : Int32)) (v := (.int ch2)) (by decide) (by decide) rfl (H at_127) (pc' := 128) rfl ?_
                refine gBipush 130 X44 hx (v := (47 : Int32)) (H at_128) rfl rfl ?_
                refine gIcmpNeT X44 hx (H at_130) (pc' := 136) (by decide) (by decide) (pn := 133) rfl (fun (c130 : ¬ ch2.toInt = (47 : Int)) => ?_) (fun (c130 : ch2.toInt = (47 : Int)) => ?_)
                · refine gLoadI 138 X44 hx (H at_136) rfl rfl ?_
                  refine gIconst 139 X44 hx (v := (3 : Int32)) (H at_138) rfl rfl ?_
                  refine gIcmpLe X44 hx (H at_139) (pc' := 154) (by decide) (by decide) (pn := 142) rfl (fun (c139 : (5 : Int) ≤ (3 : Int)) => ?_) (fun (c139 : (3 : Int) < (5 : Int)) => ?_)
                  · exact absurd c139 (by decide)
                  · refine gLoadA 144 X44 hx (H at_142) rfl rfl rfl ?_
                    refine gIconst 145 X44 hx (v := (3 : Int32)) (H at_144) rfl rfl ?_
                    refine gCaload X44 hx hZ rfl f44_2 (j := (3 : Int32)) (v := (.int ch3)) (by decide) (by decide) rfl (H at_145) (pc' := 146) rfl ?_
                    refine gBipush 148 X44 hx (v := (47 : Int32)) (H at_146) rfl rfl ?_
                    refine gIcmpNeT X44 hx (H at_148) (pc' := 154) (by decide) (by decide) (pn := 151) rfl (fun (c148 : ¬ ch3.toInt = (47 : Int)) => ?_) (fun (c148 : ch3.toInt = (47 : Int)) => ?_)
                    · exact J _
                    · refine gIconst 152 X44 hx (v := (3 : Int32)) (H at_151) rfl rfl ?_
                      refine gStoreI 154 X44 hx (H at_152) (l' := #[.val (.int p0), .val (.int p1), .val (.int p2), .val (.int p3), .val (.int p4), .val (.int p5), .val (.int (5 : Int32)), .val (.ref b1), .val (.ref r44), .val (.int (3 : Int32)), .unset, .unset]) rfl rfl ?_
                      exact J _
                · refine gIconst 134 X44 hx (v := (2 : Int32)) (H at_133) rfl rfl ?_
                  refine gStoreI 136 X44 hx (H at_134) (l' := #[.val (.int p0), .val (.int p1), .val (.int p2), .val (.int p3), .val (.int p4), .val (.int p5), .val (.int (5 : Int32)), .val (.ref b1), .val (.ref r44), .val (.int (2 : Int32)), .unset, .unset]) rfl rfl ?_
                  refine gLoadI 138 X44 hx (H at_136) rfl rfl ?_
                  refine gIconst 139 X44 hx (v := (3 : Int32)) (H at_138) rfl rfl ?_
                  refine gIcmpLe X44 hx (H at_139) (pc' := 154) (by decide) (by decide) (pn := 142) rfl (fun (c139 : (5 : Int) ≤ (3 : Int)) => ?_) (fun (c139 : (3 : Int) < (5 : Int)) => ?_)
                  · exact absurd c139 (by decide)
                  · refine gLoadA 144 X44 hx (H at_142) rfl rfl rfl ?_
                    refine gIconst 145 X44 hx (v := (3 : Int32)) (H at_144) rfl rfl ?_
                    refine gCaload X44 hx hZ rfl f44_2 (j := (3 : Int32)) (v := (.int ch3)) (by decide) (by decide) rfl (H at_145) (pc' := 146) rfl ?_
                    refine gBipush 148 X44 hx (v := (47 : Int32)) (H at_146) rfl rfl ?_
                    refine gIcmpNeT X44 hx (H at_148) (pc' := 154) (by decide) (by decide) (pn := 151) rfl (fun (c148 : ¬ ch3.toInt = (47 : Int)) => ?_) (fun (c148 : ch3.toInt = (47 : Int)) => ?_)
                    · exact J _
                    · refine gIconst 152 X44 hx (v := (3 : Int32)) (H at_151) rfl rfl ?_
                      refine gStoreI 154 X44 hx (H at_152) (l' := #[.val (.int p0), .val (.int p1), .val (.int p2), .val (.int p3), .val (.int p4), .val (.int p5), .val (.int (5 : Int32)), .val (.ref b1), .val (.ref r44), .val (.int (3 : Int32)), .unset, .unset]) rfl rfl ?_
                      exact J _
    · by_cases d3 : ch3.toInt = 47
      · refine gIconst 81 X44 hx (v := (-1 : Int32)) (H at_80) rfl rfl ?_
        refine gStoreI 83 X44 hx (H at_81) (l' := #[.val (.int p0), .val (.int p1), .val (.int p2), .val (.int p3), .val (.int p4), .val (.int p5), .val (.int (5 : Int32)), .val (.ref b1), .val (.ref r44), .val (.int (-1 : Int32)), .unset, .unset]) rfl rfl ?_
        have J : ∀ pv : Int32, Goes p e below (FinH Z [("java/lang/String", 7)] s room_1.cells room_1.slots (Law1 h0)) T44 (mkF m 136 #[.val (.int p0), .val (.int p1), .val (.int p2), .val (.int p3), .val (.int p4), .val (.int p5), .val (.int (5 : Int32)), .val (.ref b1), .val (.ref r44), .val (.int pv), .unset, .unset] []) := by
          intro pv
          refine gLoadI 138 X44 hx (H at_136) rfl rfl ?_
          refine gIconst 139 X44 hx (v := (3 : Int32)) (H at_138) rfl rfl ?_
          refine gIcmpLe X44 hx (H at_139) (pc' := 154) (by decide) (by decide) (pn := 142) rfl (fun (c139 : (5 : Int) ≤ (3 : Int)) => ?_) (fun (c139 : (3 : Int) < (5 : Int)) => ?_)
          · exact absurd c139 (by decide)
          · refine gLoadA 144 X44 hx (H at_142) rfl rfl rfl ?_
            refine gIconst 145 X44 hx (v := (3 : Int32)) (H at_144) rfl rfl ?_
            refine gCaload X44 hx hZ rfl f44_2 (j := (3 : Int32)) (v := (.int ch3)) (by decide) (by decide) rfl (H at_145) (pc' := 146) rfl ?_
            refine gBipush 148 X44 hx (v := (47 : Int32)) (H at_146) rfl rfl ?_
            refine gIcmpNeT X44 hx (H at_148) (pc' := 154) (by decide) (by decide) (pn := 151) rfl (fun (c148 : ¬ ch3.toInt = (47 : Int)) => ?_) (fun (c148 : ch3.toInt = (47 : Int)) => ?_)
            · exact absurd d3 c148
            · refine gIconst 152 X44 hx (v := (3 : Int32)) (H at_151) rfl rfl ?_
              refine gStoreI 154 X44 hx (H at_152) (l' := #[.val (.int p0), .val (.int p1), .val (.int p2), .val (.int p3), .val (.int p4), .val (.int p5), .val (.int (5 : Int32)), .val (.ref b1), .val (.ref r44), .val (.int (3 : Int32)), .unset, .unset]) rfl rfl ?_
              refine gLoadI 156 X44 hx (H at_154) rfl rfl ?_
              refine gIconst 157 X44 hx (v := (4 : Int32)) (H at_156) rfl rfl ?_
              refine gIcmpLe X44 hx (H at_157) (pc' := 172) (by decide) (by decide) (pn := 160) rfl (fun (c157 : (5 : Int) ≤ (4 : Int)) => ?_) (fun (c157 : (4 : Int) < (5 : Int)) => ?_)
              · exact absurd c157 (by decide)
              · refine gLoadA 162 X44 hx (H at_160) rfl rfl rfl ?_
                refine gIconst 163 X44 hx (v := (4 : Int32)) (H at_162) rfl rfl ?_
                refine gCaload X44 hx hZ rfl f44_2 (j := (4 : Int32)) (v := (.int ch4)) (by decide) (by decide) rfl (H at_163) (pc' := 164) rfl ?_
                refine gBipush 166 X44 hx (v := (47 : Int32)) (H at_164) rfl rfl ?_
                refine gIcmpNeT X44 hx (H at_166) (pc' := 172) (by decide) (by decide) (pn := 169) rfl (fun (c166 : ¬ ch4.toInt = (47 : Int)) => ?_) (fun (c166 : ch4.toInt = (47 : Int)) => ?_)
                · refine gLoadI 174 X44 hx (H at_172) rfl rfl ?_
                  refine gIfLe X44 hx (H at_174) (pc' := 187) (by decide) (by decide) (pn := 177) rfl (fun (c174 : (3 : Int) ≤ (0 : Int)) => ?_) (fun (c174 : (0 : Int) < (3 : Int)) => ?_)
                  · exact absurd c174 (by decide)
                  · refine gLoadA 179 X44 hx (H at_177) rfl rfl rfl ?_
                    refine gLoadI 181 X44 hx (H at_179) rfl rfl ?_
                    refine gCallS X44 hx hZ (y := mn3) hown rfl (by rw [hml]; rfl) (ow hw 6 rfl) (ow hw 7 rfl) (ow hw 4 rfl) (ow hw 8 rfl) (by decide) (argsL := [(.ref b1), (.int (3 : Int32))]) (st := []) (c_mk_3 l Z a0 hw b1 _ ch0 ch1 ch2 ch3 ch4 T44.heap f44_0 f44_2 hch0 hch1 hch2 hch3 hch4) (lenOf pd_22 rfl) (H at_181) (pc' := 184) rfl rfl (by decide) (W := 0) (Nat.le_of_eq rfl) (by decide) (by decide) (by decide) ?_
                    intro T48 v48 L48 X48 hQ48
                    obtain ⟨r48, t48, ct48, rfl, Nq48, Kq48, Eq48, Cq48, Vq48, Aq48⟩ := hQ48
                    have N48 := Fr.app N44 (fun y hy => Nat.le_trans zs44 (Nq48 y hy))
                    have H48 := H44.trans (CHr.keep Kq48 sf0 H44.1)
                    have hk48 := Nat.le_trans hk44 Kq48.1
                    have s48_0 := Safe.keep Kq48 sf0 H44.1 s44_0
                    have f48_0 := own_cpt_keep f44_0 Kq48 ns0
                    have f48_1 := own_sio_keep f44_1 Kq48 ns0
                    have f48_2 := f44_2.keep Kq48 nin0
                    have f48_3 := Eq44.keep Kq48
                    have f48_4 := Cq44.keep Kq48 nin0
                    have f48_5 := Vq44.keep Kq48 nin0
                    have f48_6 := Aq44.keep Kq48 nin0
                    have zs48 := Nat.le_trans zs44 Kq48.1
                    refine gGoto X48 hx (H at_184) (pc' := 188) (by decide) (by decide) ?_
                    refine gStoreA 190 X48 hx (H at_188) (l' := #[.val (.int p0), .val (.int p1), .val (.int p2), .val (.int p3), .val (.int p4), .val (.int p5), .val (.int (5 : Int32)), .val (.ref b1), .val (.ref r44), .val (.int (3 : Int32)), .val (.ref r48), .unset]) rfl rfl rfl ?_
                    refine gLoadA 192 X48 hx (H at_190) rfl rfl rfl ?_
                    refine gCallS X48 hx hZ (y := mn0) hown rfl (by rw [hml]; rfl) (ow hw 30 rfl) (ow hw 31 rfl) (ow hw 32 rfl) (ow hw 33 rfl) (by decide) (argsL := [(.ref r44)]) (st := []) (c_nm_5_3 l Z a0 hw r44 t44 ct44 ch0 ch1 ch2 ch3 ch4 T48.heap f48_1 f48_0 f48_3 f48_4 f48_5 f48_6 hch0 hch1 hch2 hch3 hch4 d4 d3) (lenOf pd_14 rfl) (H at_192) (pc' := 195) rfl rfl (by decide) (W := 0) (Nat.le_of_eq rfl) (by decide) (by decide) (by decide) ?_
                    intro T49 v49 L49 X49 hQ49
                    obtain ⟨r49, t49, ct49, rfl, Nq49, Kq49, Eq49, Cq49, Vq49, Aq49⟩ := hQ49
                    have N49 := Fr.app N48 (fun y hy => Nat.le_trans zs48 (Nq49 y hy))
                    have H49 := H48.trans (CHr.keep Kq49 sf0 H48.1)
                    have hk49 := Nat.le_trans hk48 Kq49.1
                    have s49_0 := Safe.keep Kq49 sf0 H48.1 s48_0
                    have f49_0 := own_cpt_keep f48_0 Kq49 ns0
                    have f49_1 := own_sio_keep f48_1 Kq49 ns0
                    have f49_2 := f48_2.keep Kq49 nin0
                    have f49_3 := f48_3.keep Kq49
                    have f49_4 := f48_4.keep Kq49 nin0
                    have f49_5 := f48_5.keep Kq49 nin0
                    have f49_6 := f48_6.keep Kq49 nin0
                    have f49_7 := Eq48.keep Kq49
                    have f49_8 := Cq48.keep Kq49 nin0
                    have f49_9 := Vq48.keep Kq49 nin0
                    have f49_10 := Aq48.keep Kq49 nin0
                    have zs49 := Nat.le_trans zs48 Kq49.1
                    refine gStoreA 197 X49 hx (H at_195) (l' := #[.val (.int p0), .val (.int p1), .val (.int p2), .val (.int p3), .val (.int p4), .val (.int p5), .val (.int (5 : Int32)), .val (.ref b1), .val (.ref r44), .val (.int (3 : Int32)), .val (.ref r48), .val (.ref r49)]) rfl rfl rfl ?_
                    refine gLoadA 199 X49 hx (H at_197) rfl rfl rfl ?_
                    refine gIfnonnullR X49 hx (H at_199) (pc' := 213) (by decide) (by decide) ?_
                    refine gLoadA 215 X49 hx (H at_213) rfl rfl rfl ?_
                    refine gIfnullR X49 hx (H at_215) (pc' := 218) rfl ?_
                    refine gLoadA 220 X49 hx (H at_218) rfl rfl rfl ?_
                    refine gLoadA 222 X49 hx (H at_220) rfl rfl rfl ?_
                    refine gCallVJ X49 hx hZ (y := mn11) hown rfl (by rw [hml]; rfl) Eq49 (ow hw 116 rfl) (ow hw 117 rfl) (ow hw 119 rfl) (ow hw 118 rfl) (ow hw 11 rfl) (ow hw 120 rfl) (by decide) (argsL := [(.ref r48)]) (st := []) (c_eqs_3 l Z a0 hw r49 r48 t49 t48 ct49 ct48 ch0 ch1 ch2 _ f49_0 Eq49 Cq49 Vq49 Aq49 f49_7 f49_8 f49_9 f49_10) (lenOf pd_12 rfl) (H at_222) (pc' := 225) rfl rfl rfl rfl (by decide) (W := 0) (Nat.le_of_eq rfl) (by decide) (by decide) (by decide) ?_
                    intro T50 X50 e50
                    refine gIfEqT X50 hx (H at_225) (pc' := 232) (by decide) (by decide) (pn := 228) rfl (fun (c225 : (1 : Int) = (0 : Int)) => ?_) (fun (c225 : ¬ (1 : Int) = (0 : Int)) => ?_)
                    · exact absurd c225 (by decide)
                    · refine gIconst 229 X50 hx (v := (1 : Int32)) (H at_228) rfl rfl ?_
                      refine gGoto X50 hx (H at_229) (pc' := 233) (by decide) (by decide) ?_
                      exact gRetHN X50 hx hlk hret (by simp) (H at_233) (w := (1 : Int32)) rfl e50 hS hk49 hZ hEL H49 (by decide) (by decide) (⟨rfl, N49⟩)
                · exact absurd c166 d4
        refine gLoadI 85 X44 hx (H at_83) rfl rfl ?_
        refine gIfLe X44 hx (H at_85) (pc' := 100) (by decide) (by decide) (pn := 88) rfl (fun (c85 : (5 : Int) ≤ (0 : Int)) => ?_) (fun (c85 : (0 : Int) < (5 : Int)) => ?_)
        · exact absurd c85 (by decide)
        · refine gLoadA 90 X44 hx (H at_88) rfl rfl rfl ?_
          refine gIconst 91 X44 hx (v := (0 : Int32)) (H at_90) rfl rfl ?_
          refine gCaload X44 hx hZ rfl f44_2 (j := (0 : Int32)) (v := (.int ch0)) (by decide) (by decide) rfl (H at_91) (pc' := 92) rfl ?_
          refine gBipush 94 X44 hx (v := (47 : Int32)) (H at_92) rfl rfl ?_
          refine gIcmpNeT X44 hx (H at_94) (pc' := 100) (by decide) (by decide) (pn := 97) rfl (fun (c94 : ¬ ch0.toInt = (47 : Int)) => ?_) (fun (c94 : ch0.toInt = (47 : Int)) => ?_)
          · refine gLoadI 102 X44 hx (H at_100) rfl rfl ?_
            refine gIconst 103 X44 hx (v := (1 : Int32)) (H at_102) rfl rfl ?_
            refine gIcmpLe X44 hx (H at_103) (pc' := 118) (by decide) (by decide) (pn := 106) rfl (fun (c103 : (5 : Int) ≤ (1 : Int)) => ?_) (fun (c103 : (1 : Int) < (5 : Int)) => ?_)
            · exact absurd c103 (by decide)
            · refine gLoadA 108 X44 hx (H at_106) rfl rfl rfl ?_
              refine gIconst 109 X44 hx (v := (1 : Int32)) (H at_108) rfl rfl ?_
              refine gCaload X44 hx hZ rfl f44_2 (j := (1 : Int32)) (v := (.int ch1)) (by decide) (by decide) rfl (H at_109) (pc' := 110) rfl ?_
              refine gBipush 112 X44 hx (v := (47 : Int32)) (H at_110) rfl rfl ?_
              refine gIcmpNeT X44 hx (H at_112) (pc' := 118) (by decide) (by decide) (pn := 115) rfl (fun (c112 : ¬ ch1.toInt = (47 : Int)) => ?_) (fun (c112 : ch1.toInt = (47 : Int)) => ?_)
              · refine gLoadI 120 X44 hx (H at_118) rfl rfl ?_
                refine gIconst 121 X44 hx (v := (2 : Int32)) (H at_120) rfl rfl ?_
                refine gIcmpLe X44 hx (H at_121) (pc' := 136) (by decide) (by decide) (pn := 124) rfl (fun (c121 : (5 : Int) ≤ (2 : Int)) => ?_) (fun (c121 : (2 : Int) < (5 : Int)) => ?_)
                · exact absurd c121 (by decide)
                · refine gLoadA 126 X44 hx (H at_124) rfl rfl rfl ?_
                  refine gIconst 127 X44 hx (v := (2 : Int32)) (H at_126) rfl rfl ?_
                  refine gCaload X44 hx hZ rfl f44_2 (j := (2 : Int32)) (v := (.int ch2)) (by decide) (by decide) rfl (H at_127) (pc' := 128) rfl ?_
                  refine gBipush 130 X44 hx (v := (47 : Int32)) (H at_128) rfl rfl ?_
                  refine gIcmpNeT X44 hx (H at_130) (pc' := 136) (by decide) (by decide) (pn := 133) rfl (fun (c130 : ¬ ch2.toInt = (47 : Int)) => ?_) (fun (c130 : ch2.toInt = (47 : Int)) => ?_)
                  · exact J _
                  · refine gIconst 134 X44 hx (v := (2 : Int32)) (H at_133) rfl rfl ?_
                    refine gStoreI 136 X44 hx (H at_134) (l' := #[.val (.int p0), .val (.int p1), .val (.int p2), .val (.int p3), .val (.int p4), .val (.int p5), .val (.int (5 : Int32)), .val (.ref b1), .val (.ref r44), .val (.int (2 : Int32)), .unset, .unset]) rfl rfl ?_
                    exact J _
              · refine gIconst 116 X44 hx (v := (1 : Int32)) (H at_115) rfl rfl ?_
                refine gStoreI 118 X44 hx (H at_116) (l' := #[.val (.int p0), .val (.int p1), .val (.int p2), .val (.int p3), .val (.int p4), .val (.int p5), .val (.int (5 : Int32)), .val (.ref b1), .val (.ref r44), .val (.int (1 : Int32)), .unset, .unset]) rfl rfl ?_
                refine gLoadI 120 X44 hx (H at_118) rfl rfl ?_
                refine gIconst 121 X44 hx (v := (2 : Int32)) (H at_120) rfl rfl ?_
                refine gIcmpLe X44 hx (H at_121) (pc' := 136) (by decide) (by decide) (pn := 124) rfl (fun (c121 : (5 : Int) ≤ (2 : Int)) => ?_) (fun (c121 : (2 : Int) < (5 : Int)) => ?_)
                · exact absurd c121 (by decide)
                · refine gLoadA 126 X44 hx (H at_124) rfl rfl rfl ?_
                  refine gIconst 127 X44 hx (v := (2 : Int32)) (H at_126) rfl rfl ?_
                  refine gCaload X44 hx hZ rfl f44_2 (j := (2 : Int32)) (v := (.int ch2)) (by decide) (by decide) rfl (H at_127) (pc' := 128) rfl ?_
                  refine gBipush 130 X44 hx (v := (47 : Int32)) (H at_128) rfl rfl ?_
                  refine gIcmpNeT X44 hx (H at_130) (pc' := 136) (by decide) (by decide) (pn := 133) rfl (fun (c130 : ¬ ch2.toInt = (47 : Int)) => ?_) (fun (c130 : ch2.toInt = (47 : Int)) => ?_)
                  · exact J _
                  · refine gIconst 134 X44 hx (v := (2 : Int32)) (H at_133) rfl rfl ?_
                    refine gStoreI 136 X44 hx (H at_134) (l' := #[.val (.int p0), .val (.int p1), .val (.int p2), .val (.int p3), .val (.int p4), .val (.int p5), .val (.int (5 : Int32)), .val (.ref b1), .val (.ref r44), .val (.int (2 : Int32)), .unset, .unset]) rfl rfl ?_
                    exact J _
          · refine gIconst 98 X44 hx (v := (0 : Int32)) (H at_97) rfl rfl ?_
            refine gStoreI 100 X44 hx (H at_98) (l' := #[.val (.int p0), .val (.int p1), .val (.int p2), .val (.int p3), .val (.int p4), .val (.int p5), .val (.int (5 : Int32)), .val (.ref b1), .val (.ref r44), .val (.int (0 : Int32)), .unset, .unset]) rfl rfl ?_
            refine gLoadI 102 X44 hx (H at_100) rfl rfl ?_
            refine gIconst 103 X44 hx (v := (1 : Int32)) (H at_102) rfl rfl ?_
            refine gIcmpLe X44 hx (H at_103) (pc' := 118) (by decide) (by decide) (pn := 106) rfl (fun (c103 : (5 : Int) ≤ (1 : Int)) => ?_) (fun (c103 : (1 : Int) < (5 : Int)) => ?_)
            · exact absurd c103 (by decide)
            · refine gLoadA 108 X44 hx (H at_106) rfl rfl rfl ?_
              refine gIconst 109 X44 hx (v := (1 : Int32)) (H at_108) rfl rfl ?_
              refine gCaload X44 hx hZ rfl f44_2 (j := (1 : Int32)) (v := (.int ch1)) (by decide) (by decide) rfl (H at_109) (pc' := 110) rfl ?_
              refine gBipush 112 X44 hx (v := (47 : Int32)) (H at_110) rfl rfl ?_
              refine gIcmpNeT X44 hx (H at_112) (pc' := 118) (by decide) (by decide) (pn := 115) rfl (fun (c112 : ¬ ch1.toInt = (47 : Int)) => ?_) (fun (c112 : ch1.toInt = (47 : Int)) => ?_)
              · refine gLoadI 120 X44 hx (H at_118) rfl rfl ?_
                refine gIconst 121 X44 hx (v := (2 : Int32)) (H at_120) rfl rfl ?_
                refine gIcmpLe X44 hx (H at_121) (pc' := 136) (by decide) (by decide) (pn := 124) rfl (fun (c121 : (5 : Int) ≤ (2 : Int)) => ?_) (fun (c121 : (2 : Int) < (5 : Int)) => ?_)
                · exact absurd c121 (by decide)
                · refine gLoadA 126 X44 hx (H at_124) rfl rfl rfl ?_
                  refine gIconst 127 X44 hx (v := (2 : Int32)) (H at_126) rfl rfl ?_
                  refine gCaload X44 hx hZ rfl f44_2 (j := (2 : Int32)) (v := (.int ch2)) (by decide) (by decide) rfl (H at_127) (pc' := 128) rfl ?_
                  refine gBipush 130 X44 hx (v := (47 : Int32)) (H at_128) rfl rfl ?_
                  refine gIcmpNeT X44 hx (H at_130) (pc' := 136) (by decide) (by decide) (pn := 133) rfl (fun (c130 : ¬ ch2.toInt = (47 : Int)) => ?_) (fun (c130 : ch2.toInt = (47 : Int)) => ?_)
                  · exact J _
                  · refine gIconst 134 X44 hx (v := (2 : Int32)) (H at_133) rfl rfl ?_
                    refine gStoreI 136 X44 hx (H at_134) (l' := #[.val (.int p0), .val (.int p1), .val (.int p2), .val (.int p3), .val (.int p4), .val (.int p5), .val (.int (5 : Int32)), .val (.ref b1), .val (.ref r44), .val (.int (2 : Int32)), .unset, .unset]) rfl rfl ?_
                    exact J _
              · refine gIconst 116 X44 hx (v := (1 : Int32)) (H at_115) rfl rfl ?_
                refine gStoreI 118 X44 hx (H at_116) (l' := #[.val (.int p0), .val (.int p1), .val (.int p2), .val (.int p3), .val (.int p4), .val (.int p5), .val (.int (5 : Int32)), .val (.ref b1), .val (.ref r44), .val (.int (1 : Int32)), .unset, .unset]) rfl rfl ?_
                refine gLoadI 120 X44 hx (H at_118) rfl rfl ?_
                refine gIconst 121 X44 hx (v := (2 : Int32)) (H at_120) rfl rfl ?_
                refine gIcmpLe X44 hx (H at_121) (pc' := 136) (by decide) (by decide) (pn := 124) rfl (fun (c121 : (5 : Int) ≤ (2 : Int)) => ?_) (fun (c121 : (2 : Int) < (5 : Int)) => ?_)
                · exact absurd c121 (by decide)
                · refine gLoadA 126 X44 hx (H at_124) rfl rfl rfl ?_
                  refine gIconst 127 X44 hx (v := (2 : Int32)) (H at_126) rfl rfl ?_
                  refine gCaload X44 hx hZ rfl f44_2 (j := (2 : Int32)) (v := (.int ch2)) (by decide) (by decide) rfl (H at_127) (pc' := 128) rfl ?_
                  refine gBipush 130 X44 hx (v := (47 : Int32)) (H at_128) rfl rfl ?_
                  refine gIcmpNeT X44 hx (H at_130) (pc' := 136) (by decide) (by decide) (pn := 133) rfl (fun (c130 : ¬ ch2.toInt = (47 : Int)) => ?_) (fun (c130 : ch2.toInt = (47 : Int)) => ?_)
                  · exact J _
                  · refine gIconst 134 X44 hx (v := (2 : Int32)) (H at_133) rfl rfl ?_
                    refine gStoreI 136 X44 hx (H at_134) (l' := #[.val (.int p0), .val (.int p1), .val (.int p2), .val (.int p3), .val (.int p4), .val (.int p5), .val (.int (5 : Int32)), .val (.ref b1), .val (.ref r44), .val (.int (2 : Int32)), .unset, .unset]) rfl rfl ?_
                    exact J _
      · by_cases d2 : ch2.toInt = 47
        · refine gIconst 81 X44 hx (v := (-1 : Int32)) (H at_80) rfl rfl ?_
          refine gStoreI 83 X44 hx (H at_81) (l' := #[.val (.int p0), .val (.int p1), .val (.int p2), .val (.int p3), .val (.int p4), .val (.int p5), .val (.int (5 : Int32)), .val (.ref b1), .val (.ref r44), .val (.int (-1 : Int32)), .unset, .unset]) rfl rfl ?_
          have J : ∀ pv : Int32, Goes p e below (FinH Z [("java/lang/String", 7)] s room_1.cells room_1.slots (Law1 h0)) T44 (mkF m 118 #[.val (.int p0), .val (.int p1), .val (.int p2), .val (.int p3), .val (.int p4), .val (.int p5), .val (.int (5 : Int32)), .val (.ref b1), .val (.ref r44), .val (.int pv), .unset, .unset] []) := by
            intro pv
            refine gLoadI 120 X44 hx (H at_118) rfl rfl ?_
            refine gIconst 121 X44 hx (v := (2 : Int32)) (H at_120) rfl rfl ?_
            refine gIcmpLe X44 hx (H at_121) (pc' := 136) (by decide) (by decide) (pn := 124) rfl (fun (c121 : (5 : Int) ≤ (2 : Int)) => ?_) (fun (c121 : (2 : Int) < (5 : Int)) => ?_)
            · exact absurd c121 (by decide)
            · refine gLoadA 126 X44 hx (H at_124) rfl rfl rfl ?_
              refine gIconst 127 X44 hx (v := (2 : Int32)) (H at_126) rfl rfl ?_
              refine gCaload X44 hx hZ rfl f44_2 (j := (2 : Int32)) (v := (.int ch2)) (by decide) (by decide) rfl (H at_127) (pc' := 128) rfl ?_
              refine gBipush 130 X44 hx (v := (47 : Int32)) (H at_128) rfl rfl ?_
              refine gIcmpNeT X44 hx (H at_130) (pc' := 136) (by decide) (by decide) (pn := 133) rfl (fun (c130 : ¬ ch2.toInt = (47 : Int)) => ?_) (fun (c130 : ch2.toInt = (47 : Int)) => ?_)
              · exact absurd d2 c130
              · refine gIconst 134 X44 hx (v := (2 : Int32)) (H at_133) rfl rfl ?_
                refine gStoreI 136 X44 hx (H at_134) (l' := #[.val (.int p0), .val (.int p1), .val (.int p2), .val (.int p3), .val (.int p4), .val (.int p5), .val (.int (5 : Int32)), .val (.ref b1), .val (.ref r44), .val (.int (2 : Int32)), .unset, .unset]) rfl rfl ?_
                refine gLoadI 138 X44 hx (H at_136) rfl rfl ?_
                refine gIconst 139 X44 hx (v := (3 : Int32)) (H at_138) rfl rfl ?_
                refine gIcmpLe X44 hx (H at_139) (pc' := 154) (by decide) (by decide) (pn := 142) rfl (fun (c139 : (5 : Int) ≤ (3 : Int)) => ?_) (fun (c139 : (3 : Int) < (5 : Int)) => ?_)
                · exact absurd c139 (by decide)
                · refine gLoadA 144 X44 hx (H at_142) rfl rfl rfl ?_
                  refine gIconst 145 X44 hx (v := (3 : Int32)) (H at_144) rfl rfl ?_
                  refine gCaload X44 hx hZ rfl f44_2 (j := (3 : Int32)) (v := (.int ch3)) (by decide) (by decide) rfl (H at_145) (pc' := 146) rfl ?_
                  refine gBipush 148 X44 hx (v := (47 : Int32)) (H at_146) rfl rfl ?_
                  refine gIcmpNeT X44 hx (H at_148) (pc' := 154) (by decide) (by decide) (pn := 151) rfl (fun (c148 : ¬ ch3.toInt = (47 : Int)) => ?_) (fun (c148 : ch3.toInt = (47 : Int)) => ?_)
                  · refine gLoadI 156 X44 hx (H at_154) rfl rfl ?_
                    refine gIconst 157 X44 hx (v := (4 : Int32)) (H at_156) rfl rfl ?_
                    refine gIcmpLe X44 hx (H at_157) (pc' := 172) (by decide) (by decide) (pn := 160) rfl (fun (c157 : (5 : Int) ≤ (4 : Int)) => ?_) (fun (c157 : (4 : Int) < (5 : Int)) => ?_)
                    · exact absurd c157 (by decide)
                    · refine gLoadA 162 X44 hx (H at_160) rfl rfl rfl ?_
                      refine gIconst 163 X44 hx (v := (4 : Int32)) (H at_162) rfl rfl ?_
                      refine gCaload X44 hx hZ rfl f44_2 (j := (4 : Int32)) (v := (.int ch4)) (by decide) (by decide) rfl (H at_163) (pc' := 164) rfl ?_
                      refine gBipush 166 X44 hx (v := (47 : Int32)) (H at_164) rfl rfl ?_
                      refine gIcmpNeT X44 hx (H at_166) (pc' := 172) (by decide) (by decide) (pn := 169) rfl (fun (c166 : ¬ ch4.toInt = (47 : Int)) => ?_) (fun (c166 : ch4.toInt = (47 : Int)) => ?_)
                      · refine gLoadI 174 X44 hx (H at_172) rfl rfl ?_
                        refine gIfLe X44 hx (H at_174) (pc' := 187) (by decide) (by decide) (pn := 177) rfl (fun (c174 : (2 : Int) ≤ (0 : Int)) => ?_) (fun (c174 : (0 : Int) < (2 : Int)) => ?_)
                        · exact absurd c174 (by decide)
                        · refine gLoadA 179 X44 hx (H at_177) rfl rfl rfl ?_
                          refine gLoadI 181 X44 hx (H at_179) rfl rfl ?_
                          refine gCallS X44 hx hZ (y := mn3) hown rfl (by rw [hml]; rfl) (ow hw 6 rfl) (ow hw 7 rfl) (ow hw 4 rfl) (ow hw 8 rfl) (by decide) (argsL := [(.ref b1), (.int (2 : Int32))]) (st := []) (c_mk_2 l Z a0 hw b1 _ ch0 ch1 ch2 ch3 ch4 T44.heap f44_0 f44_2 hch0 hch1 hch2 hch3 hch4) (lenOf pd_22 rfl) (H at_181) (pc' := 184) rfl rfl (by decide) (W := 0) (Nat.le_of_eq rfl) (by decide) (by decide) (by decide) ?_
                          intro T51 v51 L51 X51 hQ51
                          obtain ⟨r51, t51, ct51, rfl, Nq51, Kq51, Eq51, Cq51, Vq51, Aq51⟩ := hQ51
                          have N51 := Fr.app N44 (fun y hy => Nat.le_trans zs44 (Nq51 y hy))
                          have H51 := H44.trans (CHr.keep Kq51 sf0 H44.1)
                          have hk51 := Nat.le_trans hk44 Kq51.1
                          have s51_0 := Safe.keep Kq51 sf0 H44.1 s44_0
                          have f51_0 := own_cpt_keep f44_0 Kq51 ns0
                          have f51_1 := own_sio_keep f44_1 Kq51 ns0
                          have f51_2 := f44_2.keep Kq51 nin0
                          have f51_3 := Eq44.keep Kq51
                          have f51_4 := Cq44.keep Kq51 nin0
                          have f51_5 := Vq44.keep Kq51 nin0
                          have f51_6 := Aq44.keep Kq51 nin0
                          have zs51 := Nat.le_trans zs44 Kq51.1
                          refine gGoto X51 hx (H at_184) (pc' := 188) (by decide) (by decide) ?_
                          refine gStoreA 190 X51 hx (H at_188) (l' := #[.val (.int p0), .val (.int p1), .val (.int p2), .val (.int p3), .val (.int p4), .val (.int p5), .val (.int (5 : Int32)), .val (.ref b1), .val (.ref r44), .val (.int (2 : Int32)), .val (.ref r51), .unset]) rfl rfl rfl ?_
                          refine gLoadA 192 X51 hx (H at_190) rfl rfl rfl ?_
                          refine gCallS X51 hx hZ (y := mn0) hown rfl (by rw [hml]; rfl) (ow hw 30 rfl) (ow hw 31 rfl) (ow hw 32 rfl) (ow hw 33 rfl) (by decide) (argsL := [(.ref r44)]) (st := []) (c_nm_5_2 l Z a0 hw r44 t44 ct44 ch0 ch1 ch2 ch3 ch4 T51.heap f51_1 f51_0 f51_3 f51_4 f51_5 f51_6 hch0 hch1 hch2 hch3 hch4 d3 d4 d2) (lenOf pd_14 rfl) (H at_192) (pc' := 195) rfl rfl (by decide) (W := 0) (Nat.le_of_eq rfl) (by decide) (by decide) (by decide) ?_
                          intro T52 v52 L52 X52 hQ52
                          obtain ⟨r52, t52, ct52, rfl, Nq52, Kq52, Eq52, Cq52, Vq52, Aq52⟩ := hQ52
                          have N52 := Fr.app N51 (fun y hy => Nat.le_trans zs51 (Nq52 y hy))
                          have H52 := H51.trans (CHr.keep Kq52 sf0 H51.1)
                          have hk52 := Nat.le_trans hk51 Kq52.1
                          have s52_0 := Safe.keep Kq52 sf0 H51.1 s51_0
                          have f52_0 := own_cpt_keep f51_0 Kq52 ns0
                          have f52_1 := own_sio_keep f51_1 Kq52 ns0
                          have f52_2 := f51_2.keep Kq52 nin0
                          have f52_3 := f51_3.keep Kq52
                          have f52_4 := f51_4.keep Kq52 nin0
                          have f52_5 := f51_5.keep Kq52 nin0
                          have f52_6 := f51_6.keep Kq52 nin0
                          have f52_7 := Eq51.keep Kq52
                          have f52_8 := Cq51.keep Kq52 nin0
                          have f52_9 := Vq51.keep Kq52 nin0
                          have f52_10 := Aq51.keep Kq52 nin0
                          have zs52 := Nat.le_trans zs51 Kq52.1
                          refine gStoreA 197 X52 hx (H at_195) (l' := #[.val (.int p0), .val (.int p1), .val (.int p2), .val (.int p3), .val (.int p4), .val (.int p5), .val (.int (5 : Int32)), .val (.ref b1), .val (.ref r44), .val (.int (2 : Int32)), .val (.ref r51), .val (.ref r52)]) rfl rfl rfl ?_
                          refine gLoadA 199 X52 hx (H at_197) rfl rfl rfl ?_
                          refine gIfnonnullR X52 hx (H at_199) (pc' := 213) (by decide) (by decide) ?_
                          refine gLoadA 215 X52 hx (H at_213) rfl rfl rfl ?_
                          refine gIfnullR X52 hx (H at_215) (pc' := 218) rfl ?_
                          refine gLoadA 220 X52 hx (H at_218) rfl rfl rfl ?_
                          refine gLoadA 222 X52 hx (H at_220) rfl rfl rfl ?_
                          refine gCallVJ X52 hx hZ (y := mn11) hown rfl (by rw [hml]; rfl) Eq52 (ow hw 116 rfl) (ow hw 117 rfl) (ow hw 119 rfl) (ow hw 118 rfl) (ow hw 11 rfl) (ow hw 120 rfl) (by decide) (argsL := [(.ref r51)]) (st := []) (c_eqs_2 l Z a0 hw r52 r51 t52 t51 ct52 ct51 ch0 ch1 _ f52_0 Eq52 Cq52 Vq52 Aq52 f52_7 f52_8 f52_9 f52_10) (lenOf pd_12 rfl) (H at_222) (pc' := 225) rfl rfl rfl rfl (by decide) (W := 0) (Nat.le_of_eq rfl) (by decide) (by decide) (by decide) ?_
                          intro T53 X53 e53
                          refine gIfEqT X53 hx (H at_225) (pc' := 232) (by decide) (by decide) (pn := 228) rfl (fun (c225 : (1 : Int) = (0 : Int)) => ?_) (fun (c225 : ¬ (1 : Int) = (0 : Int)) => ?_)
                          · exact absurd c225 (by decide)
                          · refine gIconst 229 X53 hx (v := (1 : Int32)) (H at_228) rfl rfl ?_
                            refine gGoto X53 hx (H at_229) (pc' := 233) (by decide) (by decide) ?_
                            exact gRetHN X53 hx hlk hret (by simp) (H at_233) (w := (1 : Int32)) rfl e53 hS hk52 hZ hEL H52 (by decide) (by decide) (⟨rfl, N52⟩)
                      · exact absurd c166 d4
                  · exact absurd c148 d3
          refine gLoadI 85 X44 hx (H at_83) rfl rfl ?_
          refine gIfLe X44 hx (H at_85) (pc' := 100) (by decide) (by decide) (pn := 88) rfl (fun (c85 : (5 : Int) ≤ (0 : Int)) => ?_) (fun (c85 : (0 : Int) < (5 : Int)) => ?_)
          · exact absurd c85 (by decide)
          · refine gLoadA 90 X44 hx (H at_88) rfl rfl rfl ?_
            refine gIconst 91 X44 hx (v := (0 : Int32)) (H at_90) rfl rfl ?_
            refine gCaload X44 hx hZ rfl f44_2 (j := (0 : Int32)) (v := (.int ch0)) (by decide) (by decide) rfl (H at_91) (pc' := 92) rfl ?_
            refine gBipush 94 X44 hx (v := (47 : Int32)) (H at_92) rfl rfl ?_
            refine gIcmpNeT X44 hx (H at_94) (pc' := 100) (by decide) (by decide) (pn := 97) rfl (fun (c94 : ¬ ch0.toInt = (47 : Int)) => ?_) (fun (c94 : ch0.toInt = (47 : Int)) => ?_)
            · refine gLoadI 102 X44 hx (H at_100) rfl rfl ?_
              refine gIconst 103 X44 hx (v := (1 : Int32)) (H at_102) rfl rfl ?_
              refine gIcmpLe X44 hx (H at_103) (pc' := 118) (by decide) (by decide) (pn := 106) rfl (fun (c103 : (5 : Int) ≤ (1 : Int)) => ?_) (fun (c103 : (1 : Int) < (5 : Int)) => ?_)
              · exact absurd c103 (by decide)
              · refine gLoadA 108 X44 hx (H at_106) rfl rfl rfl ?_
                refine gIconst 109 X44 hx (v := (1 : Int32)) (H at_108) rfl rfl ?_
                refine gCaload X44 hx hZ rfl f44_2 (j := (1 : Int32)) (v := (.int ch1)) (by decide) (by decide) rfl (H at_109) (pc' := 110) rfl ?_
                refine gBipush 112 X44 hx (v := (47 : Int32)) (H at_110) rfl rfl ?_
                refine gIcmpNeT X44 hx (H at_112) (pc' := 118) (by decide) (by decide) (pn := 115) rfl (fun (c112 : ¬ ch1.toInt = (47 : Int)) => ?_) (fun (c112 : ch1.toInt = (47 : Int)) => ?_)
                · exact J _
                · refine gIconst 116 X44 hx (v := (1 : Int32)) (H at_115) rfl rfl ?_
                  refine gStoreI 118 X44 hx (H at_116) (l' := #[.val (.int p0), .val (.int p1), .val (.int p2), .val (.int p3), .val (.int p4), .val (.int p5), .val (.int (5 : Int32)), .val (.ref b1), .val (.ref r44), .val (.int (1 : Int32)), .unset, .unset]) rfl rfl ?_
                  exact J _
            · refine gIconst 98 X44 hx (v := (0 : Int32)) (H at_97) rfl rfl ?_
              refine gStoreI 100 X44 hx (H at_98) (l' := #[.val (.int p0), .val (.int p1), .val (.int p2), .val (.int p3), .val (.int p4), .val (.int p5), .val (.int (5 : Int32)), .val (.ref b1), .val (.ref r44), .val (.int (0 : Int32)), .unset, .unset]) rfl rfl ?_
              refine gLoadI 102 X44 hx (H at_100) rfl rfl ?_
              refine gIconst 103 X44 hx (v := (1 : Int32)) (H at_102) rfl rfl ?_
              refine gIcmpLe X44 hx (H at_103) (pc' := 118) (by decide) (by decide) (pn := 106) rfl (fun (c103 : (5 : Int) ≤ (1 : Int)) => ?_) (fun (c103 : (1 : Int) < (5 : Int)) => ?_)
              · exact absurd c103 (by decide)
              · refine gLoadA 108 X44 hx (H at_106) rfl rfl rfl ?_
                refine gIconst 109 X44 hx (v := (1 : Int32)) (H at_108) rfl rfl ?_
                refine gCaload X44 hx hZ rfl f44_2 (j := (1 : Int32)) (v := (.int ch1)) (by decide) (by decide) rfl (H at_109) (pc' := 110) rfl ?_
                refine gBipush 112 X44 hx (v := (47 : Int32)) (H at_110) rfl rfl ?_
                refine gIcmpNeT X44 hx (H at_112) (pc' := 118) (by decide) (by decide) (pn := 115) rfl (fun (c112 : ¬ ch1.toInt = (47 : Int)) => ?_) (fun (c112 : ch1.toInt = (47 : Int)) => ?_)
                · exact J _
                · refine gIconst 116 X44 hx (v := (1 : Int32)) (H at_115) rfl rfl ?_
                  refine gStoreI 118 X44 hx (H at_116) (l' := #[.val (.int p0), .val (.int p1), .val (.int p2), .val (.int p3), .val (.int p4), .val (.int p5), .val (.int (5 : Int32)), .val (.ref b1), .val (.ref r44), .val (.int (1 : Int32)), .unset, .unset]) rfl rfl ?_
                  exact J _
        · by_cases d1 : ch1.toInt = 47
          · refine gIconst 81 X44 hx (v := (-1 : Int32)) (H at_80) rfl rfl ?_
            refine gStoreI 83 X44 hx (H at_81) (l' := #[.val (.int p0), .val (.int p1), .val (.int p2), .val (.int p3), .val (.int p4), .val (.int p5), .val (.int (5 : Int32)), .val (.ref b1), .val (.ref r44), .val (.int (-1 : Int32)), .unset, .unset]) rfl rfl ?_
            have J : ∀ pv : Int32, Goes p e below (FinH Z [("java/lang/String", 7)] s room_1.cells room_1.slots (Law1 h0)) T44 (mkF m 100 #[.val (.int p0), .val (.int p1), .val (.int p2), .val (.int p3), .val (.int p4), .val (.int p5), .val (.int (5 : Int32)), .val (.ref b1), .val (.ref r44), .val (.int pv), .unset, .unset] []) := by
              intro pv
              refine gLoadI 102 X44 hx (H at_100) rfl rfl ?_
              refine gIconst 103 X44 hx (v := (1 : Int32)) (H at_102) rfl rfl ?_
              refine gIcmpLe X44 hx (H at_103) (pc' := 118) (by decide) (by decide) (pn := 106) rfl (fun (c103 : (5 : Int) ≤ (1 : Int)) => ?_) (fun (c103 : (1 : Int) < (5 : Int)) => ?_)
              · exact absurd c103 (by decide)
              · refine gLoadA 108 X44 hx (H at_106) rfl rfl rfl ?_
                refine gIconst 109 X44 hx (v := (1 : Int32)) (H at_108) rfl rfl ?_
                refine gCaload X44 hx hZ rfl f44_2 (j := (1 : Int32)) (v := (.int ch1)) (by decide) (by decide) rfl (H at_109) (pc' := 110) rfl ?_
                refine gBipush 112 X44 hx (v := (47 : Int32)) (H at_110) rfl rfl ?_
                refine gIcmpNeT X44 hx (H at_112) (pc' := 118) (by decide) (by decide) (pn := 115) rfl (fun (c112 : ¬ ch1.toInt = (47 : Int)) => ?_) (fun (c112 : ch1.toInt = (47 : Int)) => ?_)
                · exact absurd d1 c112
                · refine gIconst 116 X44 hx (v := (1 : Int32)) (H at_115) rfl rfl ?_
                  refine gStoreI 118 X44 hx (H at_116) (l' := #[.val (.int p0), .val (.int p1), .val (.int p2), .val (.int p3), .val (.int p4), .val (.int p5), .val (.int (5 : Int32)), .val (.ref b1), .val (.ref r44), .val (.int (1 : Int32)), .unset, .unset]) rfl rfl ?_
                  refine gLoadI 120 X44 hx (H at_118) rfl rfl ?_
                  refine gIconst 121 X44 hx (v := (2 : Int32)) (H at_120) rfl rfl ?_
                  refine gIcmpLe X44 hx (H at_121) (pc' := 136) (by decide) (by decide) (pn := 124) rfl (fun (c121 : (5 : Int) ≤ (2 : Int)) => ?_) (fun (c121 : (2 : Int) < (5 : Int)) => ?_)
                  · exact absurd c121 (by decide)
                  · refine gLoadA 126 X44 hx (H at_124) rfl rfl rfl ?_
                    refine gIconst 127 X44 hx (v := (2 : Int32)) (H at_126) rfl rfl ?_
                    refine gCaload X44 hx hZ rfl f44_2 (j := (2 : Int32)) (v := (.int ch2)) (by decide) (by decide) rfl (H at_127) (pc' := 128) rfl ?_
                    refine gBipush 130 X44 hx (v := (47 : Int32)) (H at_128) rfl rfl ?_
                    refine gIcmpNeT X44 hx (H at_130) (pc' := 136) (by decide) (by decide) (pn := 133) rfl (fun (c130 : ¬ ch2.toInt = (47 : Int)) => ?_) (fun (c130 : ch2.toInt = (47 : Int)) => ?_)
                    · refine gLoadI 138 X44 hx (H at_136) rfl rfl ?_
                      refine gIconst 139 X44 hx (v := (3 : Int32)) (H at_138) rfl rfl ?_
                      refine gIcmpLe X44 hx (H at_139) (pc' := 154) (by decide) (by decide) (pn := 142) rfl (fun (c139 : (5 : Int) ≤ (3 : Int)) => ?_) (fun (c139 : (3 : Int) < (5 : Int)) => ?_)
                      · exact absurd c139 (by decide)
                      · refine gLoadA 144 X44 hx (H at_142) rfl rfl rfl ?_
                        refine gIconst 145 X44 hx (v := (3 : Int32)) (H at_144) rfl rfl ?_
                        refine gCaload X44 hx hZ rfl f44_2 (j := (3 : Int32)) (v := (.int ch3)) (by decide) (by decide) rfl (H at_145) (pc' := 146) rfl ?_
                        refine gBipush 148 X44 hx (v := (47 : Int32)) (H at_146) rfl rfl ?_
                        refine gIcmpNeT X44 hx (H at_148) (pc' := 154) (by decide) (by decide) (pn := 151) rfl (fun (c148 : ¬ ch3.toInt = (47 : Int)) => ?_) (fun (c148 : ch3.toInt = (47 : Int)) => ?_)
                        · refine gLoadI 156 X44 hx (H at_154) rfl rfl ?_
                          refine gIconst 157 X44 hx (v := (4 : Int32)) (H at_156) rfl rfl ?_
                          refine gIcmpLe X44 hx (H at_157) (pc' := 172) (by decide) (by decide) (pn := 160) rfl (fun (c157 : (5 : Int) ≤ (4 : Int)) => ?_) (fun (c157 : (4 : Int) < (5 : Int)) => ?_)
                          · exact absurd c157 (by decide)
                          · refine gLoadA 162 X44 hx (H at_160) rfl rfl rfl ?_
                            refine gIconst 163 X44 hx (v := (4 : Int32)) (H at_162) rfl rfl ?_
                            refine gCaload X44 hx hZ rfl f44_2 (j := (4 : Int32)) (v := (.int ch4)) (by decide) (by decide) rfl (H at_163) (pc' := 164) rfl ?_
                            refine gBipush 166 X44 hx (v := (47 : Int32)) (H at_164) rfl rfl ?_
                            refine gIcmpNeT X44 hx (H at_166) (pc' := 172) (by decide) (by decide) (pn := 169) rfl (fun (c166 : ¬ ch4.toInt = (47 : Int)) => ?_) (fun (c166 : ch4.toInt = (47 : Int)) => ?_)
                            · refine gLoadI 174 X44 hx (H at_172) rfl rfl ?_
                              refine gIfLe X44 hx (H at_174) (pc' := 187) (by decide) (by decide) (pn := 177) rfl (fun (c174 : (1 : Int) ≤ (0 : Int)) => ?_) (fun (c174 : (0 : Int) < (1 : Int)) => ?_)
                              · exact absurd c174 (by decide)
                              · refine gLoadA 179 X44 hx (H at_177) rfl rfl rfl ?_
                                refine gLoadI 181 X44 hx (H at_179) rfl rfl ?_
                                refine gCallS X44 hx hZ (y := mn3) hown rfl (by rw [hml]; rfl) (ow hw 6 rfl) (ow hw 7 rfl) (ow hw 4 rfl) (ow hw 8 rfl) (by decide) (argsL := [(.ref b1), (.int (1 : Int32))]) (st := []) (c_mk_1 l Z a0 hw b1 _ ch0 ch1 ch2 ch3 ch4 T44.heap f44_0 f44_2 hch0 hch1 hch2 hch3 hch4) (lenOf pd_22 rfl) (H at_181) (pc' := 184) rfl rfl (by decide) (W := 0) (Nat.le_of_eq rfl) (by decide) (by decide) (by decide) ?_
                                intro T54 v54 L54 X54 hQ54
                                obtain ⟨r54, t54, ct54, rfl, Nq54, Kq54, Eq54, Cq54, Vq54, Aq54⟩ := hQ54
                                have N54 := Fr.app N44 (fun y hy => Nat.le_trans zs44 (Nq54 y hy))
                                have H54 := H44.trans (CHr.keep Kq54 sf0 H44.1)
                                have hk54 := Nat.le_trans hk44 Kq54.1
                                have s54_0 := Safe.keep Kq54 sf0 H44.1 s44_0
                                have f54_0 := own_cpt_keep f44_0 Kq54 ns0
                                have f54_1 := own_sio_keep f44_1 Kq54 ns0
                                have f54_2 := f44_2.keep Kq54 nin0
                                have f54_3 := Eq44.keep Kq54
                                have f54_4 := Cq44.keep Kq54 nin0
                                have f54_5 := Vq44.keep Kq54 nin0
                                have f54_6 := Aq44.keep Kq54 nin0
                                have zs54 := Nat.le_trans zs44 Kq54.1
                                refine gGoto X54 hx (H at_184) (pc' := 188) (by decide) (by decide) ?_
                                refine gStoreA 190 X54 hx (H at_188) (l' := #[.val (.int p0), .val (.int p1), .val (.int p2), .val (.int p3), .val (.int p4), .val (.int p5), .val (.int (5 : Int32)), .val (.ref b1), .val (.ref r44), .val (.int (1 : Int32)), .val (.ref r54), .unset]) rfl rfl rfl ?_
                                refine gLoadA 192 X54 hx (H at_190) rfl rfl rfl ?_
                                refine gCallS X54 hx hZ (y := mn0) hown rfl (by rw [hml]; rfl) (ow hw 30 rfl) (ow hw 31 rfl) (ow hw 32 rfl) (ow hw 33 rfl) (by decide) (argsL := [(.ref r44)]) (st := []) (c_nm_5_1 l Z a0 hw r44 t44 ct44 ch0 ch1 ch2 ch3 ch4 T54.heap f54_1 f54_0 f54_3 f54_4 f54_5 f54_6 hch0 hch1 hch2 hch3 hch4 d2 d3 d4 d1) (lenOf pd_14 rfl) (H at_192) (pc' := 195) rfl rfl (by decide) (W := 0) (Nat.le_of_eq rfl) (by decide) (by decide) (by decide) ?_
                                intro T55 v55 L55 X55 hQ55
                                obtain ⟨r55, t55, ct55, rfl, Nq55, Kq55, Eq55, Cq55, Vq55, Aq55⟩ := hQ55
                                have N55 := Fr.app N54 (fun y hy => Nat.le_trans zs54 (Nq55 y hy))
                                have H55 := H54.trans (CHr.keep Kq55 sf0 H54.1)
                                have hk55 := Nat.le_trans hk54 Kq55.1
                                have s55_0 := Safe.keep Kq55 sf0 H54.1 s54_0
                                have f55_0 := own_cpt_keep f54_0 Kq55 ns0
                                have f55_1 := own_sio_keep f54_1 Kq55 ns0
                                have f55_2 := f54_2.keep Kq55 nin0
                                have f55_3 := f54_3.keep Kq55
                                have f55_4 := f54_4.keep Kq55 nin0
                                have f55_5 := f54_5.keep Kq55 nin0
                                have f55_6 := f54_6.keep Kq55 nin0
                                have f55_7 := Eq54.keep Kq55
                                have f55_8 := Cq54.keep Kq55 nin0
                                have f55_9 := Vq54.keep Kq55 nin0
                                have f55_10 := Aq54.keep Kq55 nin0
                                have zs55 := Nat.le_trans zs54 Kq55.1
                                refine gStoreA 197 X55 hx (H at_195) (l' := #[.val (.int p0), .val (.int p1), .val (.int p2), .val (.int p3), .val (.int p4), .val (.int p5), .val (.int (5 : Int32)), .val (.ref b1), .val (.ref r44), .val (.int (1 : Int32)), .val (.ref r54), .val (.ref r55)]) rfl rfl rfl ?_
                                refine gLoadA 199 X55 hx (H at_197) rfl rfl rfl ?_
                                refine gIfnonnullR X55 hx (H at_199) (pc' := 213) (by decide) (by decide) ?_
                                refine gLoadA 215 X55 hx (H at_213) rfl rfl rfl ?_
                                refine gIfnullR X55 hx (H at_215) (pc' := 218) rfl ?_
                                refine gLoadA 220 X55 hx (H at_218) rfl rfl rfl ?_
                                refine gLoadA 222 X55 hx (H at_220) rfl rfl rfl ?_
                                refine gCallVJ X55 hx hZ (y := mn11) hown rfl (by rw [hml]; rfl) Eq55 (ow hw 116 rfl) (ow hw 117 rfl) (ow hw 119 rfl) (ow hw 118 rfl) (ow hw 11 rfl) (ow hw 120 rfl) (by decide) (argsL := [(.ref r54)]) (st := []) (c_eqs_1 l Z a0 hw r55 r54 t55 t54 ct55 ct54 ch0 _ f55_0 Eq55 Cq55 Vq55 Aq55 f55_7 f55_8 f55_9 f55_10) (lenOf pd_12 rfl) (H at_222) (pc' := 225) rfl rfl rfl rfl (by decide) (W := 0) (Nat.le_of_eq rfl) (by decide) (by decide) (by decide) ?_
                                intro T56 X56 e56
                                refine gIfEqT X56 hx (H at_225) (pc' := 232) (by decide) (by decide) (pn := 228) rfl (fun (c225 : (1 : Int) = (0 : Int)) => ?_) (fun (c225 : ¬ (1 : Int) = (0 : Int)) => ?_)
                                · exact absurd c225 (by decide)
                                · refine gIconst 229 X56 hx (v := (1 : Int32)) (H at_228) rfl rfl ?_
                                  refine gGoto X56 hx (H at_229) (pc' := 233) (by decide) (by decide) ?_
                                  exact gRetHN X56 hx hlk hret (by simp) (H at_233) (w := (1 : Int32)) rfl e56 hS hk55 hZ hEL H55 (by decide) (by decide) (⟨rfl, N55⟩)
                            · exact absurd c166 d4
                        · exact absurd c148 d3
                    · exact absurd c130 d2
            refine gLoadI 85 X44 hx (H at_83) rfl rfl ?_
            refine gIfLe X44 hx (H at_85) (pc' := 100) (by decide) (by decide) (pn := 88) rfl (fun (c85 : (5 : Int) ≤ (0 : Int)) => ?_) (fun (c85 : (0 : Int) < (5 : Int)) => ?_)
            · exact absurd c85 (by decide)
            · refine gLoadA 90 X44 hx (H at_88) rfl rfl rfl ?_
              refine gIconst 91 X44 hx (v := (0 : Int32)) (H at_90) rfl rfl ?_
              refine gCaload X44 hx hZ rfl f44_2 (j := (0 : Int32)) (v := (.int ch0)) (by decide) (by decide) rfl (H at_91) (pc' := 92) rfl ?_
              refine gBipush 94 X44 hx (v := (47 : Int32)) (H at_92) rfl rfl ?_
              refine gIcmpNeT X44 hx (H at_94) (pc' := 100) (by decide) (by decide) (pn := 97) rfl (fun (c94 : ¬ ch0.toInt = (47 : Int)) => ?_) (fun (c94 : ch0.toInt = (47 : Int)) => ?_)
              · exact J _
              · refine gIconst 98 X44 hx (v := (0 : Int32)) (H at_97) rfl rfl ?_
                refine gStoreI 100 X44 hx (H at_98) (l' := #[.val (.int p0), .val (.int p1), .val (.int p2), .val (.int p3), .val (.int p4), .val (.int p5), .val (.int (5 : Int32)), .val (.ref b1), .val (.ref r44), .val (.int (0 : Int32)), .unset, .unset]) rfl rfl ?_
                exact J _
          · by_cases d0 : ch0.toInt = 47
            · refine gIconst 81 X44 hx (v := (-1 : Int32)) (H at_80) rfl rfl ?_
              refine gStoreI 83 X44 hx (H at_81) (l' := #[.val (.int p0), .val (.int p1), .val (.int p2), .val (.int p3), .val (.int p4), .val (.int p5), .val (.int (5 : Int32)), .val (.ref b1), .val (.ref r44), .val (.int (-1 : Int32)), .unset, .unset]) rfl rfl ?_
              refine gLoadI 85 X44 hx (H at_83) rfl rfl ?_
              refine gIfLe X44 hx (H at_85) (pc' := 100) (by decide) (by decide) (pn := 88) rfl (fun (c85 : (5 : Int) ≤ (0 : Int)) => ?_) (fun (c85 : (0 : Int) < (5 : Int)) => ?_)
              · exact absurd c85 (by decide)
              · refine gLoadA 90 X44 hx (H at_88) rfl rfl rfl ?_
                refine gIconst 91 X44 hx (v := (0 : Int32)) (H at_90) rfl rfl ?_
                refine gCaload X44 hx hZ rfl f44_2 (j := (0 : Int32)) (v := (.int ch0)) (by decide) (by decide) rfl (H at_91) (pc' := 92) rfl ?_
                refine gBipush 94 X44 hx (v := (47 : Int32)) (H at_92) rfl rfl ?_
                refine gIcmpNeT X44 hx (H at_94) (pc' := 100) (by decide) (by decide) (pn := 97) rfl (fun (c94 : ¬ ch0.toInt = (47 : Int)) => ?_) (fun (c94 : ch0.toInt = (47 : Int)) => ?_)
                · exact absurd d0 c94
                · refine gIconst 98 X44 hx (v := (0 : Int32)) (H at_97) rfl rfl ?_
                  refine gStoreI 100 X44 hx (H at_98) (l' := #[.val (.int p0), .val (.int p1), .val (.int p2), .val (.int p3), .val (.int p4), .val (.int p5), .val (.int (5 : Int32)), .val (.ref b1), .val (.ref r44), .val (.int (0 : Int32)), .unset, .unset]) rfl rfl ?_
                  refine gLoadI 102 X44 hx (H at_100) rfl rfl ?_
                  refine gIconst 103 X44 hx (v := (1 : Int32)) (H at_102) rfl rfl ?_
                  refine gIcmpLe X44 hx (H at_103) (pc' := 118) (by decide) (by decide) (pn := 106) rfl (fun (c103 : (5 : Int) ≤ (1 : Int)) => ?_) (fun (c103 : (1 : Int) < (5 : Int)) => ?_)
                  · exact absurd c103 (by decide)
                  · refine gLoadA 108 X44 hx (H at_106) rfl rfl rfl ?_
                    refine gIconst 109 X44 hx (v := (1 : Int32)) (H at_108) rfl rfl ?_
                    refine gCaload X44 hx hZ rfl f44_2 (j := (1 : Int32)) (v := (.int ch1)) (by decide) (by decide) rfl (H at_109) (pc' := 110) rfl ?_
                    refine gBipush 112 X44 hx (v := (47 : Int32)) (H at_110) rfl rfl ?_
                    refine gIcmpNeT X44 hx (H at_112) (pc' := 118) (by decide) (by decide) (pn := 115) rfl (fun (c112 : ¬ ch1.toInt = (47 : Int)) => ?_) (fun (c112 : ch1.toInt = (47 : Int)) => ?_)
                    · refine gLoadI 120 X44 hx (H at_118) rfl rfl ?_
                      refine gIconst 121 X44 hx (v := (2 : Int32)) (H at_120) rfl rfl ?_
                      refine gIcmpLe X44 hx (H at_121) (pc' := 136) (by decide) (by decide) (pn := 124) rfl (fun (c121 : (5 : Int) ≤ (2 : Int)) => ?_) (fun (c121 : (2 : Int) < (5 : Int)) => ?_)
                      · exact absurd c121 (by decide)
                      · refine gLoadA 126 X44 hx (H at_124) rfl rfl rfl ?_
                        refine gIconst 127 X44 hx (v := (2 : Int32)) (H at_126) rfl rfl ?_
                        refine gCaload X44 hx hZ rfl f44_2 (j := (2 : Int32)) (v := (.int ch2)) (by decide) (by decide) rfl (H at_127) (pc' := 128) rfl ?_
                        refine gBipush 130 X44 hx (v := (47 : Int32)) (H at_128) rfl rfl ?_
                        refine gIcmpNeT X44 hx (H at_130) (pc' := 136) (by decide) (by decide) (pn := 133) rfl (fun (c130 : ¬ ch2.toInt = (47 : Int)) => ?_) (fun (c130 : ch2.toInt = (47 : Int)) => ?_)
                        · refine gLoadI 138 X44 hx (H at_136) rfl rfl ?_
                          refine gIconst 139 X44 hx (v := (3 : Int32)) (H at_138) rfl rfl ?_
                          refine gIcmpLe X44 hx (H at_139) (pc' := 154) (by decide) (by decide) (pn := 142) rfl (fun (c139 : (5 : Int) ≤ (3 : Int)) => ?_) (fun (c139 : (3 : Int) < (5 : Int)) => ?_)
                          · exact absurd c139 (by decide)
                          · refine gLoadA 144 X44 hx (H at_142) rfl rfl rfl ?_
                            refine gIconst 145 X44 hx (v := (3 : Int32)) (H at_144) rfl rfl ?_
                            refine gCaload X44 hx hZ rfl f44_2 (j := (3 : Int32)) (v := (.int ch3)) (by decide) (by decide) rfl (H at_145) (pc' := 146) rfl ?_
                            refine gBipush 148 X44 hx (v := (47 : Int32)) (H at_146) rfl rfl ?_
                            refine gIcmpNeT X44 hx (H at_148) (pc' := 154) (by decide) (by decide) (pn := 151) rfl (fun (c148 : ¬ ch3.toInt = (47 : Int)) => ?_) (fun (c148 : ch3.toInt = (47 : Int)) => ?_)
                            · refine gLoadI 156 X44 hx (H at_154) rfl rfl ?_
                              refine gIconst 157 X44 hx (v := (4 : Int32)) (H at_156) rfl rfl ?_
                              refine gIcmpLe X44 hx (H at_157) (pc' := 172) (by decide) (by decide) (pn := 160) rfl (fun (c157 : (5 : Int) ≤ (4 : Int)) => ?_) (fun (c157 : (4 : Int) < (5 : Int)) => ?_)
                              · exact absurd c157 (by decide)
                              · refine gLoadA 162 X44 hx (H at_160) rfl rfl rfl ?_
                                refine gIconst 163 X44 hx (v := (4 : Int32)) (H at_162) rfl rfl ?_
                                refine gCaload X44 hx hZ rfl f44_2 (j := (4 : Int32)) (v := (.int ch4)) (by decide) (by decide) rfl (H at_163) (pc' := 164) rfl ?_
                                refine gBipush 166 X44 hx (v := (47 : Int32)) (H at_164) rfl rfl ?_
                                refine gIcmpNeT X44 hx (H at_166) (pc' := 172) (by decide) (by decide) (pn := 169) rfl (fun (c166 : ¬ ch4.toInt = (47 : Int)) => ?_) (fun (c166 : ch4.toInt = (47 : Int)) => ?_)
                                · refine gLoadI 174 X44 hx (H at_172) rfl rfl ?_
                                  refine gIfLe X44 hx (H at_174) (pc' := 187) (by decide) (by decide) (pn := 177) rfl (fun (c174 : (0 : Int) ≤ (0 : Int)) => ?_) (fun (c174 : (0 : Int) < (0 : Int)) => ?_)
                                  · refine gNull 188 X44 hx (H at_187) rfl ?_
                                    refine gStoreA 190 X44 hx (H at_188) (l' := #[.val (.int p0), .val (.int p1), .val (.int p2), .val (.int p3), .val (.int p4), .val (.int p5), .val (.int (5 : Int32)), .val (.ref b1), .val (.ref r44), .val (.int (0 : Int32)), .val .null, .unset]) rfl rfl rfl ?_
                                    refine gLoadA 192 X44 hx (H at_190) rfl rfl rfl ?_
                                    refine gCallSJ X44 hx hZ (y := mn0) hown rfl (by rw [hml]; rfl) (ow hw 30 rfl) (ow hw 31 rfl) (ow hw 32 rfl) (ow hw 33 rfl) (by decide) (argsL := [(.ref r44)]) (st := []) (c_nm_5_0 l Z a0 hw r44 t44 ct44 ch0 ch1 ch2 ch3 ch4 T44.heap f44_1 f44_0 Eq44 Cq44 Vq44 Aq44 hch0 hch1 hch2 hch3 hch4 d1 d2 d3 d4 d0) (lenOf pd_14 rfl) (H at_192) (pc' := 195) rfl rfl rfl rfl (by decide) (W := 0) (Nat.le_of_eq rfl) (by decide) (by decide) (by decide) ?_
                                    intro T57 X57 e57
                                    refine gStoreA 197 X57 hx (H at_195) (l' := #[.val (.int p0), .val (.int p1), .val (.int p2), .val (.int p3), .val (.int p4), .val (.int p5), .val (.int (5 : Int32)), .val (.ref b1), .val (.ref r44), .val (.int (0 : Int32)), .val .null, .val .null]) rfl rfl rfl ?_
                                    refine gLoadA 199 X57 hx (H at_197) rfl rfl rfl ?_
                                    refine gIfnonnullZ X57 hx (H at_199) (pc' := 202) rfl ?_
                                    refine gLoadA 204 X57 hx (H at_202) rfl rfl rfl ?_
                                    refine gIfnonnullZ X57 hx (H at_204) (pc' := 207) rfl ?_
                                    refine gIconst 208 X57 hx (v := (1 : Int32)) (H at_207) rfl rfl ?_
                                    refine gGoto X57 hx (H at_208) (pc' := 212) (by decide) (by decide) ?_
                                    exact gRetHN X57 hx hlk hret (by simp) (H at_212) (w := (1 : Int32)) rfl e57 hS hk44 hZ hEL H44 (by decide) (by decide) (⟨rfl, N44⟩)
                                  · exact absurd c174 (by decide)
                                · exact absurd c166 d4
                            · exact absurd c148 d3
                        · exact absurd c130 d2
                    · exact absurd c112 d1
            · refine gIconst 81 X44 hx (v := (-1 : Int32)) (H at_80) rfl rfl ?_
              refine gStoreI 83 X44 hx (H at_81) (l' := #[.val (.int p0), .val (.int p1), .val (.int p2), .val (.int p3), .val (.int p4), .val (.int p5), .val (.int (5 : Int32)), .val (.ref b1), .val (.ref r44), .val (.int (-1 : Int32)), .unset, .unset]) rfl rfl ?_
              refine gLoadI 85 X44 hx (H at_83) rfl rfl ?_
              refine gIfLe X44 hx (H at_85) (pc' := 100) (by decide) (by decide) (pn := 88) rfl (fun (c85 : (5 : Int) ≤ (0 : Int)) => ?_) (fun (c85 : (0 : Int) < (5 : Int)) => ?_)
              · exact absurd c85 (by decide)
              · refine gLoadA 90 X44 hx (H at_88) rfl rfl rfl ?_
                refine gIconst 91 X44 hx (v := (0 : Int32)) (H at_90) rfl rfl ?_
                refine gCaload X44 hx hZ rfl f44_2 (j := (0 : Int32)) (v := (.int ch0)) (by decide) (by decide) rfl (H at_91) (pc' := 92) rfl ?_
                refine gBipush 94 X44 hx (v := (47 : Int32)) (H at_92) rfl rfl ?_
                refine gIcmpNeT X44 hx (H at_94) (pc' := 100) (by decide) (by decide) (pn := 97) rfl (fun (c94 : ¬ ch0.toInt = (47 : Int)) => ?_) (fun (c94 : ch0.toInt = (47 : Int)) => ?_)
                · refine gLoadI 102 X44 hx (H at_100) rfl rfl ?_
                  refine gIconst 103 X44 hx (v := (1 : Int32)) (H at_102) rfl rfl ?_
                  refine gIcmpLe X44 hx (H at_103) (pc' := 118) (by decide) (by decide) (pn := 106) rfl (fun (c103 : (5 : Int) ≤ (1 : Int)) => ?_) (fun (c103 : (1 : Int) < (5 : Int)) => ?_)
                  · exact absurd c103 (by decide)
                  · refine gLoadA 108 X44 hx (H at_106) rfl rfl rfl ?_
                    refine gIconst 109 X44 hx (v := (1 : Int32)) (H at_108) rfl rfl ?_
                    refine gCaload X44 hx hZ rfl f44_2 (j := (1 : Int32)) (v := (.int ch1)) (by decide) (by decide) rfl (H at_109) (pc' := 110) rfl ?_
                    refine gBipush 112 X44 hx (v := (47 : Int32)) (H at_110) rfl rfl ?_
                    refine gIcmpNeT X44 hx (H at_112) (pc' := 118) (by decide) (by decide) (pn := 115) rfl (fun (c112 : ¬ ch1.toInt = (47 : Int)) => ?_) (fun (c112 : ch1.toInt = (47 : Int)) => ?_)
                    · refine gLoadI 120 X44 hx (H at_118) rfl rfl ?_
                      refine gIconst 121 X44 hx (v := (2 : Int32)) (H at_120) rfl rfl ?_
                      refine gIcmpLe X44 hx (H at_121) (pc' := 136) (by decide) (by decide) (pn := 124) rfl (fun (c121 : (5 : Int) ≤ (2 : Int)) => ?_) (fun (c121 : (2 : Int) < (5 : Int)) => ?_)
                      · exact absurd c121 (by decide)
                      · refine gLoadA 126 X44 hx (H at_124) rfl rfl rfl ?_
                        refine gIconst 127 X44 hx (v := (2 : Int32)) (H at_126) rfl rfl ?_
                        refine gCaload X44 hx hZ rfl f44_2 (j := (2 : Int32)) (v := (.int ch2)) (by decide) (by decide) rfl (H at_127) (pc' := 128) rfl ?_
                        refine gBipush 130 X44 hx (v := (47 : Int32)) (H at_128) rfl rfl ?_
                        refine gIcmpNeT X44 hx (H at_130) (pc' := 136) (by decide) (by decide) (pn := 133) rfl (fun (c130 : ¬ ch2.toInt = (47 : Int)) => ?_) (fun (c130 : ch2.toInt = (47 : Int)) => ?_)
                        · refine gLoadI 138 X44 hx (H at_136) rfl rfl ?_
                          refine gIconst 139 X44 hx (v := (3 : Int32)) (H at_138) rfl rfl ?_
                          refine gIcmpLe X44 hx (H at_139) (pc' := 154) (by decide) (by decide) (pn := 142) rfl (fun (c139 : (5 : Int) ≤ (3 : Int)) => ?_) (fun (c139 : (3 : Int) < (5 : Int)) => ?_)
                          · exact absurd c139 (by decide)
                          · refine gLoadA 144 X44 hx (H at_142) rfl rfl rfl ?_
                            refine gIconst 145 X44 hx (v := (3 : Int32)) (H at_144) rfl rfl ?_
                            refine gCaload X44 hx hZ rfl f44_2 (j := (3 : Int32)) (v := (.int ch3)) (by decide) (by decide) rfl (H at_145) (pc' := 146) rfl ?_
                            refine gBipush 148 X44 hx (v := (47 : Int32)) (H at_146) rfl rfl ?_
                            refine gIcmpNeT X44 hx (H at_148) (pc' := 154) (by decide) (by decide) (pn := 151) rfl (fun (c148 : ¬ ch3.toInt = (47 : Int)) => ?_) (fun (c148 : ch3.toInt = (47 : Int)) => ?_)
                            · refine gLoadI 156 X44 hx (H at_154) rfl rfl ?_
                              refine gIconst 157 X44 hx (v := (4 : Int32)) (H at_156) rfl rfl ?_
                              refine gIcmpLe X44 hx (H at_157) (pc' := 172) (by decide) (by decide) (pn := 160) rfl (fun (c157 : (5 : Int) ≤ (4 : Int)) => ?_) (fun (c157 : (4 : Int) < (5 : Int)) => ?_)
                              · exact absurd c157 (by decide)
                              · refine gLoadA 162 X44 hx (H at_160) rfl rfl rfl ?_
                                refine gIconst 163 X44 hx (v := (4 : Int32)) (H at_162) rfl rfl ?_
                                refine gCaload X44 hx hZ rfl f44_2 (j := (4 : Int32)) (v := (.int ch4)) (by decide) (by decide) rfl (H at_163) (pc' := 164) rfl ?_
                                refine gBipush 166 X44 hx (v := (47 : Int32)) (H at_164) rfl rfl ?_
                                refine gIcmpNeT X44 hx (H at_166) (pc' := 172) (by decide) (by decide) (pn := 169) rfl (fun (c166 : ¬ ch4.toInt = (47 : Int)) => ?_) (fun (c166 : ch4.toInt = (47 : Int)) => ?_)
                                · refine gLoadI 174 X44 hx (H at_172) rfl rfl ?_
                                  refine gIfLe X44 hx (H at_174) (pc' := 187) (by decide) (by decide) (pn := 177) rfl (fun (c174 : (-1 : Int) ≤ (0 : Int)) => ?_) (fun (c174 : (0 : Int) < (-1 : Int)) => ?_)
                                  · refine gNull 188 X44 hx (H at_187) rfl ?_
                                    refine gStoreA 190 X44 hx (H at_188) (l' := #[.val (.int p0), .val (.int p1), .val (.int p2), .val (.int p3), .val (.int p4), .val (.int p5), .val (.int (5 : Int32)), .val (.ref b1), .val (.ref r44), .val (.int (-1 : Int32)), .val .null, .unset]) rfl rfl rfl ?_
                                    refine gLoadA 192 X44 hx (H at_190) rfl rfl rfl ?_
                                    refine gCallSJ X44 hx hZ (y := mn0) hown rfl (by rw [hml]; rfl) (ow hw 30 rfl) (ow hw 31 rfl) (ow hw 32 rfl) (ow hw 33 rfl) (by decide) (argsL := [(.ref r44)]) (st := []) (c_nm_5_m l Z a0 hw r44 t44 ct44 ch0 ch1 ch2 ch3 ch4 T44.heap f44_1 f44_0 Eq44 Cq44 Vq44 Aq44 hch0 hch1 hch2 hch3 hch4 d0 d1 d2 d3 d4) (lenOf pd_14 rfl) (H at_192) (pc' := 195) rfl rfl rfl rfl (by decide) (W := 0) (Nat.le_of_eq rfl) (by decide) (by decide) (by decide) ?_
                                    intro T58 X58 e58
                                    refine gStoreA 197 X58 hx (H at_195) (l' := #[.val (.int p0), .val (.int p1), .val (.int p2), .val (.int p3), .val (.int p4), .val (.int p5), .val (.int (5 : Int32)), .val (.ref b1), .val (.ref r44), .val (.int (-1 : Int32)), .val .null, .val .null]) rfl rfl rfl ?_
                                    refine gLoadA 199 X58 hx (H at_197) rfl rfl rfl ?_
                                    refine gIfnonnullZ X58 hx (H at_199) (pc' := 202) rfl ?_
                                    refine gLoadA 204 X58 hx (H at_202) rfl rfl rfl ?_
                                    refine gIfnonnullZ X58 hx (H at_204) (pc' := 207) rfl ?_
                                    refine gIconst 208 X58 hx (v := (1 : Int32)) (H at_207) rfl rfl ?_
                                    refine gGoto X58 hx (H at_208) (pc' := 212) (by decide) (by decide) ?_
                                    exact gRetHN X58 hx hlk hret (by simp) (H at_212) (w := (1 : Int32)) rfl e58 hS hk44 hZ hEL H44 (by decide) (by decide) (⟨rfl, N44⟩)
                                  · exact absurd c174 (by decide)
                                · exact absurd c166 d4
                            · exact absurd c148 d3
                        · exact absurd c130 d2
                    · exact absurd c112 d1
                · exact absurd c94 d0
theorem eq_v0 {args : Array Value} {s : State} {t : Term} {z k : Int32} (h : t.eval args s none [] s = some (.int z)) : (Jvm.Cond.eq t (.int k)).value args s none s [] = some (decide (z = k)) := by
  simp [Cond.value, h, Term.eval]

theorem comes_1 {Post : Tables → Env → Array Value → State → Outcome → State → Prop} (hpost : ∀ tb e args s v u, (limb_1_1.after args s (.returned v) u = true ∧ limb_1_2.after args s (.returned v) u = true ∧ True) → ReturnedEndW s (.returned v) u (Jvm.fieldLocs frame_1_writes args s ++ Jvm.arrayLocs frame_1_arrays args s ++ Jvm.staticLocs frame_1_statics s) 32 1216 → Post tb e args s (.returned v) u) :
    ArmFor flags0 classFile x code maxLocals ret World_1 tables_1 room_1 Calls_1 rest_1 Pre_1 Post := by
  intro l hfl _ _ p e ha hc hk s m args below hf hA hF happ hP
  obtain ⟨hcalls, hrest, hpre⟩ := hP
  obtain ⟨-, -, -, hnamed, -, -, -, hat⟩ := (Spec.applies_iff hf).mp happ
  obtain ⟨hg, hn⟩ := and_e (Cond.before_iff.mp (show (Jvm.Cond.and given_1 narrow_1).before args s = true from hpre))
  obtain ⟨hcount, hv⟩ := and_e hg
  obtain ⟨ha0, hv0⟩ := and_e hv
  obtain ⟨ha1, hv1⟩ := and_e hv0
  obtain ⟨ha2, hv2⟩ := and_e hv1
  obtain ⟨ha3, hv3⟩ := and_e hv2
  obtain ⟨ha4, hv4⟩ := and_e hv3
  obtain ⟨w0, w1, w2, w3, w4, w5, rfl⟩ : ∃ w0 w1 w2 w3 w4 w5 : Value, args = #[w0, w1, w2, w3, w4, w5] := by
    have hs : args.size = 6 := by simpa [Cond.value, given_1] using hcount
    obtain ⟨L⟩ := args
    match L, hs with
    | [w0, w1, w2, w3, w4, w5], _ => exact ⟨w0, w1, w2, w3, w4, w5, rfl⟩
  have hw := fun d (hd : d ∈ tables_1) => atoms_spec (ws := Jvm.Cond.code x code maxLocals ret :: tables_1) hat d (List.mem_cons_of_mem _ hd)
  have hfit : Fit s := fun {y c} hc i hi => by
    obtain ⟨ha, rfl⟩ := Array.getElem?_eq_some_iff.mp hc
    have q := List.all_eq_true.mp ((Array.all_eq_true_iff_forall_mem.mp hF) _ (Array.getElem_mem ha)) i (List.mem_range.mpr hi)
    simpa [Array.getElem?_eq_getElem hi] using q
  obtain ⟨i0, ei0⟩ := is_v ha0
  obtain rfl : w0 = (.int i0) := Option.some.inj ei0
  obtain ⟨i1, ei1⟩ := is_v ha1
  obtain rfl : w1 = (.int i1) := Option.some.inj ei1
  obtain ⟨i2, ei2⟩ := is_v ha2
  obtain rfl : w2 = (.int i2) := Option.some.inj ei2
  obtain ⟨i3, ei3⟩ := is_v ha3
  obtain rfl : w3 = (.int i3) := Option.some.inj ei3
  obtain ⟨i4, ei4⟩ := is_v ha4
  obtain rfl : w4 = (.int i4) := Option.some.inj ei4
  obtain ⟨i5, ei5⟩ := is_v hv4
  obtain rfl : w5 = (.int i5) := Option.some.inj ei5
  obtain ⟨hsets, hown0⟩ := atoms_of _ (rest_1_c_eq ▸ (show rest_1_c.before _ s = true from hrest))
  obtain ⟨cz, ecz⟩ := is_v (Cond.before_iff.mp (hsets _ (List.mem_of_getElem? (i := 1) rfl)))
  have SC := Sta.start ecz (Or.inl (hsets _ (List.mem_of_getElem? (i := 0) rfl)))
  have hnz := gotF (eq_v0 ecz (k := 0)) (not_v (Cond.before_iff.mp (hsets _ (List.mem_of_getElem? (i := 2) rfl))))
  have hCpt : Cpt s s.heap := ⟨cz, SC, fun q => hnz (Int32.toInt_inj.mp q)⟩
  obtain ⟨sf, esf, hsf⟩ := isR_v (Cond.before_iff.mp (hsets _ (List.mem_of_getElem? (i := 8) rfl)))
  have hSio : Sio s s.heap := ⟨sf, Sta.start esf (Or.inl (hsets _ (List.mem_of_getElem? (i := 7) rfl))), hsf⟩
  have hEL : EW s _ [("java/lang/String", 7)] := (EW.cons (ow hw 22 rfl) (by decide) EW.nil)
  have hcw : Jvm.Lit.compactW.before _ s = true := (hsets _ (List.mem_of_getElem? (i := 2) rfl))
  have hCH : CHv s [("java/lang/String", 7)] s.vm s.heap := CHv.start hEL (fun p hp => hcalls.1 p hp) hcw (ow hw 23 rfl) (ow hw 10 rfl)
  obtain ⟨n, o, h1, h2, h3, _, L, rfl, ⟨rfl, N⟩, hCH, hq⟩ := c_law l s _ hw i0 i1 i2 i3 i4 i5 s.heap hEL hCpt hSio p e ha hc hk s m _ below hf ((Spec.applies_iff_loose hf).mp happ).1 ⟨rfl, State.Warmed39.refl s, rfl, hCH, fun _ q => nomatch q⟩ trivial
  refine ⟨n, _, h1, h2, h3, hpost _ _ _ _ _ _ ⟨Cond.after_iff.mpr rfl, Cond.after_iff.mpr (eq_i res_at (Term.int_eval (1)) rfl), trivial⟩ ⟨hq.1, hq.2.1, hq.2.2.1, (hq.2.2.2.sift fun y hy => Or.inr (N y hy)).mono (by decide) (by decide)⟩⟩
theorem main_1_1 : Claimed_1_1 := comes_1 fun _ _ _ _ _ _ h hF => ⟨h.1, hF⟩
theorem main_1_2 : Claimed_1_2 := comes_1 fun _ _ _ _ _ _ h hF => ⟨h.2.1, hF⟩
end Jvm.Pilot.@@N@@
namespace Jvm.Pilot.@@N@@
open Jvm Jvm.ClassFile Sem Op Lib Jvm.Free Jvm.Stand Jvm.Pilot.@@N@@.Jvm.D
/-! MADE BY PROGRAM (witnessworld.py) out of the Statement's table words and the real class files: 24 classes; the members and pool entries that the words name. The judged class is class 1, her method 3. -/
namespace start1
open Jvm.ClassFile
def u (s : String) : CpInfo := .utf8 (stringToUtf16 s)
/-- a pool by its gaps: so many unusable entries, then the entry; so many at the end -/
def gap : Nat → List CpInfo → List CpInfo
  | 0, r => r
  | n + 1, r => .unusable :: gap n r
def poolList (es : List (Nat × CpInfo)) (last : Nat) : List CpInfo := es.foldr (fun e r => gap e.1 (e.2 :: r)) (gap last [])
def pool (es : List (Nat × CpInfo)) (last : Nat) : Array CpInfo := ⟨poolList es last⟩
def fileOf (pool : Array CpInfo) (this : Nat) (attrs : Array Attribute := #[]) (ms : Array MethodInfo := #[]) (fl : Nat := 33) (sup : Nat := 0) (ifs : Array Nat := #[]) (fds : Array FieldInfo := #[]) : ClassFile where
  minorVersion := 0
  majorVersion := 65
  constantPool := pool
  accessFlags := fl
  thisClass := this
  superClass := sup
  interfaces := ifs
  fields := fds
  methods := ms
  attributes := attrs
def plain (name : String) (sup : Option ClassId) : Class where
  name := name
  kind := .ordinary
  loader := none
  accessFlags := 33
  super := sup
  interfaces := #[]
  cf := none
  fields := #[]
  methods := #[]
  instanceTypes := #[]
  staticTypes := #[]
  resolved := #[]
  callSites := []
  init := .initialized
  statics := none
  mirror := none

def pool0 : Array CpInfo := pool [(5, u "<init>"), (0, u "()V"), (1, .class_ 10), (1, u "java/lang/Object")] 113

def k0c0 : Code := { maxStack := 0, maxLocals := 1, code := object_method_1_code, exceptionTable := #[], attributes := #[] }
def k0m0 : Method := { name := "<init>", desc := "()V", sig := { parameters := [], returnType := none }, accessFlags := 1, code := some k0c0 }
/-- java/lang/Object -/
def k0 : Class := { plain "java/lang/Object" none with
  accessFlags := 33
  interfaces := #[]
  cf := some (fileOf pool0 8 #[] #[{ accessFlags := 1, nameIndex := 5, descriptorIndex := 6, attributes := #[] }] 33 0 #[] #[])
  fields := #[]
  methods := #[k0m0]
  instanceTypes := #[]
  staticTypes := #[]
  resolved := Array.replicate 124 none
  statics := none }

def pool1 : Array CpInfo := pool [(2, .class_ 4), (1, u "java/lang/Object"), (0, u "<init>"), (0, u "()V"), (0, .class_ 8), (0, u "java/lang/String"), (0, .methodref 7 10), (0, .nameAndType 5 11), (0, u "([C)V"), (0, .integer 2147483647), (0, .methodref 14 15), (0, .class_ 16), (0, .nameAndType 17 18), (0, u "com/example/guildhall/guildhall/FqanParentOfPinLaw"), (0, u "ch"), (0, u "(III)C"), (0, .methodref 14 20), (0, .nameAndType 21 22), (0, u "str"), (0, u "([CI)Ljava/lang/String;"), (0, .methodref 24 25), (0, .class_ 26), (0, .nameAndType 27 28), (0, u "com/example/guildhall/guildhall/Fqan"), (0, u "parentOf"), (0, u "(Ljava/lang/String;)Ljava/lang/String;"), (0, .methodref 7 30), (0, .nameAndType 31 32), (0, u "equals"), (0, u "(Ljava/lang/Object;)Z"), (3, u "law"), (0, u "(IIIIII)Z")] 4

def k1m0 : Method := { name := "<init>", desc := "()V", sig := { parameters := [], returnType := none }, accessFlags := 1, code := none }
def k1c1 : Code := { maxStack := 2, maxLocals := 3, code := method_2_code, exceptionTable := #[], attributes := #[] }
def k1m1 : Method := { name := "ch", desc := "(III)C", sig := { parameters := [.int, .int, .int], returnType := some .char }, accessFlags := 10, code := some k1c1 }
def k1c2 : Code := { maxStack := 7, maxLocals := 2, code := method_3_code, exceptionTable := #[], attributes := #[] }
def k1m2 : Method := { name := "str", desc := "([CI)Ljava/lang/String;", sig := { parameters := [(.array .char), .int], returnType := some (.object "java/lang/String") }, accessFlags := 10, code := some k1c2 }
def k1c3 : Code := { maxStack := 5, maxLocals := 12, code := code, exceptionTable := #[], attributes := #[] }
def k1m3 : Method := { name := "law", desc := "(IIIIII)Z", sig := { parameters := [.int, .int, .int, .int, .int, .int], returnType := some .boolean }, accessFlags := 9, code := some k1c3 }
/-- com/example/guildhall/guildhall/FqanParentOfPinLaw -/
def k1 : Class := { plain "com/example/guildhall/guildhall/FqanParentOfPinLaw" (some 0) with
  accessFlags := 49
  interfaces := #[]
  cf := some (fileOf pool1 14 #[] #[{ accessFlags := 1, nameIndex := 5, descriptorIndex := 6, attributes := #[] }, { accessFlags := 10, nameIndex := 17, descriptorIndex := 18, attributes := #[] }, { accessFlags := 10, nameIndex := 21, descriptorIndex := 22, attributes := #[] }, { accessFlags := 9, nameIndex := 36, descriptorIndex := 37, attributes := #[] }] 49 2 #[] #[])
  fields := #[]
  methods := #[k1m0, k1m1, k1m2, k1m3]
  instanceTypes := #[]
  staticTypes := #[]
  resolved := Array.replicate 42 none
  statics := none }

def pool2 : Array CpInfo := pool [(1, .class_ 2), (0, u "java/io/Serializable"), (0, .class_ 4), (0, u "java/lang/Object")] 2

/-- java/io/Serializable -/
def k2 : Class := { plain "java/io/Serializable" (some 0) with
  accessFlags := 1537
  interfaces := #[]
  cf := some (fileOf pool2 1 #[] #[] 1537 3 #[] #[])
  fields := #[]
  methods := #[]
  instanceTypes := #[]
  staticTypes := #[]
  resolved := Array.replicate 7 none
  statics := none }

def pool3 : Array CpInfo := pool [(1, .class_ 2), (0, u "java/lang/Comparable"), (0, .class_ 4), (0, u "java/lang/Object")] 7

/-- java/lang/Comparable -/
def k3 : Class := { plain "java/lang/Comparable" (some 0) with
  accessFlags := 1537
  interfaces := #[]
  cf := some (fileOf pool3 1 #[] #[] 1537 3 #[] #[])
  fields := #[]
  methods := #[]
  instanceTypes := #[]
  staticTypes := #[]
  resolved := Array.replicate 12 none
  statics := none }

def pool4 : Array CpInfo := pool [(2, .class_ 4), (1, u "java/lang/CharSequence"), (42, .class_ 48), (0, u "java/lang/CharSequence$1CodePointIterator"), (10, .class_ 60), (0, u "java/lang/CharSequence$1CharIterator"), (5, .class_ 67), (0, u "java/lang/Object")] 63

/-- java/lang/CharSequence -/
def k4 : Class := { plain "java/lang/CharSequence" (some 0) with
  accessFlags := 1537
  interfaces := #[]
  cf := some (fileOf pool4 2 #[.nestMembers #[47, 59]] #[] 1537 66 #[] #[])
  fields := #[]
  methods := #[]
  instanceTypes := #[]
  staticTypes := #[]
  resolved := Array.replicate 131 none
  statics := none }

def pool5 : Array CpInfo := pool [(1, .class_ 2), (0, u "java/lang/constant/Constable"), (0, .class_ 4), (0, u "java/lang/Object")] 6

/-- java/lang/constant/Constable -/
def k5 : Class := { plain "java/lang/constant/Constable" (some 0) with
  accessFlags := 1537
  interfaces := #[]
  cf := some (fileOf pool5 1 #[] #[] 1537 3 #[] #[])
  fields := #[]
  methods := #[]
  instanceTypes := #[]
  staticTypes := #[]
  resolved := Array.replicate 11 none
  statics := none }

def pool6 : Array CpInfo := pool [(1, .class_ 2), (0, u "java/lang/constant/ConstantDesc"), (0, .class_ 4), (0, u "java/lang/Object")] 32

/-- java/lang/constant/ConstantDesc -/
def k6 : Class := { plain "java/lang/constant/ConstantDesc" (some 0) with
  accessFlags := 1537
  interfaces := #[]
  cf := some (fileOf pool6 1 #[] #[] 1537 3 #[] #[])
  fields := #[]
  methods := #[]
  instanceTypes := #[]
  staticTypes := #[]
  resolved := Array.replicate 37 none
  statics := none }

def pool7 : Array CpInfo := pool [(1, .methodref 2 3), (0, .class_ 4), (0, .nameAndType 5 6), (0, u "java/lang/Object"), (0, u "<init>"), (0, u "()V"), (0, .string 8), (0, u ""), (0, .fieldref 10 11), (0, .class_ 12), (0, .nameAndType 13 14), (0, u "java/lang/String"), (0, u "value"), (0, u "[B"), (0, .fieldref 10 16), (0, .nameAndType 17 18), (0, u "coder"), (0, u "B"), (2, u "hash"), (0, u "I"), (2, u "hashIsZero"), (0, u "Z"), (0, .methodref 10 28), (0, .nameAndType 5 29), (0, u "([CIILjava/lang/Void;)V"), (8, .fieldref 10 39), (0, .nameAndType 40 26), (0, u "COMPACT_STRINGS"), (1, .class_ 44), (1, u "java/lang/StringUTF16"), (0, u "compress"), (1, .methodref 42 48), (0, .nameAndType 49 50), (0, u "coderFromArrayLen"), (0, u "([BI)B"), (46, u "([BII)I"), (9, .class_ 109), (1, u "java/lang/StringLatin1"), (32, u "()Z"), (34, .methodref 42 178), (0, .nameAndType 45 179), (0, u "([CII)[B"), (31, u "([BB)V"), (122, u "()I"), (0, .methodref 10 336), (0, .nameAndType 17 337), (0, u "()B"), (154, .methodref 10 493), (0, .nameAndType 494 142), (0, u "isLatin1"), (10, .methodref 10 506), (0, .nameAndType 507 334), (0, u "length"), (5, u "checkFromToIndex"), (7, .methodref 10 522), (0, .nameAndType 523 524), (0, u "checkBoundsBeginEnd"), (0, u "(III)V"), (16, .methodref 107 542), (0, .nameAndType 543 544), (0, u "equals"), (0, u "([B[B)Z"), (28, u "(Ljava/lang/Object;)Z"), (1, .class_ 576), (0, u "java/lang/CharSequence"), (22, u "CASE_INSENSITIVE_ORDER"), (0, u "Ljava/util/Comparator;"), (35, u "(II)I"), (4, .methodref 10 642), (0, .nameAndType 643 636), (0, u "lastIndexOf"), (0, .methodref 107 645), (0, .nameAndType 643 97), (37, u "substring"), (0, u "(II)Ljava/lang/String;"), (0, .methodref 107 686), (0, .nameAndType 687 688), (0, u "newString"), (0, u "([BII)Ljava/lang/String;"), (76, u "(I)I"), (244, u "([C)V"), (42, .fieldref 1054 1055), (0, .class_ 1056), (0, .nameAndType 1057 1058), (0, u "jdk/internal/util/Preconditions"), (0, u "SIOOBE_FORMATTER"), (0, u "Ljava/util/function/BiFunction;"), (3, .methodref 1054 1063), (0, .nameAndType 513 1064), (0, u "(IIILjava/util/function/BiFunction;)I"), (36, u "serialPersistentFields"), (0, u "[Ljava/io/ObjectStreamField;"), (0, .class_ 1104), (0, u "java/lang/String$CaseInsensitiveComparator"), (1, .class_ 1107), (0, u "java/io/Serializable"), (0, .class_ 1109), (0, u "java/lang/Comparable"), (0, .class_ 1111), (0, u "java/lang/constant/Constable"), (0, .class_ 1113), (0, u "java/lang/constant/ConstantDesc"), (2, u "serialVersionUID"), (0, u "J"), (3, u "REPL"), (0, u "C"), (2, u "LATIN1"), (1, u "UTF16")] 323

def k7m0 : Method := { name := "<init>", desc := "()V", sig := { parameters := [], returnType := none }, accessFlags := 1, code := none }
def k7c1 : Code := { maxStack := 5, maxLocals := 2, code := jdk_42_method_3_code, exceptionTable := #[], attributes := #[] }
def k7m1 : Method := { name := "<init>", desc := "([C)V", sig := { parameters := [(.array .char)], returnType := none }, accessFlags := 1, code := some k7c1 }
def k7c2 : Code := { maxStack := 2, maxLocals := 1, code := jdk_42_method_54_code, exceptionTable := #[], attributes := #[] }
def k7m2 : Method := { name := "length", desc := "()I", sig := { parameters := [], returnType := some .int }, accessFlags := 1, code := some k7c2 }
def k7c3 : Code := { maxStack := 2, maxLocals := 3, code := jdk_42_method_66_code, exceptionTable := #[], attributes := #[] }
def k7m3 : Method := { name := "equals", desc := "(Ljava/lang/Object;)Z", sig := { parameters := [(.object "java/lang/Object")], returnType := some .boolean }, accessFlags := 1, code := some k7c3 }
def k7c4 : Code := { maxStack := 4, maxLocals := 2, code := jdk_42_method_82_code, exceptionTable := #[], attributes := #[] }
def k7m4 : Method := { name := "lastIndexOf", desc := "(I)I", sig := { parameters := [.int], returnType := some .int }, accessFlags := 1, code := some k7c4 }
def k7c5 : Code := { maxStack := 3, maxLocals := 3, code := jdk_42_method_83_code, exceptionTable := #[], attributes := #[] }
def k7m5 : Method := { name := "lastIndexOf", desc := "(II)I", sig := { parameters := [.int, .int], returnType := some .int }, accessFlags := 1, code := some k7c5 }
def k7c6 : Code := { maxStack := 3, maxLocals := 5, code := jdk_42_method_92_code, exceptionTable := #[], attributes := #[] }
def k7m6 : Method := { name := "substring", desc := "(II)Ljava/lang/String;", sig := { parameters := [.int, .int], returnType := some (.object "java/lang/String") }, accessFlags := 1, code := some k7c6 }
def k7c7 : Code := { maxStack := 4, maxLocals := 6, code := jdk_42_method_149_code, exceptionTable := #[], attributes := #[] }
def k7m7 : Method := { name := "<init>", desc := "([CIILjava/lang/Void;)V", sig := { parameters := [(.array .char), .int, .int, (.object "java/lang/Void")], returnType := none }, accessFlags := 2, code := some k7c7 }
def k7c8 : Code := { maxStack := 2, maxLocals := 3, code := jdk_42_method_151_code, exceptionTable := #[], attributes := #[] }
def k7m8 : Method := { name := "<init>", desc := "([BB)V", sig := { parameters := [(.array .byte), .byte], returnType := none }, accessFlags := 0, code := some k7c8 }
def k7c9 : Code := { maxStack := 1, maxLocals := 1, code := jdk_42_method_152_code, exceptionTable := #[], attributes := #[] }
def k7m9 : Method := { name := "coder", desc := "()B", sig := { parameters := [], returnType := some .byte }, accessFlags := 0, code := some k7c9 }
def k7c10 : Code := { maxStack := 1, maxLocals := 1, code := jdk_42_method_154_code, exceptionTable := #[], attributes := #[] }
def k7m10 : Method := { name := "isLatin1", desc := "()Z", sig := { parameters := [], returnType := some .boolean }, accessFlags := 0, code := some k7c10 }
def k7c11 : Code := { maxStack := 4, maxLocals := 3, code := jdk_42_method_158_code, exceptionTable := #[], attributes := #[] }
def k7m11 : Method := { name := "checkBoundsBeginEnd", desc := "(III)V", sig := { parameters := [.int, .int, .int], returnType := none }, accessFlags := 8, code := some k7c11 }
/-- java/lang/String -/
def k7 : Class := { plain "java/lang/String" (some 0) with
  accessFlags := 49
  interfaces := #[2, 3, 4, 5, 6]
  cf := some (fileOf pool7 10 #[.nestMembers #[1103]] #[{ accessFlags := 1, nameIndex := 5, descriptorIndex := 6, attributes := #[] }, { accessFlags := 1, nameIndex := 5, descriptorIndex := 1010, attributes := #[] }, { accessFlags := 1, nameIndex := 507, descriptorIndex := 334, attributes := #[] }, { accessFlags := 1, nameIndex := 543, descriptorIndex := 573, attributes := #[] }, { accessFlags := 1, nameIndex := 643, descriptorIndex := 765, attributes := #[] }, { accessFlags := 1, nameIndex := 643, descriptorIndex := 636, attributes := #[] }, { accessFlags := 1, nameIndex := 683, descriptorIndex := 684, attributes := #[] }, { accessFlags := 2, nameIndex := 5, descriptorIndex := 29, attributes := #[] }, { accessFlags := 0, nameIndex := 5, descriptorIndex := 211, attributes := #[] }, { accessFlags := 0, nameIndex := 17, descriptorIndex := 337, attributes := #[] }, { accessFlags := 0, nameIndex := 494, descriptorIndex := 142, attributes := #[] }, { accessFlags := 8, nameIndex := 523, descriptorIndex := 524, attributes := #[] }] 49 2 #[1106, 1108, 575, 1110, 1112] #[{ accessFlags := 18, nameIndex := 13, descriptorIndex := 14, attributes := #[] }, { accessFlags := 18, nameIndex := 17, descriptorIndex := 18, attributes := #[] }, { accessFlags := 2, nameIndex := 21, descriptorIndex := 22, attributes := #[] }, { accessFlags := 2, nameIndex := 25, descriptorIndex := 26, attributes := #[] }, { accessFlags := 26, nameIndex := 1116, descriptorIndex := 1117, attributes := #[] }, { accessFlags := 24, nameIndex := 40, descriptorIndex := 26, attributes := #[] }, { accessFlags := 26, nameIndex := 1101, descriptorIndex := 1102, attributes := #[] }, { accessFlags := 26, nameIndex := 1121, descriptorIndex := 1122, attributes := #[] }, { accessFlags := 25, nameIndex := 599, descriptorIndex := 600, attributes := #[] }, { accessFlags := 24, nameIndex := 1125, descriptorIndex := 18, attributes := #[] }, { accessFlags := 24, nameIndex := 1127, descriptorIndex := 18, attributes := #[] }])
  fields := #[{ name := "value", type := (.array .byte), accessFlags := 18, slot := 0, constantValue := 0 }, { name := "coder", type := .byte, accessFlags := 18, slot := 1, constantValue := 0 }, { name := "hash", type := .int, accessFlags := 2, slot := 2, constantValue := 0 }, { name := "hashIsZero", type := .boolean, accessFlags := 2, slot := 3, constantValue := 0 }, { name := "serialVersionUID", type := .long, accessFlags := 26, slot := 0, constantValue := 0 }, { name := "COMPACT_STRINGS", type := .boolean, accessFlags := 24, slot := 1, constantValue := 0 }, { name := "serialPersistentFields", type := (.array (.object "java/io/ObjectStreamField")), accessFlags := 26, slot := 2, constantValue := 0 }, { name := "REPL", type := .char, accessFlags := 26, slot := 3, constantValue := 0 }, { name := "CASE_INSENSITIVE_ORDER", type := (.object "java/util/Comparator"), accessFlags := 25, slot := 4, constantValue := 0 }, { name := "LATIN1", type := .byte, accessFlags := 24, slot := 5, constantValue := 0 }, { name := "UTF16", type := .byte, accessFlags := 24, slot := 6, constantValue := 0 }]
  methods := #[k7m0, k7m1, k7m2, k7m3, k7m4, k7m5, k7m6, k7m7, k7m8, k7m9, k7m10, k7m11]
  instanceTypes := #[(.array .byte), .byte, .int, .boolean]
  staticTypes := #[.long, .boolean, (.array (.object "java/io/ObjectStreamField")), .char, (.object "java/util/Comparator"), .byte, .byte]
  resolved := Array.replicate 1451 none
  statics := some 0 }

def pool8 : Array CpInfo := pool [(2, .class_ 4), (1, u "java/lang/Object"), (0, u "<init>"), (0, u "()V"), (0, .class_ 8), (0, u "java/lang/Record")] 13

def k8m0 : Method := { name := "<init>", desc := "()V", sig := { parameters := [], returnType := none }, accessFlags := 4, code := none }
/-- java/lang/Record -/
def k8 : Class := { plain "java/lang/Record" (some 0) with
  accessFlags := 1057
  interfaces := #[]
  cf := some (fileOf pool8 7 #[] #[{ accessFlags := 4, nameIndex := 5, descriptorIndex := 6, attributes := #[] }] 1057 2 #[] #[])
  fields := #[]
  methods := #[k8m0]
  instanceTypes := #[]
  staticTypes := #[]
  resolved := Array.replicate 22 none
  statics := none }

def pool9 : Array CpInfo := pool [(2, .class_ 4), (1, u "java/lang/Record"), (3, .class_ 10), (1, u "com/example/guildhall/guildhall/Fqan"), (0, u "group"), (0, u "Ljava/lang/String;"), (2, u "role"), (31, .class_ 48), (0, u "java/lang/String"), (3, u "(Ljava/lang/String;)Ljava/lang/String;"), (4, .methodref 47 58), (0, .nameAndType 59 60), (0, u "lastIndexOf"), (0, u "(I)I"), (6, .methodref 47 68), (0, .nameAndType 69 70), (0, u "substring"), (0, u "(II)Ljava/lang/String;"), (29, u "ROLE"), (10, u "parentOf")] 37

def k9c0 : Code := { maxStack := 3, maxLocals := 2, code := prog_18_method_5_code, exceptionTable := #[], attributes := #[] }
def k9m0 : Method := { name := "parentOf", desc := "(Ljava/lang/String;)Ljava/lang/String;", sig := { parameters := [(.object "java/lang/String")], returnType := some (.object "java/lang/String") }, accessFlags := 8, code := some k9c0 }
/-- com/example/guildhall/guildhall/Fqan -/
def k9 : Class := { plain "com/example/guildhall/guildhall/Fqan" (some 8) with
  accessFlags := 48
  interfaces := #[]
  cf := some (fileOf pool9 8 #[] #[{ accessFlags := 8, nameIndex := 111, descriptorIndex := 52, attributes := #[] }] 48 2 #[] #[{ accessFlags := 18, nameIndex := 11, descriptorIndex := 12, attributes := #[] }, { accessFlags := 18, nameIndex := 15, descriptorIndex := 12, attributes := #[] }, { accessFlags := 26, nameIndex := 100, descriptorIndex := 12, attributes := #[] }])
  fields := #[{ name := "group", type := (.object "java/lang/String"), accessFlags := 18, slot := 0, constantValue := 0 }, { name := "role", type := (.object "java/lang/String"), accessFlags := 18, slot := 1, constantValue := 0 }, { name := "ROLE", type := (.object "java/lang/String"), accessFlags := 26, slot := 0, constantValue := 0 }]
  methods := #[k9m0]
  instanceTypes := #[(.object "java/lang/String"), (.object "java/lang/String")]
  staticTypes := #[(.object "java/lang/String")]
  resolved := Array.replicate 149 none
  statics := none }

def pool10 : Array CpInfo := pool [(1, .class_ 2), (0, u "java/lang/String"), (1, .class_ 6), (1, u "java/lang/Object"), (0, u "<init>"), (0, u "()V"), (5, .class_ 16), (1, u "java/lang/StringLatin1"), (21, .methodref 39 40), (0, .class_ 41), (0, .nameAndType 42 43), (0, u "java/lang/Math"), (0, u "min"), (0, u "(II)I"), (44, .methodref 14 89), (0, .nameAndType 90 91), (0, u "canEncode"), (0, u "(I)Z"), (20, .methodref 1 113), (0, .nameAndType 7 114), (0, u "([BB)V"), (6, u "$assertionsDisabled"), (0, u "Z"), (8, .class_ 133), (1, u "java/util/Arrays"), (62, u "newString"), (0, u "([BII)Ljava/lang/String;"), (23, .class_ 223), (1, u "java/lang/StringLatin1$LinesSpliterator"), (8, .methodref 131 233), (0, .nameAndType 234 235), (0, u "copyOfRange"), (0, u "([BII)[B"), (25, u "([BII)I"), (19, u "equals"), (0, u "([B[B)Z"), (26, u "lastIndexOf"), (80, .class_ 391), (0, u "java/lang/StringLatin1$CharsSpliterator")] 3

def k10m0 : Method := { name := "<init>", desc := "()V", sig := { parameters := [], returnType := none }, accessFlags := 0, code := none }
def k10c1 : Code := { maxStack := 2, maxLocals := 1, code := jdk_43_method_4_code, exceptionTable := #[], attributes := #[] }
def k10m1 : Method := { name := "canEncode", desc := "(I)Z", sig := { parameters := [.int], returnType := some .boolean }, accessFlags := 9, code := some k10c1 }
def k10c2 : Code := { maxStack := 3, maxLocals := 3, code := jdk_43_method_13_code, exceptionTable := #[], attributes := #[] }
def k10m2 : Method := { name := "equals", desc := "([B[B)Z", sig := { parameters := [(.array .byte), (.array .byte)], returnType := some .boolean }, accessFlags := 9, code := some k10c2 }
def k10c3 : Code := { maxStack := 3, maxLocals := 4, code := jdk_43_method_27_code, exceptionTable := #[], attributes := #[] }
def k10m3 : Method := { name := "lastIndexOf", desc := "([BII)I", sig := { parameters := [(.array .byte), .int, .int], returnType := some .int }, accessFlags := 9, code := some k10c3 }
def k10c4 : Code := { maxStack := 6, maxLocals := 3, code := jdk_43_method_47_code, exceptionTable := #[], attributes := #[] }
def k10m4 : Method := { name := "newString", desc := "([BII)Ljava/lang/String;", sig := { parameters := [(.array .byte), .int, .int], returnType := some (.object "java/lang/String") }, accessFlags := 9, code := some k10c4 }
/-- java/lang/StringLatin1 -/
def k10 : Class := { plain "java/lang/StringLatin1" (some 0) with
  accessFlags := 48
  interfaces := #[]
  cf := some (fileOf pool10 14 #[.nestMembers #[390, 221]] #[{ accessFlags := 0, nameIndex := 7, descriptorIndex := 8, attributes := #[] }, { accessFlags := 9, nameIndex := 90, descriptorIndex := 91, attributes := #[] }, { accessFlags := 9, nameIndex := 281, descriptorIndex := 282, attributes := #[] }, { accessFlags := 9, nameIndex := 309, descriptorIndex := 261, attributes := #[] }, { accessFlags := 9, nameIndex := 196, descriptorIndex := 197, attributes := #[] }] 48 4 #[] #[{ accessFlags := 4120, nameIndex := 121, descriptorIndex := 122, attributes := #[] }])
  fields := #[{ name := "$assertionsDisabled", type := .boolean, accessFlags := 4120, slot := 0, constantValue := 0 }]
  methods := #[k10m0, k10m1, k10m2, k10m3, k10m4]
  instanceTypes := #[]
  staticTypes := #[.boolean]
  resolved := Array.replicate 395 none
  statics := none }

def pool11 : Array CpInfo := pool [(1, .class_ 2), (0, u "java/lang/Math"), (1, .class_ 6), (1, u "java/lang/Object"), (0, u "<init>"), (0, u "()V"), (89, .class_ 100), (1, u "java/lang/Math$RandomNumberGeneratorHolder"), (71, u "negativeZeroFloatBits"), (0, u "J"), (2, u "negativeZeroDoubleBits"), (24, u "min"), (43, u "$assertionsDisabled"), (0, u "Z"), (88, u "(II)I"), (2, u "twoToTheDoubleScaleDown"), (0, u "D"), (4, u "twoToTheDoubleScaleUp"), (9, u "E"), (3, u "PI"), (2, u "TAU"), (2, u "DEGREES_TO_RADIANS"), (0, u "RADIANS_TO_DEGREES")] 94

def k11m0 : Method := { name := "<init>", desc := "()V", sig := { parameters := [], returnType := none }, accessFlags := 2, code := none }
def k11c1 : Code := { maxStack := 2, maxLocals := 2, code := jdk_29_method_69_code, exceptionTable := #[], attributes := #[] }
def k11m1 : Method := { name := "min", desc := "(II)I", sig := { parameters := [.int, .int], returnType := some .int }, accessFlags := 9, code := some k11c1 }
/-- java/lang/Math -/
def k11 : Class := { plain "java/lang/Math" (some 0) with
  accessFlags := 49
  interfaces := #[]
  cf := some (fileOf pool11 1 #[.nestMembers #[98]] #[{ accessFlags := 2, nameIndex := 7, descriptorIndex := 8, attributes := #[] }, { accessFlags := 9, nameIndex := 201, descriptorIndex := 335, attributes := #[] }] 49 4 #[] #[{ accessFlags := 25, nameIndex := 354, descriptorIndex := 339, attributes := #[] }, { accessFlags := 25, nameIndex := 358, descriptorIndex := 339, attributes := #[] }, { accessFlags := 25, nameIndex := 361, descriptorIndex := 339, attributes := #[] }, { accessFlags := 26, nameIndex := 364, descriptorIndex := 339, attributes := #[] }, { accessFlags := 26, nameIndex := 365, descriptorIndex := 339, attributes := #[] }, { accessFlags := 26, nameIndex := 172, descriptorIndex := 173, attributes := #[] }, { accessFlags := 26, nameIndex := 176, descriptorIndex := 173, attributes := #[] }, { accessFlags := 8, nameIndex := 344, descriptorIndex := 339, attributes := #[] }, { accessFlags := 8, nameIndex := 338, descriptorIndex := 339, attributes := #[] }, { accessFlags := 4120, nameIndex := 245, descriptorIndex := 246, attributes := #[] }])
  fields := #[{ name := "E", type := .double, accessFlags := 25, slot := 0, constantValue := 0 }, { name := "PI", type := .double, accessFlags := 25, slot := 1, constantValue := 0 }, { name := "TAU", type := .double, accessFlags := 25, slot := 2, constantValue := 0 }, { name := "DEGREES_TO_RADIANS", type := .double, accessFlags := 26, slot := 3, constantValue := 0 }, { name := "RADIANS_TO_DEGREES", type := .double, accessFlags := 26, slot := 4, constantValue := 0 }, { name := "negativeZeroFloatBits", type := .long, accessFlags := 26, slot := 5, constantValue := 0 }, { name := "negativeZeroDoubleBits", type := .long, accessFlags := 26, slot := 6, constantValue := 0 }, { name := "twoToTheDoubleScaleUp", type := .double, accessFlags := 8, slot := 7, constantValue := 0 }, { name := "twoToTheDoubleScaleDown", type := .double, accessFlags := 8, slot := 8, constantValue := 0 }, { name := "$assertionsDisabled", type := .boolean, accessFlags := 4120, slot := 9, constantValue := 0 }]
  methods := #[k11m0, k11m1]
  instanceTypes := #[]
  staticTypes := #[.double, .double, .double, .double, .double, .long, .long, .double, .double, .boolean]
  resolved := Array.replicate 460 none
  statics := none }

def pool12 : Array CpInfo := pool [(6, .class_ 8), (1, u "java/lang/Object"), (0, u "<init>"), (0, u "()V"), (1, .class_ 14), (1, u "java/lang/StringUTF16"), (31, u "$assertionsDisabled"), (0, u "Z"), (13, u "HI_BYTE_SHIFT"), (0, u "I"), (2, u "LO_BYTE_SHIFT"), (49, .methodref 12 116), (0, .nameAndType 117 118), (0, u "compress"), (0, u "([CI[BII)I"), (3, u "([CII)[B"), (138, u "coderFromArrayLen"), (0, u "([BI)B"), (106, .class_ 371), (1, u "java/lang/StringUTF16$LinesSpliterator"), (58, u "MAX_LENGTH"), (196, .class_ 628), (0, u "java/lang/StringUTF16$CodePointsSpliterator"), (0, .class_ 630), (0, u "java/lang/StringUTF16$CharsSpliterator")] 4

def k12m0 : Method := { name := "<init>", desc := "()V", sig := { parameters := [], returnType := none }, accessFlags := 0, code := none }
def k12c1 : Code := { maxStack := 2, maxLocals := 2, code := jdk_52_method_15_code, exceptionTable := #[], attributes := #[] }
def k12m1 : Method := { name := "coderFromArrayLen", desc := "([BI)B", sig := { parameters := [(.array .byte), .int], returnType := some .byte }, accessFlags := 8, code := some k12c1 }
def k12c2 : Code := { maxStack := 5, maxLocals := 6, code := jdk_52_method_16_code, exceptionTable := #[], attributes := #[] }
def k12m2 : Method := { name := "compress", desc := "([CII)[B", sig := { parameters := [(.array .char), .int, .int], returnType := some (.array .byte) }, accessFlags := 9, code := some k12c2 }
def k12c3 : Code := { maxStack := 3, maxLocals := 7, code := jdk_52_method_21_code, exceptionTable := #[], attributes := #[] }
def k12m3 : Method := { name := "compress", desc := "([CI[BII)I", sig := { parameters := [(.array .char), .int, (.array .byte), .int, .int], returnType := some .int }, accessFlags := 9, code := some k12c3 }
/-- java/lang/StringUTF16 -/
def k12 : Class := { plain "java/lang/StringUTF16" (some 0) with
  accessFlags := 48
  interfaces := #[]
  cf := some (fileOf pool12 12 #[.nestMembers #[627, 629, 369]] #[{ accessFlags := 0, nameIndex := 9, descriptorIndex := 10, attributes := #[] }, { accessFlags := 8, nameIndex := 261, descriptorIndex := 262, attributes := #[] }, { accessFlags := 9, nameIndex := 117, descriptorIndex := 122, attributes := #[] }, { accessFlags := 9, nameIndex := 117, descriptorIndex := 118, attributes := #[] }] 48 6 #[] #[{ accessFlags := 26, nameIndex := 61, descriptorIndex := 62, attributes := #[] }, { accessFlags := 26, nameIndex := 65, descriptorIndex := 62, attributes := #[] }, { accessFlags := 24, nameIndex := 430, descriptorIndex := 62, attributes := #[] }, { accessFlags := 4120, nameIndex := 46, descriptorIndex := 47, attributes := #[] }])
  fields := #[{ name := "HI_BYTE_SHIFT", type := .int, accessFlags := 26, slot := 0, constantValue := 0 }, { name := "LO_BYTE_SHIFT", type := .int, accessFlags := 26, slot := 1, constantValue := 0 }, { name := "MAX_LENGTH", type := .int, accessFlags := 24, slot := 2, constantValue := 0 }, { name := "$assertionsDisabled", type := .boolean, accessFlags := 4120, slot := 3, constantValue := 0 }]
  methods := #[k12m0, k12m1, k12m2, k12m3]
  instanceTypes := #[]
  staticTypes := #[.int, .int, .int, .boolean]
  resolved := Array.replicate 635 none
  statics := none }

def pool13 : Array CpInfo := pool [(2, .class_ 4), (1, u "java/lang/Object"), (0, u "<init>"), (0, u "()V"), (17, .class_ 26), (1, u "jdk/internal/util/Preconditions"), (20, u "checkFromToIndex"), (7, .class_ 56), (0, u "jdk/internal/util/Preconditions$4"), (57, .class_ 115), (0, u "jdk/internal/util/Preconditions$1"), (7, u "SIOOBE_FORMATTER"), (0, u "Ljava/util/function/BiFunction;"), (0, .class_ 126), (0, u "jdk/internal/util/Preconditions$2"), (3, u "AIOOBE_FORMATTER"), (0, .class_ 132), (0, u "jdk/internal/util/Preconditions$3"), (3, u "IOOBE_FORMATTER"), (46, u "(IIILjava/util/function/BiFunction;)I")] 10

def k13m0 : Method := { name := "<init>", desc := "()V", sig := { parameters := [], returnType := none }, accessFlags := 1, code := none }
def k13c1 : Code := { maxStack := 4, maxLocals := 4, code := jdk_41_method_12_code, exceptionTable := #[], attributes := #[] }
def k13m1 : Method := { name := "checkFromToIndex", desc := "(IIILjava/util/function/BiFunction;)I", sig := { parameters := [.int, .int, .int, (.object "java/util/function/BiFunction")], returnType := some .int }, accessFlags := 9, code := some k13c1 }
/-- jdk/internal/util/Preconditions -/
def k13 : Class := { plain "jdk/internal/util/Preconditions" (some 0) with
  accessFlags := 33
  interfaces := #[]
  cf := some (fileOf pool13 24 #[.nestMembers #[55, 131, 125, 114]] #[{ accessFlags := 1, nameIndex := 5, descriptorIndex := 6, attributes := #[] }, { accessFlags := 9, nameIndex := 47, descriptorIndex := 183, attributes := #[] }] 33 2 #[] #[{ accessFlags := 25, nameIndex := 123, descriptorIndex := 124, attributes := #[] }, { accessFlags := 25, nameIndex := 130, descriptorIndex := 124, attributes := #[] }, { accessFlags := 25, nameIndex := 136, descriptorIndex := 124, attributes := #[] }])
  fields := #[{ name := "SIOOBE_FORMATTER", type := (.object "java/util/function/BiFunction"), accessFlags := 25, slot := 0, constantValue := 0 }, { name := "AIOOBE_FORMATTER", type := (.object "java/util/function/BiFunction"), accessFlags := 25, slot := 1, constantValue := 0 }, { name := "IOOBE_FORMATTER", type := (.object "java/util/function/BiFunction"), accessFlags := 25, slot := 2, constantValue := 0 }]
  methods := #[k13m0, k13m1]
  instanceTypes := #[]
  staticTypes := #[(.object "java/util/function/BiFunction"), (.object "java/util/function/BiFunction"), (.object "java/util/function/BiFunction")]
  resolved := Array.replicate 194 none
  statics := some 1 }

def pool14 : Array CpInfo := pool [(2, .class_ 4), (1, u "java/lang/Object"), (0, u "<init>"), (0, u "()V"), (7, .class_ 16), (1, u "java/util/Arrays"), (57, .class_ 76), (1, u "java/util/Arrays$NaturalOrder"), (36, .class_ 115), (1, u "java/util/Arrays$LegacyMergeSort"), (1, u "Z"), (21, u "copyOfRange"), (10, .methodref 151 152), (0, .class_ 153), (0, .nameAndType 154 155), (0, u "java/lang/System"), (0, u "arraycopy"), (0, u "(Ljava/lang/Object;ILjava/lang/Object;II)V"), (148, .methodref 305 306), (0, .class_ 307), (0, .nameAndType 308 309), (0, u "java/lang/Math"), (0, u "min"), (0, u "(II)I"), (29, .methodref 14 340), (0, .nameAndType 341 342), (0, u "copyOfRangeByte"), (0, u "([BII)[B"), (0, .methodref 14 344), (0, .nameAndType 345 346), (0, u "checkLength"), (0, u "(II)V"), (28, .class_ 376), (0, u "java/util/Arrays$ArrayList"), (68, u "$assertionsDisabled"), (269, u "MIN_ARRAY_SORT_GRAN"), (0, u "I"), (2, u "INSERTIONSORT_THRESHOLD"), (255, .class_ 976), (0, u "java/util/Arrays$ArrayItr")] 52

def k14m0 : Method := { name := "<init>", desc := "()V", sig := { parameters := [], returnType := none }, accessFlags := 2, code := none }
def k14c1 : Code := { maxStack := 4, maxLocals := 2, code := jdk_65_method_131_code, exceptionTable := #[], attributes := #[] }
def k14m1 : Method := { name := "checkLength", desc := "(II)V", sig := { parameters := [.int, .int], returnType := none }, accessFlags := 10, code := some k14c1 }
def k14c2 : Code := { maxStack := 3, maxLocals := 3, code := jdk_65_method_132_code, exceptionTable := #[], attributes := #[] }
def k14m2 : Method := { name := "copyOfRange", desc := "([BII)[B", sig := { parameters := [(.array .byte), .int, .int], returnType := some (.array .byte) }, accessFlags := 9, code := some k14c2 }
def k14c3 : Code := { maxStack := 6, maxLocals := 5, code := jdk_65_method_133_code, exceptionTable := #[], attributes := #[] }
def k14m3 : Method := { name := "copyOfRangeByte", desc := "([BII)[B", sig := { parameters := [(.array .byte), .int, .int], returnType := some (.array .byte) }, accessFlags := 10, code := some k14c3 }
/-- java/util/Arrays -/
def k14 : Class := { plain "java/util/Arrays" (some 0) with
  accessFlags := 49
  interfaces := #[]
  cf := some (fileOf pool14 14 #[.nestMembers #[975, 375, 113, 74]] #[{ accessFlags := 2, nameIndex := 5, descriptorIndex := 6, attributes := #[] }, { accessFlags := 10, nameIndex := 345, descriptorIndex := 346, attributes := #[] }, { accessFlags := 9, nameIndex := 139, descriptorIndex := 342, attributes := #[] }, { accessFlags := 10, nameIndex := 341, descriptorIndex := 342, attributes := #[] }] 49 2 #[] #[{ accessFlags := 26, nameIndex := 715, descriptorIndex := 716, attributes := #[] }, { accessFlags := 26, nameIndex := 719, descriptorIndex := 716, attributes := #[] }, { accessFlags := 4120, nameIndex := 445, descriptorIndex := 117, attributes := #[] }])
  fields := #[{ name := "MIN_ARRAY_SORT_GRAN", type := .int, accessFlags := 26, slot := 0, constantValue := 0 }, { name := "INSERTIONSORT_THRESHOLD", type := .int, accessFlags := 26, slot := 1, constantValue := 0 }, { name := "$assertionsDisabled", type := .boolean, accessFlags := 4120, slot := 2, constantValue := 0 }]
  methods := #[k14m0, k14m1, k14m2, k14m3]
  instanceTypes := #[]
  staticTypes := #[.int, .int, .boolean]
  resolved := Array.replicate 1029 none
  statics := none }

def pool15 : Array CpInfo := pool [(2, .class_ 4), (1, u "java/lang/Object"), (0, u "<init>"), (0, u "()V"), (1, .class_ 10), (1, u "java/lang/System"), (0, u "allowSecurityManager"), (0, u "I"), (16, u "cons"), (0, u "Ljava/io/Console;"), (77, .class_ 110), (1, u "java/lang/System$CallersHolder"), (43, u "initialErrStream"), (0, u "Ljava/io/PrintStream;"), (19, u "security"), (0, u "Ljava/lang/SecurityManager;"), (31, .class_ 209), (0, u "java/lang/System$1"), (7, u "props"), (0, u "Ljava/util/Properties;"), (2, u "lineSeparator"), (0, u "Ljava/lang/String;"), (96, .class_ 321), (1, u "java/lang/System$LoggerFinder"), (5, .class_ 328), (0, u "java/lang/System$Logger"), (67, u "err"), (2, u "out"), (91, u "notSupportedJnuEncoding"), (15, u "in"), (17, u "initialIn"), (0, u "Ljava/io/InputStream;"), (35, u "bootLayer"), (0, u "Ljava/lang/ModuleLayer;"), (99, .class_ 664), (0, u "java/lang/System$2"), (9, u "NEVER"), (2, u "MAYBE"), (49, u "arraycopy"), (0, u "(Ljava/lang/Object;ILjava/lang/Object;II)V"), (72, .class_ 802), (0, u "java/lang/System$Logger$Level")] 31

def k15m0 : Method := { name := "<init>", desc := "()V", sig := { parameters := [], returnType := none }, accessFlags := 2, code := none }
def k15m1 : Method := { name := "arraycopy", desc := "(Ljava/lang/Object;ILjava/lang/Object;II)V", sig := { parameters := [(.object "java/lang/Object"), .int, (.object "java/lang/Object"), .int, .int], returnType := none }, accessFlags := 265, code := none }
/-- java/lang/System -/
def k15 : Class := { plain "java/lang/System" (some 0) with
  accessFlags := 49
  interfaces := #[]
  cf := some (fileOf pool15 8 #[.nestMembers #[319, 327, 801, 108, 663, 208]] #[{ accessFlags := 2, nameIndex := 5, descriptorIndex := 6, attributes := #[] }, { accessFlags := 265, nameIndex := 727, descriptorIndex := 728, attributes := #[] }] 49 2 #[] #[{ accessFlags := 25, nameIndex := 507, descriptorIndex := 526, attributes := #[] }, { accessFlags := 25, nameIndex := 399, descriptorIndex := 155, attributes := #[] }, { accessFlags := 25, nameIndex := 396, descriptorIndex := 155, attributes := #[] }, { accessFlags := 10, nameIndex := 525, descriptorIndex := 526, attributes := #[] }, { accessFlags := 26, nameIndex := 674, descriptorIndex := 12, attributes := #[] }, { accessFlags := 26, nameIndex := 677, descriptorIndex := 12, attributes := #[] }, { accessFlags := 10, nameIndex := 11, descriptorIndex := 12, attributes := #[] }, { accessFlags := 74, nameIndex := 175, descriptorIndex := 176, attributes := #[] }, { accessFlags := 10, nameIndex := 491, descriptorIndex := 222, attributes := #[] }, { accessFlags := 74, nameIndex := 29, descriptorIndex := 30, attributes := #[] }, { accessFlags := 74, nameIndex := 154, descriptorIndex := 155, attributes := #[] }, { accessFlags := 10, nameIndex := 217, descriptorIndex := 218, attributes := #[] }, { accessFlags := 10, nameIndex := 221, descriptorIndex := 222, attributes := #[] }, { accessFlags := 8, nameIndex := 562, descriptorIndex := 563, attributes := #[] }])
  fields := #[{ name := "in", type := (.object "java/io/InputStream"), accessFlags := 25, slot := 0, constantValue := 0 }, { name := "out", type := (.object "java/io/PrintStream"), accessFlags := 25, slot := 1, constantValue := 0 }, { name := "err", type := (.object "java/io/PrintStream"), accessFlags := 25, slot := 2, constantValue := 0 }, { name := "initialIn", type := (.object "java/io/InputStream"), accessFlags := 10, slot := 3, constantValue := 0 }, { name := "NEVER", type := .int, accessFlags := 26, slot := 4, constantValue := 0 }, { name := "MAYBE", type := .int, accessFlags := 26, slot := 5, constantValue := 0 }, { name := "allowSecurityManager", type := .int, accessFlags := 10, slot := 6, constantValue := 0 }, { name := "security", type := (.object "java/lang/SecurityManager"), accessFlags := 74, slot := 7, constantValue := 0 }, { name := "notSupportedJnuEncoding", type := (.object "java/lang/String"), accessFlags := 10, slot := 8, constantValue := 0 }, { name := "cons", type := (.object "java/io/Console"), accessFlags := 74, slot := 9, constantValue := 0 }, { name := "initialErrStream", type := (.object "java/io/PrintStream"), accessFlags := 74, slot := 10, constantValue := 0 }, { name := "props", type := (.object "java/util/Properties"), accessFlags := 10, slot := 11, constantValue := 0 }, { name := "lineSeparator", type := (.object "java/lang/String"), accessFlags := 10, slot := 12, constantValue := 0 }, { name := "bootLayer", type := (.object "java/lang/ModuleLayer"), accessFlags := 8, slot := 13, constantValue := 0 }]
  methods := #[k15m0, k15m1]
  instanceTypes := #[]
  staticTypes := #[(.object "java/io/InputStream"), (.object "java/io/PrintStream"), (.object "java/io/PrintStream"), (.object "java/io/InputStream"), .int, .int, .int, (.object "java/lang/SecurityManager"), (.object "java/lang/String"), (.object "java/io/Console"), (.object "java/io/PrintStream"), (.object "java/util/Properties"), (.object "java/lang/String"), (.object "java/lang/ModuleLayer")]
  resolved := Array.replicate 834 none
  statics := none }

def pool16 : Array CpInfo := pool [(9, u "<init>"), (6, .class_ 18), (1, u "java/lang/Object"), (0, u "()V"), (1, .class_ 23), (1, u "jdk/internal/util/ArraysSupport"), (0, u "LOG2_ARRAY_LONG_INDEX_SCALE"), (0, u "I"), (2, u "U"), (0, u "Ljdk/internal/misc/Unsafe;"), (8, u "BIG_ENDIAN"), (0, u "Z"), (8, u "LOG2_BYTE_BIT_SIZE"), (4, u "LOG2_ARRAY_INT_INDEX_SCALE"), (54, u "JLA"), (0, u "Ljdk/internal/access/JavaLangAccess;"), (11, u "LOG2_ARRAY_BOOLEAN_INDEX_SCALE"), (9, u "LOG2_ARRAY_BYTE_INDEX_SCALE"), (5, u "LOG2_ARRAY_CHAR_INDEX_SCALE"), (5, u "LOG2_ARRAY_SHORT_INDEX_SCALE"), (18, u "LOG2_ARRAY_FLOAT_INDEX_SCALE"), (24, u "LOG2_ARRAY_DOUBLE_INDEX_SCALE"), (89, u "T_BOOLEAN"), (2, u "T_CHAR"), (1, u "T_FLOAT"), (1, u "T_DOUBLE"), (1, u "T_BYTE"), (1, u "T_SHORT"), (1, u "T_INT"), (1, u "T_LONG"), (1, u "SOFT_MAX_ARRAY_LENGTH")] 83

def k16m0 : Method := { name := "<init>", desc := "()V", sig := { parameters := [], returnType := none }, accessFlags := 2, code := none }
/-- jdk/internal/util/ArraysSupport -/
def k16 : Class := { plain "jdk/internal/util/ArraysSupport" (some 0) with
  accessFlags := 33
  interfaces := #[]
  cf := some (fileOf pool16 21 #[] #[{ accessFlags := 2, nameIndex := 9, descriptorIndex := 19, attributes := #[] }] 33 16 #[] #[{ accessFlags := 24, nameIndex := 28, descriptorIndex := 29, attributes := #[] }, { accessFlags := 26, nameIndex := 38, descriptorIndex := 39, attributes := #[] }, { accessFlags := 25, nameIndex := 121, descriptorIndex := 25, attributes := #[] }, { accessFlags := 25, nameIndex := 131, descriptorIndex := 25, attributes := #[] }, { accessFlags := 25, nameIndex := 137, descriptorIndex := 25, attributes := #[] }, { accessFlags := 25, nameIndex := 143, descriptorIndex := 25, attributes := #[] }, { accessFlags := 25, nameIndex := 53, descriptorIndex := 25, attributes := #[] }, { accessFlags := 25, nameIndex := 24, descriptorIndex := 25, attributes := #[] }, { accessFlags := 25, nameIndex := 162, descriptorIndex := 25, attributes := #[] }, { accessFlags := 25, nameIndex := 187, descriptorIndex := 25, attributes := #[] }, { accessFlags := 26, nameIndex := 48, descriptorIndex := 25, attributes := #[] }, { accessFlags := 25, nameIndex := 277, descriptorIndex := 25, attributes := #[] }, { accessFlags := 25, nameIndex := 280, descriptorIndex := 25, attributes := #[] }, { accessFlags := 25, nameIndex := 282, descriptorIndex := 25, attributes := #[] }, { accessFlags := 25, nameIndex := 284, descriptorIndex := 25, attributes := #[] }, { accessFlags := 25, nameIndex := 286, descriptorIndex := 25, attributes := #[] }, { accessFlags := 25, nameIndex := 288, descriptorIndex := 25, attributes := #[] }, { accessFlags := 25, nameIndex := 290, descriptorIndex := 25, attributes := #[] }, { accessFlags := 25, nameIndex := 292, descriptorIndex := 25, attributes := #[] }, { accessFlags := 26, nameIndex := 108, descriptorIndex := 109, attributes := #[] }, { accessFlags := 25, nameIndex := 294, descriptorIndex := 25, attributes := #[] }])
  fields := #[{ name := "U", type := (.object "jdk/internal/misc/Unsafe"), accessFlags := 24, slot := 0, constantValue := 0 }, { name := "BIG_ENDIAN", type := .boolean, accessFlags := 26, slot := 1, constantValue := 0 }, { name := "LOG2_ARRAY_BOOLEAN_INDEX_SCALE", type := .int, accessFlags := 25, slot := 2, constantValue := 0 }, { name := "LOG2_ARRAY_BYTE_INDEX_SCALE", type := .int, accessFlags := 25, slot := 3, constantValue := 0 }, { name := "LOG2_ARRAY_CHAR_INDEX_SCALE", type := .int, accessFlags := 25, slot := 4, constantValue := 0 }, { name := "LOG2_ARRAY_SHORT_INDEX_SCALE", type := .int, accessFlags := 25, slot := 5, constantValue := 0 }, { name := "LOG2_ARRAY_INT_INDEX_SCALE", type := .int, accessFlags := 25, slot := 6, constantValue := 0 }, { name := "LOG2_ARRAY_LONG_INDEX_SCALE", type := .int, accessFlags := 25, slot := 7, constantValue := 0 }, { name := "LOG2_ARRAY_FLOAT_INDEX_SCALE", type := .int, accessFlags := 25, slot := 8, constantValue := 0 }, { name := "LOG2_ARRAY_DOUBLE_INDEX_SCALE", type := .int, accessFlags := 25, slot := 9, constantValue := 0 }, { name := "LOG2_BYTE_BIT_SIZE", type := .int, accessFlags := 26, slot := 10, constantValue := 0 }, { name := "T_BOOLEAN", type := .int, accessFlags := 25, slot := 11, constantValue := 0 }, { name := "T_CHAR", type := .int, accessFlags := 25, slot := 12, constantValue := 0 }, { name := "T_FLOAT", type := .int, accessFlags := 25, slot := 13, constantValue := 0 }, { name := "T_DOUBLE", type := .int, accessFlags := 25, slot := 14, constantValue := 0 }, { name := "T_BYTE", type := .int, accessFlags := 25, slot := 15, constantValue := 0 }, { name := "T_SHORT", type := .int, accessFlags := 25, slot := 16, constantValue := 0 }, { name := "T_INT", type := .int, accessFlags := 25, slot := 17, constantValue := 0 }, { name := "T_LONG", type := .int, accessFlags := 25, slot := 18, constantValue := 0 }, { name := "JLA", type := (.object "jdk/internal/access/JavaLangAccess"), accessFlags := 26, slot := 19, constantValue := 0 }, { name := "SOFT_MAX_ARRAY_LENGTH", type := .int, accessFlags := 25, slot := 20, constantValue := 0 }]
  methods := #[k16m0]
  instanceTypes := #[]
  staticTypes := #[(.object "jdk/internal/misc/Unsafe"), .boolean, .int, .int, .int, .int, .int, .int, .int, .int, .int, .int, .int, .int, .int, .int, .int, .int, .int, (.object "jdk/internal/access/JavaLangAccess"), .int]
  resolved := Array.replicate 378 none
  statics := none }

def pool17 : Array CpInfo := pool [(1, u "java/lang/Cloneable"), (0, .class_ 1), (0, u "java/lang/Object"), (0, .class_ 3)] 3

/-- java/lang/Cloneable -/
def k17 : Class := { plain "java/lang/Cloneable" (some 0) with
  accessFlags := 1537
  interfaces := #[]
  cf := some (fileOf pool17 2 #[] #[] 1537 4 #[] #[])
  fields := #[]
  methods := #[]
  instanceTypes := #[]
  staticTypes := #[]
  resolved := Array.replicate 8 none
  statics := none }

/-- the primitive byte -/
def k18 : Class := { plain "byte" none with kind := .primitive 'B', accessFlags := 0x411 }
/-- [B -/
def k19 : Class := { plain "[B" (some 0) with kind := .array 18 .byte, interfaces := #[17, 2], accessFlags := 1041 }

/-- the primitive char -/
def k20 : Class := { plain "char" none with kind := .primitive 'C', accessFlags := 0x411 }
/-- [C -/
def k21 : Class := { plain "[C" (some 0) with kind := .array 20 .char, interfaces := #[17, 2], accessFlags := 1041 }

/-- the primitive int -/
def k22 : Class := { plain "int" none with kind := .primitive 'I', accessFlags := 0x411 }
/-- [I -/
def k23 : Class := { plain "[I" (some 0) with kind := .array 22 .int, interfaces := #[17, 2], accessFlags := 1041 }

def heap : Heap := #[{ cls := 7, slots := #[.long 0, .int 1, .null, .int 0, .null, .int 0, .int 0], vm := .statics 7 },
  { cls := 13, slots := #[.null, .null, .null], vm := .statics 13 }]
def classes : Array Class := #[k0, k1, k2, k3, k4, k5, k6, k7, k8, k9, k10, k11, k12, k13, k14, k15, k16, k17, k18, k19, k20, k21, k22, k23]
def interned : List (Array UInt16 × Addr) := []
def slotsUsed : Nat := 10
def theMethod : MethodId := ⟨1, 3⟩
def args0 : Array Value := #[.int 4, .int 0, .int 300, .int 0, .int 405, .int 7]
def aboutOver (below : List Frame) : State where
  vm := { classes := classes, interned := interned.toArray }
  heap := heap
  slotsUsed := slotsUsed
  threads := #[{ frames := .invoking theMethod args0 :: below }]
def below0 : List Frame := [.native { method := ⟨0, 0⟩, args := #[] }]
def about1 : State := aboutOver below0
def p0 : Program := .bare "" "" ""
def e0 : Env := launch0.env 0 0 0
theorem w_frames : about1.frames = Frame.invoking theMethod args0 :: below0 := rfl
set_option maxRecDepth 65536 in
theorem w_args : argsFit about1.vm theMethod args0 = true := by decide +kernel
set_option maxRecDepth 65536 in
theorem w_heap : heapFits about1 = true := by decide +kernel
set_option maxRecDepth 65536 in
theorem w_runnable : about1.curStatus? = some .runnable := by decide +kernel
set_option maxRecDepth 65536 in
theorem w_alone : about1.alone = true := by decide +kernel
set_option maxRecDepth 65536 in
theorem w_named : about1.methodNamed? x = some theMethod := by decide +kernel
set_option maxRecDepth 65536 in
theorem w_hears : about1.hears theMethod below0 = true := by decide +kernel
set_option maxRecDepth 65536 in
theorem w_ripe : about1.ripe theMethod args0 below0 = true := by decide +kernel
theorem w_running : about1.status = .running := rfl
set_option maxRecDepth 65536 in
theorem w_room : about1.hasRoom e0.platform room_1 = true :=
  launch0.hasRoom_least _ room_1 (by decide +kernel) (by decide +kernel) (by decide +kernel) (by decide +kernel) (by decide +kernel) (by decide +kernel)
theorem allAtoms_all (ts : List Jvm.Cond) (a : Array Jvm.Value) (st : Jvm.State) : (allAtoms ts).before a st = ts.all (fun c => c.before a st) := by
  induction ts with
  | nil => rfl
  | cons c t ih =>
    show (Jvm.Cond.and c (allAtoms t)).before a st = _
    rw [Jvm.Cond.before_and, ih, List.all_cons]
def words1 : List Jvm.Cond := Jvm.Cond.code x code maxLocals ret :: tables_1
/-- a 'code' word, met by the world's own term for the bytes: nothing is compared byte by byte -/
theorem code_word {y : MethodName} {bytes : ByteArray} {mx : Nat} {rt : Option FieldType} {a : Array Value} {s : State} {m : MethodId} {meth : Method} {c : Code} (h1 : s.methodNamed? y = some m) (h2 : s.vm.method? m = some meth) (h3 : meth.code = some c) (h4 : c.code = bytes)
    (h5 : (c.maxLocals == mx && c.exceptionTable.isEmpty && decide (c.maxStack ≤ mostOperands) && decide (meth.sig.returnType = rt) && !meth.locks && decide (parseMethodDescriptor y.desc = some meth.sig)) = true) : (Jvm.Cond.code y bytes mx rt).before a s = true := by
  simp only [Bool.and_eq_true, beq_iff_eq, Bool.not_eq_true', decide_eq_true_eq] at h5
  obtain ⟨⟨⟨⟨⟨g1, g2⟩, g3⟩, g4⟩, g5⟩, g6⟩ := h5
  simp [Cond.before, Cond.holds, Cond.value, h1, h2, h3, h4, g1, g2, g3, g4, g5, g6]
def isCode : Jvm.Cond → Bool
  | .code _ _ _ _ => true
  | _ => false
theorem all_split {L : List Jvm.Cond} {P : Jvm.Cond → Bool} (h1 : L.all (fun c => isCode c || P c) = true) (h2 : ∀ c ∈ L.filter isCode, P c = true) : L.all P = true := by
  refine List.all_eq_true.mpr fun c hc => ?_
  have h := List.all_eq_true.mp h1 c hc
  rcases Bool.eq_false_or_eq_true (isCode c) with hi | hi
  · exact h2 c (List.mem_filter.mpr ⟨hc, hi⟩)
  · simpa [hi] using h
set_option maxRecDepth 65536 in
theorem w_c0 : (Jvm.Cond.code x code maxLocals ret).before args0 about1 = true := code_word (m := ⟨1, 3⟩) (meth := k1m3) (c := k1c3) (by decide +kernel) rfl rfl rfl (by decide +kernel)
set_option maxRecDepth 65536 in
theorem w_c1 : (Jvm.Cond.code ({ cls := "com/example/guildhall/guildhall/FqanParentOfPinLaw", name := "ch", desc := "(III)C" } : Jvm.MethodName) method_2_code (3 : Nat) (Option.some Jvm.ClassFile.FieldType.char)).before args0 about1 = true := code_word (m := ⟨1, 1⟩) (meth := k1m1) (c := k1c1) (by decide +kernel) rfl rfl rfl (by decide +kernel)
set_option maxRecDepth 65536 in
theorem w_c2 : (Jvm.Cond.code ({ cls := "com/example/guildhall/guildhall/FqanParentOfPinLaw", name := "str", desc := "([CI)Ljava/lang/String;" } : Jvm.MethodName) method_3_code (2 : Nat) (Option.some (Jvm.ClassFile.FieldType.object "java/lang/String"))).before args0 about1 = true := code_word (m := ⟨1, 2⟩) (meth := k1m2) (c := k1c2) (by decide +kernel) rfl rfl rfl (by decide +kernel)
set_option maxRecDepth 65536 in
theorem w_c3 : (Jvm.Cond.code ({ cls := "java/lang/String", name := "<init>", desc := "([C)V" } : Jvm.MethodName) jdk_42_method_3_code (2 : Nat) (Option.none : Option Jvm.ClassFile.FieldType)).before args0 about1 = true := code_word (m := ⟨7, 1⟩) (meth := k7m1) (c := k7c1) (by decide +kernel) rfl rfl rfl (by decide +kernel)
set_option maxRecDepth 65536 in
theorem w_c4 : (Jvm.Cond.code ({ cls := "java/lang/String", name := "<init>", desc := "([CIILjava/lang/Void;)V" } : Jvm.MethodName) jdk_42_method_149_code (6 : Nat) (Option.none : Option Jvm.ClassFile.FieldType)).before args0 about1 = true := code_word (m := ⟨7, 7⟩) (meth := k7m7) (c := k7c7) (by decide +kernel) rfl rfl rfl (by decide +kernel)
set_option maxRecDepth 65536 in
theorem w_c5 : (Jvm.Cond.code ({ cls := "java/lang/Object", name := "<init>", desc := "()V" } : Jvm.MethodName) object_method_1_code (1 : Nat) (Option.none : Option Jvm.ClassFile.FieldType)).before args0 about1 = true := code_word (m := ⟨0, 0⟩) (meth := k0m0) (c := k0c0) (by decide +kernel) rfl rfl rfl (by decide +kernel)
set_option maxRecDepth 65536 in
theorem w_c6 : (Jvm.Cond.code ({ cls := "com/example/guildhall/guildhall/Fqan", name := "parentOf", desc := "(Ljava/lang/String;)Ljava/lang/String;" } : Jvm.MethodName) prog_18_method_5_code (2 : Nat) (Option.some (Jvm.ClassFile.FieldType.object "java/lang/String"))).before args0 about1 = true := code_word (m := ⟨9, 0⟩) (meth := k9m0) (c := k9c0) (by decide +kernel) rfl rfl rfl (by decide +kernel)
set_option maxRecDepth 65536 in
theorem w_c7 : (Jvm.Cond.code ({ cls := "java/lang/String", name := "lastIndexOf", desc := "(I)I" } : Jvm.MethodName) jdk_42_method_82_code (2 : Nat) (Option.some Jvm.ClassFile.FieldType.int)).before args0 about1 = true := code_word (m := ⟨7, 4⟩) (meth := k7m4) (c := k7c4) (by decide +kernel) rfl rfl rfl (by decide +kernel)
set_option maxRecDepth 65536 in
theorem w_c8 : (Jvm.Cond.code ({ cls := "java/lang/String", name := "length", desc := "()I" } : Jvm.MethodName) jdk_42_method_54_code (1 : Nat) (Option.some Jvm.ClassFile.FieldType.int)).before args0 about1 = true := code_word (m := ⟨7, 2⟩) (meth := k7m2) (c := k7c2) (by decide +kernel) rfl rfl rfl (by decide +kernel)
set_option maxRecDepth 65536 in
theorem w_c9 : (Jvm.Cond.code ({ cls := "java/lang/String", name := "coder", desc := "()B" } : Jvm.MethodName) jdk_42_method_152_code (1 : Nat) (Option.some Jvm.ClassFile.FieldType.byte)).before args0 about1 = true := code_word (m := ⟨7, 9⟩) (meth := k7m9) (c := k7c9) (by decide +kernel) rfl rfl rfl (by decide +kernel)
set_option maxRecDepth 65536 in
theorem w_c10 : (Jvm.Cond.code ({ cls := "java/lang/String", name := "lastIndexOf", desc := "(II)I" } : Jvm.MethodName) jdk_42_method_83_code (3 : Nat) (Option.some Jvm.ClassFile.FieldType.int)).before args0 about1 = true := code_word (m := ⟨7, 5⟩) (meth := k7m5) (c := k7c5) (by decide +kernel) rfl rfl rfl (by decide +kernel)
set_option maxRecDepth 65536 in
theorem w_c11 : (Jvm.Cond.code ({ cls := "java/lang/String", name := "isLatin1", desc := "()Z" } : Jvm.MethodName) jdk_42_method_154_code (1 : Nat) (Option.some Jvm.ClassFile.FieldType.boolean)).before args0 about1 = true := code_word (m := ⟨7, 10⟩) (meth := k7m10) (c := k7c10) (by decide +kernel) rfl rfl rfl (by decide +kernel)
set_option maxRecDepth 65536 in
theorem w_c12 : (Jvm.Cond.code ({ cls := "java/lang/StringLatin1", name := "lastIndexOf", desc := "([BII)I" } : Jvm.MethodName) jdk_43_method_27_code (4 : Nat) (Option.some Jvm.ClassFile.FieldType.int)).before args0 about1 = true := code_word (m := ⟨10, 3⟩) (meth := k10m3) (c := k10c3) (by decide +kernel) rfl rfl rfl (by decide +kernel)
set_option maxRecDepth 65536 in
theorem w_c13 : (Jvm.Cond.code ({ cls := "java/lang/StringLatin1", name := "canEncode", desc := "(I)Z" } : Jvm.MethodName) jdk_43_method_4_code (1 : Nat) (Option.some Jvm.ClassFile.FieldType.boolean)).before args0 about1 = true := code_word (m := ⟨10, 1⟩) (meth := k10m1) (c := k10c1) (by decide +kernel) rfl rfl rfl (by decide +kernel)
set_option maxRecDepth 65536 in
theorem w_c14 : (Jvm.Cond.code ({ cls := "java/lang/Math", name := "min", desc := "(II)I" } : Jvm.MethodName) jdk_29_method_69_code (2 : Nat) (Option.some Jvm.ClassFile.FieldType.int)).before args0 about1 = true := code_word (m := ⟨11, 1⟩) (meth := k11m1) (c := k11c1) (by decide +kernel) rfl rfl rfl (by decide +kernel)
set_option maxRecDepth 65536 in
theorem w_c15 : (Jvm.Cond.code ({ cls := "java/lang/StringUTF16", name := "compress", desc := "([CII)[B" } : Jvm.MethodName) jdk_52_method_16_code (6 : Nat) (Option.some (Jvm.ClassFile.FieldType.array Jvm.ClassFile.FieldType.byte))).before args0 about1 = true := code_word (m := ⟨12, 2⟩) (meth := k12m2) (c := k12c2) (by decide +kernel) rfl rfl rfl (by decide +kernel)
set_option maxRecDepth 65536 in
theorem w_c16 : (Jvm.Cond.code ({ cls := "java/lang/StringUTF16", name := "compress", desc := "([CI[BII)I" } : Jvm.MethodName) jdk_52_method_21_code (7 : Nat) (Option.some Jvm.ClassFile.FieldType.int)).before args0 about1 = true := code_word (m := ⟨12, 3⟩) (meth := k12m3) (c := k12c3) (by decide +kernel) rfl rfl rfl (by decide +kernel)
set_option maxRecDepth 65536 in
theorem w_c17 : (Jvm.Cond.code ({ cls := "java/lang/StringUTF16", name := "coderFromArrayLen", desc := "([BI)B" } : Jvm.MethodName) jdk_52_method_15_code (2 : Nat) (Option.some Jvm.ClassFile.FieldType.byte)).before args0 about1 = true := code_word (m := ⟨12, 1⟩) (meth := k12m1) (c := k12c1) (by decide +kernel) rfl rfl rfl (by decide +kernel)
set_option maxRecDepth 65536 in
theorem w_c18 : (Jvm.Cond.code ({ cls := "java/lang/String", name := "substring", desc := "(II)Ljava/lang/String;" } : Jvm.MethodName) jdk_42_method_92_code (5 : Nat) (Option.some (Jvm.ClassFile.FieldType.object "java/lang/String"))).before args0 about1 = true := code_word (m := ⟨7, 6⟩) (meth := k7m6) (c := k7c6) (by decide +kernel) rfl rfl rfl (by decide +kernel)
set_option maxRecDepth 65536 in
theorem w_c19 : (Jvm.Cond.code ({ cls := "java/lang/String", name := "checkBoundsBeginEnd", desc := "(III)V" } : Jvm.MethodName) jdk_42_method_158_code (3 : Nat) (Option.none : Option Jvm.ClassFile.FieldType)).before args0 about1 = true := code_word (m := ⟨7, 11⟩) (meth := k7m11) (c := k7c11) (by decide +kernel) rfl rfl rfl (by decide +kernel)
set_option maxRecDepth 65536 in
theorem w_c20 : (Jvm.Cond.code ({ cls := "jdk/internal/util/Preconditions", name := "checkFromToIndex", desc := "(IIILjava/util/function/BiFunction;)I" } : Jvm.MethodName) jdk_41_method_12_code (4 : Nat) (Option.some Jvm.ClassFile.FieldType.int)).before args0 about1 = true := code_word (m := ⟨13, 1⟩) (meth := k13m1) (c := k13c1) (by decide +kernel) rfl rfl rfl (by decide +kernel)
set_option maxRecDepth 65536 in
theorem w_c21 : (Jvm.Cond.code ({ cls := "java/lang/StringLatin1", name := "newString", desc := "([BII)Ljava/lang/String;" } : Jvm.MethodName) jdk_43_method_47_code (3 : Nat) (Option.some (Jvm.ClassFile.FieldType.object "java/lang/String"))).before args0 about1 = true := code_word (m := ⟨10, 4⟩) (meth := k10m4) (c := k10c4) (by decide +kernel) rfl rfl rfl (by decide +kernel)
set_option maxRecDepth 65536 in
theorem w_c22 : (Jvm.Cond.code ({ cls := "java/util/Arrays", name := "copyOfRange", desc := "([BII)[B" } : Jvm.MethodName) jdk_65_method_132_code (3 : Nat) (Option.some (Jvm.ClassFile.FieldType.array Jvm.ClassFile.FieldType.byte))).before args0 about1 = true := code_word (m := ⟨14, 2⟩) (meth := k14m2) (c := k14c2) (by decide +kernel) rfl rfl rfl (by decide +kernel)
set_option maxRecDepth 65536 in
theorem w_c23 : (Jvm.Cond.code ({ cls := "java/util/Arrays", name := "copyOfRangeByte", desc := "([BII)[B" } : Jvm.MethodName) jdk_65_method_133_code (5 : Nat) (Option.some (Jvm.ClassFile.FieldType.array Jvm.ClassFile.FieldType.byte))).before args0 about1 = true := code_word (m := ⟨14, 3⟩) (meth := k14m3) (c := k14c3) (by decide +kernel) rfl rfl rfl (by decide +kernel)
set_option maxRecDepth 65536 in
theorem w_c24 : (Jvm.Cond.code ({ cls := "java/util/Arrays", name := "checkLength", desc := "(II)V" } : Jvm.MethodName) jdk_65_method_131_code (2 : Nat) (Option.none : Option Jvm.ClassFile.FieldType)).before args0 about1 = true := code_word (m := ⟨14, 1⟩) (meth := k14m1) (c := k14c1) (by decide +kernel) rfl rfl rfl (by decide +kernel)
set_option maxRecDepth 65536 in
theorem w_c25 : (Jvm.Cond.code ({ cls := "java/lang/String", name := "<init>", desc := "([BB)V" } : Jvm.MethodName) jdk_42_method_151_code (3 : Nat) (Option.none : Option Jvm.ClassFile.FieldType)).before args0 about1 = true := code_word (m := ⟨7, 8⟩) (meth := k7m8) (c := k7c8) (by decide +kernel) rfl rfl rfl (by decide +kernel)
set_option maxRecDepth 65536 in
theorem w_c26 : (Jvm.Cond.code ({ cls := "java/lang/String", name := "equals", desc := "(Ljava/lang/Object;)Z" } : Jvm.MethodName) jdk_42_method_66_code (3 : Nat) (Option.some Jvm.ClassFile.FieldType.boolean)).before args0 about1 = true := code_word (m := ⟨7, 3⟩) (meth := k7m3) (c := k7c3) (by decide +kernel) rfl rfl rfl (by decide +kernel)
set_option maxRecDepth 65536 in
theorem w_c27 : (Jvm.Cond.code ({ cls := "java/lang/StringLatin1", name := "equals", desc := "([B[B)Z" } : Jvm.MethodName) jdk_43_method_13_code (3 : Nat) (Option.some Jvm.ClassFile.FieldType.boolean)).before args0 about1 = true := code_word (m := ⟨10, 2⟩) (meth := k10m2) (c := k10c2) (by decide +kernel) rfl rfl rfl (by decide +kernel)
def codes1 : List Jvm.Cond := [Jvm.Cond.code x code maxLocals ret, Jvm.Cond.code ({ cls := "com/example/guildhall/guildhall/FqanParentOfPinLaw", name := "ch", desc := "(III)C" } : Jvm.MethodName) method_2_code (3 : Nat) (Option.some Jvm.ClassFile.FieldType.char), Jvm.Cond.code ({ cls := "com/example/guildhall/guildhall/FqanParentOfPinLaw", name := "str", desc := "([CI)Ljava/lang/String;" } : Jvm.MethodName) method_3_code (2 : Nat) (Option.some (Jvm.ClassFile.FieldType.object "java/lang/String")), Jvm.Cond.code ({ cls := "java/lang/String", name := "<init>", desc := "([C)V" } : Jvm.MethodName) jdk_42_method_3_code (2 : Nat) (Option.none : Option Jvm.ClassFile.FieldType), Jvm.Cond.code ({ cls := "java/lang/String", name := "<init>", desc := "([CIILjava/lang/Void;)V" } : Jvm.MethodName) jdk_42_method_149_code (6 : Nat) (Option.none : Option Jvm.ClassFile.FieldType), Jvm.Cond.code ({ cls := "java/lang/Object", name := "<init>", desc := "()V" } : Jvm.MethodName) object_method_1_code (1 : Nat) (Option.none : Option Jvm.ClassFile.FieldType), Jvm.Cond.code ({ cls := "com/example/guildhall/guildhall/Fqan", name := "parentOf", desc := "(Ljava/lang/String;)Ljava/lang/String;" } : Jvm.MethodName) prog_18_method_5_code (2 : Nat) (Option.some (Jvm.ClassFile.FieldType.object "java/lang/String")), Jvm.Cond.code ({ cls := "java/lang/String", name := "lastIndexOf", desc := "(I)I" } : Jvm.MethodName) jdk_42_method_82_code (2 : Nat) (Option.some Jvm.ClassFile.FieldType.int), Jvm.Cond.code ({ cls := "java/lang/String", name := "length", desc := "()I" } : Jvm.MethodName) jdk_42_method_54_code (1 : Nat) (Option.some Jvm.ClassFile.FieldType.int), Jvm.Cond.code ({ cls := "java/lang/String", name := "coder", desc := "()B" } : Jvm.MethodName) jdk_42_method_152_code (1 : Nat) (Option.some Jvm.ClassFile.FieldType.byte), Jvm.Cond.code ({ cls := "java/lang/String", name := "lastIndexOf", desc := "(II)I" } : Jvm.MethodName) jdk_42_method_83_code (3 : Nat) (Option.some Jvm.ClassFile.FieldType.int), Jvm.Cond.code ({ cls := "java/lang/String", name := "isLatin1", desc := "()Z" } : Jvm.MethodName) jdk_42_method_154_code (1 : Nat) (Option.some Jvm.ClassFile.FieldType.boolean), Jvm.Cond.code ({ cls := "java/lang/StringLatin1", name := "lastIndexOf", desc := "([BII)I" } : Jvm.MethodName) jdk_43_method_27_code (4 : Nat) (Option.some Jvm.ClassFile.FieldType.int), Jvm.Cond.code ({ cls := "java/lang/StringLatin1", name := "canEncode", desc := "(I)Z" } : Jvm.MethodName) jdk_43_method_4_code (1 : Nat) (Option.some Jvm.ClassFile.FieldType.boolean), Jvm.Cond.code ({ cls := "java/lang/Math", name := "min", desc := "(II)I" } : Jvm.MethodName) jdk_29_method_69_code (2 : Nat) (Option.some Jvm.ClassFile.FieldType.int), Jvm.Cond.code ({ cls := "java/lang/StringUTF16", name := "compress", desc := "([CII)[B" } : Jvm.MethodName) jdk_52_method_16_code (6 : Nat) (Option.some (Jvm.ClassFile.FieldType.array Jvm.ClassFile.FieldType.byte)), Jvm.Cond.code ({ cls := "java/lang/StringUTF16", name := "compress", desc := "([CI[BII)I" } : Jvm.MethodName) jdk_52_method_21_code (7 : Nat) (Option.some Jvm.ClassFile.FieldType.int), Jvm.Cond.code ({ cls := "java/lang/StringUTF16", name := "coderFromArrayLen", desc := "([BI)B" } : Jvm.MethodName) jdk_52_method_15_code (2 : Nat) (Option.some Jvm.ClassFile.FieldType.byte), Jvm.Cond.code ({ cls := "java/lang/String", name := "substring", desc := "(II)Ljava/lang/String;" } : Jvm.MethodName) jdk_42_method_92_code (5 : Nat) (Option.some (Jvm.ClassFile.FieldType.object "java/lang/String")), Jvm.Cond.code ({ cls := "java/lang/String", name := "checkBoundsBeginEnd", desc := "(III)V" } : Jvm.MethodName) jdk_42_method_158_code (3 : Nat) (Option.none : Option Jvm.ClassFile.FieldType), Jvm.Cond.code ({ cls := "jdk/internal/util/Preconditions", name := "checkFromToIndex", desc := "(IIILjava/util/function/BiFunction;)I" } : Jvm.MethodName) jdk_41_method_12_code (4 : Nat) (Option.some Jvm.ClassFile.FieldType.int), Jvm.Cond.code ({ cls := "java/lang/StringLatin1", name := "newString", desc := "([BII)Ljava/lang/String;" } : Jvm.MethodName) jdk_43_method_47_code (3 : Nat) (Option.some (Jvm.ClassFile.FieldType.object "java/lang/String")), Jvm.Cond.code ({ cls := "java/util/Arrays", name := "copyOfRange", desc := "([BII)[B" } : Jvm.MethodName) jdk_65_method_132_code (3 : Nat) (Option.some (Jvm.ClassFile.FieldType.array Jvm.ClassFile.FieldType.byte)), Jvm.Cond.code ({ cls := "java/util/Arrays", name := "copyOfRangeByte", desc := "([BII)[B" } : Jvm.MethodName) jdk_65_method_133_code (5 : Nat) (Option.some (Jvm.ClassFile.FieldType.array Jvm.ClassFile.FieldType.byte)), Jvm.Cond.code ({ cls := "java/util/Arrays", name := "checkLength", desc := "(II)V" } : Jvm.MethodName) jdk_65_method_131_code (2 : Nat) (Option.none : Option Jvm.ClassFile.FieldType), Jvm.Cond.code ({ cls := "java/lang/String", name := "<init>", desc := "([BB)V" } : Jvm.MethodName) jdk_42_method_151_code (3 : Nat) (Option.none : Option Jvm.ClassFile.FieldType), Jvm.Cond.code ({ cls := "java/lang/String", name := "equals", desc := "(Ljava/lang/Object;)Z" } : Jvm.MethodName) jdk_42_method_66_code (3 : Nat) (Option.some Jvm.ClassFile.FieldType.boolean), Jvm.Cond.code ({ cls := "java/lang/StringLatin1", name := "equals", desc := "([B[B)Z" } : Jvm.MethodName) jdk_43_method_13_code (3 : Nat) (Option.some Jvm.ClassFile.FieldType.boolean)]
set_option maxRecDepth 65536 in
theorem codes_eq : words1.filter isCode = codes1 := rfl
theorem w_codes : ∀ c ∈ words1.filter isCode, c.before args0 about1 = true := by
  rw [codes_eq]
  intro c hc
  simp only [codes1, List.mem_cons, List.not_mem_nil, or_false] at hc
  rcases hc with rfl | rfl | rfl | rfl | rfl | rfl | rfl | rfl | rfl | rfl | rfl | rfl | rfl | rfl | rfl | rfl | rfl | rfl | rfl | rfl | rfl | rfl | rfl | rfl | rfl | rfl | rfl | rfl
  · exact w_c0
  · exact w_c1
  · exact w_c2
  · exact w_c3
  · exact w_c4
  · exact w_c5
  · exact w_c6
  · exact w_c7
  · exact w_c8
  · exact w_c9
  · exact w_c10
  · exact w_c11
  · exact w_c12
  · exact w_c13
  · exact w_c14
  · exact w_c15
  · exact w_c16
  · exact w_c17
  · exact w_c18
  · exact w_c19
  · exact w_c20
  · exact w_c21
  · exact w_c22
  · exact w_c23
  · exact w_c24
  · exact w_c25
  · exact w_c26
  · exact w_c27
set_option maxRecDepth 65536 in
theorem w_t1 : (words1.take 24).all (fun c => isCode c || c.before args0 about1) = true := by decide +kernel
set_option maxRecDepth 65536 in
theorem w_t2 : ((words1.drop 24).take 24).all (fun c => isCode c || c.before args0 about1) = true := by decide +kernel
set_option maxRecDepth 65536 in
theorem w_t3 : (((words1.drop 24).drop 24).take 24).all (fun c => isCode c || c.before args0 about1) = true := by decide +kernel
set_option maxRecDepth 65536 in
theorem w_t4 : ((((words1.drop 24).drop 24).drop 24).take 24).all (fun c => isCode c || c.before args0 about1) = true := by decide +kernel
set_option maxRecDepth 65536 in
theorem w_t5 : (((((words1.drop 24).drop 24).drop 24).drop 24).take 24).all (fun c => isCode c || c.before args0 about1) = true := by decide +kernel
set_option maxRecDepth 65536 in
theorem w_t6 : (((((words1.drop 24).drop 24).drop 24).drop 24).drop 24).all (fun c => isCode c || c.before args0 about1) = true := by decide +kernel
theorem w_tables : (allAtoms (Jvm.Cond.code x code maxLocals ret :: tables_1)).before args0 about1 = true := by
  rw [allAtoms_all]
  show words1.all (fun c => c.before args0 about1) = true
  refine all_split ?_ w_codes
  rw [← List.take_append_drop 24 words1, List.all_append, w_t1, ← List.take_append_drop 24 (words1.drop 24), List.all_append, w_t2, ← List.take_append_drop 24 ((words1.drop 24).drop 24), List.all_append, w_t3, ← List.take_append_drop 24 (((words1.drop 24).drop 24).drop 24), List.all_append, w_t4, ← List.take_append_drop 24 ((((words1.drop 24).drop 24).drop 24).drop 24), List.all_append, w_t5, w_t6]
  rfl
set_option maxRecDepth 65536 in
theorem w_rest : rest_1_c.before args0 about1 = true := by decide +kernel
set_option maxRecDepth 65536 in
theorem w_case : (Jvm.Cond.and given_1 narrow_1).before args0 about1 = true := by decide +kernel
set_option maxRecDepth 65536 in
theorem w_consts : constsHeld consts_1 about1 := Jvm.Lit.constsHeldB_iff.mp (by decide +kernel)
theorem w_applies : (headSpec (Jvm.Cond.code x code maxLocals ret :: tables_1) room_1).applies x e0.platform about1 = true :=
  (Spec.applies_iff w_frames).mpr ⟨w_running, w_runnable, w_alone, w_named, w_hears, w_ripe, w_room, w_tables⟩
theorem atStart : AtStart classFile x code maxLocals ret World_1 tables_1 room_1 Calls_1 rest_1 Pre_1 launch0 p0 e0 about1 theMethod args0 below0 :=
  ⟨lists_1, trivial, launch0.admits_env _ _ _, launch0.least_env, fairChoices_fair.cas, fairChoices_fair.clock, w_frames, w_args, w_heap, w_applies, ⟨w_consts, trivial⟩, w_rest, w_case⟩
end start1
theorem witness_1 : WitnessClaimed_1 := ⟨start1.p0, start1.e0, start1.about1, start1.theMethod, start1.args0, start1.below0, start1.atStart⟩
end Jvm.Pilot.@@N@@
