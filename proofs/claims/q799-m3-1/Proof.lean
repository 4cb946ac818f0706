import JvmDerived
import JvmDerived.Pilot.@@N@@Statement
import JvmDerived.Pilot.@@N@@Code
set_option linter.unusedVariables false
set_option linter.unusedSimpArgs false
@@BLOCK:NumsL.lean.txt@@
namespace Jvm.Pilot.@@N@@
open Jvm Jvm.ClassFile Sem Op Lib Jvm.Free Jvm.Stand Jvm.LawKit Jvm.RoadKit Bundle Jvm.Pilot.@@N@@.Jvm.D
section OwnLayer
variable {p : Program} {l : Launch} {e : Env} {R : Room} {s : State} {m : MethodId} {args : Array Value} {below : List Frame} {meth : Method} {c : Code} {T : State} {locs : List Loc} {cells slots : Nat}
variable {F : State → Outcome → Prop} {kc ks : Nat} {Q : Option Value → Heap → List Loc → Prop} {pc pc' : Nat} {ls : Array Slot} {st : List Value} {Z : State} {a0 : Array Value} {h : Heap}
/-- from this state and frame the run comes to an end of which F holds -/
def Goes (p : Program) (e : Env) (below : List Frame) (F : State → Outcome → Prop) (T : State) (g : JFrame) : Prop :=
  ∃ s₂ o, Steps p.tables e below (T.setTop g) s₂ ∧ s₂.status = .running ∧ Ended s₂ below o ∧ F s₂ o
/-- it returns, Q holds of the value, the heap and the places written; the frame is the plain one -/
def FinN (s : State) (kc ks : Nat) (Q : Option Value → Heap → List Loc → Prop) (s₂ : State) (o : Outcome) : Prop := ∃ v L, o = .returned v ∧ Q v s₂.heap L ∧ FrameEnd s o s₂ L kc ks
theorem Goes.fore {T' : State} {g g' : JFrame} (k : ∀ target, Steps p.tables e below (T'.setTop g') target → Steps p.tables e below (T.setTop g) target) (G : Goes p e below F T' g') : Goes p e below F T g := by
  obtain ⟨a, b, h, r⟩ := G; exact ⟨a, b, k _ h, r⟩
theorem Goes.tr {T' : State} {g g' : JFrame} (k : Steps p.tables e below (T.setTop g) (T'.setTop g')) (G : Goes p e below F T' g') : Goes p e below F T g := by
  obtain ⟨a, b, h, r⟩ := G; exact ⟨a, b, k.trans h, r⟩
theorem Goes.cast {g g' : JFrame} (q : g = g') (G : Goes p e below F T g') : Goes p e below F T g := q ▸ G
/-- a body's contract: called with these arguments on this heap it returns, and Q holds of the value, the heap and the places written -/
def Ctr (l : Launch) (Z : State) (y : MethodName) (bytes : ByteArray) (maxL : Nat) (ret : Option FieldType) (ws : List Jvm.Cond) (rm : Room) (as' : Array Value) (h0 : Heap) (Q : Option Value → Heap → List Loc → Prop) : Prop :=
  MetFree l y (head1 (Jvm.Cond.code y bytes maxL ret :: ws) rm) (fun a U => a = as' ∧ Z.Warmed39 U.vm ∧ U.heap = h0) (fun _ _ _ _ _ => True) (fun _ U o U' => ∃ v L, o = .returned v ∧ Q v U'.heap L ∧ FrameEnd U o U' L rm.cells rm.slots)
theorem Ctr.of {y : MethodName} {bytes : ByteArray} {maxL : Nat} {ret : Option FieldType} {ws : List Jvm.Cond} {rm : Room} {as' : Array Value} {h0 : Heap} (hp : plainFor y = true)
    (body : ∀ (p : Program) (e : Env) (s : State) (m : MethodId) (below : List Frame) (meth : Method) (c : Code) (s₁ : State), p.tables.exec = Jvm.exec → (∀ {pc : Nat} {r : Except ClassFile.DecodeError (ClassFile.Instr × Nat)}, ClassFile.decode bytes pc = r → ClassFile.decode c.code pc = r) → c.maxLocals = maxL → meth.sig.returnType = ret → s.vm.findClass y.cls = some m.cls → meth.name = y.name → Z.Warmed39 s.vm → meth.locks = false → Stand p l e rm s m as' below meth c s₁ [] 0 0 → s₁.heap = h0 → Goes p e below (FinN s rm.cells rm.slots Q) s₁ (entryFrame m as' maxL)) :
    Ctr l Z y bytes maxL ret ws rm as' h0 Q := by
  refine MetFree.of_bodySF hp hisR ?_
  intro p e s m args below meth c s₁ Bd hml hP hK
  obtain ⟨rfl, hZ, hh⟩ := hP
  exact body p e s m below meth c s₁ Bd.exec (fun h2 => hb Bd.bytes h2) hml Bd.returns (findClass_of_methodNamed Bd.named) (name_of_methodNamed Bd.named Bd.method).1 hZ Bd.notSynchronized (Stand.of_body Bd) (by rw [← hh, Bd.state]; rfl)
theorem Ctr.mono {y : MethodName} {bytes : ByteArray} {maxL : Nat} {ret : Option FieldType} {ws : List Jvm.Cond} {rm : Room} {as' : Array Value} {h0 : Heap} {Q' : Option Value → Heap → List Loc → Prop} (C : Ctr l Z y bytes maxL ret ws rm as' h0 Q) (hq : ∀ v h L, Q v h L → Q' v h L) : Ctr l Z y bytes maxL ret ws rm as' h0 Q' := by
  intro p e ha hc hk s m args below hf happ hP hK
  obtain ⟨n, o, h1, h2, h3, v, L, h4, h5, h6⟩ := C p e ha hc hk s m args below hf happ hP hK
  exact ⟨n, o, h1, h2, h3, v, L, h4, hq _ _ _ h5, h6⟩
/-- it returns w and leaves the heap as it was -/
def Just (h0 : Heap) (w : Value) (v : Option Value) (h : Heap) (L : List Loc) : Prop := v = some w ∧ h = h0 ∧ L = []
theorem gLoadIN (pc' : Nat) (X : Stand p l e R s m args below meth c T locs cells slots) (hx : p.tables.exec = Jvm.exec) {k : Fin 4} {v : Int32} (hd : decode c.code pc = .ok (.iload_n k, 1)) (hl : ls[k.val]? = some (.val (.int v))) (hp : pc + 1 = pc') (k : Goes p e below F T (mkF m pc' ls (.int v :: st))) : Goes p e below F T (mkF m pc ls st) := by
  subst hp; exact Goes.fore (fun _ q => XS.iloadN X.here hx rfl hd hl q) k
theorem gLoadI (pc' : Nat) (X : Stand p l e R s m args below meth c T locs cells slots) (hx : p.tables.exec = Jvm.exec) {k : Nat} {v : Int32} (hd : decode c.code pc = .ok (.iload k, 2)) (hl : ls[k]? = some (.val (.int v))) (hp : pc + 2 = pc') (k : Goes p e below F T (mkF m pc' ls (.int v :: st))) : Goes p e below F T (mkF m pc ls st) := by
  subst hp; exact Goes.fore (fun _ q => XS.iload X.here hx rfl hd hl q) k
theorem gStoreIN (pc' : Nat) (X : Stand p l e R s m args below meth c T locs cells slots) (hx : p.tables.exec = Jvm.exec) {k : Fin 4} {v : Int32} {l' : Array Slot} (hd : decode c.code pc = .ok (.istore_n k, 1)) (hl : storeLocals ls k.val (.int v) = some l') (hp : pc + 1 = pc') (k : Goes p e below F T (mkF m pc' l' st)) : Goes p e below F T (mkF m pc ls (.int v :: st)) := by
  subst hp; exact Goes.fore (fun _ q => XS.istoreN X.here hx rfl hd rfl hl q) k
theorem gStoreI (pc' : Nat) (X : Stand p l e R s m args below meth c T locs cells slots) (hx : p.tables.exec = Jvm.exec) {k : Nat} {v : Int32} {l' : Array Slot} (hd : decode c.code pc = .ok (.istore k, 2)) (hl : storeLocals ls k (.int v) = some l') (hp : pc + 2 = pc') (k : Goes p e below F T (mkF m pc' l' st)) : Goes p e below F T (mkF m pc ls (.int v :: st)) := by
  subst hp; exact Goes.fore (fun _ q => XS.istore X.here hx rfl hd rfl hl q) k
theorem gLoadJN (pc' : Nat) (X : Stand p l e R s m args below meth c T locs cells slots) (hx : p.tables.exec = Jvm.exec) {k : Fin 4} {v : Int64} (hd : decode c.code pc = .ok (.lload_n k, 1)) (hl : ls[k.val]? = some (.val (.long v))) (hp : pc + 1 = pc') (k : Goes p e below F T (mkF m pc' ls (.long v :: st))) : Goes p e below F T (mkF m pc ls st) := by
  subst hp; exact Goes.fore (fun _ q => XS.lloadN X.here hx rfl hd hl q) k
theorem gLoadJ (pc' : Nat) (X : Stand p l e R s m args below meth c T locs cells slots) (hx : p.tables.exec = Jvm.exec) {k : Nat} {v : Int64} (hd : decode c.code pc = .ok (.lload k, 2)) (hl : ls[k]? = some (.val (.long v))) (hp : pc + 2 = pc') (k : Goes p e below F T (mkF m pc' ls (.long v :: st))) : Goes p e below F T (mkF m pc ls st) := by
  subst hp; exact Goes.fore (fun _ q => XS.lload X.here hx rfl hd hl q) k
theorem gStoreJN (pc' : Nat) (X : Stand p l e R s m args below meth c T locs cells slots) (hx : p.tables.exec = Jvm.exec) {k : Fin 4} {v : Int64} {l' : Array Slot} (hd : decode c.code pc = .ok (.lstore_n k, 1)) (hl : storeLocals ls k.val (.long v) = some l') (hp : pc + 1 = pc') (k : Goes p e below F T (mkF m pc' l' st)) : Goes p e below F T (mkF m pc ls (.long v :: st)) := by
  subst hp; exact Goes.fore (fun _ q => XS.lstoreN X.here hx rfl hd rfl hl q) k
theorem gStoreJ (pc' : Nat) (X : Stand p l e R s m args below meth c T locs cells slots) (hx : p.tables.exec = Jvm.exec) {k : Nat} {v : Int64} {l' : Array Slot} (hd : decode c.code pc = .ok (.lstore k, 2)) (hl : storeLocals ls k (.long v) = some l') (hp : pc + 2 = pc') (k : Goes p e below F T (mkF m pc' l' st)) : Goes p e below F T (mkF m pc ls (.long v :: st)) := by
  subst hp; exact Goes.fore (fun _ q => XS.lstore X.here hx rfl hd rfl hl q) k
theorem gLoadAN (pc' : Nat) (X : Stand p l e R s m args below meth c T locs cells slots) (hx : p.tables.exec = Jvm.exec) {k : Fin 4} {v : Value} (hd : decode c.code pc = .ok (.aload_n k, 1)) (hl : ls[k.val]? = some (.val v)) (hv : v.isRef = true) (hp : pc + 1 = pc') (k : Goes p e below F T (mkF m pc' ls (v :: st))) : Goes p e below F T (mkF m pc ls st) := by
  subst hp; exact Goes.fore (fun _ q => XS.aloadN X.here hx rfl hd hl hv q) k
theorem gLoadA (pc' : Nat) (X : Stand p l e R s m args below meth c T locs cells slots) (hx : p.tables.exec = Jvm.exec) {k : Nat} {v : Value} (hd : decode c.code pc = .ok (.aload k, 2)) (hl : ls[k]? = some (.val v)) (hv : v.isRef = true) (hp : pc + 2 = pc') (k : Goes p e below F T (mkF m pc' ls (v :: st))) : Goes p e below F T (mkF m pc ls st) := by
  subst hp; exact Goes.fore (fun _ q => XS.aload X.here hx rfl hd hl hv q) k
theorem gStoreAN (pc' : Nat) (X : Stand p l e R s m args below meth c T locs cells slots) (hx : p.tables.exec = Jvm.exec) {k : Fin 4} {v : Value} {l' : Array Slot} (hd : decode c.code pc = .ok (.astore_n k, 1)) (hv : v.isRef = true) (hl : storeLocals ls k.val v = some l') (hp : pc + 1 = pc') (k : Goes p e below F T (mkF m pc' l' st)) : Goes p e below F T (mkF m pc ls (v :: st)) := by
  subst hp; exact Goes.fore (fun _ q => XS.astoreN X.here hx rfl hd rfl hv hl q) k
theorem gStoreA (pc' : Nat) (X : Stand p l e R s m args below meth c T locs cells slots) (hx : p.tables.exec = Jvm.exec) {k : Nat} {v : Value} {l' : Array Slot} (hd : decode c.code pc = .ok (.astore k, 2)) (hv : v.isRef = true) (hl : storeLocals ls k v = some l') (hp : pc + 2 = pc') (k : Goes p e below F T (mkF m pc' l' st)) : Goes p e below F T (mkF m pc ls (v :: st)) := by
  subst hp; exact Goes.fore (fun _ q => XS.astore X.here hx rfl hd rfl hv hl q) k
theorem gIconst (pc' : Nat) (X : Stand p l e R s m args below meth c T locs cells slots) (hx : p.tables.exec = Jvm.exec) {i : Int} {v : Int32} (hd : decode c.code pc = .ok (.iconst i, 1)) (hv : Int32.ofInt i = v) (hp : pc + 1 = pc') (k : Goes p e below F T (mkF m pc' ls (.int v :: st))) : Goes p e below F T (mkF m pc ls st) := by
  subst hp; exact Goes.fore (fun _ q => XT.iconstV X.here hx rfl v hd hv q) k
theorem gBipush (pc' : Nat) (X : Stand p l e R s m args below meth c T locs cells slots) (hx : p.tables.exec = Jvm.exec) {i : Int} {v : Int32} (hd : decode c.code pc = .ok (.bipush i, 2)) (hv : (Int8.ofInt i).toInt32 = v) (hp : pc + 2 = pc') (k : Goes p e below F T (mkF m pc' ls (.int v :: st))) : Goes p e below F T (mkF m pc ls st) := by
  subst hp; exact Goes.fore (fun _ q => XT.bipushV X.here hx rfl v hd hv q) k
theorem gSipush (pc' : Nat) (X : Stand p l e R s m args below meth c T locs cells slots) (hx : p.tables.exec = Jvm.exec) {i : Int} {v : Int32} (hd : decode c.code pc = .ok (.sipush i, 3)) (hv : (Int16.ofInt i).toInt32 = v) (hp : pc + 3 = pc') (k : Goes p e below F T (mkF m pc' ls (.int v :: st))) : Goes p e below F T (mkF m pc ls st) := by
  subst hp; exact Goes.fore (fun _ q => XT.sipushV X.here hx rfl v hd hv q) k
theorem gLconst (pc' : Nat) (X : Stand p l e R s m args below meth c T locs cells slots) (hx : p.tables.exec = Jvm.exec) {i : Fin 2} {v : Int64} (hd : decode c.code pc = .ok (.lconst i, 1)) (hv : Int64.ofNat i = v) (hp : pc + 1 = pc') (k : Goes p e below F T (mkF m pc' ls (.long v :: st))) : Goes p e below F T (mkF m pc ls st) := by
  subst hp; exact Goes.fore (fun _ q => XT.lconstV X.here hx rfl v hd hv q) k
theorem gNull (pc' : Nat) (X : Stand p l e R s m args below meth c T locs cells slots) (hx : p.tables.exec = Jvm.exec)  (hd : decode c.code pc = .ok (.aconst_null, 1))  (hp : pc + 1 = pc') (k : Goes p e below F T (mkF m pc' ls (.null :: st))) : Goes p e below F T (mkF m pc ls st) := by
  subst hp; exact Goes.fore (fun _ q => XS.aconstNull X.here hx rfl hd q) k
theorem gLdc (pc' : Nat) (X : Stand p l e R s m args below meth c T locs cells slots) (hx : p.tables.exec = Jvm.exec) {own : String} {i : Nat} {v : Int32} (hZ : Z.Warmed39 s.vm) (hown : s.vm.findClass own = some m.cls) (w : (Jvm.Cond.constant own i v).before a0 Z = true) (hd : decode c.code pc = .ok (.ldc i, 2))  (hp : pc + 2 = pc') (k : Goes p e below F T (mkF m pc' ls (.int v :: st))) : Goes p e below F T (mkF m pc ls st) := by
  subst hp; exact Goes.fore (fun _ q => X.ldcI hx hown (mvT hZ w) rfl hd q) k
theorem gLdcW (pc' : Nat) (X : Stand p l e R s m args below meth c T locs cells slots) (hx : p.tables.exec = Jvm.exec) {own : String} {i : Nat} {v : Int32} (hZ : Z.Warmed39 s.vm) (hown : s.vm.findClass own = some m.cls) (w : (Jvm.Cond.constant own i v).before a0 Z = true) (hd : decode c.code pc = .ok (.ldc_w i, 3))  (hp : pc + 3 = pc') (k : Goes p e below F T (mkF m pc' ls (.int v :: st))) : Goes p e below F T (mkF m pc ls st) := by
  subst hp; exact Goes.fore (fun _ q => X.ldcWI hx hown (mvT hZ w) rfl hd q) k
theorem gLdc2 (pc' : Nat) (X : Stand p l e R s m args below meth c T locs cells slots) (hx : p.tables.exec = Jvm.exec) {own : String} {i : Nat} {v : Int64} (hZ : Z.Warmed39 s.vm) (hown : s.vm.findClass own = some m.cls) (w : (Jvm.Cond.constantLong own i v).before a0 Z = true) (hd : decode c.code pc = .ok (.ldc2_w i, 3))  (hp : pc + 3 = pc') (k : Goes p e below F T (mkF m pc' ls (.long v :: st))) : Goes p e below F T (mkF m pc ls st) := by
  subst hp; exact Goes.fore (fun _ q => X.ldc2J hx hown (mvT hZ w) rfl hd q) k
theorem gIadd (pc' : Nat) (X : Stand p l e R s m args below meth c T locs cells slots) (hx : p.tables.exec = Jvm.exec) {x y : Int32} (hd : decode c.code pc = .ok (.iadd, 1))  (hp : pc + 1 = pc') (k : Goes p e below F T (mkF m pc' ls (.int (x + y) :: st))) : Goes p e below F T (mkF m pc ls (.int y :: .int x :: st)) := by
  subst hp; exact Goes.fore (fun _ q => XS.iadd X.here hx rfl hd rfl q) k
theorem gIsub (pc' : Nat) (X : Stand p l e R s m args below meth c T locs cells slots) (hx : p.tables.exec = Jvm.exec) {x y : Int32} (hd : decode c.code pc = .ok (.isub, 1))  (hp : pc + 1 = pc') (k : Goes p e below F T (mkF m pc' ls (.int (x - y) :: st))) : Goes p e below F T (mkF m pc ls (.int y :: .int x :: st)) := by
  subst hp; exact Goes.fore (fun _ q => XS.isub X.here hx rfl hd rfl q) k
theorem gImul (pc' : Nat) (X : Stand p l e R s m args below meth c T locs cells slots) (hx : p.tables.exec = Jvm.exec) {x y : Int32} (hd : decode c.code pc = .ok (.imul, 1))  (hp : pc + 1 = pc') (k : Goes p e below F T (mkF m pc' ls (.int (x * y) :: st))) : Goes p e below F T (mkF m pc ls (.int y :: .int x :: st)) := by
  subst hp; exact Goes.fore (fun _ q => XS.imul X.here hx rfl hd rfl q) k
theorem gIand (pc' : Nat) (X : Stand p l e R s m args below meth c T locs cells slots) (hx : p.tables.exec = Jvm.exec) {x y : Int32} (hd : decode c.code pc = .ok (.iand, 1))  (hp : pc + 1 = pc') (k : Goes p e below F T (mkF m pc' ls (.int (x &&& y) :: st))) : Goes p e below F T (mkF m pc ls (.int y :: .int x :: st)) := by
  subst hp; exact Goes.fore (fun _ q => XS.iand X.here hx rfl hd rfl q) k
theorem gIor (pc' : Nat) (X : Stand p l e R s m args below meth c T locs cells slots) (hx : p.tables.exec = Jvm.exec) {x y : Int32} (hd : decode c.code pc = .ok (.ior, 1))  (hp : pc + 1 = pc') (k : Goes p e below F T (mkF m pc' ls (.int (x ||| y) :: st))) : Goes p e below F T (mkF m pc ls (.int y :: .int x :: st)) := by
  subst hp; exact Goes.fore (fun _ q => XS.ior X.here hx rfl hd rfl q) k
theorem gIxor (pc' : Nat) (X : Stand p l e R s m args below meth c T locs cells slots) (hx : p.tables.exec = Jvm.exec) {x y : Int32} (hd : decode c.code pc = .ok (.ixor, 1))  (hp : pc + 1 = pc') (k : Goes p e below F T (mkF m pc' ls (.int (x ^^^ y) :: st))) : Goes p e below F T (mkF m pc ls (.int y :: .int x :: st)) := by
  subst hp; exact Goes.fore (fun _ q => XS.ixor X.here hx rfl hd rfl q) k
theorem gIshl (pc' : Nat) (X : Stand p l e R s m args below meth c T locs cells slots) (hx : p.tables.exec = Jvm.exec) {x y : Int32} (hd : decode c.code pc = .ok (.ishl, 1))  (hp : pc + 1 = pc') (k : Goes p e below F T (mkF m pc' ls (.int (x <<< (y &&& 31)) :: st))) : Goes p e below F T (mkF m pc ls (.int y :: .int x :: st)) := by
  subst hp; exact Goes.fore (fun _ q => XS.ishl X.here hx rfl hd rfl q) k
theorem gIshr (pc' : Nat) (X : Stand p l e R s m args below meth c T locs cells slots) (hx : p.tables.exec = Jvm.exec) {x y : Int32} (hd : decode c.code pc = .ok (.ishr, 1))  (hp : pc + 1 = pc') (k : Goes p e below F T (mkF m pc' ls (.int (x >>> (y &&& 31)) :: st))) : Goes p e below F T (mkF m pc ls (.int y :: .int x :: st)) := by
  subst hp; exact Goes.fore (fun _ q => XS.ishr X.here hx rfl hd rfl q) k
theorem gIushr (pc' : Nat) (X : Stand p l e R s m args below meth c T locs cells slots) (hx : p.tables.exec = Jvm.exec) {x y : Int32} (hd : decode c.code pc = .ok (.iushr, 1))  (hp : pc + 1 = pc') (k : Goes p e below F T (mkF m pc' ls (.int ((x.toUInt32 >>> (y &&& 31).toUInt32).toInt32) :: st))) : Goes p e below F T (mkF m pc ls (.int y :: .int x :: st)) := by
  subst hp; exact Goes.fore (fun _ q => XS.iushr X.here hx rfl hd rfl q) k
theorem gLadd (pc' : Nat) (X : Stand p l e R s m args below meth c T locs cells slots) (hx : p.tables.exec = Jvm.exec) {x y : Int64} (hd : decode c.code pc = .ok (.ladd, 1))  (hp : pc + 1 = pc') (k : Goes p e below F T (mkF m pc' ls (.long (x + y) :: st))) : Goes p e below F T (mkF m pc ls (.long y :: .long x :: st)) := by
  subst hp; exact Goes.fore (fun _ q => XS.ladd X.here hx rfl hd rfl q) k
theorem gLsub (pc' : Nat) (X : Stand p l e R s m args below meth c T locs cells slots) (hx : p.tables.exec = Jvm.exec) {x y : Int64} (hd : decode c.code pc = .ok (.lsub, 1))  (hp : pc + 1 = pc') (k : Goes p e below F T (mkF m pc' ls (.long (x - y) :: st))) : Goes p e below F T (mkF m pc ls (.long y :: .long x :: st)) := by
  subst hp; exact Goes.fore (fun _ q => XS.lsub X.here hx rfl hd rfl q) k
theorem gLmul (pc' : Nat) (X : Stand p l e R s m args below meth c T locs cells slots) (hx : p.tables.exec = Jvm.exec) {x y : Int64} (hd : decode c.code pc = .ok (.lmul, 1))  (hp : pc + 1 = pc') (k : Goes p e below F T (mkF m pc' ls (.long (x * y) :: st))) : Goes p e below F T (mkF m pc ls (.long y :: .long x :: st)) := by
  subst hp; exact Goes.fore (fun _ q => XS.lmul X.here hx rfl hd rfl q) k
theorem gLand (pc' : Nat) (X : Stand p l e R s m args below meth c T locs cells slots) (hx : p.tables.exec = Jvm.exec) {x y : Int64} (hd : decode c.code pc = .ok (.land, 1))  (hp : pc + 1 = pc') (k : Goes p e below F T (mkF m pc' ls (.long (x &&& y) :: st))) : Goes p e below F T (mkF m pc ls (.long y :: .long x :: st)) := by
  subst hp; exact Goes.fore (fun _ q => XS.land X.here hx rfl hd rfl q) k
theorem gLor (pc' : Nat) (X : Stand p l e R s m args below meth c T locs cells slots) (hx : p.tables.exec = Jvm.exec) {x y : Int64} (hd : decode c.code pc = .ok (.lor, 1))  (hp : pc + 1 = pc') (k : Goes p e below F T (mkF m pc' ls (.long (x ||| y) :: st))) : Goes p e below F T (mkF m pc ls (.long y :: .long x :: st)) := by
  subst hp; exact Goes.fore (fun _ q => XS.lor X.here hx rfl hd rfl q) k
theorem gLxor (pc' : Nat) (X : Stand p l e R s m args below meth c T locs cells slots) (hx : p.tables.exec = Jvm.exec) {x y : Int64} (hd : decode c.code pc = .ok (.lxor, 1))  (hp : pc + 1 = pc') (k : Goes p e below F T (mkF m pc' ls (.long (x ^^^ y) :: st))) : Goes p e below F T (mkF m pc ls (.long y :: .long x :: st)) := by
  subst hp; exact Goes.fore (fun _ q => XS.lxor X.here hx rfl hd rfl q) k
theorem gLshl (pc' : Nat) (X : Stand p l e R s m args below meth c T locs cells slots) (hx : p.tables.exec = Jvm.exec) {x : Int64} {y : Int32} (hd : decode c.code pc = .ok (.lshl, 1))  (hp : pc + 1 = pc') (k : Goes p e below F T (mkF m pc' ls (.long (x <<< (y &&& 0x3f).toInt64) :: st))) : Goes p e below F T (mkF m pc ls (.int y :: .long x :: st)) := by
  subst hp; exact Goes.fore (fun _ q => XS.lshl X.here hx rfl hd rfl q) k
theorem gLshr (pc' : Nat) (X : Stand p l e R s m args below meth c T locs cells slots) (hx : p.tables.exec = Jvm.exec) {x : Int64} {y : Int32} (hd : decode c.code pc = .ok (.lshr, 1))  (hp : pc + 1 = pc') (k : Goes p e below F T (mkF m pc' ls (.long (x >>> (y &&& 0x3f).toInt64) :: st))) : Goes p e below F T (mkF m pc ls (.int y :: .long x :: st)) := by
  subst hp; exact Goes.fore (fun _ q => XS.lshr X.here hx rfl hd rfl q) k
theorem gLushr (pc' : Nat) (X : Stand p l e R s m args below meth c T locs cells slots) (hx : p.tables.exec = Jvm.exec) {x : Int64} {y : Int32} (hd : decode c.code pc = .ok (.lushr, 1))  (hp : pc + 1 = pc') (k : Goes p e below F T (mkF m pc' ls (.long ((x.toUInt64 >>> (y &&& 0x3f).toInt64.toUInt64).toInt64) :: st))) : Goes p e below F T (mkF m pc ls (.int y :: .long x :: st)) := by
  subst hp; exact Goes.fore (fun _ q => XS.lushr X.here hx rfl hd rfl q) k
theorem gIdiv (pc' : Nat) (X : Stand p l e R s m args below meth c T locs cells slots) (hx : p.tables.exec = Jvm.exec) {x y : Int32} (hd : decode c.code pc = .ok (.idiv, 1)) (hy : y ≠ 0) (hp : pc + 1 = pc') (k : Goes p e below F T (mkF m pc' ls (.int (x / y) :: st))) : Goes p e below F T (mkF m pc ls (.int y :: .int x :: st)) := by
  subst hp; exact Goes.fore (fun _ q => XS.idiv X.here hx rfl hd rfl hy q) k
theorem gIrem (pc' : Nat) (X : Stand p l e R s m args below meth c T locs cells slots) (hx : p.tables.exec = Jvm.exec) {x y : Int32} (hd : decode c.code pc = .ok (.irem, 1)) (hy : y ≠ 0) (hp : pc + 1 = pc') (k : Goes p e below F T (mkF m pc' ls (.int (x % y) :: st))) : Goes p e below F T (mkF m pc ls (.int y :: .int x :: st)) := by
  subst hp; exact Goes.fore (fun _ q => iremM X hx rfl hd rfl hy q) k
theorem gIneg (pc' : Nat) (X : Stand p l e R s m args below meth c T locs cells slots) (hx : p.tables.exec = Jvm.exec) {x : Int32} (hd : decode c.code pc = .ok (.ineg, 1))  (hp : pc + 1 = pc') (k : Goes p e below F T (mkF m pc' ls (.int (-x) :: st))) : Goes p e below F T (mkF m pc ls (.int x :: st)) := by
  subst hp; exact Goes.fore (fun _ q => XS.ineg X.here hx rfl hd rfl q) k
theorem gLneg (pc' : Nat) (X : Stand p l e R s m args below meth c T locs cells slots) (hx : p.tables.exec = Jvm.exec) {x : Int64} (hd : decode c.code pc = .ok (.lneg, 1))  (hp : pc + 1 = pc') (k : Goes p e below F T (mkF m pc' ls (.long (-x) :: st))) : Goes p e below F T (mkF m pc ls (.long x :: st)) := by
  subst hp; exact Goes.fore (fun _ q => XS.lneg X.here hx rfl hd rfl q) k
theorem gI2l (pc' : Nat) (X : Stand p l e R s m args below meth c T locs cells slots) (hx : p.tables.exec = Jvm.exec) {x : Int32} (hd : decode c.code pc = .ok (.i2l, 1))  (hp : pc + 1 = pc') (k : Goes p e below F T (mkF m pc' ls (.long (x.toInt64) :: st))) : Goes p e below F T (mkF m pc ls (.int x :: st)) := by
  subst hp; exact Goes.fore (fun _ q => XS.i2l X.here hx rfl hd rfl q) k
theorem gL2i (pc' : Nat) (X : Stand p l e R s m args below meth c T locs cells slots) (hx : p.tables.exec = Jvm.exec) {x : Int64} (hd : decode c.code pc = .ok (.l2i, 1))  (hp : pc + 1 = pc') (k : Goes p e below F T (mkF m pc' ls (.int (x.toInt32) :: st))) : Goes p e below F T (mkF m pc ls (.long x :: st)) := by
  subst hp; exact Goes.fore (fun _ q => XS.l2i X.here hx rfl hd rfl q) k
theorem gI2b (pc' : Nat) (X : Stand p l e R s m args below meth c T locs cells slots) (hx : p.tables.exec = Jvm.exec) {x : Int32} (hd : decode c.code pc = .ok (.i2b, 1))  (hp : pc + 1 = pc') (k : Goes p e below F T (mkF m pc' ls (.int (x.toInt8.toInt32) :: st))) : Goes p e below F T (mkF m pc ls (.int x :: st)) := by
  subst hp; exact Goes.fore (fun _ q => XS.i2b X.here hx rfl hd rfl q) k
theorem gI2c (pc' : Nat) (X : Stand p l e R s m args below meth c T locs cells slots) (hx : p.tables.exec = Jvm.exec) {x : Int32} (hd : decode c.code pc = .ok (.i2c, 1))  (hp : pc + 1 = pc') (k : Goes p e below F T (mkF m pc' ls (.int (x.toUInt32.toUInt16.toUInt32.toInt32) :: st))) : Goes p e below F T (mkF m pc ls (.int x :: st)) := by
  subst hp; exact Goes.fore (fun _ q => XS.i2c X.here hx rfl hd rfl q) k
theorem gI2s (pc' : Nat) (X : Stand p l e R s m args below meth c T locs cells slots) (hx : p.tables.exec = Jvm.exec) {x : Int32} (hd : decode c.code pc = .ok (.i2s, 1))  (hp : pc + 1 = pc') (k : Goes p e below F T (mkF m pc' ls (.int (x.toInt16.toInt32) :: st))) : Goes p e below F T (mkF m pc ls (.int x :: st)) := by
  subst hp; exact Goes.fore (fun _ q => XS.i2s X.here hx rfl hd rfl q) k
theorem gLcmp (pc' : Nat) (X : Stand p l e R s m args below meth c T locs cells slots) (hx : p.tables.exec = Jvm.exec) {x y : Int64} (hd : decode c.code pc = .ok (.lcmp, 1))  (hp : pc + 1 = pc') (k : Goes p e below F T (mkF m pc' ls (.int (lcmpW x y) :: st))) : Goes p e below F T (mkF m pc ls (.long y :: .long x :: st)) := by
  subst hp; exact Goes.fore (fun _ q => XS.lcmp X.here hx rfl hd rfl q) k
theorem gIinc (X : Stand p l e R s m args below meth c T locs cells slots) (hx : p.tables.exec = Jvm.exec) {k : Nat} {i : Int} {x v : Int32} {l' : Array Slot} (hd : decode c.code pc = .ok (.iinc k i, 3)) (hv : Int32.ofInt i = v) (hl : ls[k]? = some (.val (.int x))) (hl' : storeLocals ls k (.int (x + v)) = some l') (hp : pc + 3 = pc') (k : Goes p e below F T (mkF m pc' l' st)) : Goes p e below F T (mkF m pc ls st) := by
  subst hp; exact Goes.fore (fun _ q => XT.iincV X.here hx rfl v hd hv hl hl' q) k
theorem gDup (pc' : Nat) (X : Stand p l e R s m args below meth c T locs cells slots) (hx : p.tables.exec = Jvm.exec) {v : Value} (hd : decode c.code pc = .ok (.dup, 1)) (hv : v.category = 1) (hp : pc + 1 = pc') (k : Goes p e below F T (mkF m pc' ls (v :: v :: st))) : Goes p e below F T (mkF m pc ls (v :: st)) := by
  subst hp; exact Goes.fore (fun _ q => XS.dup X.here hx rfl hd rfl hv q) k
theorem gPop (pc' : Nat) (X : Stand p l e R s m args below meth c T locs cells slots) (hx : p.tables.exec = Jvm.exec) {v : Value} (hd : decode c.code pc = .ok (.pop, 1)) (hv : v.category = 1) (hp : pc + 1 = pc') (k : Goes p e below F T (mkF m pc' ls st)) : Goes p e below F T (mkF m pc ls (v :: st)) := by
  subst hp; exact Goes.fore (fun _ q => XS.pop X.here hx rfl hd rfl hv q) k
theorem gDupX1 (pc' : Nat) (X : Stand p l e R s m args below meth c T locs cells slots) (hx : p.tables.exec = Jvm.exec) {v w : Value} (hd : decode c.code pc = .ok (.dup_x1, 1)) (hv : v.category = 1) (hw : w.category = 1) (hp : pc + 1 = pc') (k : Goes p e below F T (mkF m pc' ls (v :: w :: v :: st))) : Goes p e below F T (mkF m pc ls (v :: w :: st)) := by
  subst hp; exact Goes.fore (fun _ q => XS.dupX1 X.here hx rfl hd rfl hv hw q) k
theorem gDup2 (pc' : Nat) (X : Stand p l e R s m args below meth c T locs cells slots) (hx : p.tables.exec = Jvm.exec) {v w : Value} (hd : decode c.code pc = .ok (.dup2, 1)) (hv : v.category = 1) (hw : w.category = 1) (hp : pc + 1 = pc') (k : Goes p e below F T (mkF m pc' ls (v :: w :: v :: w :: st))) : Goes p e below F T (mkF m pc ls (v :: w :: st)) := by
  subst hp; exact Goes.fore (fun _ q => XT.dup2 X.here hx rfl hd rfl hv hw q) k
theorem gGoto (X : Stand p l e R s m args below meth c T locs cells slots) (hx : p.tables.exec = Jvm.exec) {o : Int} (hd : decode c.code pc = .ok (.goto o, 3)) (ho : 0 ≤ (pc : Int) + o) (hp : ((pc : Int) + o).toNat = pc') (k : Goes p e below F T (mkF m pc' ls st)) : Goes p e below F T (mkF m pc ls st) := Goes.fore (fun _ q => XS.goto X.here hx rfl rfl hd ho hp q) k
theorem gIcmp (X : Stand p l e R s m args below meth c T locs cells slots) (hx : p.tables.exec = Jvm.exec) {cd : ClassFile.Cond} {o : Int} {x y : Int32} {pn : Nat} (hd : decode c.code pc = .ok (.if_icmp cd o, 3)) (ho : 0 ≤ (pc : Int) + o) (hp : ((pc : Int) + o).toNat = pc') (hn : pc + 3 = pn) (kY : if_icmp.holds cd x y = true → Goes p e below F T (mkF m pc' ls st)) (kN : if_icmp.holds cd x y = false → Goes p e below F T (mkF m pn ls st)) : Goes p e below F T (mkF m pc ls (.int y :: .int x :: st)) := by
  subst hn
  cases hb : if_icmp.holds cd x y
  · exact Goes.fore (fun _ q => XS.icmpNo X.here hx rfl hd rfl hb q) (kN hb)
  · exact Goes.fore (fun _ q => XS.icmpYes X.here hx rfl rfl hd rfl hb ho hp q) (kY hb)
theorem gIf (X : Stand p l e R s m args below meth c T locs cells slots) (hx : p.tables.exec = Jvm.exec) {cd : ClassFile.Cond} {o : Int} {x : Int32} {pn : Nat} (hd : decode c.code pc = .ok (.ifCond cd o, 3)) (ho : 0 ≤ (pc : Int) + o) (hp : ((pc : Int) + o).toNat = pc') (hn : pc + 3 = pn) (kY : ifCond.holds cd x = true → Goes p e below F T (mkF m pc' ls st)) (kN : ifCond.holds cd x = false → Goes p e below F T (mkF m pn ls st)) : Goes p e below F T (mkF m pc ls (.int x :: st)) := by
  subst hn
  cases hb : ifCond.holds cd x
  · exact Goes.fore (fun _ q => XS.ifNo X.here hx rfl hd rfl hb q) (kN hb)
  · exact Goes.fore (fun _ q => XS.ifYes X.here hx rfl rfl hd rfl hb ho hp q) (kY hb)
theorem gIcmpEq (X : Stand p l e R s m args below meth c T locs cells slots) (hx : p.tables.exec = Jvm.exec) {o : Int} {x y : Int32} {pn : Nat} (hd : decode c.code pc = .ok (.if_icmp .eq o, 3)) (ho : 0 ≤ (pc : Int) + o) (hp : ((pc : Int) + o).toNat = pc') (hn : pc + 3 = pn) (kY : x = y → Goes p e below F T (mkF m pc' ls st)) (kN : ¬ x = y → Goes p e below F T (mkF m pn ls st)) : Goes p e below F T (mkF m pc ls (.int y :: .int x :: st)) :=
  gIcmp X hx hd ho hp hn (fun q => kY (by simpa [if_icmp.holds, Int32.lt_iff_toInt_lt, Int32.le_iff_toInt_le] using q)) (fun q => kN (by simpa [if_icmp.holds, Int32.lt_iff_toInt_lt, Int32.le_iff_toInt_le] using q))
theorem gIfEq (X : Stand p l e R s m args below meth c T locs cells slots) (hx : p.tables.exec = Jvm.exec) {o : Int} {x : Int32} {pn : Nat} (hd : decode c.code pc = .ok (.ifCond .eq o, 3)) (ho : 0 ≤ (pc : Int) + o) (hp : ((pc : Int) + o).toNat = pc') (hn : pc + 3 = pn) (kY : x = 0 → Goes p e below F T (mkF m pc' ls st)) (kN : ¬ x = 0 → Goes p e below F T (mkF m pn ls st)) : Goes p e below F T (mkF m pc ls (.int x :: st)) :=
  gIf X hx hd ho hp hn (fun q => kY (by simpa [ifCond.holds, Int32.lt_iff_toInt_lt, Int32.le_iff_toInt_le] using q)) (fun q => kN (by simpa [ifCond.holds, Int32.lt_iff_toInt_lt, Int32.le_iff_toInt_le] using q))
theorem gIcmpNe (X : Stand p l e R s m args below meth c T locs cells slots) (hx : p.tables.exec = Jvm.exec) {o : Int} {x y : Int32} {pn : Nat} (hd : decode c.code pc = .ok (.if_icmp .ne o, 3)) (ho : 0 ≤ (pc : Int) + o) (hp : ((pc : Int) + o).toNat = pc') (hn : pc + 3 = pn) (kY : ¬ x = y → Goes p e below F T (mkF m pc' ls st)) (kN : x = y → Goes p e below F T (mkF m pn ls st)) : Goes p e below F T (mkF m pc ls (.int y :: .int x :: st)) :=
  gIcmp X hx hd ho hp hn (fun q => kY (by simpa [if_icmp.holds, Int32.lt_iff_toInt_lt, Int32.le_iff_toInt_le] using q)) (fun q => kN (by simpa [if_icmp.holds, Int32.lt_iff_toInt_lt, Int32.le_iff_toInt_le] using q))
theorem gIfNe (X : Stand p l e R s m args below meth c T locs cells slots) (hx : p.tables.exec = Jvm.exec) {o : Int} {x : Int32} {pn : Nat} (hd : decode c.code pc = .ok (.ifCond .ne o, 3)) (ho : 0 ≤ (pc : Int) + o) (hp : ((pc : Int) + o).toNat = pc') (hn : pc + 3 = pn) (kY : ¬ x = 0 → Goes p e below F T (mkF m pc' ls st)) (kN : x = 0 → Goes p e below F T (mkF m pn ls st)) : Goes p e below F T (mkF m pc ls (.int x :: st)) :=
  gIf X hx hd ho hp hn (fun q => kY (by simpa [ifCond.holds, Int32.lt_iff_toInt_lt, Int32.le_iff_toInt_le] using q)) (fun q => kN (by simpa [ifCond.holds, Int32.lt_iff_toInt_lt, Int32.le_iff_toInt_le] using q))
theorem gIcmpLt (X : Stand p l e R s m args below meth c T locs cells slots) (hx : p.tables.exec = Jvm.exec) {o : Int} {x y : Int32} {pn : Nat} (hd : decode c.code pc = .ok (.if_icmp .lt o, 3)) (ho : 0 ≤ (pc : Int) + o) (hp : ((pc : Int) + o).toNat = pc') (hn : pc + 3 = pn) (kY : x.toInt < y.toInt → Goes p e below F T (mkF m pc' ls st)) (kN : y.toInt ≤ x.toInt → Goes p e below F T (mkF m pn ls st)) : Goes p e below F T (mkF m pc ls (.int y :: .int x :: st)) :=
  gIcmp X hx hd ho hp hn (fun q => kY (by simpa [if_icmp.holds, Int32.lt_iff_toInt_lt, Int32.le_iff_toInt_le] using q)) (fun q => kN (by simpa [if_icmp.holds, Int32.lt_iff_toInt_lt, Int32.le_iff_toInt_le] using q))
theorem gIfLt (X : Stand p l e R s m args below meth c T locs cells slots) (hx : p.tables.exec = Jvm.exec) {o : Int} {x : Int32} {pn : Nat} (hd : decode c.code pc = .ok (.ifCond .lt o, 3)) (ho : 0 ≤ (pc : Int) + o) (hp : ((pc : Int) + o).toNat = pc') (hn : pc + 3 = pn) (kY : x.toInt < (0 : Int) → Goes p e below F T (mkF m pc' ls st)) (kN : (0 : Int) ≤ x.toInt → Goes p e below F T (mkF m pn ls st)) : Goes p e below F T (mkF m pc ls (.int x :: st)) :=
  gIf X hx hd ho hp hn (fun q => kY (by simpa [ifCond.holds, Int32.lt_iff_toInt_lt, Int32.le_iff_toInt_le] using q)) (fun q => kN (by simpa [ifCond.holds, Int32.lt_iff_toInt_lt, Int32.le_iff_toInt_le] using q))
theorem gIcmpGe (X : Stand p l e R s m args below meth c T locs cells slots) (hx : p.tables.exec = Jvm.exec) {o : Int} {x y : Int32} {pn : Nat} (hd : decode c.code pc = .ok (.if_icmp .ge o, 3)) (ho : 0 ≤ (pc : Int) + o) (hp : ((pc : Int) + o).toNat = pc') (hn : pc + 3 = pn) (kY : y.toInt ≤ x.toInt → Goes p e below F T (mkF m pc' ls st)) (kN : x.toInt < y.toInt → Goes p e below F T (mkF m pn ls st)) : Goes p e below F T (mkF m pc ls (.int y :: .int x :: st)) :=
  gIcmp X hx hd ho hp hn (fun q => kY (by simpa [if_icmp.holds, Int32.lt_iff_toInt_lt, Int32.le_iff_toInt_le] using q)) (fun q => kN (by simpa [if_icmp.holds, Int32.lt_iff_toInt_lt, Int32.le_iff_toInt_le] using q))
theorem gIfGe (X : Stand p l e R s m args below meth c T locs cells slots) (hx : p.tables.exec = Jvm.exec) {o : Int} {x : Int32} {pn : Nat} (hd : decode c.code pc = .ok (.ifCond .ge o, 3)) (ho : 0 ≤ (pc : Int) + o) (hp : ((pc : Int) + o).toNat = pc') (hn : pc + 3 = pn) (kY : (0 : Int) ≤ x.toInt → Goes p e below F T (mkF m pc' ls st)) (kN : x.toInt < (0 : Int) → Goes p e below F T (mkF m pn ls st)) : Goes p e below F T (mkF m pc ls (.int x :: st)) :=
  gIf X hx hd ho hp hn (fun q => kY (by simpa [ifCond.holds, Int32.lt_iff_toInt_lt, Int32.le_iff_toInt_le] using q)) (fun q => kN (by simpa [ifCond.holds, Int32.lt_iff_toInt_lt, Int32.le_iff_toInt_le] using q))
theorem gIcmpGt (X : Stand p l e R s m args below meth c T locs cells slots) (hx : p.tables.exec = Jvm.exec) {o : Int} {x y : Int32} {pn : Nat} (hd : decode c.code pc = .ok (.if_icmp .gt o, 3)) (ho : 0 ≤ (pc : Int) + o) (hp : ((pc : Int) + o).toNat = pc') (hn : pc + 3 = pn) (kY : y.toInt < x.toInt → Goes p e below F T (mkF m pc' ls st)) (kN : x.toInt ≤ y.toInt → Goes p e below F T (mkF m pn ls st)) : Goes p e below F T (mkF m pc ls (.int y :: .int x :: st)) :=
  gIcmp X hx hd ho hp hn (fun q => kY (by simpa [if_icmp.holds, Int32.lt_iff_toInt_lt, Int32.le_iff_toInt_le] using q)) (fun q => kN (by simpa [if_icmp.holds, Int32.lt_iff_toInt_lt, Int32.le_iff_toInt_le] using q))
theorem gIfGt (X : Stand p l e R s m args below meth c T locs cells slots) (hx : p.tables.exec = Jvm.exec) {o : Int} {x : Int32} {pn : Nat} (hd : decode c.code pc = .ok (.ifCond .gt o, 3)) (ho : 0 ≤ (pc : Int) + o) (hp : ((pc : Int) + o).toNat = pc') (hn : pc + 3 = pn) (kY : (0 : Int) < x.toInt → Goes p e below F T (mkF m pc' ls st)) (kN : x.toInt ≤ (0 : Int) → Goes p e below F T (mkF m pn ls st)) : Goes p e below F T (mkF m pc ls (.int x :: st)) :=
  gIf X hx hd ho hp hn (fun q => kY (by simpa [ifCond.holds, Int32.lt_iff_toInt_lt, Int32.le_iff_toInt_le] using q)) (fun q => kN (by simpa [ifCond.holds, Int32.lt_iff_toInt_lt, Int32.le_iff_toInt_le] using q))
theorem gIcmpLe (X : Stand p l e R s m args below meth c T locs cells slots) (hx : p.tables.exec = Jvm.exec) {o : Int} {x y : Int32} {pn : Nat} (hd : decode c.code pc = .ok (.if_icmp .le o, 3)) (ho : 0 ≤ (pc : Int) + o) (hp : ((pc : Int) + o).toNat = pc') (hn : pc + 3 = pn) (kY : x.toInt ≤ y.toInt → Goes p e below F T (mkF m pc' ls st)) (kN : y.toInt < x.toInt → Goes p e below F T (mkF m pn ls st)) : Goes p e below F T (mkF m pc ls (.int y :: .int x :: st)) :=
  gIcmp X hx hd ho hp hn (fun q => kY (by simpa [if_icmp.holds, Int32.lt_iff_toInt_lt, Int32.le_iff_toInt_le] using q)) (fun q => kN (by simpa [if_icmp.holds, Int32.lt_iff_toInt_lt, Int32.le_iff_toInt_le] using q))
theorem gIfLe (X : Stand p l e R s m args below meth c T locs cells slots) (hx : p.tables.exec = Jvm.exec) {o : Int} {x : Int32} {pn : Nat} (hd : decode c.code pc = .ok (.ifCond .le o, 3)) (ho : 0 ≤ (pc : Int) + o) (hp : ((pc : Int) + o).toNat = pc') (hn : pc + 3 = pn) (kY : x.toInt ≤ (0 : Int) → Goes p e below F T (mkF m pc' ls st)) (kN : (0 : Int) < x.toInt → Goes p e below F T (mkF m pn ls st)) : Goes p e below F T (mkF m pc ls (.int x :: st)) :=
  gIf X hx hd ho hp hn (fun q => kY (by simpa [ifCond.holds, Int32.lt_iff_toInt_lt, Int32.le_iff_toInt_le] using q)) (fun q => kN (by simpa [ifCond.holds, Int32.lt_iff_toInt_lt, Int32.le_iff_toInt_le] using q))
theorem gIcmpEqT (X : Stand p l e R s m args below meth c T locs cells slots) (hx : p.tables.exec = Jvm.exec) {o : Int} {x y : Int32} {pn : Nat} (hd : decode c.code pc = .ok (.if_icmp .eq o, 3)) (ho : 0 ≤ (pc : Int) + o) (hp : ((pc : Int) + o).toNat = pc') (hn : pc + 3 = pn) (kY : x.toInt = y.toInt → Goes p e below F T (mkF m pc' ls st)) (kN : ¬ x.toInt = y.toInt → Goes p e below F T (mkF m pn ls st)) : Goes p e below F T (mkF m pc ls (.int y :: .int x :: st)) :=
  gIcmpEq X hx hd ho hp hn (fun q => kY ((Int32.toInt_inj (x := x) (y := y)).mpr q)) (fun q => kN (fun z => q ((Int32.toInt_inj (x := x) (y := y)).mp z)))
theorem gIfEqT (X : Stand p l e R s m args below meth c T locs cells slots) (hx : p.tables.exec = Jvm.exec) {o : Int} {x : Int32} {pn : Nat} (hd : decode c.code pc = .ok (.ifCond .eq o, 3)) (ho : 0 ≤ (pc : Int) + o) (hp : ((pc : Int) + o).toNat = pc') (hn : pc + 3 = pn) (kY : x.toInt = (0 : Int) → Goes p e below F T (mkF m pc' ls st)) (kN : ¬ x.toInt = (0 : Int) → Goes p e below F T (mkF m pn ls st)) : Goes p e below F T (mkF m pc ls (.int x :: st)) :=
  gIfEq X hx hd ho hp hn (fun q => kY ((Int32.toInt_inj (x := x) (y := 0)).mpr q)) (fun q => kN (fun z => q ((Int32.toInt_inj (x := x) (y := 0)).mp z)))
theorem gIcmpNeT (X : Stand p l e R s m args below meth c T locs cells slots) (hx : p.tables.exec = Jvm.exec) {o : Int} {x y : Int32} {pn : Nat} (hd : decode c.code pc = .ok (.if_icmp .ne o, 3)) (ho : 0 ≤ (pc : Int) + o) (hp : ((pc : Int) + o).toNat = pc') (hn : pc + 3 = pn) (kY : ¬ x.toInt = y.toInt → Goes p e below F T (mkF m pc' ls st)) (kN : x.toInt = y.toInt → Goes p e below F T (mkF m pn ls st)) : Goes p e below F T (mkF m pc ls (.int y :: .int x :: st)) :=
  gIcmpNe X hx hd ho hp hn (fun q => kY (fun z => q ((Int32.toInt_inj (x := x) (y := y)).mp z))) (fun q => kN ((Int32.toInt_inj (x := x) (y := y)).mpr q))
theorem gIfNeT (X : Stand p l e R s m args below meth c T locs cells slots) (hx : p.tables.exec = Jvm.exec) {o : Int} {x : Int32} {pn : Nat} (hd : decode c.code pc = .ok (.ifCond .ne o, 3)) (ho : 0 ≤ (pc : Int) + o) (hp : ((pc : Int) + o).toNat = pc') (hn : pc + 3 = pn) (kY : ¬ x.toInt = (0 : Int) → Goes p e below F T (mkF m pc' ls st)) (kN : x.toInt = (0 : Int) → Goes p e below F T (mkF m pn ls st)) : Goes p e below F T (mkF m pc ls (.int x :: st)) :=
  gIfNe X hx hd ho hp hn (fun q => kY (fun z => q ((Int32.toInt_inj (x := x) (y := 0)).mp z))) (fun q => kN ((Int32.toInt_inj (x := x) (y := 0)).mpr q))
theorem gAcmp (X : Stand p l e R s m args below meth c T locs cells slots) (hx : p.tables.exec = Jvm.exec) {cd : ClassFile.ACond} {o : Int} {x y : Value} {pn : Nat} (hd : decode c.code pc = .ok (.if_acmp cd o, 3)) (h1 : x.isRef = true) (h2 : y.isRef = true) (ho : 0 ≤ (pc : Int) + o) (hp : ((pc : Int) + o).toNat = pc') (hn : pc + 3 = pn) (kS : x = y → Goes p e below F T (mkF m (match cd with | .eq => pc' | .ne => pn) ls st)) (kD : ¬ x = y → Goes p e below F T (mkF m (match cd with | .eq => pn | .ne => pc') ls st)) : Goes p e below F T (mkF m pc ls (y :: x :: st)) := by
  subst hn hp
  by_cases q : x = y
  · refine Goes.fore (fun _ k => acmp X hx rfl h1 h2 (same := true) rfl hd rfl (decide_eq_true q) ho rfl k) ?_
    have := kS q; cases cd <;> simpa [acV] using this
  · refine Goes.fore (fun _ k => acmp X hx rfl h1 h2 (same := false) rfl hd rfl (decide_eq_false q) ho rfl k) ?_
    have := kD q; cases cd <;> simpa [acV] using this
theorem gAcmpEq (X : Stand p l e R s m args below meth c T locs cells slots) (hx : p.tables.exec = Jvm.exec) {o : Int} {x y : Value} {pn : Nat} (hd : decode c.code pc = .ok (.if_acmp .eq o, 3)) (h1 : x.isRef = true) (h2 : y.isRef = true) (ho : 0 ≤ (pc : Int) + o) (hp : ((pc : Int) + o).toNat = pc') (hn : pc + 3 = pn) (kY : x = y → Goes p e below F T (mkF m pc' ls st)) (kN : ¬ x = y → Goes p e below F T (mkF m pn ls st)) : Goes p e below F T (mkF m pc ls (y :: x :: st)) := gAcmp X hx hd h1 h2 ho hp hn kY kN
theorem gAcmpNe (X : Stand p l e R s m args below meth c T locs cells slots) (hx : p.tables.exec = Jvm.exec) {o : Int} {x y : Value} {pn : Nat} (hd : decode c.code pc = .ok (.if_acmp .ne o, 3)) (h1 : x.isRef = true) (h2 : y.isRef = true) (ho : 0 ≤ (pc : Int) + o) (hp : ((pc : Int) + o).toNat = pc') (hn : pc + 3 = pn) (kY : ¬ x = y → Goes p e below F T (mkF m pc' ls st)) (kN : x = y → Goes p e below F T (mkF m pn ls st)) : Goes p e below F T (mkF m pc ls (y :: x :: st)) := gAcmp X hx hd h1 h2 ho hp hn kN kY
theorem gIfnullZ (X : Stand p l e R s m args below meth c T locs cells slots) (hx : p.tables.exec = Jvm.exec) {o : Int} (hd : decode c.code pc = .ok (.ifnull o, 3)) (ho : 0 ≤ (pc : Int) + o) (hp : ((pc : Int) + o).toNat = pc') (k : Goes p e below F T (mkF m pc' ls st)) : Goes p e below F T (mkF m pc ls (.null :: st)) := Goes.fore (fun _ q => XS.ifnullYes X.here hx rfl rfl hd rfl ho hp q) k
theorem gIfnullR (X : Stand p l e R s m args below meth c T locs cells slots) (hx : p.tables.exec = Jvm.exec) {o : Int} {b : Addr} (hd : decode c.code pc = .ok (.ifnull o, 3)) (hp : pc + 3 = pc') (k : Goes p e below F T (mkF m pc' ls st)) : Goes p e below F T (mkF m pc ls (.ref b :: st)) := by
  subst hp; exact Goes.fore (fun _ q => XS.ifnullNo X.here hx rfl hd rfl q) k
theorem gIfnonnullZ (X : Stand p l e R s m args below meth c T locs cells slots) (hx : p.tables.exec = Jvm.exec) {o : Int} (hd : decode c.code pc = .ok (.ifnonnull o, 3)) (hp : pc + 3 = pc') (k : Goes p e below F T (mkF m pc' ls st)) : Goes p e below F T (mkF m pc ls (.null :: st)) := by
  subst hp; exact Goes.fore (fun _ q => XS.ifnonnullNo X.here hx rfl hd rfl q) k
theorem gIfnonnullR (X : Stand p l e R s m args below meth c T locs cells slots) (hx : p.tables.exec = Jvm.exec) {o : Int} {b : Addr} (hd : decode c.code pc = .ok (.ifnonnull o, 3)) (ho : 0 ≤ (pc : Int) + o) (hp : ((pc : Int) + o).toNat = pc') (k : Goes p e below F T (mkF m pc' ls st)) : Goes p e below F T (mkF m pc ls (.ref b :: st)) := Goes.fore (fun _ q => XS.ifnonnullYes X.here hx rfl rfl hd rfl ho hp q) k
theorem gRet0 {v : Option Value} (X : Stand p l e R s m args below meth c T locs cells slots) (hx : p.tables.exec = Jvm.exec) (hlk : meth.locks = false) (hv : meth.sig.returnType = none → v = none) (hk : cells ≤ kc) (hs : slots ≤ ks) (hq : Q v T.heap locs) {g : JFrame}
    (k : ∀ fs, (∀ (f : JFrame) (acts : List Action), f.method = m → f.locked = none → f.entered = [] → (doReturn e (T.setTop f) acts v).1 = T.setFrames fs) → Steps p.tables e below (T.setTop g) (T.setFrames fs)) : Goes p e below (FinN s kc ks Q) T g := by
  obtain ⟨fs, hr, hrun, hended, hW, hsame⟩ := X.leave hv hlk
  exact ⟨_, _, k fs hr, hrun, hended, _, _, rfl, hq, ⟨_, rfl⟩, hW, hsame.mono hk hs⟩
theorem gRetV (X : Stand p l e R s m args below meth c T locs cells slots) (hx : p.tables.exec = Jvm.exec) (hlk : meth.locks = false) (hret : meth.sig.returnType = none) (hd : decode c.code pc = .ok (.return_, 1)) (hk : cells ≤ kc) (hs : slots ≤ ks) (hq : Q none T.heap locs) : Goes p e below (FinN s kc ks Q) T (mkF m pc ls []) :=
  gRet0 X hx hlk (fun _ => rfl) hk hs hq fun fs hr => X.returnOut hx hret hd hr
theorem gRetN (X : Stand p l e R s m args below meth c T locs cells slots) (hx : p.tables.exec = Jvm.exec) (hlk : meth.locks = false) {t : FieldType} (hret : meth.sig.returnType = some t) (ht : t = .boolean ∨ t = .byte ∨ t = .char ∨ t = .short) {z w : Int32} (hd : decode c.code pc = .ok (.ireturn, 1)) (hw : nar t z = w) (hk : cells ≤ kc) (hs : slots ≤ ks) (hq : Q (some (.int w)) T.heap locs) : Goes p e below (FinN s kc ks Q) T (mkF m pc ls (.int z :: st)) := by
  subst hw
  exact gRet0 X hx hlk (fun h => by rw [hret] at h; cases h) hk hs hq fun fs hr => retN X hx hret ht hd hr
theorem gRetI (X : Stand p l e R s m args below meth c T locs cells slots) (hx : p.tables.exec = Jvm.exec) (hlk : meth.locks = false) (hret : meth.sig.returnType = some .int) {z : Int32} (hd : decode c.code pc = .ok (.ireturn, 1)) (hk : cells ≤ kc) (hs : slots ≤ ks) (hq : Q (some (.int z)) T.heap locs) : Goes p e below (FinN s kc ks Q) T (mkF m pc ls (.int z :: st)) :=
  gRet0 X hx hlk (fun h => by rw [hret] at h; cases h) hk hs hq fun fs hr => retOut X hx hret rfl (Or.inl ⟨rfl, Or.inl rfl, z, rfl⟩) hd hr
theorem gRetJ (X : Stand p l e R s m args below meth c T locs cells slots) (hx : p.tables.exec = Jvm.exec) (hlk : meth.locks = false) (hret : meth.sig.returnType = some .long) {z : Int64} (hd : decode c.code pc = .ok (.lreturn, 1)) (hk : cells ≤ kc) (hs : slots ≤ ks) (hq : Q (some (.long z)) T.heap locs) : Goes p e below (FinN s kc ks Q) T (mkF m pc ls (.long z :: st)) :=
  gRet0 X hx hlk (fun h => by rw [hret] at h; cases h) hk hs hq fun fs hr => retOut X hx hret rfl (Or.inr (Or.inl ⟨rfl, rfl, z, rfl⟩)) hd hr
theorem gRetA (X : Stand p l e R s m args below meth c T locs cells slots) (hx : p.tables.exec = Jvm.exec) (hlk : meth.locks = false) {t : FieldType} (hret : meth.sig.returnType = some t) (ht : t.isReference = true) {v : Value} (hv : v.isRef = true) (hd : decode c.code pc = .ok (.areturn, 1)) (hk : cells ≤ kc) (hs : slots ≤ ks) (hq : Q (some v) T.heap locs) : Goes p e below (FinN s kc ks Q) T (mkF m pc ls (v :: st)) :=
  gRet0 X hx hlk (fun h => by rw [hret] at h; cases h) hk hs hq fun fs hr => retOut X hx hret (by cases t <;> first | rfl | cases ht) (Or.inr (Or.inr (Or.inr (Or.inr ⟨rfl, ht, hv⟩)))) hd hr
theorem gGetS (X : Stand p l e R s m args below meth c T locs cells slots) (hx : p.tables.exec = Jvm.exec) (hZ : Z.Warmed39 s.vm) {own R0 O n d : String} {i : Nat} (hown : s.vm.findClass own = some m.cls) (w : (Jvm.Cond.fieldLink own i R0 n d).before a0 Z = true) (via : Via Z R0 O n d) (eT : T.heap = h) {v : Value} (Fa : Sta Z h O n d v) (hd : decode c.code pc = .ok (.getstatic i, 3)) (hp : pc + 3 = pc')
    (k : ∀ T', Stand p l e R s m args below meth c T' locs cells slots → T'.heap = h → Goes p e below F T' (mkF m pc' ls (v :: st))) : Goes p e below F T (mkF m pc ls st) := by
  subst hp
  obtain ⟨T', X', e', st'⟩ := getS X hx hZ (host := "") hown w via eT Fa (g := mkF m pc ls st) rfl hd
  exact Goes.fore st' (k T' X' e')
theorem gGetF (X : Stand p l e R s m args below meth c T locs cells slots) (hx : p.tables.exec = Jvm.exec) (hZ : Z.Warmed39 s.vm) {own R0 O n d : String} {i : Nat} (hown : s.vm.findClass own = some m.cls) (w : (Jvm.Cond.fieldLink own i R0 n d).before a0 Z = true) (via : Via Z R0 O n d) (eT : T.heap = h) {a : Addr} {v : Value} (Fa : Fld Z h a O n d v) (hd : decode c.code pc = .ok (.getfield i, 3)) (hp : pc + 3 = pc')
    (k : ∀ T', Stand p l e R s m args below meth c T' locs cells slots → T'.heap = h → Goes p e below F T' (mkF m pc' ls (v :: st))) : Goes p e below F T (mkF m pc ls (.ref a :: st)) := by
  subst hp
  obtain ⟨T', X', e', st'⟩ := getF X hx hZ (host := "") hown (Or.inl w) via eT Fa (g := mkF m pc ls (.ref a :: st)) rfl rfl hd
  exact Goes.fore st' (k T' X' e')
theorem gCallS (X : Stand p l e R s m args below meth c T locs cells slots) (hx : p.tables.exec = Jvm.exec) (hZ : Z.Warmed39 s.vm) {y : MethodName} {bytes : ByteArray} {maxL : Nat} {ret : Option FieldType} {rm : Room} {own : String} {i : Nat} {Qc : Option Value → Heap → List Loc → Prop} (hown : s.vm.findClass own = some m.cls) (eT : T.heap = h) (hml : ls.size = c.maxLocals)
    (w1 : (Jvm.Cond.methodLink own i y).before a0 Z = true) (w2 : (Jvm.Cond.static y).before a0 Z = true) (w3 : (Jvm.Cond.initialized y.cls).before a0 Z = true) (w4 : (Jvm.Cond.code y bytes maxL ret).before a0 Z = true) (hy : y.cls ≠ "java/lang/invoke/MethodHandle" ∧ y.cls ≠ "java/lang/invoke/VarHandle")
    {argsL : List Value} {stk : List Value} (hC : Ctr l Z y bytes maxL ret [] rm argsL.toArray h Qc) (hlen : ∀ sig, parseMethodDescriptor y.desc = some sig → argsL.length = sig.parameters.length) (hd : decode c.code pc = .ok (.invokestatic i, 3)) (hp : pc + 3 = pc') (hst : stk = argsL.reverse ++ st)
    (hf : rm.frames + 1 ≤ R.frames) {W : Nat} (hW : (st.map fun v => v.category).sum ≤ W) (hlo : W + (maxL + 11) + rm.locals ≤ R.locals) (hce : cells + rm.cells ≤ R.cells) (hsl : slots + rm.slots ≤ R.slots)
    (k : ∀ T' v L, Stand p l e R s m args below meth c T' (locs ++ L) (cells + rm.cells) (slots + rm.slots) → Qc v T'.heap L → Goes p e below F T' (mkF m pc' ls (v.toList ++ st))) : Goes p e below F T (mkF m pc ls stk) := by
  subst hp hst
  obtain ⟨v, _, ⟨T', L', k', n'⟩, -, X', ⟨Lc, hQ, l1, y1, z1⟩, st'⟩ := Jvm.LawKit.callS X hx (y := y) hown (mvT hZ w1) (mvT hZ w2) (mvT hZ w3) (mvT hZ w4) hy (backOf (W := W) hC hZ w4 w3 hf hlo) (g := mkF m pc ls (argsL.reverse ++ st)) rfl hml (argsL := argsL) (rest := st) hlen rfl (by show 2 * 0 + _ ≤ _; omega) hd (fun _ _ => ⟨rfl, eT, hce, hsl⟩)
  dsimp only [Pt.U, Pt.locs, Pt.cells, Pt.slots] at X' l1 y1 z1 st' hQ
  subst l1 y1 z1
  exact Goes.fore st' (k T' v Lc X' hQ)
theorem gCallSJ (X : Stand p l e R s m args below meth c T locs cells slots) (hx : p.tables.exec = Jvm.exec) (hZ : Z.Warmed39 s.vm) {y : MethodName} {bytes : ByteArray} {maxL : Nat} {ret : Option FieldType} {rm : Room} {own : String} {i : Nat} {w : Value} (hown : s.vm.findClass own = some m.cls) (eT : T.heap = h) (hml : ls.size = c.maxLocals)
    (w1 : (Jvm.Cond.methodLink own i y).before a0 Z = true) (w2 : (Jvm.Cond.static y).before a0 Z = true) (w3 : (Jvm.Cond.initialized y.cls).before a0 Z = true) (w4 : (Jvm.Cond.code y bytes maxL ret).before a0 Z = true) (hy : y.cls ≠ "java/lang/invoke/MethodHandle" ∧ y.cls ≠ "java/lang/invoke/VarHandle")
    {argsL : List Value} {stk : List Value} (hC : Ctr l Z y bytes maxL ret [] rm argsL.toArray h (Just h w)) (hlen : ∀ sig, parseMethodDescriptor y.desc = some sig → argsL.length = sig.parameters.length) (hd : decode c.code pc = .ok (.invokestatic i, 3)) (hp : pc + 3 = pc') (hst : stk = argsL.reverse ++ st)
    (h0c : rm.cells = 0) (h0s : rm.slots = 0) (hf : rm.frames + 1 ≤ R.frames) {W : Nat} (hW : (st.map fun v => v.category).sum ≤ W) (hlo : W + (maxL + 11) + rm.locals ≤ R.locals) (hce : cells + rm.cells ≤ R.cells) (hsl : slots + rm.slots ≤ R.slots)
    (k : ∀ T', Stand p l e R s m args below meth c T' locs cells slots → T'.heap = h → Goes p e below F T' (mkF m pc' ls (w :: st))) : Goes p e below F T (mkF m pc ls stk) := by
  refine gCallS X hx hZ hown eT hml w1 w2 w3 w4 hy hC hlen hd hp hst hf hW hlo hce hsl ?_
  rintro T' v L X' ⟨rfl, e', rfl⟩
  rw [List.append_nil, h0c, h0s] at X'
  exact k T' X' e'
theorem gCallV (X : Stand p l e R s m args below meth c T locs cells slots) (hx : p.tables.exec = Jvm.exec) (hZ : Z.Warmed39 s.vm) {y : MethodName} {bytes : ByteArray} {maxL : Nat} {ret : Option FieldType} {rm : Room} {own : String} {i : Nat} {Qc : Option Value → Heap → List Loc → Prop} {C : String} {a : Addr} (hown : s.vm.findClass own = some m.cls) (eT : T.heap = h) (hml : ls.size = c.maxLocals) (E : Exa Z h a C)
    (w1 : (Jvm.Cond.methodLink own i y).before a0 Z = true) (w2 : (Jvm.Cond.declares y).before a0 Z = true) (w5 : (Jvm.Cond.selects C y y).before a0 Z = true) (w6 : (Jvm.Cond.instanceMethod y).before a0 Z = true) (w3 : (Jvm.Cond.initialized y.cls).before a0 Z = true) (w4 : (Jvm.Cond.code y bytes maxL ret).before a0 Z = true) (hy : y.cls ≠ "java/lang/invoke/MethodHandle" ∧ y.cls ≠ "java/lang/invoke/VarHandle")
    {argsL : List Value} {stk : List Value} (hC : Ctr l Z y bytes maxL ret [] rm (.ref a :: argsL).toArray h Qc) (hlen : ∀ sig, parseMethodDescriptor y.desc = some sig → argsL.length = sig.parameters.length) (hd : decode c.code pc = .ok (.invokevirtual i, 3)) (hp : pc + 3 = pc') (hst : stk = argsL.reverse ++ .ref a :: st)
    (hf : rm.frames + 1 ≤ R.frames) {W : Nat} (hW : (st.map fun v => v.category).sum ≤ W) (hlo : W + (maxL + 11) + rm.locals ≤ R.locals) (hce : cells + rm.cells ≤ R.cells) (hsl : slots + rm.slots ≤ R.slots)
    (k : ∀ T' v L, Stand p l e R s m args below meth c T' (locs ++ L) (cells + rm.cells) (slots + rm.slots) → Qc v T'.heap L → Goes p e below F T' (mkF m pc' ls (v.toList ++ st))) : Goes p e below F T (mkF m pc ls stk) := by
  subst hp hst
  obtain ⟨cq, kq, qa, qb, qc⟩ := isOf hZ eT E
  obtain ⟨v, _, ⟨T', L', k', n'⟩, -, X', ⟨Lc, hQ, l1, y1, z1⟩, st'⟩ := X.virtualBack hx (y := y) (z := y) hown (mvT hZ w1) (mvT hZ w2) (notFace_of_selects (args := #[]) (mvT hZ w5)) (mvT hZ w5) (mvT hZ w6) hy (backOf (W := W) hC hZ w4 w3 hf hlo) qa qc (g := mkF m pc ls (argsL.reverse ++ .ref a :: st)) rfl hml (Steps.refl _) (argsL := argsL) (rest := st) hlen rfl (by show 2 * 0 + _ ≤ _; omega) hd (fun _ _ => ⟨rfl, eT, hce, hsl⟩)
  dsimp only [Pt.U, Pt.locs, Pt.cells, Pt.slots] at X' l1 y1 z1 st' hQ
  subst l1 y1 z1
  exact Goes.tr st' (k T' v Lc X' hQ)
theorem gCallVJ (X : Stand p l e R s m args below meth c T locs cells slots) (hx : p.tables.exec = Jvm.exec) (hZ : Z.Warmed39 s.vm) {y : MethodName} {bytes : ByteArray} {maxL : Nat} {ret : Option FieldType} {rm : Room} {own : String} {i : Nat} {w : Value} {C : String} {a : Addr} (hown : s.vm.findClass own = some m.cls) (eT : T.heap = h) (hml : ls.size = c.maxLocals) (E : Exa Z h a C)
    (w1 : (Jvm.Cond.methodLink own i y).before a0 Z = true) (w2 : (Jvm.Cond.declares y).before a0 Z = true) (w5 : (Jvm.Cond.selects C y y).before a0 Z = true) (w6 : (Jvm.Cond.instanceMethod y).before a0 Z = true) (w3 : (Jvm.Cond.initialized y.cls).before a0 Z = true) (w4 : (Jvm.Cond.code y bytes maxL ret).before a0 Z = true) (hy : y.cls ≠ "java/lang/invoke/MethodHandle" ∧ y.cls ≠ "java/lang/invoke/VarHandle")
    {argsL : List Value} {stk : List Value} (hC : Ctr l Z y bytes maxL ret [] rm (.ref a :: argsL).toArray h (Just h w)) (hlen : ∀ sig, parseMethodDescriptor y.desc = some sig → argsL.length = sig.parameters.length) (hd : decode c.code pc = .ok (.invokevirtual i, 3)) (hp : pc + 3 = pc') (hst : stk = argsL.reverse ++ .ref a :: st)
    (h0c : rm.cells = 0) (h0s : rm.slots = 0) (hf : rm.frames + 1 ≤ R.frames) {W : Nat} (hW : (st.map fun v => v.category).sum ≤ W) (hlo : W + (maxL + 11) + rm.locals ≤ R.locals) (hce : cells + rm.cells ≤ R.cells) (hsl : slots + rm.slots ≤ R.slots)
    (k : ∀ T', Stand p l e R s m args below meth c T' locs cells slots → T'.heap = h → Goes p e below F T' (mkF m pc' ls (w :: st))) : Goes p e below F T (mkF m pc ls stk) := by
  refine gCallV X hx hZ hown eT hml E w1 w2 w5 w6 w3 w4 hy hC hlen hd hp hst hf hW hlo hce hsl ?_
  rintro T' v L X' ⟨rfl, e', rfl⟩
  rw [List.append_nil, h0c, h0s] at X'
  exact k T' X' e'
theorem gLIfEq (X : Stand p l e R s m args below meth c T locs cells slots) (hx : p.tables.exec = Jvm.exec) {o : Int} {x y : Int64} {pn : Nat} (hd : decode c.code pc = .ok (.ifCond .eq o, 3)) (ho : 0 ≤ (pc : Int) + o) (hp : ((pc : Int) + o).toNat = pc') (hn : pc + 3 = pn) (kY : x = y → Goes p e below F T (mkF m pc' ls st)) (kN : ¬ x = y → Goes p e below F T (mkF m pn ls st)) : Goes p e below F T (mkF m pc ls (.int (lcmpW x y) :: st)) := by
  have z := lw_eq x y
  refine gIf X hx hd ho hp hn (fun q => kY ?_) (fun q => kN ?_) <;> simp only [ifCond.holds, decide_eq_true_eq, decide_eq_false_iff_not, beq_iff_eq, bne_iff_ne, Int32.not_lt, Int32.not_le, Int32.lt_iff_toInt_lt, Int32.le_iff_toInt_le, Int64.lt_iff_toInt_lt, ← Int32.toInt_inj, beq_eq_false_iff_ne, bne_eq_false_iff_eq, ne_eq] at q z ⊢ <;> first | exact z.mp q | exact fun k => q (z.mpr k) | omega
theorem gLIfNe (X : Stand p l e R s m args below meth c T locs cells slots) (hx : p.tables.exec = Jvm.exec) {o : Int} {x y : Int64} {pn : Nat} (hd : decode c.code pc = .ok (.ifCond .ne o, 3)) (ho : 0 ≤ (pc : Int) + o) (hp : ((pc : Int) + o).toNat = pc') (hn : pc + 3 = pn) (kY : ¬ x = y → Goes p e below F T (mkF m pc' ls st)) (kN : x = y → Goes p e below F T (mkF m pn ls st)) : Goes p e below F T (mkF m pc ls (.int (lcmpW x y) :: st)) := by
  have z := lw_eq x y
  refine gIf X hx hd ho hp hn (fun q => kY ?_) (fun q => kN ?_) <;> simp only [ifCond.holds, decide_eq_true_eq, decide_eq_false_iff_not, beq_iff_eq, bne_iff_ne, Int32.not_lt, Int32.not_le, Int32.lt_iff_toInt_lt, Int32.le_iff_toInt_le, Int64.lt_iff_toInt_lt, ← Int32.toInt_inj, beq_eq_false_iff_ne, bne_eq_false_iff_eq, ne_eq] at q z ⊢ <;> first | exact z.mp q | exact fun k => q (z.mpr k) | omega
theorem gLIfLt (X : Stand p l e R s m args below meth c T locs cells slots) (hx : p.tables.exec = Jvm.exec) {o : Int} {x y : Int64} {pn : Nat} (hd : decode c.code pc = .ok (.ifCond .lt o, 3)) (ho : 0 ≤ (pc : Int) + o) (hp : ((pc : Int) + o).toNat = pc') (hn : pc + 3 = pn) (kY : x.toInt < y.toInt → Goes p e below F T (mkF m pc' ls st)) (kN : y.toInt ≤ x.toInt → Goes p e below F T (mkF m pn ls st)) : Goes p e below F T (mkF m pc ls (.int (lcmpW x y) :: st)) := by
  have z := lw_lt x y
  refine gIf X hx hd ho hp hn (fun q => kY ?_) (fun q => kN ?_) <;> simp only [ifCond.holds, decide_eq_true_eq, decide_eq_false_iff_not, beq_iff_eq, bne_iff_ne, Int32.not_lt, Int32.not_le, Int32.lt_iff_toInt_lt, Int32.le_iff_toInt_le, Int64.lt_iff_toInt_lt, ← Int32.toInt_inj, beq_eq_false_iff_ne, bne_eq_false_iff_eq, ne_eq] at q z ⊢ <;> first | exact z.mp q | exact fun k => q (z.mpr k) | omega
theorem gLIfGe (X : Stand p l e R s m args below meth c T locs cells slots) (hx : p.tables.exec = Jvm.exec) {o : Int} {x y : Int64} {pn : Nat} (hd : decode c.code pc = .ok (.ifCond .ge o, 3)) (ho : 0 ≤ (pc : Int) + o) (hp : ((pc : Int) + o).toNat = pc') (hn : pc + 3 = pn) (kY : y.toInt ≤ x.toInt → Goes p e below F T (mkF m pc' ls st)) (kN : x.toInt < y.toInt → Goes p e below F T (mkF m pn ls st)) : Goes p e below F T (mkF m pc ls (.int (lcmpW x y) :: st)) := by
  have z := lw_lt x y
  refine gIf X hx hd ho hp hn (fun q => kY ?_) (fun q => kN ?_) <;> simp only [ifCond.holds, decide_eq_true_eq, decide_eq_false_iff_not, beq_iff_eq, bne_iff_ne, Int32.not_lt, Int32.not_le, Int32.lt_iff_toInt_lt, Int32.le_iff_toInt_le, Int64.lt_iff_toInt_lt, ← Int32.toInt_inj, beq_eq_false_iff_ne, bne_eq_false_iff_eq, ne_eq] at q z ⊢ <;> first | exact z.mp q | exact fun k => q (z.mpr k) | omega
theorem gLIfGt (X : Stand p l e R s m args below meth c T locs cells slots) (hx : p.tables.exec = Jvm.exec) {o : Int} {x y : Int64} {pn : Nat} (hd : decode c.code pc = .ok (.ifCond .gt o, 3)) (ho : 0 ≤ (pc : Int) + o) (hp : ((pc : Int) + o).toNat = pc') (hn : pc + 3 = pn) (kY : y.toInt < x.toInt → Goes p e below F T (mkF m pc' ls st)) (kN : x.toInt ≤ y.toInt → Goes p e below F T (mkF m pn ls st)) : Goes p e below F T (mkF m pc ls (.int (lcmpW x y) :: st)) := by
  have z := lw_gt x y
  refine gIf X hx hd ho hp hn (fun q => kY ?_) (fun q => kN ?_) <;> simp only [ifCond.holds, decide_eq_true_eq, decide_eq_false_iff_not, beq_iff_eq, bne_iff_ne, Int32.not_lt, Int32.not_le, Int32.lt_iff_toInt_lt, Int32.le_iff_toInt_le, Int64.lt_iff_toInt_lt, ← Int32.toInt_inj, beq_eq_false_iff_ne, bne_eq_false_iff_eq, ne_eq] at q z ⊢ <;> first | exact z.mp q | exact fun k => q (z.mpr k) | omega
theorem gLIfLe (X : Stand p l e R s m args below meth c T locs cells slots) (hx : p.tables.exec = Jvm.exec) {o : Int} {x y : Int64} {pn : Nat} (hd : decode c.code pc = .ok (.ifCond .le o, 3)) (ho : 0 ≤ (pc : Int) + o) (hp : ((pc : Int) + o).toNat = pc') (hn : pc + 3 = pn) (kY : x.toInt ≤ y.toInt → Goes p e below F T (mkF m pc' ls st)) (kN : y.toInt < x.toInt → Goes p e below F T (mkF m pn ls st)) : Goes p e below F T (mkF m pc ls (.int (lcmpW x y) :: st)) := by
  have z := lw_gt x y
  refine gIf X hx hd ho hp hn (fun q => kY ?_) (fun q => kN ?_) <;> simp only [ifCond.holds, decide_eq_true_eq, decide_eq_false_iff_not, beq_iff_eq, bne_iff_ne, Int32.not_lt, Int32.not_le, Int32.lt_iff_toInt_lt, Int32.le_iff_toInt_le, Int64.lt_iff_toInt_lt, ← Int32.toInt_inj, beq_eq_false_iff_ne, bne_eq_false_iff_eq, ne_eq] at q z ⊢ <;> first | exact z.mp q | exact fun k => q (z.mpr k) | omega
theorem gNew (X : Stand p l e R s m args below meth c T locs cells slots) (hx : p.tables.exec = Jvm.exec) (hZ : Z.Warmed39 s.vm) {own C : String} {i n : Nat} (hown : s.vm.findClass own = some m.cls) (w : (Jvm.Cond.classLink own i C).before a0 Z = true) (wi : (Jvm.Cond.instantiable C n).before a0 Z = true) (wz : (Jvm.Cond.initialized C).before a0 Z = true) (eT : T.heap = h) (hd : decode c.code pc = .ok (.new i, 3)) (hp : pc + 3 = pc') (hc : cells + 1 ≤ R.cells) (hl : slots + n ≤ R.slots)
    (k : ∀ T' h' b, Stand p l e R s m args below meth c T' locs (cells + 1) (slots + n) → T'.heap = h' → b = h.size → Ext h h' → Exa Z h' b C → (∀ {O nm d : String} {ty : FieldType}, Laid Z a0 C O nm d → parseFieldDescriptor d = some ty → Fld Z h' b O nm d (defaultValue ty)) → Goes p e below F T' (mkF m pc' ls (.ref b :: st))) : Goes p e below F T (mkF m pc ls st) := by
  subst hp
  obtain ⟨T', h', X', e', E, A, D, -, st'⟩ := newO X hx hZ hown w wi wz eT (g := mkF m pc ls st) rfl hd hc hl
  exact Goes.fore st' (k T' h' _ X' e' rfl E A D)
theorem gPutF (X : Stand p l e R s m args below meth c T locs cells slots) (hx : p.tables.exec = Jvm.exec) (hZ : Z.Warmed39 s.vm) {own R0 O n d C : String} {i kk : Nat} {ty : FieldType} (hown : s.vm.findClass own = some m.cls) (w : (Jvm.Cond.fieldLink own i R0 n d).before a0 Z = true) (via : Via Z R0 O n d) (eT : T.heap = h) {a : Addr} {v old : Value} (Fa : Fld Z h a O n d old) (E : Exa Z h a C) (L : (Jvm.Cond.lays C O n d).before a0 Z = true ∨ ((Jvm.Cond.laysFinal C O n d).before a0 Z = true ∧ own = O ∧ meth.name = "<init>")) (wi : (Jvm.Cond.instantiable C kk).before a0 Z = true)
    (hty : parseFieldDescriptor d = some ty) (hn : narrow ty v = v) (hf : fits ty v = true) (hd : decode c.code pc = .ok (.putfield i, 3)) (hp : pc + 3 = pc')
    (k : ∀ T' h', Stand p l e R s m args below meth c T' (locs ++ [⟨a, RoadKit.slotOf Z O n d⟩]) cells slots → T'.heap = h' → Wr h h' a (RoadKit.slotOf Z O n d) v → Goes p e below F T' (mkF m pc' ls st)) : Goes p e below F T (mkF m pc ls (v :: .ref a :: st)) := by
  subst hp
  obtain ⟨T', h', X', e', W, st'⟩ := putF X hx hZ (host := "") hown (Or.inl w) via eT Fa E L wi hty hn hf (g := mkF m pc ls (v :: .ref a :: st)) rfl rfl hd
  exact Goes.fore st' (k T' h' X' e' W)
theorem gInitO (X : Stand p l e R s m args below meth c T locs cells slots) (hx : p.tables.exec = Jvm.exec) (hZ : Z.Warmed39 s.vm) {own : String} {i : Nat} (hown : s.vm.findClass own = some m.cls) (w1 : (Jvm.Cond.methodLink own i Lib.objectInit).before a0 Z = true) (w2 : (Jvm.Cond.instanceMethod Lib.objectInit).before a0 Z = true) (w3 : (Jvm.Cond.code Lib.objectInit ⟨#[0xb1]⟩ 1 none).before a0 Z = true) (eT : T.heap = h) (hml : ls.size = c.maxLocals) {a : Addr} (hd : decode c.code pc = .ok (.invokespecial i, 3)) (hp : pc + 3 = pc') (hf : 1 ≤ R.frames) {W : Nat} (hW : (st.map fun v => v.category).sum ≤ W) (hl : W + 12 ≤ R.locals)
    (k : ∀ T', Stand p l e R s m args below meth c T' locs cells slots → T'.heap = h → Goes p e below F T' (mkF m pc' ls st)) : Goes p e below F T (mkF m pc ls (.ref a :: st)) := by
  subst hp
  obtain ⟨T', X', e', st'⟩ := initO X hx hZ hown w1 w2 w3 eT (g := mkF m pc ls (.ref a :: st)) rfl hml rfl hd hf (W := W) (by show 2 * 0 + _ ≤ _; omega) hl
  exact Goes.fore st' (k T' X' e')
theorem gCallI (X : Stand p l e R s m args below meth c T locs cells slots) (hx : p.tables.exec = Jvm.exec) (hZ : Z.Warmed39 s.vm) {y : MethodName} {bytes : ByteArray} {maxL : Nat} {rm : Room} {own : String} {i : Nat} {Qc : Option Value → Heap → List Loc → Prop} {a : Addr} (hy1 : y.name = "<init>") (hown : s.vm.findClass own = some m.cls) (eT : T.heap = h) (hml : ls.size = c.maxLocals)
    (w1 : (Jvm.Cond.methodLink own i y).before a0 Z = true) (w2 : (Jvm.Cond.instanceMethod y).before a0 Z = true) (w3 : (Jvm.Cond.initialized y.cls).before a0 Z = true) (w4 : (Jvm.Cond.code y bytes maxL none).before a0 Z = true) (hy : y.cls ≠ "java/lang/invoke/MethodHandle" ∧ y.cls ≠ "java/lang/invoke/VarHandle")
    {argsL : List Value} {stk : List Value} (hC : Ctr l Z y bytes maxL none [] rm (.ref a :: argsL).toArray h Qc) (hlen : ∀ sig, parseMethodDescriptor y.desc = some sig → argsL.length = sig.parameters.length) (hd : decode c.code pc = .ok (.invokespecial i, 3)) (hp : pc + 3 = pc') (hst : stk = argsL.reverse ++ .ref a :: st)
    (hf : rm.frames + 1 ≤ R.frames) {W : Nat} (hW : (st.map fun v => v.category).sum ≤ W) (hlo : W + (maxL + 11) + rm.locals ≤ R.locals) (hce : cells + rm.cells ≤ R.cells) (hsl : slots + rm.slots ≤ R.slots)
    (k : ∀ T' v L, Stand p l e R s m args below meth c T' (locs ++ L) (cells + rm.cells) (slots + rm.slots) → Qc v T'.heap L → Goes p e below F T' (mkF m pc' ls (v.toList ++ st))) : Goes p e below F T (mkF m pc ls stk) := by
  subst hp hst
  obtain ⟨v, _, ⟨T', L', k', n'⟩, -, X', ⟨Lc, hQ, l1, y1, z1⟩, st'⟩ := X.specialBack hx (y := y) hy1 hown (mvT hZ w1) (mvT hZ w2) (mvT hZ w4) hy (backOf (W := W) hC hZ w4 w3 hf hlo) (g := mkF m pc ls (argsL.reverse ++ .ref a :: st)) rfl hml (Steps.refl _) (a := a) (argsL := argsL) (rest := st) hlen rfl (by show 2 * 0 + _ ≤ _; omega) hd (fun _ _ => ⟨rfl, eT, hce, hsl⟩)
  dsimp only [Pt.U, Pt.locs, Pt.cells, Pt.slots] at X' l1 y1 z1 st' hQ
  subst l1 y1 z1
  exact Goes.tr st' (k T' v Lc X' hQ)
end OwnLayer
theorem ow {Z : State} {a0 : Array Value} (hw : ∀ d ∈ tables_1, d.before a0 Z = true) (i : Nat) {d : Jvm.Cond} (h : tables_1[i]? = some d) : d.before a0 Z = true := hw _ (List.mem_of_getElem? h)
set_option maxRecDepth 65536
set_option maxHeartbeats 40000000
/-- a boolean as the machine holds it -/
def b2i (b : Bool) : Int32 := if b then 1 else 0
theorem b2_t {P : Prop} [Decidable P] (h : P) : b2i (decide P) = 1 := by simp [b2i, h]
theorem b2_f {P : Prop} [Decidable P] (h : ¬ P) : b2i (decide P) = 0 := by simp [b2i, h]
theorem b2_0 {b : Bool} : b2i b = 0 ↔ b = false := by cases b <;> simp [b2i]
theorem b2_n0 {b : Bool} : ¬ b2i b = 0 ↔ b = true := by cases b <;> simp [b2i]
theorem b2_inj {a b : Bool} : b2i a = b2i b ↔ a = b := by cases a <;> cases b <;> simp [b2i]
theorem b2_nar {b : Bool} : nar .boolean (b2i b) = b2i b := by cases b <;> rfl
theorem just_t {h0 h : Heap} {P : Prop} [Decidable P] (q : P) (e : h = h0) : Just h0 (.int (b2i (decide P))) (some (.int 1)) h [] := ⟨by rw [b2_t q], e, rfl⟩
theorem just_f {h0 h : Heap} {P : Prop} [Decidable P] (q : ¬ P) (e : h = h0) : Just h0 (.int (b2i (decide P))) (some (.int 0)) h [] := ⟨by rw [b2_f q], e, rfl⟩
/-- the law returns 1; what it wrote is new -/
def Law1 (h0 : Heap) (v : Option Value) (h : Heap) (L : List Loc) : Prop := v = some (.int 1) ∧ Fr h0.size L
section OwnArrays
variable {p : Program} {l : Launch} {e : Env} {R : Room} {s : State} {m : MethodId} {args : Array Value} {below : List Frame} {meth : Method} {c : Code} {T : State} {locs : List Loc} {cells slots : Nat}
variable {F : State → Outcome → Prop} {pc pc' : Nat} {ls : Array Slot} {st : List Value} {Z : State} {a0 : Array Value} {h : Heap} {a : Addr} {ck : ClassId} {n j : Int32} {vs : List Value} {dv : Value}
theorem gIaload (X : Stand p l e R s m args below meth c T locs cells slots) (hx : p.tables.exec = Jvm.exec) (hZ : Z.Warmed39 s.vm) (eT : T.heap = h) {v : Value} (A : Arv Z h a ck .int n vs dv) (h0 : ¬ j < 0) (h1 : j < n) (hv : vs.getD j.toNatClampNeg dv = v) (hd : decode c.code pc = .ok (.iaload, 1)) (hp : pc + 1 = pc') (k : Goes p e below F T (mkF m pc' ls (v :: st))) : Goes p e below F T (mkF m pc ls (.int j :: .ref a :: st)) := by
  subst hp
  obtain ⟨cl, Ar, q, S, N, H, _⟩ := A
  have hin := inb_of S ⟨h0, h1⟩
  exact Goes.fore (fun t q => X.iaload hx (j := j) (v := v) (by rw [eT]; exact Ar.1) (State.isArrayOf_alike hZ.alike Ar.2.1) Ar.2.2 hin (Has.at H hin hv) (g := mkF m pc ls (.int j :: .ref a :: st)) rfl rfl hd t q) k
theorem gCaload (X : Stand p l e R s m args below meth c T locs cells slots) (hx : p.tables.exec = Jvm.exec) (hZ : Z.Warmed39 s.vm) (eT : T.heap = h) {v : Value} (A : Arv Z h a ck .char n vs dv) (h0 : ¬ j < 0) (h1 : j < n) (hv : vs.getD j.toNatClampNeg dv = v) (hd : decode c.code pc = .ok (.caload, 1)) (hp : pc + 1 = pc') (k : Goes p e below F T (mkF m pc' ls (v :: st))) : Goes p e below F T (mkF m pc ls (.int j :: .ref a :: st)) := by
  subst hp
  obtain ⟨cl, Ar, q, S, N, H, _⟩ := A
  have hin := inb_of S ⟨h0, h1⟩
  exact Goes.fore (fun t q => X.caload hx (j := j) (v := v) (by rw [eT]; exact Ar.1) (State.isArrayOf_alike hZ.alike Ar.2.1) Ar.2.2 hin (Has.at H hin hv) (g := mkF m pc ls (.int j :: .ref a :: st)) rfl rfl hd t q) k
theorem gLaload (X : Stand p l e R s m args below meth c T locs cells slots) (hx : p.tables.exec = Jvm.exec) (hZ : Z.Warmed39 s.vm) (eT : T.heap = h) {v : Value} (A : Arv Z h a ck .long n vs dv) (h0 : ¬ j < 0) (h1 : j < n) (hv : vs.getD j.toNatClampNeg dv = v) (hd : decode c.code pc = .ok (.laload, 1)) (hp : pc + 1 = pc') (k : Goes p e below F T (mkF m pc' ls (v :: st))) : Goes p e below F T (mkF m pc ls (.int j :: .ref a :: st)) := by
  subst hp
  obtain ⟨cl, Ar, q, S, N, H, _⟩ := A
  have hin := inb_of S ⟨h0, h1⟩
  exact Goes.fore (fun t q => X.laload hx (j := j) (v := v) (by rw [eT]; exact Ar.1) (State.isArrayOf_alike hZ.alike Ar.2.1) Ar.2.2 hin (Has.at H hin hv) (g := mkF m pc ls (.int j :: .ref a :: st)) rfl rfl hd t q) k
theorem gBaload (X : Stand p l e R s m args below meth c T locs cells slots) (hx : p.tables.exec = Jvm.exec) (hZ : Z.Warmed39 s.vm) (eT : T.heap = h) {v : Value} (A : Arv Z h a ck .byte n vs dv) (h0 : ¬ j < 0) (h1 : j < n) (hv : vs.getD j.toNatClampNeg dv = v) (hd : decode c.code pc = .ok (.baload, 1)) (hp : pc + 1 = pc') (k : Goes p e below F T (mkF m pc' ls (v :: st))) : Goes p e below F T (mkF m pc ls (.int j :: .ref a :: st)) := by
  subst hp
  obtain ⟨cl, Ar, q, S, N, H, _⟩ := A
  have hin := inb_of S ⟨h0, h1⟩
  exact Goes.fore (fun t q => X.baloadBytes hx (j := j) (v := v) (by rw [eT]; exact Ar.1) (State.isArrayOf_alike hZ.alike Ar.2.1) Ar.2.2 hin (Has.at H hin hv) (g := mkF m pc ls (.int j :: .ref a :: st)) rfl rfl hd t q) k
theorem gAaload (X : Stand p l e R s m args below meth c T locs cells slots) (hx : p.tables.exec = Jvm.exec) (hZ : Z.Warmed39 s.vm) (eT : T.heap = h) {v : Value} {ty : FieldType} (hty : ty.isReference = true) (A : Arv Z h a ck ty n vs dv) (h0 : ¬ j < 0) (h1 : j < n) (hv : vs.getD j.toNatClampNeg dv = v) (hd : decode c.code pc = .ok (.aaload, 1)) (hp : pc + 1 = pc') (k : Goes p e below F T (mkF m pc' ls (v :: st))) : Goes p e below F T (mkF m pc ls (.int j :: .ref a :: st)) := by
  subst hp
  obtain ⟨cl, Ar, q, S, N, H, _⟩ := A
  have hin := inb_of S ⟨h0, h1⟩
  exact Goes.fore (fun t q => X.aaload hx (j := j) (v := v) (by rw [eT]; exact Ar.1) (State.isArrayOf_alike hZ.alike Ar.2.1) hty Ar.2.2 hin (Has.at H hin hv) (g := mkF m pc ls (.int j :: .ref a :: st)) rfl rfl hd t q) k
theorem gArrLen (X : Stand p l e R s m args below meth c T locs cells slots) (hx : p.tables.exec = Jvm.exec) (hZ : Z.Warmed39 s.vm) (eT : T.heap = h) {ty : FieldType} (A : Arv Z h a ck ty n vs dv) (hd : decode c.code pc = .ok (.arraylength, 1)) (hp : pc + 1 = pc') (k : Goes p e below F T (mkF m pc' ls (.int n :: st))) : Goes p e below F T (mkF m pc ls (.ref a :: st)) := by
  subst hp
  obtain ⟨cl, Ar, q, S, N, H, _⟩ := A
  refine Goes.fore (fun t q => X.arraylength hx (by rw [eT]; exact Ar.1) (State.isArrayOf_alike hZ.alike Ar.2.1) (g := mkF m pc ls (.ref a :: st)) rfl rfl hd t q) ?_
  rw [len_of S N]; exact k
theorem gIastore (X : Stand p l e R s m args below meth c T locs cells slots) (hx : p.tables.exec = Jvm.exec) (hZ : Z.Warmed39 s.vm) (eT : T.heap = h) {x : Int32} (A : Arv Z h a ck .int n vs dv) (h0 : ¬ j < 0) (h1 : j < n) (i : Nat) (hj : j.toNatClampNeg = i) (hi : i < vs.length) (hd : decode c.code pc = .ok (.iastore, 1)) (hp : pc + 1 = pc')
    (k : ∀ T' h', Stand p l e R s m args below meth c T' (locs ++ [⟨a, j.toNatClampNeg⟩]) cells slots → T'.heap = h' → Wr h h' a j.toNatClampNeg (.int x) → Arv Z h' a ck .int n (vs.set i (.int x)) dv → Goes p e below F T' (mkF m pc' ls st)) : Goes p e below F T (mkF m pc ls (.int x :: .int j :: .ref a :: st)) := by
  subst hp
  obtain ⟨cl, Ar, q, S, N, H, Gt⟩ := A
  obtain ⟨T', h', X', e', W, st'⟩ := stI X hx hZ eT Ar (j := j) (inb_of S ⟨h0, h1⟩) (g := mkF m pc ls (.int x :: .int j :: .ref a :: st)) rfl rfl hd
  exact Goes.fore st' (k T' h' X' e' W (Arv.set Ar q S N H Gt rfl W i hj hi))
theorem gCastore (X : Stand p l e R s m args below meth c T locs cells slots) (hx : p.tables.exec = Jvm.exec) (hZ : Z.Warmed39 s.vm) (eT : T.heap = h) {x : Int32} (A : Arv Z h a ck .char n vs dv) (h0 : ¬ j < 0) (h1 : j < n) (i : Nat) (hj : j.toNatClampNeg = i) (hi : i < vs.length) (hd : decode c.code pc = .ok (.castore, 1)) (hp : pc + 1 = pc')
    (k : ∀ T' h', Stand p l e R s m args below meth c T' (locs ++ [⟨a, j.toNatClampNeg⟩]) cells slots → T'.heap = h' → Wr h h' a j.toNatClampNeg (.int (nar .char x)) → Arv Z h' a ck .char n (vs.set i (.int (nar .char x))) dv → Goes p e below F T' (mkF m pc' ls st)) : Goes p e below F T (mkF m pc ls (.int x :: .int j :: .ref a :: st)) := by
  subst hp
  obtain ⟨cl, Ar, q, S, N, H, Gt⟩ := A
  obtain ⟨T', h', X', e', W, st'⟩ := stC X hx hZ eT Ar (j := j) (inb_of S ⟨h0, h1⟩) (g := mkF m pc ls (.int x :: .int j :: .ref a :: st)) rfl rfl hd
  exact Goes.fore st' (k T' h' X' e' W (Arv.set Ar q S N H Gt (fits_nar_char _) W i hj hi))
theorem gBastore (X : Stand p l e R s m args below meth c T locs cells slots) (hx : p.tables.exec = Jvm.exec) (hZ : Z.Warmed39 s.vm) (eT : T.heap = h) {x : Int32} (A : Arv Z h a ck .byte n vs dv) (h0 : ¬ j < 0) (h1 : j < n) (i : Nat) (hj : j.toNatClampNeg = i) (hi : i < vs.length) (hd : decode c.code pc = .ok (.bastore, 1)) (hp : pc + 1 = pc')
    (k : ∀ T' h', Stand p l e R s m args below meth c T' (locs ++ [⟨a, j.toNatClampNeg⟩]) cells slots → T'.heap = h' → Wr h h' a j.toNatClampNeg (.int (nar .byte x)) → Arv Z h' a ck .byte n (vs.set i (.int (nar .byte x))) dv → Goes p e below F T' (mkF m pc' ls st)) : Goes p e below F T (mkF m pc ls (.int x :: .int j :: .ref a :: st)) := by
  subst hp
  obtain ⟨cl, Ar, q, S, N, H, Gt⟩ := A
  obtain ⟨T', h', X', e', W, st'⟩ := stB X hx hZ eT Ar (j := j) (inb_of S ⟨h0, h1⟩) (g := mkF m pc ls (.int x :: .int j :: .ref a :: st)) rfl rfl hd
  exact Goes.fore st' (k T' h' X' e' W (Arv.set Ar q S N H Gt (fits_nar_byte _) W i hj hi))
theorem gLastore (X : Stand p l e R s m args below meth c T locs cells slots) (hx : p.tables.exec = Jvm.exec) (hZ : Z.Warmed39 s.vm) (eT : T.heap = h) {x : Int64} (A : Arv Z h a ck .long n vs dv) (h0 : ¬ j < 0) (h1 : j < n) (i : Nat) (hj : j.toNatClampNeg = i) (hi : i < vs.length) (hd : decode c.code pc = .ok (.lastore, 1)) (hp : pc + 1 = pc')
    (k : ∀ T' h', Stand p l e R s m args below meth c T' (locs ++ [⟨a, j.toNatClampNeg⟩]) cells slots → T'.heap = h' → Wr h h' a j.toNatClampNeg (.long x) → Arv Z h' a ck .long n (vs.set i (.long x)) dv → Goes p e below F T' (mkF m pc' ls st)) : Goes p e below F T (mkF m pc ls (.long x :: .int j :: .ref a :: st)) := by
  subst hp
  obtain ⟨cl, Ar, q, S, N, H, Gt⟩ := A
  obtain ⟨T', h', X', e', W, st'⟩ := stJ X hx hZ eT Ar (j := j) (inb_of S ⟨h0, h1⟩) (g := mkF m pc ls (.long x :: .int j :: .ref a :: st)) rfl rfl hd
  exact Goes.fore st' (k T' h' X' e' W (Arv.set Ar q S N H Gt rfl W i hj hi))
theorem gNewP (X : Stand p l e R s m args below meth c T locs cells slots) (hx : p.tables.exec = Jvm.exec) (hZ : Z.Warmed39 s.vm) {aty : ArrayType} (w : (Jvm.Cond.arrayClass (newarray.typeOf aty)).before a0 Z = true) (eT : T.heap = h) (hd : decode c.code pc = .ok (.newarray aty, 2)) (hn : ¬ n < 0) {cap : Nat} (hcap : n.toNatClampNeg ≤ cap) (hb : cap * 8 ≤ 536870912) (hc : cells + 1 ≤ R.cells) (hl : slots + cap ≤ R.slots) (N : Nat) (hp : pc + 2 = pc')
    (k : ∀ T' h' b cA, Stand p l e R s m args below meth c T' locs (cells + 1) (slots + cap) → T'.heap = h' → b = h.size → Ext h h' → Arv Z h' b cA (newarray.typeOf aty) n (List.replicate N (defaultValue (newarray.typeOf aty))) (defaultValue (newarray.typeOf aty)) → Goes p e below F T' (mkF m pc' ls (.ref b :: st))) : Goes p e below F T (mkF m pc ls (.int n :: st)) := by
  subst hp
  obtain ⟨T', h', cA, X', e', E, A, st'⟩ := newP X hx hZ w eT (g := mkF m pc ls (.int n :: st)) rfl hd rfl hn hcap hb hc hl
  exact Goes.fore st' (k T' h' _ cA X' e' rfl E ((Arv.new A hn).pad (pad_rep [] _ N)))
theorem gCast (X : Stand p l e R s m args below meth c T locs cells slots) (hx : p.tables.exec = Jvm.exec) (hZ : Z.Warmed39 s.vm) {own K : String} {i : Nat} (hown : s.vm.findClass own = some m.cls) (w : (Jvm.Cond.classLink own i K).before a0 Z = true) (eT : T.heap = h) (I : Ins Z h a K true) (hd : decode c.code pc = .ok (.checkcast i, 3)) (hp : pc + 3 = pc')
    (k : ∀ T', Stand p l e R s m args below meth c T' locs cells slots → T'.heap = h → Goes p e below F T' (mkF m pc' ls (.ref a :: st))) : Goes p e below F T (mkF m pc ls (.ref a :: st)) := by
  subst hp
  obtain ⟨T', X', e', st'⟩ := castY X hx hZ hown w eT I (g := mkF m pc ls (.ref a :: st)) rfl rfl hd
  exact Goes.fore st' (k T' X' e')
theorem gClone (X : Stand p l e R s m args below meth c T locs cells slots) (hx : p.tables.exec = Jvm.exec) (hZ : Z.Warmed39 s.vm) {own ad : String} {i : Nat} (hown : s.vm.findClass own = some m.cls) (w1 : (Jvm.Cond.methodLink own i ⟨ad, "clone", "()Ljava/lang/Object;"⟩).before a0 Z = true) (w2 : (Jvm.Cond.sameMethod ad "java/lang/Object" "clone" "()Ljava/lang/Object;").before a0 Z = true) (w3 : (Jvm.Cond.native ⟨"java/lang/Object", "clone", "()Ljava/lang/Object;"⟩).before a0 Z = true)
    (w4 : (Jvm.Cond.instanceMethod ⟨"java/lang/Object", "clone", "()Ljava/lang/Object;"⟩).before a0 Z = true) (w5 : (Jvm.Cond.selects ad ⟨ad, "clone", "()Ljava/lang/Object;"⟩ ⟨"java/lang/Object", "clone", "()Ljava/lang/Object;"⟩).before a0 Z = true) (w6 : (Jvm.Cond.castable ad "java/lang/Cloneable").before a0 Z = true) {ty : FieldType}
    (eT : T.heap = h) (A : Arv Z h a ck ty n vs dv) (E : Exa Z h a ad) (hml : ls.size = c.maxLocals) (hd : decode c.code pc = .ok (.invokevirtual i, 3)) (hf : 1 ≤ R.frames) {W cap : Nat} (hW : (st.map fun v => v.category).sum ≤ W) (hlo : W + 14 ≤ R.locals) (hcap : n.toNatClampNeg ≤ cap) (hc : cells + 1 ≤ R.cells) (hsl : slots + cap ≤ R.slots) (hp : pc + 3 = pc')
    (k : ∀ T' h' b, Stand p l e R s m args below meth c T' locs (cells + 1) (slots + cap) → T'.heap = h' → b = h.size → Ext h h' → Arv Z h' b ck ty n vs dv → Exa Z h' b ad → Goes p e below F T' (mkF m pc' ls (.ref b :: st))) : Goes p e below F T (mkF m pc ls (.ref a :: st)) := by
  subst hp
  obtain ⟨T', h', X', e', E', A', Ex, st'⟩ := cloneH X hx hZ hown w1 w2 w3 w4 w5 w6 eT A.arh E (g := mkF m pc ls (.ref a :: st)) rfl hml rfl hd hf (W := W) (cap := cap) (by show 2 * 0 + _ ≤ _; omega) hlo hcap hc hsl
  exact Goes.fore st' (k T' h' _ X' e' rfl E' A' Ex)
theorem gArrCopy (X : Stand p l e R s m args below meth c T locs cells slots) (hx : p.tables.exec = Jvm.exec) (hZ : Z.Warmed39 s.vm) {own : String} {i : Nat} (hown : s.vm.findClass own = some m.cls) (w1 : (Jvm.Cond.methodLink own i Jvm.Stand.acN).before a0 Z = true) (w2 : (Jvm.Cond.native Jvm.Stand.acN).before a0 Z = true) (w3 : (Jvm.Cond.static Jvm.Stand.acN).before a0 Z = true) (w4 : (Jvm.Cond.initialized "java/lang/System").before a0 Z = true) (eT : T.heap = h)
    {b : Addr} {cb : ClassId} {ty : FieldType} {n' sp dp nn : Int32} {vd : List Value} {dd : Value} (A : Arv Z h a ck ty n vs dv) (B : Arv Z h b cb ty n' vd dd) (hty : refKind ty = false) (h1 : ¬ sp < 0) (h2 : ¬ dp < 0) (h3 : ¬ nn < 0) (h4 : sp.toNatClampNeg + nn.toNatClampNeg ≤ n.toNatClampNeg) (h5 : dp.toNatClampNeg + nn.toNatClampNeg ≤ n'.toNatClampNeg) (hl : dp.toNatClampNeg + nn.toNatClampNeg ≤ vd.length) {n0 : Nat} (N : Fr n0 locs) (ge : n0 ≤ b)
    (hml : ls.size = c.maxLocals) (hd : decode c.code pc = .ok (.invokestatic i, 3)) (hp : pc + 3 = pc') (hf : 1 ≤ R.frames) {W : Nat} (hW : (st.map fun v => v.category).sum ≤ W) (hlo : W + (nativeFrameWords "java/lang/System" "arraycopy" 5 + 11) ≤ R.locals)
    (k : ∀ T' h' L, Stand p l e R s m args below meth c T' L cells slots → T'.heap = h' → Fr n0 L → Keep h h' [b] → Arv Z h' b cb ty n' (vd.take dp.toNatClampNeg ++ ((List.range nn.toNatClampNeg).map fun i => vs.getD (sp.toNatClampNeg + i) dv) ++ vd.drop (dp.toNatClampNeg + nn.toNatClampNeg)) dd → Goes p e below F T' (mkF m pc' ls st)) : Goes p e below F T (mkF m pc ls (.int nn :: .int dp :: .ref b :: .int sp :: .ref a :: st)) := by
  subst hp
  obtain ⟨T', h', L, X', e', N', K, A', st'⟩ := cpA X hx hZ hown w1 w2 w3 w4 eT A B (Or.inl ⟨rfl, hty⟩) h1 h2 h3 h4 h5 rfl hl N ge (g := mkF m pc ls (.int nn :: .int dp :: .ref b :: .int sp :: .ref a :: st)) rfl hml rfl hd hf (W := W) (by show 2 * 0 + _ ≤ _; omega) hlo
  exact Goes.fore st' (k T' h' L X' e' N' K A')
theorem gCallP (X : Stand p l e R s m args below meth c T locs cells slots) (hx : p.tables.exec = Jvm.exec) (hZ : Z.Warmed39 s.vm) {y : MethodName} {bytes : ByteArray} {maxL : Nat} {ret : Option FieldType} {rm : Room} {own : String} {i kk : Nat} {Qc : Option Value → Heap → List Loc → Prop} (hown : s.vm.findClass own = some m.cls) (eT : T.heap = h) (hml : ls.size = c.maxLocals) (E : Exa Z h a y.cls)
    (w1 : (Jvm.Cond.methodLink own i y).before a0 Z = true) (w6 : (Jvm.Cond.instanceMethod y).before a0 Z = true) (w5 : (Jvm.Cond.privateMethod y).before a0 Z = true) (wi : (Jvm.Cond.instantiable y.cls kk).before a0 Z = true) (w3 : (Jvm.Cond.initialized y.cls).before a0 Z = true) (w4 : (Jvm.Cond.code y bytes maxL ret).before a0 Z = true) (hy : y.cls ≠ "java/lang/invoke/MethodHandle" ∧ y.cls ≠ "java/lang/invoke/VarHandle")
    {argsL : List Value} {stk : List Value} (hC : Ctr l Z y bytes maxL ret [] rm (.ref a :: argsL).toArray h Qc) (hlen : ∀ sig, parseMethodDescriptor y.desc = some sig → argsL.length = sig.parameters.length) (hd : decode c.code pc = .ok (.invokevirtual i, 3)) (hp : pc + 3 = pc') (hst : stk = argsL.reverse ++ .ref a :: st)
    (hf : rm.frames + 1 ≤ R.frames) {W : Nat} (hW : (st.map fun v => v.category).sum ≤ W) (hlo : W + (maxL + 11) + rm.locals ≤ R.locals) (hce : cells + rm.cells ≤ R.cells) (hsl : slots + rm.slots ≤ R.slots)
    (k : ∀ T' v L, Stand p l e R s m args below meth c T' (locs ++ L) (cells + rm.cells) (slots + rm.slots) → Qc v T'.heap L → Goes p e below F T' (mkF m pc' ls (v.toList ++ st))) : Goes p e below F T (mkF m pc ls stk) := by
  subst hp hst
  obtain ⟨cq, q1, q2⟩ := E.cell
  have hpr : s.PrivateAt y := Cond.privateMethod_at (mvP hZ w5 (args := #[]))
  obtain ⟨cc, kc, hc1, hk1, -, hni, -, -⟩ := Cond.instantiable_spec (mvT (args := args) hZ wi)
  have hsel : (Jvm.Cond.selects y.cls y y).before args s = true := Jvm.Stand.selects_self_of_private hc1 hk1 (Bool.or_eq_false_iff.mp hni).1 hpr (mvT hZ w6) hy
  obtain ⟨v, _, ⟨T', L', k', n'⟩, -, X', ⟨Lc, hQ, l1, y1, z1⟩, st'⟩ := X.privateBack hx (y := y) hown (mvT hZ w1) (mvT hZ w6) hsel hpr (mvT hZ w4) hy (backOf (W := W) hC hZ w4 w3 hf hlo) (g := mkF m pc ls (argsL.reverse ++ .ref a :: st)) rfl hml (Steps.refl _) (a := a) (by rw [eT]; exact q1) q2 (argsL := argsL) (rest := st) hlen rfl (by show 2 * 0 + _ ≤ _; omega) hd (fun _ _ => ⟨rfl, eT, hce, hsl⟩)
  dsimp only [Pt.U, Pt.locs, Pt.cells, Pt.slots] at X' l1 y1 z1 st' hQ
  subst l1 y1 z1
  exact Goes.tr st' (k T' v Lc X' hQ)
theorem gInstY (X : Stand p l e R s m args below meth c T locs cells slots) (hx : p.tables.exec = Jvm.exec) (hZ : Z.Warmed39 s.vm) {own K : String} {i : Nat} (hown : s.vm.findClass own = some m.cls) (w : (Jvm.Cond.classLink own i K).before a0 Z = true) (eT : T.heap = h) (I : Ins Z h a K true) (hd : decode c.code pc = .ok (.instanceof i, 3)) (hp : pc + 3 = pc')
    (k : ∀ T', Stand p l e R s m args below meth c T' locs cells slots → T'.heap = h → Goes p e below F T' (mkF m pc' ls (.int 1 :: st))) : Goes p e below F T (mkF m pc ls (.ref a :: st)) := by
  subst hp
  obtain ⟨T', X', e', st'⟩ := instY X hx hZ hown w eT I (g := mkF m pc ls (.ref a :: st)) rfl rfl hd
  exact Goes.fore st' (k T' X' e')
end OwnArrays
section OwnWide
variable {p : Program} {l : Launch} {e : Env} {R : Room} {s : State} {m : MethodId} {args : Array Value} {below : List Frame} {meth : Method} {c : Code} {T : State} {locs : List Loc} {cells slots : Nat}
variable {F : State → Outcome → Prop} {kc ks : Nat} {Q : Option Value → Heap → List Loc → Prop} {pc pc' : Nat} {ls : Array Slot} {st : List Value} {Z : State} {a0 : Array Value} {h : Heap} {EL : List (String × Nat)} {vm0 : Vm} {k0 : Nat}
/-- it returns, Q holds, the frame is the wide one, and what is booked of the constants EL says its text still -/
def FinH (Z : State) (EL : List (String × Nat)) (s : State) (kc ks : Nat) (Q : Option Value → Heap → List Loc → Prop) (s₂ : State) (o : Outcome) : Prop := ∃ v L, o = .returned v ∧ Q v s₂.heap L ∧ CHr Z EL s.vm s.heap s₂.vm s₂.heap ∧ ReturnedEndW s o s₂ L kc ks
def CtrH (l : Launch) (Z : State) (EL : List (String × Nat)) (SL : List Addr) (y : MethodName) (bytes : ByteArray) (maxL : Nat) (ret : Option FieldType) (ws : List Jvm.Cond) (rm : Room) (as' : Array Value) (h0 : Heap) (Q : Option Value → Heap → List Loc → Prop) : Prop :=
  MetFree l y (head1 (Jvm.Cond.code y bytes maxL ret :: ws) rm) (fun a U => a = as' ∧ Z.Warmed39 U.vm ∧ U.heap = h0 ∧ CHv Z EL U.vm h0 ∧ ∀ x ∈ SL, Safe Z EL U.vm h0 x) (fun _ _ _ _ _ => True) (fun _ U o U' => ∃ v L, o = .returned v ∧ Q v U'.heap L ∧ CHr Z EL U.vm U.heap U'.vm U'.heap ∧ ReturnedEndW U o U' L rm.cells rm.slots)
theorem CtrH.of {SL : List Addr} {y : MethodName} {bytes : ByteArray} {maxL : Nat} {ret : Option FieldType} {ws : List Jvm.Cond} {rm : Room} {as' : Array Value} {h0 : Heap} (hp : plainFor y = true)
    (body : ∀ (p : Program) (e : Env) (s : State) (m : MethodId) (below : List Frame) (meth : Method) (c : Code) (s₁ : State), p.tables.exec = Jvm.exec → (∀ {pc : Nat} {r : Except ClassFile.DecodeError (ClassFile.Instr × Nat)}, ClassFile.decode bytes pc = r → ClassFile.decode c.code pc = r) → c.maxLocals = maxL → meth.sig.returnType = ret → (s.setVm s.vm).vm.findClass y.cls = some m.cls → meth.name = y.name → Z.Warmed39 (s.setVm s.vm).vm → meth.locks = false → Stand p l e rm (s.setVm s.vm) m as' below meth c s₁ [] 0 0 → s₁.heap = h0 → s.Since s.vm 0 → CHr Z EL s.vm s.heap s.vm h0 → (∀ x ∈ SL, Safe Z EL s.vm h0 x) → Goes p e below (FinH Z EL s rm.cells rm.slots Q) s₁ (entryFrame m as' maxL)) :
    CtrH l Z EL SL y bytes maxL ret ws rm as' h0 Q := by
  refine MetFree.of_bodySF hp hisR ?_
  intro p e s m args below meth c s₁ Bd hml hP hK
  obtain ⟨rfl, hZ, hh, hv, hs⟩ := hP
  have X : Stand p l e rm s m args below meth c s₁ [] 0 0 := Stand.of_body Bd
  refine body p e s m below meth c s₁ Bd.exec (fun h2 => hb Bd.bytes h2) hml Bd.returns (findClass_of_methodNamed Bd.named) (name_of_methodNamed Bd.named Bd.method).1 hZ Bd.notSynchronized X (by rw [← hh, Bd.state]; rfl) ((State.WarmedH.refl s).since 0) ?_ hs
  rw [hh]; exact CHr.refl hv
/-- the payer of such a contract; what is asked of the addresses SL goes on to the tables at hand -/
theorem backOfSG {SL : List Addr} {y : MethodName} {bytes : ByteArray} {maxL : Nat} {ret : Option FieldType} {rm : Room} {len W : Nat} {as' : Array Value}
    (hM : CtrH l Z EL SL y bytes maxL ret [] rm as' h Q) (hZ : Z.Warmed39 vm0) (wc : (Jvm.Cond.code y bytes maxL ret).before a0 Z = true) (wz : (Jvm.Cond.initialized y.cls).before a0 Z = true) (hf : rm.frames + 1 ≤ R.frames) (hl : W + (maxL + 11) + rm.locals ≤ R.locals) (hEL : EW Z a0 EL) (H : CHv Z EL vm0 h) (hsl : ∀ x ∈ SL, x < h.size ∧ Safe Z EL vm0 h x) :
    BackS l R p e below (s.setVm vm0) args y len W (fun A a => a = as' ∧ A.U.heap = h ∧ A.cells + rm.cells ≤ R.cells ∧ A.slots + rm.slots ≤ R.slots)
      (fun A _ v B => ∃ L, Q v B.U.heap L ∧ B.locs = A.locs ++ L ∧ B.cells = A.cells + rm.cells ∧ B.slots = A.slots + rm.slots ∧ CHr Z EL vm0 h B.U.vm B.U.heap) :=
  BackS.of_freeW (bytes := bytes) (maxL := maxL) (ret := ret) (E := fun _ first o t L k n => k = rm.cells ∧ n = rm.slots ∧ (∃ v, o = .returned v ∧ Q v t.heap L) ∧ CHr Z EL first.vm first.heap t.vm t.heap) hM hf hl
    (fun m meth c A a Y hp => have hU : Z.Warmed39 A.U.vm := wtrans (s := s.setVm vm0) hZ Y.warmed
      ⟨by show (Jvm.Cond.and _ .tt).before a A.U = true; rw [Cond.before_and, mv hU wc]; rfl, mv hU wc, mv hU wz, hp.2.2.1, hp.2.2.2⟩)
    (fun m meth c A a g mk Y hp => have q := CHv.at Y hZ hEL H
      ⟨hp.1, wtrans (s := s.setVm vm0) hZ Y.warmed, hp.2.1, q.1, fun x hx => q.safe (hsl x hx).1 (hsl x hx).2⟩) (fun _ _ _ _ _ _ _ _ _ => trivial)
    (fun _ _ _ _ ⟨v, L, h1, h2, h3, h4⟩ => ⟨L, _, _, h4, rfl, rfl, ⟨v, h1, h2⟩, h3⟩)
    (fun m meth c A a g mk v t L k n Y hp _ _ ⟨e1, e2, ⟨v', e3, e4⟩, e5⟩ => by
      cases e3; subst e1 e2
      refine ⟨L, e4, rfl, rfl, rfl, (CHv.at Y hZ hEL H).trans ?_⟩
      rw [← hp.2.1]; exact e5)
theorem gLdcO (X : Stand p l e R (s.setVm vm0) m args below meth c T locs cells slots) (hx : p.tables.exec = Jvm.exec) (hZ : Z.Warmed39 (s.setVm vm0).vm) {own text : String} {i : Nat} (hown : (s.setVm vm0).vm.findClass own = some m.cls) (w : (Jvm.Cond.stringLink own i text).before a0 Z = true) (wS : ∀ a ∈ Bundle.stringAtoms, a.before a0 Z = true) (eT : T.heap = h) (hS : s.Since vm0 k0) (hk : k0 ≤ h.size) (hEL : EW Z a0 EL) (H : CHr Z EL s.vm s.heap vm0 h)
    (hd : decode c.code pc = .ok (.ldc i, 2)) (hp : pc + 2 = pc') {n : Nat} (hn : 4 * text.toList.length ≤ n) (hbig : n ≤ 536870912) (hc : cells + 2 ≤ R.cells) (hl : slots + (n + 4) ≤ R.slots)
    (k : ∀ a T' h' k1, Stand p l e R (s.setVm T'.vm) m args below meth c T' locs (cells + 2) (slots + (n + 4)) → T'.heap = h' → Ext h h' → s.Since T'.vm k1 → k1 ≤ h'.size → Z.Warmed39 (s.setVm T'.vm).vm → (s.setVm T'.vm).vm.findClass own = some m.cls → CHr Z EL vm0 h T'.vm h' → CHr Z EL s.vm s.heap T'.vm h' → Goes p e below F T' (mkF m pc' ls (.ref a :: st))) : Goes p e below F T (mkF m pc ls st) := by
  subst hp
  obtain ⟨a, T', h', k1, X', e', E, hS', hk', hZ', ho', hC, -, st'⟩ := ldcOH X hx hZ hown w wS eT hS hk hEL H.1 (g := mkF m pc ls st) rfl hd hn hbig hc hl
  exact Goes.fore st' (k a T' h' k1 X' e' E hS' hk' hZ' ho' hC (H.trans hC))
theorem gLdcC (X : Stand p l e R (s.setVm vm0) m args below meth c T locs cells slots) (hx : p.tables.exec = Jvm.exec) (hZ : Z.Warmed39 (s.setVm vm0).vm) {own text : String} {i : Nat} (hown : (s.setVm vm0).vm.findClass own = some m.cls) (w : (Jvm.Cond.stringLink own i text).before a0 Z = true) (wS : ∀ a ∈ Bundle.stringAtoms, a.before a0 Z = true) (eT : T.heap = h) (hS : s.Since vm0 k0) (hk : k0 ≤ h.size) (hEL : EW Z a0 EL) (hmem : (own, i) ∈ EL) (H : CHr Z EL s.vm s.heap vm0 h)
    {vs : List Value} {z : Int32} (ht : (∀ c ∈ text.toList, c.toNat < 256) ∧ text.toList.map (fun c => Value.int (Jvm.Lit.byteI c.toNat.toUInt16)) = vs) (hz : ¬ z < 0) (hlz : z.toNatClampNeg = vs.length)
    (hd : decode c.code pc = .ok (.ldc i, 2)) (hp : pc + 2 = pc') {n : Nat} (hn : 4 * text.toList.length ≤ n) (hbig : n ≤ 536870912) (hc : cells + 2 ≤ R.cells) (hl : slots + (n + 4) ≤ R.slots)
    (k : ∀ a T' h' k1 b ck, Stand p l e R (s.setVm T'.vm) m args below meth c T' locs (cells + 2) (slots + (n + 4)) → T'.heap = h' → Ext h h' → s.Since T'.vm k1 → k1 ≤ h'.size → Z.Warmed39 (s.setVm T'.vm).vm → (s.setVm T'.vm).vm.findClass own = some m.cls → CHr Z EL vm0 h T'.vm h' → CHr Z EL s.vm s.heap T'.vm h' →
      Exa Z h' a "java/lang/String" → Fld Z h' a "java/lang/String" "coder" "B" (.int 0) → Fld Z h' a "java/lang/String" "value" "[B" (.ref b) → Arv Z h' b ck .byte z vs (.int 0) → (∀ x, Safe Z EL T'.vm h' x → x ≠ a ∧ x ≠ b) → Goes p e below F T' (mkF m pc' ls (.ref a :: st))) : Goes p e below F T (mkF m pc ls st) := by
  subst hp
  obtain ⟨a, T', h', k1, b, ck, X', e', E, hS', hk', hZ', ho', Ex, Fc, Fv, A, -, -, hC, -, hsafe, st'⟩ := ldcCH X hx hZ hown w wS eT hS hk hEL hmem H.1 ht hz hlz (g := mkF m pc ls st) rfl hd hn hbig hc hl
  exact Goes.fore st' (k a T' h' k1 b ck X' e' E hS' hk' hZ' ho' hC (H.trans hC) Ex Fc Fv A hsafe)
theorem gRetH0 {v : Option Value} (X : Stand p l e R (s.setVm vm0) m args below meth c T locs cells slots) (hx : p.tables.exec = Jvm.exec) (hlk : meth.locks = false) (hv : meth.sig.returnType = none → v = none) (eT : T.heap = h) (hS : s.Since vm0 k0) (hk : k0 ≤ h.size) (hZ : Z.Warmed39 (s.setVm vm0).vm) (hEL : EW Z a0 EL) (H : CHr Z EL s.vm s.heap vm0 h) (hkc : cells ≤ kc) (hks : slots ≤ ks) (hq : Q v T.heap locs) {g : JFrame}
    (k : ∀ fs, (∀ (f : JFrame) (acts : List Action), f.method = m → f.locked = none → f.entered = [] → (doReturn e (T.setTop f) acts v).1 = T.setFrames fs) → Steps p.tables e below (T.setTop g) (T.setFrames fs)) : Goes p e below (FinH Z EL s kc ks Q) T g := by
  obtain ⟨fs, hr, hrun, hended, hW⟩ := X.leaveW hS (by rw [eT]; exact hk) hv hlk
  refine ⟨_, _, k fs hr, hrun, hended, _, _, rfl, hq, ?_, hW.1, hW.2.1, hW.2.2.1, hW.2.2.2.mono hkc hks⟩
  have q := CHv.at X hZ hEL H.1
  have e2 : (T.setFrames fs).heap = h := eT
  rw [e2]
  exact H.trans q
theorem gRetHN (X : Stand p l e R (s.setVm vm0) m args below meth c T locs cells slots) (hx : p.tables.exec = Jvm.exec) (hlk : meth.locks = false) {t : FieldType} (hret : meth.sig.returnType = some t) (ht : t = .boolean ∨ t = .byte ∨ t = .char ∨ t = .short) {z w : Int32} (hd : decode c.code pc = .ok (.ireturn, 1)) (hw : nar t z = w) (eT : T.heap = h) (hS : s.Since vm0 k0) (hk : k0 ≤ h.size) (hZ : Z.Warmed39 (s.setVm vm0).vm) (hEL : EW Z a0 EL) (H : CHr Z EL s.vm s.heap vm0 h) (hkc : cells ≤ kc) (hks : slots ≤ ks) (hq : Q (some (.int w)) T.heap locs) : Goes p e below (FinH Z EL s kc ks Q) T (mkF m pc ls (.int z :: st)) := by
  subst hw
  exact gRetH0 X hx hlk (fun h => by rw [hret] at h; cases h) eT hS hk hZ hEL H hkc hks hq fun fs hr => retN X hx hret ht hd hr
theorem gRetHV (X : Stand p l e R (s.setVm vm0) m args below meth c T locs cells slots) (hx : p.tables.exec = Jvm.exec) (hlk : meth.locks = false) (hret : meth.sig.returnType = none) (hd : decode c.code pc = .ok (.return_, 1)) (eT : T.heap = h) (hS : s.Since vm0 k0) (hk : k0 ≤ h.size) (hZ : Z.Warmed39 (s.setVm vm0).vm) (hEL : EW Z a0 EL) (H : CHr Z EL s.vm s.heap vm0 h) (hkc : cells ≤ kc) (hks : slots ≤ ks) (hq : Q none T.heap locs) : Goes p e below (FinH Z EL s kc ks Q) T (mkF m pc ls []) :=
  gRetH0 X hx hlk (fun _ => rfl) eT hS hk hZ hEL H hkc hks hq fun fs hr => X.returnOut hx hret hd hr
theorem gRetHA (X : Stand p l e R (s.setVm vm0) m args below meth c T locs cells slots) (hx : p.tables.exec = Jvm.exec) (hlk : meth.locks = false) {t : FieldType} (hret : meth.sig.returnType = some t) (ht : t.isReference = true) {v : Value} (hv : v.isRef = true) (hd : decode c.code pc = .ok (.areturn, 1)) (eT : T.heap = h) (hS : s.Since vm0 k0) (hk : k0 ≤ h.size) (hZ : Z.Warmed39 (s.setVm vm0).vm) (hEL : EW Z a0 EL) (H : CHr Z EL s.vm s.heap vm0 h) (hkc : cells ≤ kc) (hks : slots ≤ ks) (hq : Q (some v) T.heap locs) : Goes p e below (FinH Z EL s kc ks Q) T (mkF m pc ls (v :: st)) :=
  gRetH0 X hx hlk (fun h => by rw [hret] at h; cases h) eT hS hk hZ hEL H hkc hks hq fun fs hr => retOut X hx hret (by cases t <;> first | rfl | cases ht) (Or.inr (Or.inr (Or.inr (Or.inr ⟨rfl, ht, hv⟩)))) hd hr
theorem gCallSH (X : Stand p l e R (s.setVm vm0) m args below meth c T locs cells slots) (hx : p.tables.exec = Jvm.exec) (hZ : Z.Warmed39 (s.setVm vm0).vm) {y : MethodName} {bytes : ByteArray} {maxL : Nat} {ret : Option FieldType} {rm : Room} {own : String} {i : Nat} {Qc : Option Value → Heap → List Loc → Prop} (hown : (s.setVm vm0).vm.findClass own = some m.cls) (eT : T.heap = h) (hml : ls.size = c.maxLocals) (hS : s.Since vm0 k0) (hk : k0 ≤ h.size) (hEL : EW Z a0 EL) (H : CHr Z EL s.vm s.heap vm0 h)
    (w1 : (Jvm.Cond.methodLink own i y).before a0 Z = true) (w2 : (Jvm.Cond.static y).before a0 Z = true) (w3 : (Jvm.Cond.initialized y.cls).before a0 Z = true) (w4 : (Jvm.Cond.code y bytes maxL ret).before a0 Z = true) (hy : y.cls ≠ "java/lang/invoke/MethodHandle" ∧ y.cls ≠ "java/lang/invoke/VarHandle")
    {SL : List Addr} (hsf : ∀ x ∈ SL, x < h.size ∧ Safe Z EL vm0 h x) {argsL : List Value} {stk : List Value} (hC : CtrH l Z EL SL y bytes maxL ret [] rm argsL.toArray h Qc) (hlen : ∀ sig, parseMethodDescriptor y.desc = some sig → argsL.length = sig.parameters.length) (hd : decode c.code pc = .ok (.invokestatic i, 3)) (hp : pc + 3 = pc') (hst : stk = argsL.reverse ++ st)
    (hf : rm.frames + 1 ≤ R.frames) {W : Nat} (hW : (st.map fun v => v.category).sum ≤ W) (hlo : W + (maxL + 11) + rm.locals ≤ R.locals) (hce : cells + rm.cells ≤ R.cells) (hsl : slots + rm.slots ≤ R.slots)
    (k : ∀ T' v L, Stand p l e R (s.setVm T'.vm) m args below meth c T' (locs ++ L) (cells + rm.cells) (slots + rm.slots) → s.Since T'.vm T'.heap.size → Z.Warmed39 (s.setVm T'.vm).vm → (s.setVm T'.vm).vm.findClass own = some m.cls → CHr Z EL vm0 h T'.vm T'.heap → CHr Z EL s.vm s.heap T'.vm T'.heap → Qc v T'.heap L → Goes p e below F T' (mkF m pc' ls (v.toList ++ st))) : Goes p e below F T (mkF m pc ls stk) := by
  subst hp hst
  obtain ⟨v, vm1, ⟨T', L', k', n'⟩, -, X', hS', hg', ⟨Lc, hQ, l1, y1, z1, hC2⟩, st'⟩ := callSS X hx (y := y) hown (mvT (s := s.setVm vm0) hZ w1) (mvT (s := s.setVm vm0) hZ w2) (mvT (s := s.setVm vm0) hZ w3) (mvT (s := s.setVm vm0) hZ w4) hy (backOfSG (s := s) (W := W) hC hZ w4 w3 hf hlo hEL H.1 hsf) (g := mkF m pc ls (argsL.reverse ++ st)) rfl hml (argsL := argsL) (rest := st) hlen rfl (by show 2 * 0 + _ ≤ _; omega) hd (fun _ _ => ⟨rfl, eT, hce, hsl⟩)
  dsimp only [Pt.U, Pt.locs, Pt.cells, Pt.slots] at X' l1 y1 z1 st' hQ hS' hg' hC2
  subst l1 y1 z1
  exact Goes.tr st' (k T' v Lc X' (foldS hS (by rw [eT]; exact hk) hS' hg') (State.Warmed39.trans (t := s.setVm vm0) hZ hS'.1) (by rw [show (s.setVm T'.vm).vm = T'.vm from rfl, hS'.1.alike.findClass]; exact hown) hC2 (H.trans hC2) hQ)
theorem gCallVH (X : Stand p l e R (s.setVm vm0) m args below meth c T locs cells slots) (hx : p.tables.exec = Jvm.exec) (hZ : Z.Warmed39 (s.setVm vm0).vm) {y : MethodName} {bytes : ByteArray} {maxL : Nat} {ret : Option FieldType} {rm : Room} {own : String} {i : Nat} {Qc : Option Value → Heap → List Loc → Prop} {C : String} {a : Addr} (hown : (s.setVm vm0).vm.findClass own = some m.cls) (eT : T.heap = h) (hml : ls.size = c.maxLocals) (hS : s.Since vm0 k0) (hk : k0 ≤ h.size) (hEL : EW Z a0 EL) (H : CHr Z EL s.vm s.heap vm0 h) (E : Exa Z h a C)
    (w1 : (Jvm.Cond.methodLink own i y).before a0 Z = true) (w2 : (Jvm.Cond.declares y).before a0 Z = true) (w5 : (Jvm.Cond.selects C y y).before a0 Z = true) (w6 : (Jvm.Cond.instanceMethod y).before a0 Z = true) (w3 : (Jvm.Cond.initialized y.cls).before a0 Z = true) (w4 : (Jvm.Cond.code y bytes maxL ret).before a0 Z = true) (hy : y.cls ≠ "java/lang/invoke/MethodHandle" ∧ y.cls ≠ "java/lang/invoke/VarHandle")
    {SL : List Addr} (hsf : ∀ x ∈ SL, x < h.size ∧ Safe Z EL vm0 h x) {argsL : List Value} {stk : List Value} (hC : CtrH l Z EL SL y bytes maxL ret [] rm (.ref a :: argsL).toArray h Qc) (hlen : ∀ sig, parseMethodDescriptor y.desc = some sig → argsL.length = sig.parameters.length) (hd : decode c.code pc = .ok (.invokevirtual i, 3)) (hp : pc + 3 = pc') (hst : stk = argsL.reverse ++ .ref a :: st)
    (hf : rm.frames + 1 ≤ R.frames) {W : Nat} (hW : (st.map fun v => v.category).sum ≤ W) (hlo : W + (maxL + 11) + rm.locals ≤ R.locals) (hce : cells + rm.cells ≤ R.cells) (hsl : slots + rm.slots ≤ R.slots)
    (k : ∀ T' v L, Stand p l e R (s.setVm T'.vm) m args below meth c T' (locs ++ L) (cells + rm.cells) (slots + rm.slots) → s.Since T'.vm T'.heap.size → Z.Warmed39 (s.setVm T'.vm).vm → (s.setVm T'.vm).vm.findClass own = some m.cls → CHr Z EL vm0 h T'.vm T'.heap → CHr Z EL s.vm s.heap T'.vm T'.heap → Qc v T'.heap L → Goes p e below F T' (mkF m pc' ls (v.toList ++ st))) : Goes p e below F T (mkF m pc ls stk) := by
  subst hp hst
  obtain ⟨cq, kq, qa, qb, qc⟩ := isOf (s := s.setVm vm0) hZ eT E
  obtain ⟨v, vm1, ⟨T', L', k', n'⟩, -, X', hS', hg', ⟨Lc, hQ, l1, y1, z1, hC2⟩, st'⟩ := X.virtualBackS hx (y := y) (z := y) hown (mvT (s := s.setVm vm0) hZ w1) (mvT (s := s.setVm vm0) hZ w2) (notFace_of_selects (args := #[]) (mvT (s := s.setVm vm0) hZ w5)) (mvT (s := s.setVm vm0) hZ w5) (mvT (s := s.setVm vm0) hZ w6) hy (backOfSG (s := s) (W := W) hC hZ w4 w3 hf hlo hEL H.1 hsf) qa qc (g := mkF m pc ls (argsL.reverse ++ .ref a :: st)) rfl hml (Steps.refl _) (argsL := argsL) (rest := st) hlen rfl (by show 2 * 0 + _ ≤ _; omega) hd (fun _ _ => ⟨rfl, eT, hce, hsl⟩)
  dsimp only [Pt.U, Pt.locs, Pt.cells, Pt.slots] at X' l1 y1 z1 st' hQ hS' hg' hC2
  subst l1 y1 z1
  exact Goes.tr st' (k T' v Lc X' (foldS hS (by rw [eT]; exact hk) hS' hg') (State.Warmed39.trans (t := s.setVm vm0) hZ hS'.1) (by rw [show (s.setVm T'.vm).vm = T'.vm from rfl, hS'.1.alike.findClass]; exact hown) hC2 (H.trans hC2) hQ)
theorem gCallIH (X : Stand p l e R (s.setVm vm0) m args below meth c T locs cells slots) (hx : p.tables.exec = Jvm.exec) (hZ : Z.Warmed39 (s.setVm vm0).vm) {y : MethodName} {bytes : ByteArray} {maxL : Nat} {rm : Room} {own : String} {i : Nat} {Qc : Option Value → Heap → List Loc → Prop} {a : Addr} (hy1 : y.name = "<init>") (hown : (s.setVm vm0).vm.findClass own = some m.cls) (eT : T.heap = h) (hml : ls.size = c.maxLocals) (hS : s.Since vm0 k0) (hk : k0 ≤ h.size) (hEL : EW Z a0 EL) (H : CHr Z EL s.vm s.heap vm0 h)
    (w1 : (Jvm.Cond.methodLink own i y).before a0 Z = true) (w2 : (Jvm.Cond.instanceMethod y).before a0 Z = true) (w3 : (Jvm.Cond.initialized y.cls).before a0 Z = true) (w4 : (Jvm.Cond.code y bytes maxL none).before a0 Z = true) (hy : y.cls ≠ "java/lang/invoke/MethodHandle" ∧ y.cls ≠ "java/lang/invoke/VarHandle")
    {SL : List Addr} (hsf : ∀ x ∈ SL, x < h.size ∧ Safe Z EL vm0 h x) {argsL : List Value} {stk : List Value} (hC : CtrH l Z EL SL y bytes maxL none [] rm (.ref a :: argsL).toArray h Qc) (hlen : ∀ sig, parseMethodDescriptor y.desc = some sig → argsL.length = sig.parameters.length) (hd : decode c.code pc = .ok (.invokespecial i, 3)) (hp : pc + 3 = pc') (hst : stk = argsL.reverse ++ .ref a :: st)
    (hf : rm.frames + 1 ≤ R.frames) {W : Nat} (hW : (st.map fun v => v.category).sum ≤ W) (hlo : W + (maxL + 11) + rm.locals ≤ R.locals) (hce : cells + rm.cells ≤ R.cells) (hsl : slots + rm.slots ≤ R.slots)
    (k : ∀ T' v L, Stand p l e R (s.setVm T'.vm) m args below meth c T' (locs ++ L) (cells + rm.cells) (slots + rm.slots) → s.Since T'.vm T'.heap.size → Z.Warmed39 (s.setVm T'.vm).vm → (s.setVm T'.vm).vm.findClass own = some m.cls → CHr Z EL vm0 h T'.vm T'.heap → CHr Z EL s.vm s.heap T'.vm T'.heap → Qc v T'.heap L → Goes p e below F T' (mkF m pc' ls (v.toList ++ st))) : Goes p e below F T (mkF m pc ls stk) := by
  subst hp hst
  obtain ⟨v, vm1, ⟨T', L', k', n'⟩, -, X', hS', hg', ⟨Lc, hQ, l1, y1, z1, hC2⟩, st'⟩ := X.specialBackS hx (y := y) hy1 hown (mvT (s := s.setVm vm0) hZ w1) (mvT (s := s.setVm vm0) hZ w2) (mvT (s := s.setVm vm0) hZ w4) hy (backOfSG (s := s) (W := W) hC hZ w4 w3 hf hlo hEL H.1 hsf) (g := mkF m pc ls (argsL.reverse ++ .ref a :: st)) rfl hml (Steps.refl _) (a := a) (argsL := argsL) (rest := st) hlen rfl (by show 2 * 0 + _ ≤ _; omega) hd (fun _ _ => ⟨rfl, eT, hce, hsl⟩)
  dsimp only [Pt.U, Pt.locs, Pt.cells, Pt.slots] at X' l1 y1 z1 st' hQ hS' hg' hC2
  subst l1 y1 z1
  exact Goes.tr st' (k T' v Lc X' (foldS hS (by rw [eT]; exact hk) hS' hg') (State.Warmed39.trans (t := s.setVm vm0) hZ hS'.1) (by rw [show (s.setVm T'.vm).vm = T'.vm from rfl, hS'.1.alike.findClass]; exact hown) hC2 (H.trans hC2) hQ)
theorem sl0 : ∀ x ∈ ([] : List Addr), x < h.size ∧ Safe Z EL vm0 h x := fun _ q => nomatch q
theorem sl1 {x : Addr} (q : x < h.size) (r : Safe Z EL vm0 h x) : ∀ y ∈ [x], y < h.size ∧ Safe Z EL vm0 h y := fun y z => by cases List.mem_singleton.mp z; exact ⟨q, r⟩
end OwnWide
theorem own_i2c (x : Int32) : x.toUInt32.toUInt16.toUInt32.toInt32 = x &&& 65535 := by
  apply Int32.toBitVec_inj.mp
  apply BitVec.eq_of_toNat_eq
  simp [BitVec.toNat_and]
  rw [show (65535 : Nat) = 2 ^ 16 - 1 from rfl, Nat.and_two_pow_sub_one_eq_mod]
theorem own_mask (x : Int32) : (x &&& 65535).toInt = x.toInt % 65536 := Jvm.Kit.i32_mask x 65535 (k := 16) (by decide) (by decide)
/-- compact strings are on -/
def Cpt (Z : State) (h : Heap) : Prop := ∃ cz : Int32, Sta Z h "java/lang/String" "COMPACT_STRINGS" "Z" (.int cz) ∧ ¬ cz.toInt = 0
theorem Cpt.ext {Z : State} {h h' : Heap} (E : Ext h h') (Fa : Cpt Z h) : Cpt Z h' := by obtain ⟨a, b, c⟩ := Fa; exact ⟨a, b.ext E, c⟩
theorem Cpt.wr {Z : State} {h h' : Heap} {a : Addr} {sl : Nat} {v : Value} (W : Wr h h' a sl v) (Fa : Cpt Z h) : Cpt Z h' := by obtain ⟨a, b, c⟩ := Fa; exact ⟨a, b.wr W, c⟩
theorem own_sta_keep {Z : State} {h h' : Heap} {C n d : String} {v : Value} {ws : List Addr} (Fa : Sta Z h C n d v) (K : Keep h h' ws) (q : ∀ x ∈ ws, ∀ cell : Cell, h[x]? = some cell → cell.vm.isStatics = false) : Sta Z h' C n d v := by
  obtain ⟨cf, i, k, f, st, cell, h1, h2, h3, h4, h5, h6, h7⟩ := Fa
  refine ⟨cf, i, k, f, st, cell, h1, h2, h3, h4, K.2.1 _ _ h5 (fun hm => ?_), h6, h7⟩
  have := q _ hm _ h5
  rw [h6] at this; cases this
theorem own_cpt_keep {Z : State} {h h' : Heap} {ws : List Addr} (Fa : Cpt Z h) (K : Keep h h' ws) (q : ∀ x ∈ ws, ∀ cell : Cell, h[x]? = some cell → cell.vm.isStatics = false) : Cpt Z h' := by
  obtain ⟨a, b, c⟩ := Fa; exact ⟨a, own_sta_keep b K q, c⟩
def Sio (Z : State) (h : Heap) : Prop := ∃ sf : Value, Sta Z h "jdk/internal/util/Preconditions" "SIOOBE_FORMATTER" "Ljava/util/function/BiFunction;" sf ∧ sf.isRef = true
theorem Sio.ext {Z : State} {h h' : Heap} (E : Ext h h') (Fa : Sio Z h) : Sio Z h' := by obtain ⟨a, b, c⟩ := Fa; exact ⟨a, b.ext E, c⟩
theorem Sio.wr {Z : State} {h h' : Heap} {a : Addr} {sl : Nat} {v : Value} (W : Wr h h' a sl v) (Fa : Sio Z h) : Sio Z h' := by obtain ⟨a, b, c⟩ := Fa; exact ⟨a, b.wr W, c⟩
theorem own_sio_keep {Z : State} {h h' : Heap} {ws : List Addr} (Fa : Sio Z h) (K : Keep h h' ws) (q : ∀ x ∈ ws, ∀ cell : Cell, h[x]? = some cell → cell.vm.isStatics = false) : Sio Z h' := by
  obtain ⟨a, b, c⟩ := Fa; exact ⟨a, own_sta_keep b K q, c⟩
theorem own_nb (x : Int32) : nar .byte x.toInt8.toInt32 = x.toInt8.toInt32 := by simp [nar]
theorem own_nc {c : Int32} (h : 0 ≤ c.toInt ∧ c.toInt ≤ 65535) : nar .char c = c := by
  show c.toUInt32.toUInt16.toUInt32.toInt32 = c
  rw [own_i2c]
  apply Int32.toInt_inj.mp
  rw [own_mask]; omega
theorem own_c8 {c : Int32} (h : 0 ≤ c.toInt ∧ c.toInt ≤ 255) : 0 ≤ c.toInt ∧ c.toInt ≤ 65535 := by omega
theorem own_mask8 (x : Int32) : (x &&& 255).toInt = x.toInt % 256 := Jvm.Kit.i32_mask x 255 (k := 8) (by decide) (by decide)
theorem own_b8 {c : Int32} : c.toInt8.toInt32.toInt = c.toInt.bmod 256 := by simp
theorem own_ch {c : Int32} (h : 0 ≤ c.toInt ∧ c.toInt ≤ 255) : (c.toInt8.toInt32 &&& 255).toUInt32.toUInt16.toUInt32.toInt32 = c := by
  rw [own_i2c]
  apply Int32.toInt_inj.mp
  rw [own_mask, own_mask8, own_b8, Int.bmod_def]; split <;> omega
theorem own_binj {a b : Int32} (ha : 0 ≤ a.toInt ∧ a.toInt ≤ 255) (hb : 0 ≤ b.toInt ∧ b.toInt ≤ 255) : a.toInt8.toInt32 = b.toInt8.toInt32 ↔ a.toInt = b.toInt := by
  constructor
  · intro q
    have := own_ch ha; rw [q, own_ch hb] at this; rw [this]
  · intro q; rw [Int32.toInt_inj.mp q]
abbrev rg (c : Int32) : Prop := 0 ≤ c.toInt ∧ c.toInt ≤ 255
abbrev sE (Z : State) (h : Heap) (a : Addr) : Prop := Exa Z h a "java/lang/String"
abbrev sC (Z : State) (h : Heap) (a : Addr) : Prop := Fld Z h a "java/lang/String" "coder" "B" (.int 0)
abbrev sV (Z : State) (h : Heap) (a t : Addr) : Prop := Fld Z h a "java/lang/String" "value" "[B" (.ref t)
abbrev sA (Z : State) (h : Heap) (t : Addr) (ck : ClassId) (n : Int32) (vs : List Value) : Prop := Arv Z h t ck .byte n vs (.int 0)
def SQd (Z : State) (h0 : Heap) (n : Int32) (vs : List Value) (v : Option Value) (h : Heap) (L : List Loc) : Prop := ∃ (a t : Addr) (ct : ClassId), v = some (.ref a) ∧ Fr h0.size L ∧ Keep h0 h [] ∧ sE Z h a ∧ sC Z h a ∧ sV Z h a t ∧ sA Z h t ct n vs
abbrev by8 (c : Int32) : Value := .int c.toInt8.toInt32
theorem own_beq {c : Int32} (h : 0 ≤ c.toInt ∧ c.toInt ≤ 255) {k : Int} (hk : 0 ≤ k ∧ k ≤ 127) : c.toInt8.toInt32.toInt = k ↔ c.toInt = k := by
  rw [own_b8, Int.bmod_def]; split <;> omega
theorem own_char (x : Int32) : 0 ≤ ((x &&& 255).toUInt32.toUInt16.toUInt32.toInt32).toInt ∧ ((x &&& 255).toUInt32.toUInt16.toUInt32.toInt32).toInt ≤ 255 := by
  rw [own_i2c, own_mask, own_mask8]; omega
theorem own_rem (x : Int32) : (x &&& 2147483647) % 5 = 0 ∨ (x &&& 2147483647) % 5 = 1 ∨ (x &&& 2147483647) % 5 = 2 ∨ (x &&& 2147483647) % 5 = 3 ∨ (x &&& 2147483647) % 5 = 4 := by
  have e1 : (x &&& 2147483647).toInt = x.toInt % 2 ^ 31 := Jvm.Kit.i32_mask x 2147483647 (by decide) (by decide)
  have e2 : ((x &&& 2147483647) % 5).toInt = (x &&& 2147483647).toInt % 5 := Jvm.Kit.i32_rem_nonneg (by omega)
  simp only [← Int32.toInt_inj, e2]
  have t0 : (0 : Int32).toInt = 0 := rfl
  have t1 : (1 : Int32).toInt = 1 := rfl
  have t2 : (2 : Int32).toInt = 2 := rfl
  have t3 : (3 : Int32).toInt = 3 := rfl
  have t4 : (4 : Int32).toInt = 4 := rfl
  omega
theorem d27_0 : decode method_2_code 0 = .ok (.iload_n 0, 1) := by decide +kernel
theorem d27_1 : decode method_2_code 1 = .ok (.iconst 3, 1) := by decide +kernel
theorem d27_2 : decode method_2_code 2 = .ok (.iand, 1) := by decide +kernel
theorem d27_3 : decode method_2_code 3 = .ok (.ifCond .ne 8, 3) := by decide +kernel
theorem d27_11 : decode method_2_code 11 = .ok (.iload_n 0, 1) := by decide +kernel
theorem d27_12 : decode method_2_code 12 = .ok (.iconst 2, 1) := by decide +kernel
theorem d27_13 : decode method_2_code 13 = .ok (.iushr, 1) := by decide +kernel
theorem d27_14 : decode method_2_code 14 = .ok (.sipush 255, 3) := by decide +kernel
theorem d27_17 : decode method_2_code 17 = .ok (.iand, 1) := by decide +kernel
theorem d27_18 : decode method_2_code 18 = .ok (.i2c, 1) := by decide +kernel
theorem d27_19 : decode method_2_code 19 = .ok (.ireturn, 1) := by decide +kernel
theorem d27_6 : decode method_2_code 6 = .ok (.bipush 47, 2) := by decide +kernel
theorem d27_8 : decode method_2_code 8 = .ok (.goto 11, 3) := by decide +kernel
abbrev mn1 : MethodName := ⟨"com/example/guildhall/guildhall/FqanNameOfPinLaw", "ch", "(I)C"⟩
theorem pn_1 : plainName "com/example/guildhall/guildhall/FqanNameOfPinLaw" = true := by first | (simp [plainName, overriddenIn]; done) | decide +kernel
theorem c_ch (l : Launch) (Z : State) (a0 : Array Value) (hw : ∀ d ∈ tables_1, d.before a0 Z = true) (p0 : Int32) (h0 : Heap)  :
    Ctr l Z mn1 method_2_code 1 (some .char) [] ⟨0, 0, 0, 0⟩ #[(.int p0)] h0 (fun v h L => ∃ z : Int32, v = some (.int z) ∧ rg z ∧ h = h0 ∧ L = []) := by
  refine Ctr.of (plainFor_of_name pn_1) ?_
  intro p e s m below meth c s₁ hx H hml hret hown hnm hZ hlk X0 e0
  refine Goes.cast (show entryFrame m _ _ = mkF m 0 #[.val (.int p0)] [] from rfl) ?_
  refine gLoadIN 1 X0 hx (H d27_0) rfl rfl ?_
  refine gIconst 2 X0 hx (v := (3 : Int32)) (H d27_1) rfl rfl ?_
  refine gIand 3 X0 hx (H d27_2) rfl ?_
  refine gIfNeT X0 hx (H d27_3) (pc' := 11) (by decide) (by decide) (pn := 6) rfl (fun (c3 : ¬ (p0 &&& (3 : Int32)).toInt = (0 : Int)) => ?_) (fun (c3 : (p0 &&& (3 : Int32)).toInt = (0 : Int)) => ?_)
  · refine gLoadIN 12 X0 hx (H d27_11) rfl rfl ?_
    refine gIconst 13 X0 hx (v := (2 : Int32)) (H d27_12) rfl rfl ?_
    refine gIushr 14 X0 hx (H d27_13) rfl ?_
    refine gSipush 17 X0 hx (v := (255 : Int32)) (H d27_14) rfl rfl ?_
    refine gIand 18 X0 hx (H d27_17) rfl ?_
    refine gI2c 19 X0 hx (H d27_18) rfl ?_
    generalize hg_z : ((((p0.toUInt32 >>> ((2 : Int32) &&& 31).toUInt32).toInt32) &&& (255 : Int32)).toUInt32.toUInt16.toUInt32.toInt32) = z
    have hz : rg z := by rw [← hg_z]; exact own_char _
    exact gRetN X0 hx hlk hret (by simp) (H d27_19) (w := z) (own_nc (own_c8 hz)) (by decide) (by decide) (⟨_, rfl, hz, e0, rfl⟩)
  · refine gBipush 8 X0 hx (v := (47 : Int32)) (H d27_6) rfl rfl ?_
    refine gGoto X0 hx (H d27_8) (pc' := 19) (by decide) (by decide) ?_
    exact gRetN X0 hx hlk hret (by simp) (H d27_19) (w := (47 : Int32)) rfl (by decide) (by decide) (⟨_, rfl, by decide, e0, rfl⟩)
theorem d4_0 : decode jdk_42_method_149_code 0 = .ok (.aload_n 0, 1) := by decide +kernel
theorem d4_1 : decode jdk_42_method_149_code 1 = .ok (.invokespecial 1, 3) := by decide +kernel
theorem d4_4 : decode jdk_42_method_149_code 4 = .ok (.iload_n 3, 1) := by decide +kernel
theorem d4_5 : decode jdk_42_method_149_code 5 = .ok (.ifCond .ne 22, 3) := by decide +kernel
theorem d4_8 : decode jdk_42_method_149_code 8 = .ok (.aload_n 0, 1) := by decide +kernel
theorem d4_9 : decode jdk_42_method_149_code 9 = .ok (.ldc 7, 2) := by decide +kernel
theorem d4_11 : decode jdk_42_method_149_code 11 = .ok (.getfield 9, 3) := by decide +kernel
theorem d4_14 : decode jdk_42_method_149_code 14 = .ok (.putfield 9, 3) := by decide +kernel
theorem d4_17 : decode jdk_42_method_149_code 17 = .ok (.aload_n 0, 1) := by decide +kernel
theorem d4_18 : decode jdk_42_method_149_code 18 = .ok (.ldc 7, 2) := by decide +kernel
theorem d4_20 : decode jdk_42_method_149_code 20 = .ok (.getfield 15, 3) := by decide +kernel
theorem d4_23 : decode jdk_42_method_149_code 23 = .ok (.putfield 15, 3) := by decide +kernel
theorem d4_26 : decode jdk_42_method_149_code 26 = .ok (.return_, 1) := by decide +kernel
abbrev mn9 : MethodName := ⟨"java/lang/String", "<init>", "([CIILjava/lang/Void;)V"⟩
theorem pn_4 : plainName "java/lang/String" = true := by first | (simp [plainName, overriddenIn]; done) | decide +kernel
theorem c_sinit_0v (l : Launch) (Z : State) (a0 : Array Value) (hw : ∀ d ∈ tables_1, d.before a0 Z = true) (a x : Addr) (cx : ClassId) (n0 : Nat) (h0 : Heap) (hEL : EW Z a0 [("java/lang/String", 7), ("java/lang/StringLatin1", 151)]) (ga : n0 ≤ a) (E : sE Z h0 a) (C : sC Z h0 a) (V : Fld Z h0 a "java/lang/String" "value" "[B" .null) (A : Arv Z h0 x cx .char 0 [] (.int 0)) :
    CtrH l Z [("java/lang/String", 7), ("java/lang/StringLatin1", 151)] [a] mn9 jdk_42_method_149_code 6 none [] ⟨2, 4, 8, 37⟩ #[(.ref a), (.ref x), (.int (0 : Int32)), (.int (0 : Int32)), .null] h0 (fun v h L => ∃ (t : Addr) (ct : ClassId), v = none ∧ Fr n0 L ∧ Keep h0 h [a] ∧ sE Z h a ∧ sC Z h a ∧ sV Z h a t ∧ sA Z h t ct 0 []) := by
  refine CtrH.of (plainFor_of_name pn_4) ?_
  intro p e s m below meth c s₁ hx H hml hret hown hnm hZ hlk X0 e0 hS H0 hSafe
  have wS : ∀ a ∈ Bundle.stringAtoms, a.before a0 Z = true := by
    intro d hd
    simp only [Bundle.stringAtoms, Bundle.sN, List.mem_cons, List.not_mem_nil, or_false] at hd
    rcases hd with rfl | rfl | rfl | rfl | rfl | rfl | rfl
    · exact (ow hw 10 rfl)
    · exact (ow hw 9 rfl)
    · exact (ow hw 23 rfl)
    · exact (ow hw 24 rfl)
    · exact (ow hw 25 rfl)
    · exact (ow hw 26 rfl)
    · exact (ow hw 27 rfl)
  refine Goes.cast (show entryFrame m _ _ = mkF m 0 #[.val (.ref a), .val (.ref x), .val (.int (0 : Int32)), .val (.int (0 : Int32)), .val .null, .unset] [] from rfl) ?_
  refine gLoadAN 1 X0 hx (H d4_0) rfl rfl rfl ?_
  refine gInitO X0 hx hZ hown (ow hw 19 rfl) (ow hw 20 rfl) (ow hw 21 rfl) e0 (by rw [hml]; rfl) (H d4_1) (pc' := 4) rfl (by decide) (W := 0) (Nat.le_of_eq rfl) (by decide) (fun T1 X1 e1 => ?_)
  refine gLoadIN 5 X1 hx (H d4_4) rfl rfl ?_
  refine gIfNeT X1 hx (H d4_5) (pc' := 27) (by decide) (by decide) (pn := 8) rfl (fun (c5 : ¬ (0 : Int) = (0 : Int)) => ?_) (fun (c5 : (0 : Int) = (0 : Int)) => ?_)
  · exact absurd c5 (by decide)
  · refine gLoadAN 9 X1 hx (H d4_8) rfl rfl rfl ?_
    refine gLdcC X1 hx hZ hown (ow hw 22 rfl) wS e1 hS (Nat.zero_le _) hEL (by simp) H0 (vs := []) (z := 0) ⟨by decide, by decide⟩ (by decide) (by decide) (H d4_9) (pc' := 11) rfl (n := 0) (by decide) (by decide) (by decide) (by decide) (fun a2 T2 h2 k2 b2 ck2 X2 e2 E2 hS hk2 hZ hown C2 H2 Ex2 Fc2 Fv2 A2 sf2 => ?_)
    have s2_0 := C2.safe E.lt (hSafe _ (by simp))
    have f2_0 := E.ext E2
    have f2_1 := C.ext E2
    have f2_2 := V.ext E2
    have zs2 : h0.size ≤ h2.size := Nat.le_trans (Nat.le_refl _) E2.1
    have K2 : Keep h0 h2 [a] := (Keep.refl h0 [a]).ext E2
    refine gGetF X2 hx hZ hown (ow hw 28 rfl) Via.refl e2 Fv2 (H d4_11) (pc' := 14) rfl (fun T3 X3 e3 => ?_)
    refine gPutF X3 hx hZ hown (ow hw 28 rfl) Via.refl e3 f2_2 f2_0 (Or.inr ⟨(ow hw 24 rfl), rfl, hnm⟩) (ow hw 9 rfl) (ty := (.array .byte)) (by decide) rfl rfl (H d4_14) (pc' := 17) rfl (fun T4 h4 X4 e4 W4 => ?_)
    have S4 := s2_0
    have H4 := H2.trans (CHr.wr W4 S4 H2.1)
    have hk4 := Nat.le_trans hk2 (Nat.le_of_eq W4.size.symm)
    have s4_0 := Safe.wr W4 S4 H2.1 s2_0
    have f4_0 := f2_0.wr W4
    have f4_1 := f2_1.other W4 (Or.inr (slot_ne (Or.inr (ow hw 25 rfl)) (Or.inr (ow hw 24 rfl)) (by decide) (t := .byte) (t' := (.array .byte)) (by decide) (by decide)))
    have f4_2 := f2_2.same W4
    have f4_3 := Ex2.wr W4
    have f4_4 := Fc2.other W4 (Or.inl (Ne.symm (sf2 _ s2_0).1))
    have f4_5 := Fv2.other W4 (Or.inl (Ne.symm (sf2 _ s2_0).1))
    have f4_6 := A2.other W4 (Ne.symm (sf2 _ s2_0).2)
    have zs4 : h0.size ≤ h4.size := by rw [W4.size]; exact zs2
    have N4 := Fr.snoc X4 (Fr.nil n0) ga
    have K4 : Keep h0 h4 [a] := K2.wr W4 (Or.inl (by simp))
    refine gLoadAN 18 X4 hx (H d4_17) rfl rfl rfl ?_
    refine gLdcC X4 hx hZ hown (ow hw 22 rfl) wS e4 hS hk4 hEL (by simp) H4 (vs := []) (z := 0) ⟨by decide, by decide⟩ (by decide) (by decide) (H d4_18) (pc' := 20) rfl (n := 0) (by decide) (by decide) (by decide) (by decide) (fun a5 T5 h5 k5 b5 ck5 X5 e5 E5 hS hk5 hZ hown C5 H5 Ex5 Fc5 Fv5 A5 sf5 => ?_)
    have s5_0 := C5.safe f4_0.lt s4_0
    have f5_0 := f4_0.ext E5
    have f5_1 := f4_1.ext E5
    have f5_2 := f4_2.ext E5
    have f5_3 := f4_3.ext E5
    have f5_4 := f4_4.ext E5
    have f5_5 := f4_5.ext E5
    have f5_6 := f4_6.ext E5
    have zs5 : h0.size ≤ h5.size := Nat.le_trans zs4 E5.1
    have K5 : Keep h0 h5 [a] := K4.ext E5
    refine gGetF X5 hx hZ hown (ow hw 29 rfl) Via.refl e5 Fc5 (H d4_20) (pc' := 23) rfl (fun T6 X6 e6 => ?_)
    refine gPutF X6 hx hZ hown (ow hw 29 rfl) Via.refl e6 f5_1 f5_0 (Or.inr ⟨(ow hw 25 rfl), rfl, hnm⟩) (ow hw 9 rfl) (ty := .byte) (by decide) rfl rfl (H d4_23) (pc' := 26) rfl (fun T7 h7 X7 e7 W7 => ?_)
    have S7 := s5_0
    have H7 := H5.trans (CHr.wr W7 S7 H5.1)
    have hk7 := Nat.le_trans hk5 (Nat.le_of_eq W7.size.symm)
    have s7_0 := Safe.wr W7 S7 H5.1 s5_0
    have f7_0 := f5_0.wr W7
    have f7_1 := f5_1.same W7
    have f7_2 := f5_2.other W7 (Or.inr (slot_ne (Or.inr (ow hw 24 rfl)) (Or.inr (ow hw 25 rfl)) (by decide) (t := (.array .byte)) (t' := .byte) (by decide) (by decide)))
    have f7_3 := f5_3.wr W7
    have f7_4 := f5_4.other W7 (Or.inl (Ne.symm (sf2 _ s2_0).1))
    have f7_5 := f5_5.other W7 (Or.inl (Ne.symm (sf2 _ s2_0).1))
    have f7_6 := f5_6.other W7 (Ne.symm (sf2 _ s2_0).2)
    have f7_7 := Ex5.wr W7
    have f7_8 := Fc5.other W7 (Or.inl (Ne.symm (sf5 _ s5_0).1))
    have f7_9 := Fv5.other W7 (Or.inl (Ne.symm (sf5 _ s5_0).1))
    have f7_10 := A5.other W7 (Ne.symm (sf5 _ s5_0).2)
    have zs7 : h0.size ≤ h7.size := by rw [W7.size]; exact zs5
    have N7 := Fr.snoc X7 N4 ga
    have K7 : Keep h0 h7 [a] := K5.wr W7 (Or.inl (by simp))
    exact gRetHV X7 hx hlk hret (H d4_26) e7 hS hk7 hZ hEL H7 (by decide) (by decide) (⟨b2, _, rfl, N7, by rw [e7]; exact K7, by rw [e7]; exact f7_0, by rw [e7]; exact f7_1, by rw [e7]; exact f7_2, by rw [e7]; exact f7_6⟩)
theorem d10_0 : decode jdk_42_method_3_code 0 = .ok (.aload_n 0, 1) := by decide +kernel
theorem d10_1 : decode jdk_42_method_3_code 1 = .ok (.aload_n 1, 1) := by decide +kernel
theorem d10_2 : decode jdk_42_method_3_code 2 = .ok (.iconst 0, 1) := by decide +kernel
theorem d10_3 : decode jdk_42_method_3_code 3 = .ok (.aload_n 1, 1) := by decide +kernel
theorem d10_4 : decode jdk_42_method_3_code 4 = .ok (.arraylength, 1) := by decide +kernel
theorem d10_5 : decode jdk_42_method_3_code 5 = .ok (.aconst_null, 1) := by decide +kernel
theorem d10_6 : decode jdk_42_method_3_code 6 = .ok (.invokespecial 27, 3) := by decide +kernel
theorem pd_26 : parseMethodDescriptor "([CIILjava/lang/Void;)V" = some ⟨[(.array .char), .int, .int, (.object "java/lang/Void")], none⟩ := by decide +kernel
theorem d10_9 : decode jdk_42_method_3_code 9 = .ok (.return_, 1) := by decide +kernel
abbrev mn8 : MethodName := ⟨"java/lang/String", "<init>", "([C)V"⟩
theorem c_sinit_0 (l : Launch) (Z : State) (a0 : Array Value) (hw : ∀ d ∈ tables_1, d.before a0 Z = true) (a x : Addr) (cx : ClassId) (n0 : Nat) (h0 : Heap) (hEL : EW Z a0 [("java/lang/String", 7), ("java/lang/StringLatin1", 151)]) (ga : n0 ≤ a) (E : sE Z h0 a) (C : sC Z h0 a) (V : Fld Z h0 a "java/lang/String" "value" "[B" .null) (A : Arv Z h0 x cx .char 0 [] (.int 0)) :
    CtrH l Z [("java/lang/String", 7), ("java/lang/StringLatin1", 151)] [a] mn8 jdk_42_method_3_code 2 none [] ⟨3, 4, 8, 54⟩ #[(.ref a), (.ref x)] h0 (fun v h L => ∃ (t : Addr) (ct : ClassId), v = none ∧ Fr n0 L ∧ Keep h0 h [a] ∧ sE Z h a ∧ sC Z h a ∧ sV Z h a t ∧ sA Z h t ct 0 []) := by
  refine CtrH.of (plainFor_of_name pn_4) ?_
  intro p e s m below meth c s₁ hx H hml hret hown hnm hZ hlk X0 e0 hS H0 hSafe
  refine Goes.cast (show entryFrame m _ _ = mkF m 0 #[.val (.ref a), .val (.ref x)] [] from rfl) ?_
  refine gLoadAN 1 X0 hx (H d10_0) rfl rfl rfl ?_
  refine gLoadAN 2 X0 hx (H d10_1) rfl rfl rfl ?_
  refine gIconst 3 X0 hx (v := (0 : Int32)) (H d10_2) rfl rfl ?_
  refine gLoadAN 4 X0 hx (H d10_3) rfl rfl rfl ?_
  refine gArrLen X0 hx hZ e0 A (H d10_4) (pc' := 5) rfl ?_
  refine gNull 6 X0 hx (H d10_5) rfl ?_
  refine gCallIH X0 hx hZ (y := mn9) rfl hown e0 (by rw [hml]; rfl) hS (Nat.zero_le _) hEL H0 (ow hw 15 rfl) (ow hw 16 rfl) (ow hw 10 rfl) (ow hw 18 rfl) (by decide) (sl1 E.lt (hSafe _ (by simp))) (argsL := [(.ref x), (.int (0 : Int32)), (.int (0 : Int32)), .null]) (st := []) (c_sinit_0v l Z a0 hw a x cx n0 h0 hEL ga E C V A) (lenOf pd_26 rfl) (H d10_6) (pc' := 9) rfl rfl (by decide) (W := 0) (Nat.le_of_eq rfl) (by decide) (by decide) (by decide) ?_
  intro T1 v1 L1 X1 hS hZ hown C1 H1 hQ1
  have s1_0 := C1.safe E.lt (hSafe _ (by simp))
  obtain ⟨t, ct, rfl, Nq, Kq, Eq, Cq, Vq, Aq⟩ := hQ1
  exact gRetHV X1 hx hlk hret (H d10_9) rfl hS (Nat.le_refl _) hZ hEL H1 (by decide) (by decide) (⟨t, ct, rfl, Nq, Kq, Eq, Cq, Vq, Aq⟩)
theorem d28_0 : decode method_3_code 0 = .ok (.iload_n 0, 1) := by decide +kernel
theorem d28_1 : decode method_3_code 1 = .ok (.ifCond .ne 14, 3) := by decide +kernel
theorem d28_4 : decode method_3_code 4 = .ok (.new 7, 3) := by decide +kernel
theorem d28_7 : decode method_3_code 7 = .ok (.dup, 1) := by decide +kernel
theorem d28_8 : decode method_3_code 8 = .ok (.iconst 0, 1) := by decide +kernel
theorem d28_9 : decode method_3_code 9 = .ok (.newarray .char, 2) := by decide +kernel
theorem d28_11 : decode method_3_code 11 = .ok (.invokespecial 9, 3) := by decide +kernel
theorem pd_24 : parseMethodDescriptor "([C)V" = some ⟨[(.array .char)], none⟩ := by decide +kernel
theorem d28_14 : decode method_3_code 14 = .ok (.areturn, 1) := by decide +kernel
abbrev mn3 : MethodName := ⟨"com/example/guildhall/guildhall/FqanNameOfPinLaw", "make", "(ICCCC)Ljava/lang/String;"⟩
theorem c_mk_0 (l : Launch) (Z : State) (a0 : Array Value) (hw : ∀ d ∈ tables_1, d.before a0 Z = true) (ch0 ch1 ch2 ch3 : Int32) (h0 : Heap) (hEL : EW Z a0 [("java/lang/String", 7), ("java/lang/StringLatin1", 151)]) (hCpt : Cpt Z h0) (hch0 : rg ch0) (hch1 : rg ch1) (hch2 : rg ch2) (hch3 : rg ch3) :
    CtrH l Z [("java/lang/String", 7), ("java/lang/StringLatin1", 151)] [] mn3 method_3_code 5 (some (.object "java/lang/String")) [] ⟨4, 6, 12, 68⟩ #[(.int (0 : Int32)), (.int ch0), (.int ch1), (.int ch2), (.int ch3)] h0 (SQd Z h0 0 []) := by
  refine CtrH.of (plainFor_of_name pn_1) ?_
  intro p e s m below meth c s₁ hx H hml hret hown hnm hZ hlk X0 e0 hS H0 hSafe
  refine Goes.cast (show entryFrame m _ _ = mkF m 0 #[.val (.int (0 : Int32)), .val (.int ch0), .val (.int ch1), .val (.int ch2), .val (.int ch3)] [] from rfl) ?_
  refine gLoadIN 1 X0 hx (H d28_0) rfl rfl ?_
  refine gIfNeT X0 hx (H d28_1) (pc' := 15) (by decide) (by decide) (pn := 4) rfl (fun (c1 : ¬ (0 : Int) = (0 : Int)) => ?_) (fun (c1 : (0 : Int) = (0 : Int)) => ?_)
  · exact absurd c1 (by decide)
  · refine gNew X0 hx hZ hown (ow hw 8 rfl) (ow hw 9 rfl) (ow hw 10 rfl) e0 (H d28_4) (pc' := 7) rfl (by decide) (by decide) (fun T1 h1 b1 X1 e1 g1 E1 A1 D1 => ?_)
    have H1 := H0.trans (CHr.ext E1 H0.1)
    have hk1 := Nat.le_trans (Nat.zero_le _) E1.1
    have s1_b := Safe.ext E1 H0.1 (Safe.new (Nat.le_of_eq g1.symm))
    have f1_0 := hCpt.ext E1
    have sz_b1 : h0.size ≤ b1 := Nat.le_trans (Nat.le_refl _) (Nat.le_of_eq g1.symm)
    have zs1 : h0.size ≤ h1.size := Nat.le_trans (Nat.le_refl _) E1.1
    have K1 : Keep h0 h1 [] := (Keep.refl h0 []).ext E1
    have F1_value : Fld Z h1 b1 "java/lang/String" "value" "[B" .null := D1 (Or.inr (ow hw 24 rfl)) (ty := (.array .byte)) (by decide)
    have F1_coder : Fld Z h1 b1 "java/lang/String" "coder" "B" (.int (0 : Int32)) := D1 (Or.inr (ow hw 25 rfl)) (ty := .byte) (by decide)
    refine gDup 8 X1 hx (H d28_7) rfl rfl ?_
    refine gIconst 9 X1 hx (v := (0 : Int32)) (H d28_8) rfl rfl ?_
    refine gNewP X1 hx hZ (ow hw 11 rfl) e1 (n := (0 : Int32)) (H d28_9) (by decide) (cap := 0) (by decide) (by decide) (by decide) (by decide) 0 (pc' := 11) rfl (fun T2 h2 b2 ck2 X2 e2 g2 E2 A2 => ?_)
    have ne_b1_b2 : b1 ≠ b2 := Nat.ne_of_lt (Nat.lt_of_lt_of_eq A1.lt g2.symm)
    have H2 := H1.trans (CHr.ext E2 H1.1)
    have hk2 := Nat.le_trans hk1 E2.1
    have s2_0 := Safe.ext E2 H1.1 s1_b
    have s2_b := Safe.ext E2 H1.1 (Safe.new (Nat.le_of_eq g2.symm))
    have f2_0 := f1_0.ext E2
    have f2_1 := A1.ext E2
    have f2_2 := F1_value.ext E2
    have f2_3 := F1_coder.ext E2
    have sz_b2 : h0.size ≤ b2 := Nat.le_trans zs1 (Nat.le_of_eq g2.symm)
    have zs2 : h0.size ≤ h2.size := Nat.le_trans zs1 E2.1
    have K2 : Keep h0 h2 [] := K1.ext E2
    have V2 : Arv Z h2 b2 ck2 .char (0 : Int32) [] (.int (0 : Int32)) := A2
    refine gCallIH X2 hx hZ (y := mn8) rfl hown e2 (by rw [hml]; rfl) hS hk2 hEL H2 (ow hw 12 rfl) (ow hw 13 rfl) (ow hw 10 rfl) (ow hw 14 rfl) (by decide) (sl1 f2_1.lt s2_0) (argsL := [(.ref b2)]) (st := [(.ref b1)]) (c_sinit_0 l Z a0 hw b1 b2 _ h0.size h2 hEL sz_b1 f2_1 f2_3 f2_2 V2) (lenOf pd_24 rfl) (H d28_11) (pc' := 14) rfl rfl (by decide) (W := 1) (Nat.le_of_eq rfl) (by decide) (by decide) (by decide) ?_
    intro T3 v3 L3 X3 hS hZ hown C3 H3 hQ3
    have s3_0 := C3.safe f2_1.lt s2_0
    have s3_1 := C3.safe V2.lt s2_b
    obtain ⟨t3, ct3, rfl, Nq3, Kq3, Eq3, Cq3, Vq3, Aq3⟩ := hQ3
    have N3 := Fr.app (Fr.nil h0.size) Nq3
    have f3_0 := own_cpt_keep f2_0 Kq3 (nsS (Exa.nostat f2_1) ns0)
    have f3_1 := f2_1.keep Kq3
    have f3_4 := V2.keep Kq3 (ninS (Ne.symm ne_b1_b2) nin0)
    have zs3 := Nat.le_trans zs2 Kq3.1
    have K3 : Keep h0 T3.heap [] := K2.trans Kq3 (allS (Or.inr sz_b1) all0)
    exact gRetHA X3 hx hlk hret rfl rfl (H d28_14) rfl hS (Nat.le_refl _) hZ hEL H3 (by decide) (by decide) (⟨b1, t3, ct3, rfl, N3, K3, Eq3, Cq3, Vq3, Aq3⟩)
theorem d23_0 : decode jdk_52_method_21_code 0 = .ok (.iconst 0, 1) := by decide +kernel
theorem d23_1 : decode jdk_52_method_21_code 1 = .ok (.istore 5, 2) := by decide +kernel
theorem d23_3 : decode jdk_52_method_21_code 3 = .ok (.iload 5, 2) := by decide +kernel
theorem d23_5 : decode jdk_52_method_21_code 5 = .ok (.iload 4, 2) := by decide +kernel
theorem d23_7 : decode jdk_52_method_21_code 7 = .ok (.if_icmp .ge 37, 3) := by decide +kernel
theorem d23_10 : decode jdk_52_method_21_code 10 = .ok (.aload_n 0, 1) := by decide +kernel
theorem d23_11 : decode jdk_52_method_21_code 11 = .ok (.iload_n 1, 1) := by decide +kernel
theorem d23_12 : decode jdk_52_method_21_code 12 = .ok (.caload, 1) := by decide +kernel
theorem d23_13 : decode jdk_52_method_21_code 13 = .ok (.istore 6, 2) := by decide +kernel
theorem d23_15 : decode jdk_52_method_21_code 15 = .ok (.iload 6, 2) := by decide +kernel
theorem d23_17 : decode jdk_52_method_21_code 17 = .ok (.sipush 255, 3) := by decide +kernel
theorem d23_20 : decode jdk_52_method_21_code 20 = .ok (.if_icmp .le 6, 3) := by decide +kernel
theorem d23_26 : decode jdk_52_method_21_code 26 = .ok (.aload_n 2, 1) := by decide +kernel
theorem d23_27 : decode jdk_52_method_21_code 27 = .ok (.iload_n 3, 1) := by decide +kernel
theorem d23_28 : decode jdk_52_method_21_code 28 = .ok (.iload 6, 2) := by decide +kernel
theorem d23_30 : decode jdk_52_method_21_code 30 = .ok (.i2b, 1) := by decide +kernel
theorem d23_31 : decode jdk_52_method_21_code 31 = .ok (.bastore, 1) := by decide +kernel
theorem d23_32 : decode jdk_52_method_21_code 32 = .ok (.iinc 1 1, 3) := by decide +kernel
theorem d23_35 : decode jdk_52_method_21_code 35 = .ok (.iinc 3 1, 3) := by decide +kernel
theorem d23_38 : decode jdk_52_method_21_code 38 = .ok (.iinc 5 1, 3) := by decide +kernel
theorem d23_41 : decode jdk_52_method_21_code 41 = .ok (.goto (-38), 3) := by decide +kernel
theorem d23_44 : decode jdk_52_method_21_code 44 = .ok (.iload 4, 2) := by decide +kernel
theorem d23_46 : decode jdk_52_method_21_code 46 = .ok (.ireturn, 1) := by decide +kernel
abbrev mn26 : MethodName := ⟨"java/lang/StringUTF16", "compress", "([CI[BII)I"⟩
theorem pn_6 : plainName "java/lang/StringUTF16" = true := by first | (simp [plainName, overriddenIn]; done) | decide +kernel
theorem c_compress_1i (l : Launch) (Z : State) (a0 : Array Value) (hw : ∀ d ∈ tables_1, d.before a0 Z = true) (x t : Addr) (cx ct : ClassId) (n0 : Nat) (ch0 : Int32) (h0 : Heap) (gt : n0 ≤ t) (hne : x ≠ t) (A : Arv Z h0 x cx .char 1 [.int ch0] (.int 0)) (B : Arv Z h0 t ct .byte 1 [.int 0] (.int 0)) (hch0 : rg ch0) :
    Ctr l Z mn26 jdk_52_method_21_code 7 (some .int) [] ⟨0, 0, 0, 0⟩ #[(.ref x), (.int (0 : Int32)), (.ref t), (.int (0 : Int32)), (.int (1 : Int32))] h0 (fun v h L => v = some (.int 1) ∧ Fr n0 L ∧ Keep h0 h [t] ∧ sA Z h t ct 1 [by8 ch0]) := by
  refine Ctr.of (plainFor_of_name pn_6) ?_
  intro p e s m below meth c s₁ hx H hml hret hown hnm hZ hlk X0 e0
  refine Goes.cast (show entryFrame m _ _ = mkF m 0 #[.val (.ref x), .val (.int (0 : Int32)), .val (.ref t), .val (.int (0 : Int32)), .val (.int (1 : Int32)), .unset, .unset] [] from rfl) ?_
  refine gIconst 1 X0 hx (v := (0 : Int32)) (H d23_0) rfl rfl ?_
  refine gStoreI 3 X0 hx (H d23_1) (l' := #[.val (.ref x), .val (.int (0 : Int32)), .val (.ref t), .val (.int (0 : Int32)), .val (.int (1 : Int32)), .val (.int (0 : Int32)), .unset]) rfl rfl ?_
  refine gLoadI 5 X0 hx (H d23_3) rfl rfl ?_
  refine gLoadI 7 X0 hx (H d23_5) rfl rfl ?_
  refine gIcmpGe X0 hx (H d23_7) (pc' := 44) (by decide) (by decide) (pn := 10) rfl (fun (c7 : (1 : Int) ≤ (0 : Int)) => ?_) (fun (c7 : (0 : Int) < (1 : Int)) => ?_)
  · exact absurd c7 (by decide)
  · refine gLoadAN 11 X0 hx (H d23_10) rfl rfl rfl ?_
    refine gLoadIN 12 X0 hx (H d23_11) rfl rfl ?_
    refine gCaload X0 hx hZ e0 A (j := (0 : Int32)) (v := (.int ch0)) (by decide) (by decide) rfl (H d23_12) (pc' := 13) rfl ?_
    refine gStoreI 15 X0 hx (H d23_13) (l' := #[.val (.ref x), .val (.int (0 : Int32)), .val (.ref t), .val (.int (0 : Int32)), .val (.int (1 : Int32)), .val (.int (0 : Int32)), .val (.int ch0)]) rfl rfl ?_
    refine gLoadI 17 X0 hx (H d23_15) rfl rfl ?_
    refine gSipush 20 X0 hx (v := (255 : Int32)) (H d23_17) rfl rfl ?_
    refine gIcmpLe X0 hx (H d23_20) (pc' := 26) (by decide) (by decide) (pn := 23) rfl (fun (c20 : ch0.toInt ≤ (255 : Int)) => ?_) (fun (c20 : (255 : Int) < ch0.toInt) => ?_)
    · refine gLoadAN 27 X0 hx (H d23_26) rfl rfl rfl ?_
      refine gLoadIN 28 X0 hx (H d23_27) rfl rfl ?_
      refine gLoadI 30 X0 hx (H d23_28) rfl rfl ?_
      refine gI2b 31 X0 hx (H d23_30) rfl ?_
      refine gBastore X0 hx hZ e0 (x := (ch0.toInt8.toInt32)) B (j := (0 : Int32)) (by decide) (by decide) 0 (by decide) (by simp) (H d23_31) (pc' := 32) rfl (fun T1 h1 X1 e1 W1 A1 => ?_)
      have f1_0 := A.other W1 hne
      have zs1 : h0.size ≤ h1.size := by rw [W1.size]; exact (Nat.le_refl _)
      have N1 := Fr.snoc X1 (Fr.nil n0) gt
      have K1 : Keep h0 h1 [t] := (Keep.refl h0 [t]).wr W1 (Or.inl (by simp))
      have V1 : Arv Z h1 t _ .byte (1 : Int32) [(.int (ch0.toInt8.toInt32))] (.int 0) := (by have q := A1; rw [own_nb] at q; exact q)
      refine gIinc X1 hx (v := (1 : Int32)) (H d23_32) (l' := #[.val (.ref x), .val (.int (1 : Int32)), .val (.ref t), .val (.int (0 : Int32)), .val (.int (1 : Int32)), .val (.int (0 : Int32)), .val (.int ch0)]) (pc' := 35) rfl rfl rfl rfl ?_
      refine gIinc X1 hx (v := (1 : Int32)) (H d23_35) (l' := #[.val (.ref x), .val (.int (1 : Int32)), .val (.ref t), .val (.int (1 : Int32)), .val (.int (1 : Int32)), .val (.int (0 : Int32)), .val (.int ch0)]) (pc' := 38) rfl rfl rfl rfl ?_
      refine gIinc X1 hx (v := (1 : Int32)) (H d23_38) (l' := #[.val (.ref x), .val (.int (1 : Int32)), .val (.ref t), .val (.int (1 : Int32)), .val (.int (1 : Int32)), .val (.int (1 : Int32)), .val (.int ch0)]) (pc' := 41) rfl rfl rfl rfl ?_
      refine gGoto X1 hx (H d23_41) (pc' := 3) (by decide) (by decide) ?_
      refine gLoadI 5 X1 hx (H d23_3) rfl rfl ?_
      refine gLoadI 7 X1 hx (H d23_5) rfl rfl ?_
      refine gIcmpGe X1 hx (H d23_7) (pc' := 44) (by decide) (by decide) (pn := 10) rfl (fun (c7' : (1 : Int) ≤ (1 : Int)) => ?_) (fun (c7' : (1 : Int) < (1 : Int)) => ?_)
      · refine gLoadI 46 X1 hx (H d23_44) rfl rfl ?_
        exact gRetI X1 hx hlk hret (H d23_46) (by decide) (by decide) (⟨rfl, N1, by rw [e1]; exact K1, by rw [e1]; exact V1⟩)
      · exact absurd c7' (by decide)
    · exact absurd c20 (by omega)
theorem d22_0 : decode jdk_52_method_16_code 0 = .ok (.iload_n 2, 1) := by decide +kernel
theorem d22_1 : decode jdk_52_method_16_code 1 = .ok (.newarray .byte, 2) := by decide +kernel
theorem d22_3 : decode jdk_52_method_16_code 3 = .ok (.astore_n 3, 1) := by decide +kernel
theorem d22_4 : decode jdk_52_method_16_code 4 = .ok (.aload_n 0, 1) := by decide +kernel
theorem d22_5 : decode jdk_52_method_16_code 5 = .ok (.iload_n 1, 1) := by decide +kernel
theorem d22_6 : decode jdk_52_method_16_code 6 = .ok (.aload_n 3, 1) := by decide +kernel
theorem d22_7 : decode jdk_52_method_16_code 7 = .ok (.iconst 0, 1) := by decide +kernel
theorem d22_8 : decode jdk_52_method_16_code 8 = .ok (.iload_n 2, 1) := by decide +kernel
theorem d22_9 : decode jdk_52_method_16_code 9 = .ok (.invokestatic 115, 3) := by decide +kernel
theorem pd_27 : parseMethodDescriptor "([CI[BII)I" = some ⟨[(.array .char), .int, (.array .byte), .int, .int], some .int⟩ := by decide +kernel
theorem d22_12 : decode jdk_52_method_16_code 12 = .ok (.istore 4, 2) := by decide +kernel
theorem d22_14 : decode jdk_52_method_16_code 14 = .ok (.iload 4, 2) := by decide +kernel
theorem d22_16 : decode jdk_52_method_16_code 16 = .ok (.iload_n 2, 1) := by decide +kernel
theorem d22_17 : decode jdk_52_method_16_code 17 = .ok (.if_icmp .eq 40, 3) := by decide +kernel
theorem d22_57 : decode jdk_52_method_16_code 57 = .ok (.aload_n 3, 1) := by decide +kernel
theorem d22_58 : decode jdk_52_method_16_code 58 = .ok (.areturn, 1) := by decide +kernel
abbrev mn25 : MethodName := ⟨"java/lang/StringUTF16", "compress", "([CII)[B"⟩
theorem c_compress_1 (l : Launch) (Z : State) (a0 : Array Value) (hw : ∀ d ∈ tables_1, d.before a0 Z = true) (x : Addr) (cx : ClassId) (ch0 : Int32) (h0 : Heap) (A : Arv Z h0 x cx .char 1 [.int ch0] (.int 0)) (hch0 : rg ch0) :
    Ctr l Z mn25 jdk_52_method_16_code 6 (some (.array .byte)) [] ⟨1, 1, 1, 18⟩ #[(.ref x), (.int (0 : Int32)), (.int (1 : Int32))] h0 (fun v h L => ∃ (t : Addr) (ct : ClassId), v = some (.ref t) ∧ h0.size ≤ t ∧ Fr h0.size L ∧ Keep h0 h [] ∧ sA Z h t ct 1 [by8 ch0]) := by
  refine Ctr.of (plainFor_of_name pn_6) ?_
  intro p e s m below meth c s₁ hx H hml hret hown hnm hZ hlk X0 e0
  refine Goes.cast (show entryFrame m _ _ = mkF m 0 #[.val (.ref x), .val (.int (0 : Int32)), .val (.int (1 : Int32)), .unset, .unset, .unset] [] from rfl) ?_
  refine gLoadIN 1 X0 hx (H d22_0) rfl rfl ?_
  refine gNewP X0 hx hZ (ow hw 23 rfl) e0 (n := (1 : Int32)) (H d22_1) (by decide) (cap := 1) (by decide) (by decide) (by decide) (by decide) 1 (pc' := 3) rfl (fun T1 h1 b1 ck1 X1 e1 g1 E1 A1 => ?_)
  have ne_x_b1 : x ≠ b1 := Nat.ne_of_lt (Nat.lt_of_lt_of_eq A.lt g1.symm)
  have f1_0 := A.ext E1
  have sz_b1 : h0.size ≤ b1 := Nat.le_trans (Nat.le_refl _) (Nat.le_of_eq g1.symm)
  have zs1 : h0.size ≤ h1.size := Nat.le_trans (Nat.le_refl _) E1.1
  have K1 : Keep h0 h1 [] := (Keep.refl h0 []).ext E1
  have V1 : Arv Z h1 b1 ck1 .byte (1 : Int32) [(.int (0 : Int32))] (.int (0 : Int32)) := A1
  refine gStoreAN 4 X1 hx (H d22_3) (l' := #[.val (.ref x), .val (.int (0 : Int32)), .val (.int (1 : Int32)), .val (.ref b1), .unset, .unset]) rfl rfl rfl ?_
  refine gLoadAN 5 X1 hx (H d22_4) rfl rfl rfl ?_
  refine gLoadIN 6 X1 hx (H d22_5) rfl rfl ?_
  refine gLoadAN 7 X1 hx (H d22_6) rfl rfl rfl ?_
  refine gIconst 8 X1 hx (v := (0 : Int32)) (H d22_7) rfl rfl ?_
  refine gLoadIN 9 X1 hx (H d22_8) rfl rfl ?_
  refine gCallS X1 hx hZ (y := mn26) hown e1 (by rw [hml]; rfl) (ow hw 94 rfl) (ow hw 95 rfl) (ow hw 92 rfl) (ow hw 96 rfl) (by decide) (argsL := [(.ref x), (.int (0 : Int32)), (.ref b1), (.int (0 : Int32)), (.int (1 : Int32))]) (st := []) (c_compress_1i l Z a0 hw x b1 cx ck1 h0.size ch0 h1 sz_b1 ne_x_b1 f1_0 V1 hch0) (lenOf pd_27 rfl) (H d22_9) (pc' := 12) rfl rfl (by decide) (W := 0) (Nat.le_of_eq rfl) (by decide) (by decide) (by decide) ?_
  intro T2 v2 L2 X2 hQ2
  obtain ⟨rfl, Nq2, Kq2, Aq2⟩ := hQ2
  have N2 := Fr.app (Fr.nil h0.size) Nq2
  have K2 : Keep h0 T2.heap [] := K1.trans Kq2 (allS (Or.inr sz_b1) all0)
  refine gStoreI 14 X2 hx (H d22_12) (l' := #[.val (.ref x), .val (.int (0 : Int32)), .val (.int (1 : Int32)), .val (.ref b1), .val (.int (1 : Int32)), .unset]) rfl rfl ?_
  refine gLoadI 16 X2 hx (H d22_14) rfl rfl ?_
  refine gLoadIN 17 X2 hx (H d22_16) rfl rfl ?_
  refine gIcmpEqT X2 hx (H d22_17) (pc' := 57) (by decide) (by decide) (pn := 20) rfl (fun (c17 : (1 : Int) = (1 : Int)) => ?_) (fun (c17 : ¬ (1 : Int) = (1 : Int)) => ?_)
  · refine gLoadAN 58 X2 hx (H d22_57) rfl rfl rfl ?_
    exact gRetA X2 hx hlk hret rfl rfl (H d22_58) (by decide) (by decide) (⟨b1, _, rfl, sz_b1, N2, K2, Aq2⟩)
  · exact absurd c17 (by decide)
theorem d21_0 : decode jdk_52_method_15_code 0 = .ok (.iload_n 1, 1) := by decide +kernel
theorem d21_1 : decode jdk_52_method_15_code 1 = .ok (.aload_n 0, 1) := by decide +kernel
theorem d21_2 : decode jdk_52_method_15_code 2 = .ok (.arraylength, 1) := by decide +kernel
theorem d21_3 : decode jdk_52_method_15_code 3 = .ok (.isub, 1) := by decide +kernel
theorem d21_4 : decode jdk_52_method_15_code 4 = .ok (.bipush 31, 2) := by decide +kernel
theorem d21_6 : decode jdk_52_method_15_code 6 = .ok (.iushr, 1) := by decide +kernel
theorem d21_7 : decode jdk_52_method_15_code 7 = .ok (.i2b, 1) := by decide +kernel
theorem d21_8 : decode jdk_52_method_15_code 8 = .ok (.ireturn, 1) := by decide +kernel
abbrev mn24 : MethodName := ⟨"java/lang/StringUTF16", "coderFromArrayLen", "([BI)B"⟩
theorem c_cfal_1 (l : Launch) (Z : State) (a0 : Array Value) (hw : ∀ d ∈ tables_1, d.before a0 Z = true) (t : Addr) (ck : ClassId) (ch0 : Int32) (h0 : Heap) (A : sA Z h0 t ck 1 [by8 ch0]) :
    Ctr l Z mn24 jdk_52_method_15_code 2 (some .byte) [] ⟨0, 0, 0, 0⟩ #[(.ref t), (.int (1 : Int32))] h0 (Just h0 (.int 0)) := by
  refine Ctr.of (plainFor_of_name pn_6) ?_
  intro p e s m below meth c s₁ hx H hml hret hown hnm hZ hlk X0 e0
  refine Goes.cast (show entryFrame m _ _ = mkF m 0 #[.val (.ref t), .val (.int (1 : Int32))] [] from rfl) ?_
  refine gLoadIN 1 X0 hx (H d21_0) rfl rfl ?_
  refine gLoadAN 2 X0 hx (H d21_1) rfl rfl rfl ?_
  refine gArrLen X0 hx hZ e0 A (H d21_2) (pc' := 3) rfl ?_
  refine gIsub 4 X0 hx (H d21_3) rfl ?_
  show Goes p e below _ s₁ (mkF m 4 #[.val (.ref t), .val (.int (1 : Int32))] [(.int (0 : Int32))])
  refine gBipush 6 X0 hx (v := (31 : Int32)) (H d21_4) rfl rfl ?_
  refine gIushr 7 X0 hx (H d21_6) rfl ?_
  show Goes p e below _ s₁ (mkF m 7 #[.val (.ref t), .val (.int (1 : Int32))] [(.int (0 : Int32))])
  refine gI2b 8 X0 hx (H d21_7) rfl ?_
  show Goes p e below _ s₁ (mkF m 8 #[.val (.ref t), .val (.int (1 : Int32))] [(.int (0 : Int32))])
  exact gRetN X0 hx hlk hret (by simp) (H d21_8) (w := (0 : Int32)) rfl (by decide) (by decide) (⟨rfl, e0, rfl⟩)
theorem d4_27 : decode jdk_42_method_149_code 27 = .ok (.getstatic 38, 3) := by decide +kernel
theorem d4_30 : decode jdk_42_method_149_code 30 = .ok (.ifCond .eq 28, 3) := by decide +kernel
theorem d4_33 : decode jdk_42_method_149_code 33 = .ok (.aload_n 1, 1) := by decide +kernel
theorem d4_34 : decode jdk_42_method_149_code 34 = .ok (.iload_n 2, 1) := by decide +kernel
theorem d4_35 : decode jdk_42_method_149_code 35 = .ok (.iload_n 3, 1) := by decide +kernel
theorem d4_36 : decode jdk_42_method_149_code 36 = .ok (.invokestatic 177, 3) := by decide +kernel
theorem pd_25 : parseMethodDescriptor "([CII)[B" = some ⟨[(.array .char), .int, .int], some (.array .byte)⟩ := by decide +kernel
theorem d4_39 : decode jdk_42_method_149_code 39 = .ok (.astore 5, 2) := by decide +kernel
theorem d4_41 : decode jdk_42_method_149_code 41 = .ok (.aload_n 0, 1) := by decide +kernel
theorem d4_42 : decode jdk_42_method_149_code 42 = .ok (.aload 5, 2) := by decide +kernel
theorem d4_44 : decode jdk_42_method_149_code 44 = .ok (.iload_n 3, 1) := by decide +kernel
theorem d4_45 : decode jdk_42_method_149_code 45 = .ok (.invokestatic 47, 3) := by decide +kernel
theorem pd_19 : parseMethodDescriptor "([BI)B" = some ⟨[(.array .byte), .int], some .byte⟩ := by decide +kernel
theorem d4_48 : decode jdk_42_method_149_code 48 = .ok (.putfield 15, 3) := by decide +kernel
theorem d4_51 : decode jdk_42_method_149_code 51 = .ok (.aload_n 0, 1) := by decide +kernel
theorem d4_52 : decode jdk_42_method_149_code 52 = .ok (.aload 5, 2) := by decide +kernel
theorem d4_54 : decode jdk_42_method_149_code 54 = .ok (.putfield 9, 3) := by decide +kernel
theorem d4_57 : decode jdk_42_method_149_code 57 = .ok (.return_, 1) := by decide +kernel
theorem c_sinit_1v (l : Launch) (Z : State) (a0 : Array Value) (hw : ∀ d ∈ tables_1, d.before a0 Z = true) (a x : Addr) (cx : ClassId) (n0 : Nat) (ch0 : Int32) (h0 : Heap) (hCpt : Cpt Z h0) (ga : n0 ≤ a) (gz : n0 ≤ h0.size) (hax : x ≠ a) (E : sE Z h0 a) (C : sC Z h0 a) (V : Fld Z h0 a "java/lang/String" "value" "[B" .null) (A : Arv Z h0 x cx .char 1 [.int ch0] (.int 0)) (hch0 : rg ch0) :
    Ctr l Z mn9 jdk_42_method_149_code 6 none [] ⟨2, 1, 1, 37⟩ #[(.ref a), (.ref x), (.int (0 : Int32)), (.int (1 : Int32)), .null] h0 (fun v h L => ∃ (t : Addr) (ct : ClassId), v = none ∧ Fr n0 L ∧ Keep h0 h [a] ∧ h0.size ≤ t ∧ sE Z h a ∧ sC Z h a ∧ sV Z h a t ∧ sA Z h t ct 1 [by8 ch0]) := by
  refine Ctr.of (plainFor_of_name pn_4) ?_
  intro p e s m below meth c s₁ hx H hml hret hown hnm hZ hlk X0 e0
  refine Goes.cast (show entryFrame m _ _ = mkF m 0 #[.val (.ref a), .val (.ref x), .val (.int (0 : Int32)), .val (.int (1 : Int32)), .val .null, .unset] [] from rfl) ?_
  have hCpt0 := hCpt
  obtain ⟨cz, SC, hcz⟩ := hCpt0
  refine gLoadAN 1 X0 hx (H d4_0) rfl rfl rfl ?_
  refine gInitO X0 hx hZ hown (ow hw 19 rfl) (ow hw 20 rfl) (ow hw 21 rfl) e0 (by rw [hml]; rfl) (H d4_1) (pc' := 4) rfl (by decide) (W := 0) (Nat.le_of_eq rfl) (by decide) (fun T1 X1 e1 => ?_)
  refine gLoadIN 5 X1 hx (H d4_4) rfl rfl ?_
  refine gIfNeT X1 hx (H d4_5) (pc' := 27) (by decide) (by decide) (pn := 8) rfl (fun (c5 : ¬ (1 : Int) = (0 : Int)) => ?_) (fun (c5 : (1 : Int) = (0 : Int)) => ?_)
  · refine gGetS X1 hx hZ hown (ow hw 49 rfl) Via.refl e1 SC (H d4_27) (pc' := 30) rfl (fun T2 X2 e2 => ?_)
    refine gIfEqT X2 hx (H d4_30) (pc' := 58) (by decide) (by decide) (pn := 33) rfl (fun (c30 : cz.toInt = (0 : Int)) => ?_) (fun (c30 : ¬ cz.toInt = (0 : Int)) => ?_)
    · exact absurd c30 hcz
    · refine gLoadAN 34 X2 hx (H d4_33) rfl rfl rfl ?_
      refine gLoadIN 35 X2 hx (H d4_34) rfl rfl ?_
      refine gLoadIN 36 X2 hx (H d4_35) rfl rfl ?_
      refine gCallS X2 hx hZ (y := mn25) hown e2 (by rw [hml]; rfl) (ow hw 90 rfl) (ow hw 91 rfl) (ow hw 92 rfl) (ow hw 93 rfl) (by decide) (argsL := [(.ref x), (.int (0 : Int32)), (.int (1 : Int32))]) (st := []) (c_compress_1 l Z a0 hw x cx ch0 h0 A hch0) (lenOf pd_25 rfl) (H d4_36) (pc' := 39) rfl rfl (by decide) (W := 0) (Nat.le_of_eq rfl) (by decide) (by decide) (by decide) ?_
      intro T3 v3 L3 X3 hQ3
      obtain ⟨t3, ct3, rfl, gt3, Nq3, Kq3, Aq3⟩ := hQ3
      have N3 := Fr.app (Fr.nil n0) (fun y hy => Nat.le_trans gz (Nq3 y hy))
      have K3 : Keep h0 T3.heap [a] := (Keep.refl h0 [a]).trans Kq3 all0
      have f3_0 := own_sta_keep SC Kq3 ns0
      have f3_1 := E.keep Kq3
      have f3_2 := C.keep Kq3 nin0
      have f3_3 := V.keep Kq3 nin0
      have nt3 : t3 ≠ a := Ne.symm (Nat.ne_of_lt (Nat.lt_of_lt_of_le E.lt gt3))
      refine gStoreA 41 X3 hx (H d4_39) (l' := #[.val (.ref a), .val (.ref x), .val (.int (0 : Int32)), .val (.int (1 : Int32)), .val .null, .val (.ref t3)]) rfl rfl rfl ?_
      refine gLoadAN 42 X3 hx (H d4_41) rfl rfl rfl ?_
      refine gLoadA 44 X3 hx (H d4_42) rfl rfl rfl ?_
      refine gLoadIN 45 X3 hx (H d4_44) rfl rfl ?_
      refine gCallSJ X3 hx hZ (y := mn24) hown rfl (by rw [hml]; rfl) (ow hw 97 rfl) (ow hw 98 rfl) (ow hw 92 rfl) (ow hw 99 rfl) (by decide) (argsL := [(.ref t3), (.int (1 : Int32))]) (st := [(.ref a)]) (c_cfal_1 l Z a0 hw t3 ct3 ch0 _ Aq3) (lenOf pd_19 rfl) (H d4_45) (pc' := 48) rfl rfl rfl rfl (by decide) (W := 1) (Nat.le_of_eq rfl) (by decide) (by decide) (by decide) ?_
      intro T4 X4 e4
      refine gPutF X4 hx hZ hown (ow hw 29 rfl) Via.refl e4 f3_2 f3_1 (Or.inr ⟨(ow hw 25 rfl), rfl, hnm⟩) (ow hw 9 rfl) (ty := .byte) (by decide) rfl rfl (H d4_48) (pc' := 51) rfl (fun T5 h5 X5 e5 W5 => ?_)
      have f5_0 := f3_0.wr W5
      have f5_1 := f3_1.wr W5
      have f5_2 := f3_2.same W5
      have f5_3 := f3_3.other W5 (Or.inr (slot_ne (Or.inr (ow hw 24 rfl)) (Or.inr (ow hw 25 rfl)) (by decide) (t := (.array .byte)) (t' := .byte) (by decide) (by decide)))
      have f5_4 := Aq3.other W5 nt3
      have zs5 : h0.size ≤ h5.size := by rw [W5.size]; exact Kq3.1
      have N5 := Fr.snoc X5 N3 ga
      have K5 : Keep h0 h5 [a] := K3.wr W5 (Or.inl (by simp))
      refine gLoadAN 52 X5 hx (H d4_51) rfl rfl rfl ?_
      refine gLoadA 54 X5 hx (H d4_52) rfl rfl rfl ?_
      refine gPutF X5 hx hZ hown (ow hw 28 rfl) Via.refl e5 f5_3 f5_1 (Or.inr ⟨(ow hw 24 rfl), rfl, hnm⟩) (ow hw 9 rfl) (ty := (.array .byte)) (by decide) rfl rfl (H d4_54) (pc' := 57) rfl (fun T6 h6 X6 e6 W6 => ?_)
      have f6_0 := f5_0.wr W6
      have f6_1 := f5_1.wr W6
      have f6_2 := f5_2.other W6 (Or.inr (slot_ne (Or.inr (ow hw 25 rfl)) (Or.inr (ow hw 24 rfl)) (by decide) (t := .byte) (t' := (.array .byte)) (by decide) (by decide)))
      have f6_3 := f5_3.same W6
      have f6_4 := f5_4.other W6 nt3
      have zs6 : h0.size ≤ h6.size := by rw [W6.size]; exact zs5
      have N6 := Fr.snoc X6 N5 ga
      have K6 : Keep h0 h6 [a] := K5.wr W6 (Or.inl (by simp))
      exact gRetV X6 hx hlk hret (H d4_57) (by decide) (by decide) (⟨t3, ct3, rfl, N6, by rw [e6]; exact K6, gt3, by rw [e6]; exact f6_1, by rw [e6]; exact f6_2, by rw [e6]; exact f6_3, by rw [e6]; exact f6_4⟩)
  · exact absurd c5 (by decide)
theorem c_sinit_1 (l : Launch) (Z : State) (a0 : Array Value) (hw : ∀ d ∈ tables_1, d.before a0 Z = true) (a x : Addr) (cx : ClassId) (n0 : Nat) (ch0 : Int32) (h0 : Heap) (hCpt : Cpt Z h0) (ga : n0 ≤ a) (gz : n0 ≤ h0.size) (hax : x ≠ a) (E : sE Z h0 a) (C : sC Z h0 a) (V : Fld Z h0 a "java/lang/String" "value" "[B" .null) (A : Arv Z h0 x cx .char 1 [.int ch0] (.int 0)) (hch0 : rg ch0) :
    Ctr l Z mn8 jdk_42_method_3_code 2 none [] ⟨3, 1, 1, 54⟩ #[(.ref a), (.ref x)] h0 (fun v h L => ∃ (t : Addr) (ct : ClassId), v = none ∧ Fr n0 L ∧ Keep h0 h [a] ∧ h0.size ≤ t ∧ sE Z h a ∧ sC Z h a ∧ sV Z h a t ∧ sA Z h t ct 1 [by8 ch0]) := by
  refine Ctr.of (plainFor_of_name pn_4) ?_
  intro p e s m below meth c s₁ hx H hml hret hown hnm hZ hlk X0 e0
  refine Goes.cast (show entryFrame m _ _ = mkF m 0 #[.val (.ref a), .val (.ref x)] [] from rfl) ?_
  refine gLoadAN 1 X0 hx (H d10_0) rfl rfl rfl ?_
  refine gLoadAN 2 X0 hx (H d10_1) rfl rfl rfl ?_
  refine gIconst 3 X0 hx (v := (0 : Int32)) (H d10_2) rfl rfl ?_
  refine gLoadAN 4 X0 hx (H d10_3) rfl rfl rfl ?_
  refine gArrLen X0 hx hZ e0 A (H d10_4) (pc' := 5) rfl ?_
  refine gNull 6 X0 hx (H d10_5) rfl ?_
  refine gCallI X0 hx hZ (y := mn9) rfl hown e0 (by rw [hml]; rfl) (ow hw 15 rfl) (ow hw 16 rfl) (ow hw 10 rfl) (ow hw 18 rfl) (by decide) (argsL := [(.ref x), (.int (0 : Int32)), (.int (1 : Int32)), .null]) (st := []) (c_sinit_1v l Z a0 hw a x cx n0 ch0 h0 hCpt ga gz hax E C V A hch0) (lenOf pd_26 rfl) (H d10_6) (pc' := 9) rfl rfl (by decide) (W := 0) (Nat.le_of_eq rfl) (by decide) (by decide) (by decide) ?_
  intro T1 v1 L1 X1 hQ1
  obtain ⟨t, ct, rfl, Nq, Kq, gt, Eq, Cq, Vq, Aq⟩ := hQ1
  exact gRetV X1 hx hlk hret (H d10_9) (by decide) (by decide) (⟨t, ct, rfl, Nq, Kq, gt, Eq, Cq, Vq, Aq⟩)
theorem d28_15 : decode method_3_code 15 = .ok (.iload_n 0, 1) := by decide +kernel
theorem d28_16 : decode method_3_code 16 = .ok (.iconst 1, 1) := by decide +kernel
theorem d28_17 : decode method_3_code 17 = .ok (.if_icmp .ne 18, 3) := by decide +kernel
theorem d28_20 : decode method_3_code 20 = .ok (.new 7, 3) := by decide +kernel
theorem d28_23 : decode method_3_code 23 = .ok (.dup, 1) := by decide +kernel
theorem d28_24 : decode method_3_code 24 = .ok (.iconst 1, 1) := by decide +kernel
theorem d28_25 : decode method_3_code 25 = .ok (.newarray .char, 2) := by decide +kernel
theorem d28_27 : decode method_3_code 27 = .ok (.dup, 1) := by decide +kernel
theorem d28_28 : decode method_3_code 28 = .ok (.iconst 0, 1) := by decide +kernel
theorem d28_29 : decode method_3_code 29 = .ok (.iload_n 1, 1) := by decide +kernel
theorem d28_30 : decode method_3_code 30 = .ok (.castore, 1) := by decide +kernel
theorem d28_31 : decode method_3_code 31 = .ok (.invokespecial 9, 3) := by decide +kernel
theorem d28_34 : decode method_3_code 34 = .ok (.areturn, 1) := by decide +kernel
theorem c_mk_1 (l : Launch) (Z : State) (a0 : Array Value) (hw : ∀ d ∈ tables_1, d.before a0 Z = true) (ch0 ch1 ch2 ch3 : Int32) (h0 : Heap) (hCpt : Cpt Z h0) (hch0 : rg ch0) (hch1 : rg ch1) (hch2 : rg ch2) (hch3 : rg ch3) :
    Ctr l Z mn3 method_3_code 5 (some (.object "java/lang/String")) [] ⟨4, 3, 6, 68⟩ #[(.int (1 : Int32)), (.int ch0), (.int ch1), (.int ch2), (.int ch3)] h0 (SQd Z h0 1 [by8 ch0]) := by
  refine Ctr.of (plainFor_of_name pn_1) ?_
  intro p e s m below meth c s₁ hx H hml hret hown hnm hZ hlk X0 e0
  refine Goes.cast (show entryFrame m _ _ = mkF m 0 #[.val (.int (1 : Int32)), .val (.int ch0), .val (.int ch1), .val (.int ch2), .val (.int ch3)] [] from rfl) ?_
  refine gLoadIN 1 X0 hx (H d28_0) rfl rfl ?_
  refine gIfNeT X0 hx (H d28_1) (pc' := 15) (by decide) (by decide) (pn := 4) rfl (fun (c1 : ¬ (1 : Int) = (0 : Int)) => ?_) (fun (c1 : (1 : Int) = (0 : Int)) => ?_)
  · refine gLoadIN 16 X0 hx (H d28_15) rfl rfl ?_
    refine gIconst 17 X0 hx (v := (1 : Int32)) (H d28_16) rfl rfl ?_
    refine gIcmpNeT X0 hx (H d28_17) (pc' := 35) (by decide) (by decide) (pn := 20) rfl (fun (c17 : ¬ (1 : Int) = (1 : Int)) => ?_) (fun (c17 : (1 : Int) = (1 : Int)) => ?_)
    · exact absurd c17 (by decide)
    · refine gNew X0 hx hZ hown (ow hw 8 rfl) (ow hw 9 rfl) (ow hw 10 rfl) e0 (H d28_20) (pc' := 23) rfl (by decide) (by decide) (fun T1 h1 b1 X1 e1 g1 E1 A1 D1 => ?_)
      have f1_0 := hCpt.ext E1
      have sz_b1 : h0.size ≤ b1 := Nat.le_trans (Nat.le_refl _) (Nat.le_of_eq g1.symm)
      have zs1 : h0.size ≤ h1.size := Nat.le_trans (Nat.le_refl _) E1.1
      have K1 : Keep h0 h1 [] := (Keep.refl h0 []).ext E1
      have F1_value : Fld Z h1 b1 "java/lang/String" "value" "[B" .null := D1 (Or.inr (ow hw 24 rfl)) (ty := (.array .byte)) (by decide)
      have F1_coder : Fld Z h1 b1 "java/lang/String" "coder" "B" (.int (0 : Int32)) := D1 (Or.inr (ow hw 25 rfl)) (ty := .byte) (by decide)
      refine gDup 24 X1 hx (H d28_23) rfl rfl ?_
      refine gIconst 25 X1 hx (v := (1 : Int32)) (H d28_24) rfl rfl ?_
      refine gNewP X1 hx hZ (ow hw 11 rfl) e1 (n := (1 : Int32)) (H d28_25) (by decide) (cap := 1) (by decide) (by decide) (by decide) (by decide) 1 (pc' := 27) rfl (fun T2 h2 b2 ck2 X2 e2 g2 E2 A2 => ?_)
      have ne_b1_b2 : b1 ≠ b2 := Nat.ne_of_lt (Nat.lt_of_lt_of_eq A1.lt g2.symm)
      have f2_0 := f1_0.ext E2
      have f2_1 := A1.ext E2
      have f2_2 := F1_value.ext E2
      have f2_3 := F1_coder.ext E2
      have sz_b2 : h0.size ≤ b2 := Nat.le_trans zs1 (Nat.le_of_eq g2.symm)
      have zs2 : h0.size ≤ h2.size := Nat.le_trans zs1 E2.1
      have K2 : Keep h0 h2 [] := K1.ext E2
      have V2 : Arv Z h2 b2 ck2 .char (1 : Int32) [(.int (0 : Int32))] (.int (0 : Int32)) := A2
      refine gDup 28 X2 hx (H d28_27) rfl rfl ?_
      refine gIconst 29 X2 hx (v := (0 : Int32)) (H d28_28) rfl rfl ?_
      refine gLoadIN 30 X2 hx (H d28_29) rfl rfl ?_
      refine gCastore X2 hx hZ e2 (x := ch0) V2 (j := (0 : Int32)) (by decide) (by decide) 0 (by decide) (by simp) (H d28_30) (pc' := 31) rfl (fun T3 h3 X3 e3 W3 A3 => ?_)
      have f3_0 := f2_0.wr W3
      have f3_1 := f2_1.wr W3
      have f3_2 := f2_2.other W3 (Or.inl ne_b1_b2)
      have f3_3 := f2_3.other W3 (Or.inl ne_b1_b2)
      have zs3 : h0.size ≤ h3.size := by rw [W3.size]; exact zs2
      have N3 := Fr.snoc X3 (Fr.nil h0.size) sz_b2
      have K3 : Keep h0 h3 [] := K2.wr W3 (Or.inr sz_b2)
      have V3 : Arv Z h3 b2 _ .char (1 : Int32) [(.int ch0)] (.int (0 : Int32)) := (by have q := A3; rw [own_nc (own_c8 hch0)] at q; exact q)
      refine gCallI X3 hx hZ (y := mn8) rfl hown e3 (by rw [hml]; rfl) (ow hw 12 rfl) (ow hw 13 rfl) (ow hw 10 rfl) (ow hw 14 rfl) (by decide) (argsL := [(.ref b2)]) (st := [(.ref b1)]) (c_sinit_1 l Z a0 hw b1 b2 _ h0.size ch0 h3 f3_0 sz_b1 zs3 (Ne.symm ne_b1_b2) f3_1 f3_3 f3_2 V3 hch0) (lenOf pd_24 rfl) (H d28_31) (pc' := 34) rfl rfl (by decide) (W := 1) (Nat.le_of_eq rfl) (by decide) (by decide) (by decide) ?_
      intro T4 v4 L4 X4 hQ4
      obtain ⟨t4, ct4, rfl, Nq4, Kq4, gt4, Eq4, Cq4, Vq4, Aq4⟩ := hQ4
      have N4 := Fr.app N3 Nq4
      have f4_0 := own_cpt_keep f3_0 Kq4 (nsS (Exa.nostat f3_1) ns0)
      have f4_1 := f3_1.keep Kq4
      have f4_4 := V3.keep Kq4 (ninS (Ne.symm ne_b1_b2) nin0)
      have zs4 := Nat.le_trans zs3 Kq4.1
      have K4 : Keep h0 T4.heap [] := K3.trans Kq4 (allS (Or.inr sz_b1) all0)
      exact gRetA X4 hx hlk hret rfl rfl (H d28_34) (by decide) (by decide) (⟨b1, t4, ct4, rfl, N4, K4, Eq4, Cq4, Vq4, Aq4⟩)
  · exact absurd c1 (by decide)
theorem c_compress_2i (l : Launch) (Z : State) (a0 : Array Value) (hw : ∀ d ∈ tables_1, d.before a0 Z = true) (x t : Addr) (cx ct : ClassId) (n0 : Nat) (ch0 ch1 : Int32) (h0 : Heap) (gt : n0 ≤ t) (hne : x ≠ t) (A : Arv Z h0 x cx .char 2 [.int ch0, .int ch1] (.int 0)) (B : Arv Z h0 t ct .byte 2 [.int 0, .int 0] (.int 0)) (hch0 : rg ch0) (hch1 : rg ch1) :
    Ctr l Z mn26 jdk_52_method_21_code 7 (some .int) [] ⟨0, 0, 0, 0⟩ #[(.ref x), (.int (0 : Int32)), (.ref t), (.int (0 : Int32)), (.int (2 : Int32))] h0 (fun v h L => v = some (.int 2) ∧ Fr n0 L ∧ Keep h0 h [t] ∧ sA Z h t ct 2 [by8 ch0, by8 ch1]) := by
  refine Ctr.of (plainFor_of_name pn_6) ?_
  intro p e s m below meth c s₁ hx H hml hret hown hnm hZ hlk X0 e0
  refine Goes.cast (show entryFrame m _ _ = mkF m 0 #[.val (.ref x), .val (.int (0 : Int32)), .val (.ref t), .val (.int (0 : Int32)), .val (.int (2 : Int32)), .unset, .unset] [] from rfl) ?_
  refine gIconst 1 X0 hx (v := (0 : Int32)) (H d23_0) rfl rfl ?_
  refine gStoreI 3 X0 hx (H d23_1) (l' := #[.val (.ref x), .val (.int (0 : Int32)), .val (.ref t), .val (.int (0 : Int32)), .val (.int (2 : Int32)), .val (.int (0 : Int32)), .unset]) rfl rfl ?_
  refine gLoadI 5 X0 hx (H d23_3) rfl rfl ?_
  refine gLoadI 7 X0 hx (H d23_5) rfl rfl ?_
  refine gIcmpGe X0 hx (H d23_7) (pc' := 44) (by decide) (by decide) (pn := 10) rfl (fun (c7 : (2 : Int) ≤ (0 : Int)) => ?_) (fun (c7 : (0 : Int) < (2 : Int)) => ?_)
  · exact absurd c7 (by decide)
  · refine gLoadAN 11 X0 hx (H d23_10) rfl rfl rfl ?_
    refine gLoadIN 12 X0 hx (H d23_11) rfl rfl ?_
    refine gCaload X0 hx hZ e0 A (j := (0 : Int32)) (v := (.int ch0)) (by decide) (by decide) rfl (H d23_12) (pc' := 13) rfl ?_
    refine gStoreI 15 X0 hx (H d23_13) (l' := #[.val (.ref x), .val (.int (0 : Int32)), .val (.ref t), .val (.int (0 : Int32)), .val (.int (2 : Int32)), .val (.int (0 : Int32)), .val (.int ch0)]) rfl rfl ?_
    refine gLoadI 17 X0 hx (H d23_15) rfl rfl ?_
    refine gSipush 20 X0 hx (v := (255 : Int32)) (H d23_17) rfl rfl ?_
    refine gIcmpLe X0 hx (H d23_20) (pc' := 26) (by decide) (by decide) (pn := 23) rfl (fun (c20 : ch0.toInt ≤ (255 : Int)) => ?_) (fun (c20 : (255 : Int) < ch0.toInt) => ?_)
    · refine gLoadAN 27 X0 hx (H d23_26) rfl rfl rfl ?_
      refine gLoadIN 28 X0 hx (H d23_27) rfl rfl ?_
      refine gLoadI 30 X0 hx (H d23_28) rfl rfl ?_
      refine gI2b 31 X0 hx (H d23_30) rfl ?_
      refine gBastore X0 hx hZ e0 (x := (ch0.toInt8.toInt32)) B (j := (0 : Int32)) (by decide) (by decide) 0 (by decide) (by simp) (H d23_31) (pc' := 32) rfl (fun T1 h1 X1 e1 W1 A1 => ?_)
      have f1_0 := A.other W1 hne
      have zs1 : h0.size ≤ h1.size := by rw [W1.size]; exact (Nat.le_refl _)
      have N1 := Fr.snoc X1 (Fr.nil n0) gt
      have K1 : Keep h0 h1 [t] := (Keep.refl h0 [t]).wr W1 (Or.inl (by simp))
      have V1 : Arv Z h1 t _ .byte (2 : Int32) [(.int (ch0.toInt8.toInt32)), (.int (0 : Int32))] (.int 0) := (by have q := A1; rw [own_nb] at q; exact q)
      refine gIinc X1 hx (v := (1 : Int32)) (H d23_32) (l' := #[.val (.ref x), .val (.int (1 : Int32)), .val (.ref t), .val (.int (0 : Int32)), .val (.int (2 : Int32)), .val (.int (0 : Int32)), .val (.int ch0)]) (pc' := 35) rfl rfl rfl rfl ?_
      refine gIinc X1 hx (v := (1 : Int32)) (H d23_35) (l' := #[.val (.ref x), .val (.int (1 : Int32)), .val (.ref t), .val (.int (1 : Int32)), .val (.int (2 : Int32)), .val (.int (0 : Int32)), .val (.int ch0)]) (pc' := 38) rfl rfl rfl rfl ?_
      refine gIinc X1 hx (v := (1 : Int32)) (H d23_38) (l' := #[.val (.ref x), .val (.int (1 : Int32)), .val (.ref t), .val (.int (1 : Int32)), .val (.int (2 : Int32)), .val (.int (1 : Int32)), .val (.int ch0)]) (pc' := 41) rfl rfl rfl rfl ?_
      refine gGoto X1 hx (H d23_41) (pc' := 3) (by decide) (by decide) ?_
      refine gLoadI 5 X1 hx (H d23_3) rfl rfl ?_
      refine gLoadI 7 X1 hx (H d23_5) rfl rfl ?_
      refine gIcmpGe X1 hx (H d23_7) (pc' := 44) (by decide) (by decide) (pn := 10) rfl (fun (c7' : (2 : Int) ≤ (1 : Int)) => ?_) (fun (c7' : (1 : Int) < (2 : Int)) => ?_)
      · exact absurd c7' (by decide)
      · refine gLoadAN 11 X1 hx (H d23_10) rfl rfl rfl ?_
        refine gLoadIN 12 X1 hx (H d23_11) rfl rfl ?_
        refine gCaload X1 hx hZ e1 f1_0 (j := (1 : Int32)) (v := (.int ch1)) (by decide) (by decide) rfl (H d23_12) (pc' := 13) rfl ?_
        refine gStoreI 15 X1 hx (H d23_13) (l' := #[.val (.ref x), .val (.int (1 : Int32)), .val (.ref t), .val (.int (1 : Int32)), .val (.int (2 : Int32)), .val (.int (1 : Int32)), .val (.int ch1)]) rfl rfl ?_
        refine gLoadI 17 X1 hx (H d23_15) rfl rfl ?_
        refine gSipush 20 X1 hx (v := (255 : Int32)) (H d23_17) rfl rfl ?_
        refine gIcmpLe X1 hx (H d23_20) (pc' := 26) (by decide) (by decide) (pn := 23) rfl (fun (c20' : ch1.toInt ≤ (255 : Int)) => ?_) (fun (c20' : (255 : Int) < ch1.toInt) => ?_)
        · refine gLoadAN 27 X1 hx (H d23_26) rfl rfl rfl ?_
          refine gLoadIN 28 X1 hx (H d23_27) rfl rfl ?_
          refine gLoadI 30 X1 hx (H d23_28) rfl rfl ?_
          refine gI2b 31 X1 hx (H d23_30) rfl ?_
          refine gBastore X1 hx hZ e1 (x := (ch1.toInt8.toInt32)) V1 (j := (1 : Int32)) (by decide) (by decide) 1 (by decide) (by simp) (H d23_31) (pc' := 32) rfl (fun T2 h2 X2 e2 W2 A2 => ?_)
          have f2_0 := f1_0.other W2 hne
          have zs2 : h0.size ≤ h2.size := by rw [W2.size]; exact zs1
          have N2 := Fr.snoc X2 N1 gt
          have K2 : Keep h0 h2 [t] := K1.wr W2 (Or.inl (by simp))
          have V2 : Arv Z h2 t _ .byte (2 : Int32) [(.int (ch0.toInt8.toInt32)), (.int (ch1.toInt8.toInt32))] (.int 0) := (by have q := A2; rw [own_nb] at q; exact q)
          refine gIinc X2 hx (v := (1 : Int32)) (H d23_32) (l' := #[.val (.ref x), .val (.int (2 : Int32)), .val (.ref t), .val (.int (1 : Int32)), .val (.int (2 : Int32)), .val (.int (1 : Int32)), .val (.int ch1)]) (pc' := 35) rfl rfl rfl rfl ?_
          refine gIinc X2 hx (v := (1 : Int32)) (H d23_35) (l' := #[.val (.ref x), .val (.int (2 : Int32)), .val (.ref t), .val (.int (2 : Int32)), .val (.int (2 : Int32)), .val (.int (1 : Int32)), .val (.int ch1)]) (pc' := 38) rfl rfl rfl rfl ?_
          refine gIinc X2 hx (v := (1 : Int32)) (H d23_38) (l' := #[.val (.ref x), .val (.int (2 : Int32)), .val (.ref t), .val (.int (2 : Int32)), .val (.int (2 : Int32)), .val (.int (2 : Int32)), .val (.int ch1)]) (pc' := 41) rfl rfl rfl rfl ?_
          refine gGoto X2 hx (H d23_41) (pc' := 3) (by decide) (by decide) ?_
          refine gLoadI 5 X2 hx (H d23_3) rfl rfl ?_
          refine gLoadI 7 X2 hx (H d23_5) rfl rfl ?_
          refine gIcmpGe X2 hx (H d23_7) (pc' := 44) (by decide) (by decide) (pn := 10) rfl (fun (c7'' : (2 : Int) ≤ (2 : Int)) => ?_) (fun (c7'' : (2 : Int) < (2 : Int)) => ?_)
          · refine gLoadI 46 X2 hx (H d23_44) rfl rfl ?_
            exact gRetI X2 hx hlk hret (H d23_46) (by decide) (by decide) (⟨rfl, N2, by rw [e2]; exact K2, by rw [e2]; exact V2⟩)
          · exact absurd c7'' (by decide)
        · exact absurd c20' (by omega)
    · exact absurd c20 (by omega)
theorem c_compress_2 (l : Launch) (Z : State) (a0 : Array Value) (hw : ∀ d ∈ tables_1, d.before a0 Z = true) (x : Addr) (cx : ClassId) (ch0 ch1 : Int32) (h0 : Heap) (A : Arv Z h0 x cx .char 2 [.int ch0, .int ch1] (.int 0)) (hch0 : rg ch0) (hch1 : rg ch1) :
    Ctr l Z mn25 jdk_52_method_16_code 6 (some (.array .byte)) [] ⟨1, 1, 2, 18⟩ #[(.ref x), (.int (0 : Int32)), (.int (2 : Int32))] h0 (fun v h L => ∃ (t : Addr) (ct : ClassId), v = some (.ref t) ∧ h0.size ≤ t ∧ Fr h0.size L ∧ Keep h0 h [] ∧ sA Z h t ct 2 [by8 ch0, by8 ch1]) := by
  refine Ctr.of (plainFor_of_name pn_6) ?_
  intro p e s m below meth c s₁ hx H hml hret hown hnm hZ hlk X0 e0
  refine Goes.cast (show entryFrame m _ _ = mkF m 0 #[.val (.ref x), .val (.int (0 : Int32)), .val (.int (2 : Int32)), .unset, .unset, .unset] [] from rfl) ?_
  refine gLoadIN 1 X0 hx (H d22_0) rfl rfl ?_
  refine gNewP X0 hx hZ (ow hw 23 rfl) e0 (n := (2 : Int32)) (H d22_1) (by decide) (cap := 2) (by decide) (by decide) (by decide) (by decide) 2 (pc' := 3) rfl (fun T1 h1 b1 ck1 X1 e1 g1 E1 A1 => ?_)
  have ne_x_b1 : x ≠ b1 := Nat.ne_of_lt (Nat.lt_of_lt_of_eq A.lt g1.symm)
  have f1_0 := A.ext E1
  have sz_b1 : h0.size ≤ b1 := Nat.le_trans (Nat.le_refl _) (Nat.le_of_eq g1.symm)
  have zs1 : h0.size ≤ h1.size := Nat.le_trans (Nat.le_refl _) E1.1
  have K1 : Keep h0 h1 [] := (Keep.refl h0 []).ext E1
  have V1 : Arv Z h1 b1 ck1 .byte (2 : Int32) [(.int (0 : Int32)), (.int (0 : Int32))] (.int (0 : Int32)) := A1
  refine gStoreAN 4 X1 hx (H d22_3) (l' := #[.val (.ref x), .val (.int (0 : Int32)), .val (.int (2 : Int32)), .val (.ref b1), .unset, .unset]) rfl rfl rfl ?_
  refine gLoadAN 5 X1 hx (H d22_4) rfl rfl rfl ?_
  refine gLoadIN 6 X1 hx (H d22_5) rfl rfl ?_
  refine gLoadAN 7 X1 hx (H d22_6) rfl rfl rfl ?_
  refine gIconst 8 X1 hx (v := (0 : Int32)) (H d22_7) rfl rfl ?_
  refine gLoadIN 9 X1 hx (H d22_8) rfl rfl ?_
  refine gCallS X1 hx hZ (y := mn26) hown e1 (by rw [hml]; rfl) (ow hw 94 rfl) (ow hw 95 rfl) (ow hw 92 rfl) (ow hw 96 rfl) (by decide) (argsL := [(.ref x), (.int (0 : Int32)), (.ref b1), (.int (0 : Int32)), (.int (2 : Int32))]) (st := []) (c_compress_2i l Z a0 hw x b1 cx ck1 h0.size ch0 ch1 h1 sz_b1 ne_x_b1 f1_0 V1 hch0 hch1) (lenOf pd_27 rfl) (H d22_9) (pc' := 12) rfl rfl (by decide) (W := 0) (Nat.le_of_eq rfl) (by decide) (by decide) (by decide) ?_
  intro T2 v2 L2 X2 hQ2
  obtain ⟨rfl, Nq2, Kq2, Aq2⟩ := hQ2
  have N2 := Fr.app (Fr.nil h0.size) Nq2
  have K2 : Keep h0 T2.heap [] := K1.trans Kq2 (allS (Or.inr sz_b1) all0)
  refine gStoreI 14 X2 hx (H d22_12) (l' := #[.val (.ref x), .val (.int (0 : Int32)), .val (.int (2 : Int32)), .val (.ref b1), .val (.int (2 : Int32)), .unset]) rfl rfl ?_
  refine gLoadI 16 X2 hx (H d22_14) rfl rfl ?_
  refine gLoadIN 17 X2 hx (H d22_16) rfl rfl ?_
  refine gIcmpEqT X2 hx (H d22_17) (pc' := 57) (by decide) (by decide) (pn := 20) rfl (fun (c17 : (2 : Int) = (2 : Int)) => ?_) (fun (c17 : ¬ (2 : Int) = (2 : Int)) => ?_)
  · refine gLoadAN 58 X2 hx (H d22_57) rfl rfl rfl ?_
    exact gRetA X2 hx hlk hret rfl rfl (H d22_58) (by decide) (by decide) (⟨b1, _, rfl, sz_b1, N2, K2, Aq2⟩)
  · exact absurd c17 (by decide)
theorem c_cfal_2 (l : Launch) (Z : State) (a0 : Array Value) (hw : ∀ d ∈ tables_1, d.before a0 Z = true) (t : Addr) (ck : ClassId) (ch0 ch1 : Int32) (h0 : Heap) (A : sA Z h0 t ck 2 [by8 ch0, by8 ch1]) :
    Ctr l Z mn24 jdk_52_method_15_code 2 (some .byte) [] ⟨0, 0, 0, 0⟩ #[(.ref t), (.int (2 : Int32))] h0 (Just h0 (.int 0)) := by
  refine Ctr.of (plainFor_of_name pn_6) ?_
  intro p e s m below meth c s₁ hx H hml hret hown hnm hZ hlk X0 e0
  refine Goes.cast (show entryFrame m _ _ = mkF m 0 #[.val (.ref t), .val (.int (2 : Int32))] [] from rfl) ?_
  refine gLoadIN 1 X0 hx (H d21_0) rfl rfl ?_
  refine gLoadAN 2 X0 hx (H d21_1) rfl rfl rfl ?_
  refine gArrLen X0 hx hZ e0 A (H d21_2) (pc' := 3) rfl ?_
  refine gIsub 4 X0 hx (H d21_3) rfl ?_
  show Goes p e below _ s₁ (mkF m 4 #[.val (.ref t), .val (.int (2 : Int32))] [(.int (0 : Int32))])
  refine gBipush 6 X0 hx (v := (31 : Int32)) (H d21_4) rfl rfl ?_
  refine gIushr 7 X0 hx (H d21_6) rfl ?_
  show Goes p e below _ s₁ (mkF m 7 #[.val (.ref t), .val (.int (2 : Int32))] [(.int (0 : Int32))])
  refine gI2b 8 X0 hx (H d21_7) rfl ?_
  show Goes p e below _ s₁ (mkF m 8 #[.val (.ref t), .val (.int (2 : Int32))] [(.int (0 : Int32))])
  exact gRetN X0 hx hlk hret (by simp) (H d21_8) (w := (0 : Int32)) rfl (by decide) (by decide) (⟨rfl, e0, rfl⟩)
theorem c_sinit_2v (l : Launch) (Z : State) (a0 : Array Value) (hw : ∀ d ∈ tables_1, d.before a0 Z = true) (a x : Addr) (cx : ClassId) (n0 : Nat) (ch0 ch1 : Int32) (h0 : Heap) (hCpt : Cpt Z h0) (ga : n0 ≤ a) (gz : n0 ≤ h0.size) (hax : x ≠ a) (E : sE Z h0 a) (C : sC Z h0 a) (V : Fld Z h0 a "java/lang/String" "value" "[B" .null) (A : Arv Z h0 x cx .char 2 [.int ch0, .int ch1] (.int 0)) (hch0 : rg ch0) (hch1 : rg ch1) :
    Ctr l Z mn9 jdk_42_method_149_code 6 none [] ⟨2, 1, 2, 37⟩ #[(.ref a), (.ref x), (.int (0 : Int32)), (.int (2 : Int32)), .null] h0 (fun v h L => ∃ (t : Addr) (ct : ClassId), v = none ∧ Fr n0 L ∧ Keep h0 h [a] ∧ h0.size ≤ t ∧ sE Z h a ∧ sC Z h a ∧ sV Z h a t ∧ sA Z h t ct 2 [by8 ch0, by8 ch1]) := by
  refine Ctr.of (plainFor_of_name pn_4) ?_
  intro p e s m below meth c s₁ hx H hml hret hown hnm hZ hlk X0 e0
  refine Goes.cast (show entryFrame m _ _ = mkF m 0 #[.val (.ref a), .val (.ref x), .val (.int (0 : Int32)), .val (.int (2 : Int32)), .val .null, .unset] [] from rfl) ?_
  have hCpt0 := hCpt
  obtain ⟨cz, SC, hcz⟩ := hCpt0
  refine gLoadAN 1 X0 hx (H d4_0) rfl rfl rfl ?_
  refine gInitO X0 hx hZ hown (ow hw 19 rfl) (ow hw 20 rfl) (ow hw 21 rfl) e0 (by rw [hml]; rfl) (H d4_1) (pc' := 4) rfl (by decide) (W := 0) (Nat.le_of_eq rfl) (by decide) (fun T1 X1 e1 => ?_)
  refine gLoadIN 5 X1 hx (H d4_4) rfl rfl ?_
  refine gIfNeT X1 hx (H d4_5) (pc' := 27) (by decide) (by decide) (pn := 8) rfl (fun (c5 : ¬ (2 : Int) = (0 : Int)) => ?_) (fun (c5 : (2 : Int) = (0 : Int)) => ?_)
  · refine gGetS X1 hx hZ hown (ow hw 49 rfl) Via.refl e1 SC (H d4_27) (pc' := 30) rfl (fun T2 X2 e2 => ?_)
    refine gIfEqT X2 hx (H d4_30) (pc' := 58) (by decide) (by decide) (pn := 33) rfl (fun (c30 : cz.toInt = (0 : Int)) => ?_) (fun (c30 : ¬ cz.toInt = (0 : Int)) => ?_)
    · exact absurd c30 hcz
    · refine gLoadAN 34 X2 hx (H d4_33) rfl rfl rfl ?_
      refine gLoadIN 35 X2 hx (H d4_34) rfl rfl ?_
      refine gLoadIN 36 X2 hx (H d4_35) rfl rfl ?_
      refine gCallS X2 hx hZ (y := mn25) hown e2 (by rw [hml]; rfl) (ow hw 90 rfl) (ow hw 91 rfl) (ow hw 92 rfl) (ow hw 93 rfl) (by decide) (argsL := [(.ref x), (.int (0 : Int32)), (.int (2 : Int32))]) (st := []) (c_compress_2 l Z a0 hw x cx ch0 ch1 h0 A hch0 hch1) (lenOf pd_25 rfl) (H d4_36) (pc' := 39) rfl rfl (by decide) (W := 0) (Nat.le_of_eq rfl) (by decide) (by decide) (by decide) ?_
      intro T3 v3 L3 X3 hQ3
      obtain ⟨t3, ct3, rfl, gt3, Nq3, Kq3, Aq3⟩ := hQ3
      have N3 := Fr.app (Fr.nil n0) (fun y hy => Nat.le_trans gz (Nq3 y hy))
      have K3 : Keep h0 T3.heap [a] := (Keep.refl h0 [a]).trans Kq3 all0
      have f3_0 := own_sta_keep SC Kq3 ns0
      have f3_1 := E.keep Kq3
      have f3_2 := C.keep Kq3 nin0
      have f3_3 := V.keep Kq3 nin0
      have nt3 : t3 ≠ a := Ne.symm (Nat.ne_of_lt (Nat.lt_of_lt_of_le E.lt gt3))
      refine gStoreA 41 X3 hx (H d4_39) (l' := #[.val (.ref a), .val (.ref x), .val (.int (0 : Int32)), .val (.int (2 : Int32)), .val .null, .val (.ref t3)]) rfl rfl rfl ?_
      refine gLoadAN 42 X3 hx (H d4_41) rfl rfl rfl ?_
      refine gLoadA 44 X3 hx (H d4_42) rfl rfl rfl ?_
      refine gLoadIN 45 X3 hx (H d4_44) rfl rfl ?_
      refine gCallSJ X3 hx hZ (y := mn24) hown rfl (by rw [hml]; rfl) (ow hw 97 rfl) (ow hw 98 rfl) (ow hw 92 rfl) (ow hw 99 rfl) (by decide) (argsL := [(.ref t3), (.int (2 : Int32))]) (st := [(.ref a)]) (c_cfal_2 l Z a0 hw t3 ct3 ch0 ch1 _ Aq3) (lenOf pd_19 rfl) (H d4_45) (pc' := 48) rfl rfl rfl rfl (by decide) (W := 1) (Nat.le_of_eq rfl) (by decide) (by decide) (by decide) ?_
      intro T4 X4 e4
      refine gPutF X4 hx hZ hown (ow hw 29 rfl) Via.refl e4 f3_2 f3_1 (Or.inr ⟨(ow hw 25 rfl), rfl, hnm⟩) (ow hw 9 rfl) (ty := .byte) (by decide) rfl rfl (H d4_48) (pc' := 51) rfl (fun T5 h5 X5 e5 W5 => ?_)
      have f5_0 := f3_0.wr W5
      have f5_1 := f3_1.wr W5
      have f5_2 := f3_2.same W5
      have f5_3 := f3_3.other W5 (Or.inr (slot_ne (Or.inr (ow hw 24 rfl)) (Or.inr (ow hw 25 rfl)) (by decide) (t := (.array .byte)) (t' := .byte) (by decide) (by decide)))
      have f5_4 := Aq3.other W5 nt3
      have zs5 : h0.size ≤ h5.size := by rw [W5.size]; exact Kq3.1
      have N5 := Fr.snoc X5 N3 ga
      have K5 : Keep h0 h5 [a] := K3.wr W5 (Or.inl (by simp))
      refine gLoadAN 52 X5 hx (H d4_51) rfl rfl rfl ?_
      refine gLoadA 54 X5 hx (H d4_52) rfl rfl rfl ?_
      refine gPutF X5 hx hZ hown (ow hw 28 rfl) Via.refl e5 f5_3 f5_1 (Or.inr ⟨(ow hw 24 rfl), rfl, hnm⟩) (ow hw 9 rfl) (ty := (.array .byte)) (by decide) rfl rfl (H d4_54) (pc' := 57) rfl (fun T6 h6 X6 e6 W6 => ?_)
      have f6_0 := f5_0.wr W6
      have f6_1 := f5_1.wr W6
      have f6_2 := f5_2.other W6 (Or.inr (slot_ne (Or.inr (ow hw 25 rfl)) (Or.inr (ow hw 24 rfl)) (by decide) (t := .byte) (t' := (.array .byte)) (by decide) (by decide)))
      have f6_3 := f5_3.same W6
      have f6_4 := f5_4.other W6 nt3
      have zs6 : h0.size ≤ h6.size := by rw [W6.size]; exact zs5
      have N6 := Fr.snoc X6 N5 ga
      have K6 : Keep h0 h6 [a] := K5.wr W6 (Or.inl (by simp))
      exact gRetV X6 hx hlk hret (H d4_57) (by decide) (by decide) (⟨t3, ct3, rfl, N6, by rw [e6]; exact K6, gt3, by rw [e6]; exact f6_1, by rw [e6]; exact f6_2, by rw [e6]; exact f6_3, by rw [e6]; exact f6_4⟩)
  · exact absurd c5 (by decide)
theorem c_sinit_2 (l : Launch) (Z : State) (a0 : Array Value) (hw : ∀ d ∈ tables_1, d.before a0 Z = true) (a x : Addr) (cx : ClassId) (n0 : Nat) (ch0 ch1 : Int32) (h0 : Heap) (hCpt : Cpt Z h0) (ga : n0 ≤ a) (gz : n0 ≤ h0.size) (hax : x ≠ a) (E : sE Z h0 a) (C : sC Z h0 a) (V : Fld Z h0 a "java/lang/String" "value" "[B" .null) (A : Arv Z h0 x cx .char 2 [.int ch0, .int ch1] (.int 0)) (hch0 : rg ch0) (hch1 : rg ch1) :
    Ctr l Z mn8 jdk_42_method_3_code 2 none [] ⟨3, 1, 2, 54⟩ #[(.ref a), (.ref x)] h0 (fun v h L => ∃ (t : Addr) (ct : ClassId), v = none ∧ Fr n0 L ∧ Keep h0 h [a] ∧ h0.size ≤ t ∧ sE Z h a ∧ sC Z h a ∧ sV Z h a t ∧ sA Z h t ct 2 [by8 ch0, by8 ch1]) := by
  refine Ctr.of (plainFor_of_name pn_4) ?_
  intro p e s m below meth c s₁ hx H hml hret hown hnm hZ hlk X0 e0
  refine Goes.cast (show entryFrame m _ _ = mkF m 0 #[.val (.ref a), .val (.ref x)] [] from rfl) ?_
  refine gLoadAN 1 X0 hx (H d10_0) rfl rfl rfl ?_
  refine gLoadAN 2 X0 hx (H d10_1) rfl rfl rfl ?_
  refine gIconst 3 X0 hx (v := (0 : Int32)) (H d10_2) rfl rfl ?_
  refine gLoadAN 4 X0 hx (H d10_3) rfl rfl rfl ?_
  refine gArrLen X0 hx hZ e0 A (H d10_4) (pc' := 5) rfl ?_
  refine gNull 6 X0 hx (H d10_5) rfl ?_
  refine gCallI X0 hx hZ (y := mn9) rfl hown e0 (by rw [hml]; rfl) (ow hw 15 rfl) (ow hw 16 rfl) (ow hw 10 rfl) (ow hw 18 rfl) (by decide) (argsL := [(.ref x), (.int (0 : Int32)), (.int (2 : Int32)), .null]) (st := []) (c_sinit_2v l Z a0 hw a x cx n0 ch0 ch1 h0 hCpt ga gz hax E C V A hch0 hch1) (lenOf pd_26 rfl) (H d10_6) (pc' := 9) rfl rfl (by decide) (W := 0) (Nat.le_of_eq rfl) (by decide) (by decide) (by decide) ?_
  intro T1 v1 L1 X1 hQ1
  obtain ⟨t, ct, rfl, Nq, Kq, gt, Eq, Cq, Vq, Aq⟩ := hQ1
  exact gRetV X1 hx hlk hret (H d10_9) (by decide) (by decide) (⟨t, ct, rfl, Nq, Kq, gt, Eq, Cq, Vq, Aq⟩)
theorem d28_35 : decode method_3_code 35 = .ok (.iload_n 0, 1) := by decide +kernel
theorem d28_36 : decode method_3_code 36 = .ok (.iconst 2, 1) := by decide +kernel
theorem d28_37 : decode method_3_code 37 = .ok (.if_icmp .ne 22, 3) := by decide +kernel
theorem d28_40 : decode method_3_code 40 = .ok (.new 7, 3) := by decide +kernel
theorem d28_43 : decode method_3_code 43 = .ok (.dup, 1) := by decide +kernel
theorem d28_44 : decode method_3_code 44 = .ok (.iconst 2, 1) := by decide +kernel
theorem d28_45 : decode method_3_code 45 = .ok (.newarray .char, 2) := by decide +kernel
theorem d28_47 : decode method_3_code 47 = .ok (.dup, 1) := by decide +kernel
theorem d28_48 : decode method_3_code 48 = .ok (.iconst 0, 1) := by decide +kernel
theorem d28_49 : decode method_3_code 49 = .ok (.iload_n 1, 1) := by decide +kernel
theorem d28_50 : decode method_3_code 50 = .ok (.castore, 1) := by decide +kernel
theorem d28_51 : decode method_3_code 51 = .ok (.dup, 1) := by decide +kernel
theorem d28_52 : decode method_3_code 52 = .ok (.iconst 1, 1) := by decide +kernel
theorem d28_53 : decode method_3_code 53 = .ok (.iload_n 2, 1) := by decide +kernel
theorem d28_54 : decode method_3_code 54 = .ok (.castore, 1) := by decide +kernel
theorem d28_55 : decode method_3_code 55 = .ok (.invokespecial 9, 3) := by decide +kernel
theorem d28_58 : decode method_3_code 58 = .ok (.areturn, 1) := by decide +kernel
theorem c_mk_2 (l : Launch) (Z : State) (a0 : Array Value) (hw : ∀ d ∈ tables_1, d.before a0 Z = true) (ch0 ch1 ch2 ch3 : Int32) (h0 : Heap) (hCpt : Cpt Z h0) (hch0 : rg ch0) (hch1 : rg ch1) (hch2 : rg ch2) (hch3 : rg ch3) :
    Ctr l Z mn3 method_3_code 5 (some (.object "java/lang/String")) [] ⟨4, 3, 8, 68⟩ #[(.int (2 : Int32)), (.int ch0), (.int ch1), (.int ch2), (.int ch3)] h0 (SQd Z h0 2 [by8 ch0, by8 ch1]) := by
  refine Ctr.of (plainFor_of_name pn_1) ?_
  intro p e s m below meth c s₁ hx H hml hret hown hnm hZ hlk X0 e0
  refine Goes.cast (show entryFrame m _ _ = mkF m 0 #[.val (.int (2 : Int32)), .val (.int ch0), .val (.int ch1), .val (.int ch2), .val (.int ch3)] [] from rfl) ?_
  refine gLoadIN 1 X0 hx (H d28_0) rfl rfl ?_
  refine gIfNeT X0 hx (H d28_1) (pc' := 15) (by decide) (by decide) (pn := 4) rfl (fun (c1 : ¬ (2 : Int) = (0 : Int)) => ?_) (fun (c1 : (2 : Int) = (0 : Int)) => ?_)
  · refine gLoadIN 16 X0 hx (H d28_15) rfl rfl ?_
    refine gIconst 17 X0 hx (v := (1 : Int32)) (H d28_16) rfl rfl ?_
    refine gIcmpNeT X0 hx (H d28_17) (pc' := 35) (by decide) (by decide) (pn := 20) rfl (fun (c17 : ¬ (2 : Int) = (1 : Int)) => ?_) (fun (c17 : (2 : Int) = (1 : Int)) => ?_)
    · refine gLoadIN 36 X0 hx (H d28_35) rfl rfl ?_
      refine gIconst 37 X0 hx (v := (2 : Int32)) (H d28_36) rfl rfl ?_
      refine gIcmpNeT X0 hx (H d28_37) (pc' := 59) (by decide) (by decide) (pn := 40) rfl (fun (c37 : ¬ (2 : Int) = (2 : Int)) => ?_) (fun (c37 : (2 : Int) = (2 : Int)) => ?_)
      · exact absurd c37 (by decide)
      · refine gNew X0 hx hZ hown (ow hw 8 rfl) (ow hw 9 rfl) (ow hw 10 rfl) e0 (H d28_40) (pc' := 43) rfl (by decide) (by decide) (fun T1 h1 b1 X1 e1 g1 E1 A1 D1 => ?_)
        have f1_0 := hCpt.ext E1
        have sz_b1 : h0.size ≤ b1 := Nat.le_trans (Nat.le_refl _) (Nat.le_of_eq g1.symm)
        have zs1 : h0.size ≤ h1.size := Nat.le_trans (Nat.le_refl _) E1.1
        have K1 : Keep h0 h1 [] := (Keep.refl h0 []).ext E1
        have F1_value : Fld Z h1 b1 "java/lang/String" "value" "[B" .null := D1 (Or.inr (ow hw 24 rfl)) (ty := (.array .byte)) (by decide)
        have F1_coder : Fld Z h1 b1 "java/lang/String" "coder" "B" (.int (0 : Int32)) := D1 (Or.inr (ow hw 25 rfl)) (ty := .byte) (by decide)
        refine gDup 44 X1 hx (H d28_43) rfl rfl ?_
        refine gIconst 45 X1 hx (v := (2 : Int32)) (H d28_44) rfl rfl ?_
        refine gNewP X1 hx hZ (ow hw 11 rfl) e1 (n := (2 : Int32)) (H d28_45) (by decide) (cap := 2) (by decide) (by decide) (by decide) (by decide) 2 (pc' := 47) rfl (fun T2 h2 b2 ck2 X2 e2 g2 E2 A2 => ?_)
        have ne_b1_b2 : b1 ≠ b2 := Nat.ne_of_lt (Nat.lt_of_lt_of_eq A1.lt g2.symm)
        have f2_0 := f1_0.ext E2
        have f2_1 := A1.ext E2
        have f2_2 := F1_value.ext E2
        have f2_3 := F1_coder.ext E2
        have sz_b2 : h0.size ≤ b2 := Nat.le_trans zs1 (Nat.le_of_eq g2.symm)
        have zs2 : h0.size ≤ h2.size := Nat.le_trans zs1 E2.1
        have K2 : Keep h0 h2 [] := K1.ext E2
        have V2 : Arv Z h2 b2 ck2 .char (2 : Int32) [(.int (0 : Int32)), (.int (0 : Int32))] (.int (0 : Int32)) := A2
        refine gDup 48 X2 hx (H d28_47) rfl rfl ?_
        refine gIconst 49 X2 hx (v := (0 : Int32)) (H d28_48) rfl rfl ?_
        refine gLoadIN 50 X2 hx (H d28_49) rfl rfl ?_
        refine gCastore X2 hx hZ e2 (x := ch0) V2 (j := (0 : Int32)) (by decide) (by decide) 0 (by decide) (by simp) (H d28_50) (pc' := 51) rfl (fun T3 h3 X3 e3 W3 A3 => ?_)
        have f3_0 := f2_0.wr W3
        have f3_1 := f2_1.wr W3
        have f3_2 := f2_2.other W3 (Or.inl ne_b1_b2)
        have f3_3 := f2_3.other W3 (Or.inl ne_b1_b2)
        have zs3 : h0.size ≤ h3.size := by rw [W3.size]; exact zs2
        have N3 := Fr.snoc X3 (Fr.nil h0.size) sz_b2
        have K3 : Keep h0 h3 [] := K2.wr W3 (Or.inr sz_b2)
        have V3 : Arv Z h3 b2 _ .char (2 : Int32) [(.int ch0), (.int (0 : Int32))] (.int (0 : Int32)) := (by have q := A3; rw [own_nc (own_c8 hch0)] at q; exact q)
        refine gDup 52 X3 hx (H d28_51) rfl rfl ?_
        refine gIconst 53 X3 hx (v := (1 : Int32)) (H d28_52) rfl rfl ?_
        refine gLoadIN 54 X3 hx (H d28_53) rfl rfl ?_
        refine gCastore X3 hx hZ e3 (x := ch1) V3 (j := (1 : Int32)) (by decide) (by decide) 1 (by decide) (by simp) (H d28_54) (pc' := 55) rfl (fun T4 h4 X4 e4 W4 A4 => ?_)
        have f4_0 := f3_0.wr W4
        have f4_1 := f3_1.wr W4
        have f4_2 := f3_2.other W4 (Or.inl ne_b1_b2)
        have f4_3 := f3_3.other W4 (Or.inl ne_b1_b2)
        have zs4 : h0.size ≤ h4.size := by rw [W4.size]; exact zs3
        have N4 := Fr.snoc X4 N3 sz_b2
        have K4 : Keep h0 h4 [] := K3.wr W4 (Or.inr sz_b2)
        have V4 : Arv Z h4 b2 _ .char (2 : Int32) [(.int ch0), (.int ch1)] (.int (0 : Int32)) := (by have q := A4; rw [own_nc (own_c8 hch1)] at q; exact q)
        refine gCallI X4 hx hZ (y := mn8) rfl hown e4 (by rw [hml]; rfl) (ow hw 12 rfl) (ow hw 13 rfl) (ow hw 10 rfl) (ow hw 14 rfl) (by decide) (argsL := [(.ref b2)]) (st := [(.ref b1)]) (c_sinit_2 l Z a0 hw b1 b2 _ h0.size ch0 ch1 h4 f4_0 sz_b1 zs4 (Ne.symm ne_b1_b2) f4_1 f4_3 f4_2 V4 hch0 hch1) (lenOf pd_24 rfl) (H d28_55) (pc' := 58) rfl rfl (by decide) (W := 1) (Nat.le_of_eq rfl) (by decide) (by decide) (by decide) ?_
        intro T5 v5 L5 X5 hQ5
        obtain ⟨t5, ct5, rfl, Nq5, Kq5, gt5, Eq5, Cq5, Vq5, Aq5⟩ := hQ5
        have N5 := Fr.app N4 Nq5
        have f5_0 := own_cpt_keep f4_0 Kq5 (nsS (Exa.nostat f4_1) ns0)
        have f5_1 := f4_1.keep Kq5
        have f5_4 := V4.keep Kq5 (ninS (Ne.symm ne_b1_b2) nin0)
        have zs5 := Nat.le_trans zs4 Kq5.1
        have K5 : Keep h0 T5.heap [] := K4.trans Kq5 (allS (Or.inr sz_b1) all0)
        exact gRetA X5 hx hlk hret rfl rfl (H d28_58) (by decide) (by decide) (⟨b1, t5, ct5, rfl, N5, K5, Eq5, Cq5, Vq5, Aq5⟩)
    · exact absurd c17 (by decide)
  · exact absurd c1 (by decide)
theorem c_compress_3i (l : Launch) (Z : State) (a0 : Array Value) (hw : ∀ d ∈ tables_1, d.before a0 Z = true) (x t : Addr) (cx ct : ClassId) (n0 : Nat) (ch0 ch1 ch2 : Int32) (h0 : Heap) (gt : n0 ≤ t) (hne : x ≠ t) (A : Arv Z h0 x cx .char 3 [.int ch0, .int ch1, .int ch2] (.int 0)) (B : Arv Z h0 t ct .byte 3 [.int 0, .int 0, .int 0] (.int 0)) (hch0 : rg ch0) (hch1 : rg ch1) (hch2 : rg ch2) :
    Ctr l Z mn26 jdk_52_method_21_code 7 (some .int) [] ⟨0, 0, 0, 0⟩ #[(.ref x), (.int (0 : Int32)), (.ref t), (.int (0 : Int32)), (.int (3 : Int32))] h0 (fun v h L => v = some (.int 3) ∧ Fr n0 L ∧ Keep h0 h [t] ∧ sA Z h t ct 3 [by8 ch0, by8 ch1, by8 ch2]) := by
  refine Ctr.of (plainFor_of_name pn_6) ?_
  intro p e s m below meth c s₁ hx H hml hret hown hnm hZ hlk X0 e0
  refine Goes.cast (show entryFrame m _ _ = mkF m 0 #[.val (.ref x), .val (.int (0 : Int32)), .val (.ref t), .val (.int (0 : Int32)), .val (.int (3 : Int32)), .unset, .unset] [] from rfl) ?_
  refine gIconst 1 X0 hx (v := (0 : Int32)) (H d23_0) rfl rfl ?_
  refine gStoreI 3 X0 hx (H d23_1) (l' := #[.val (.ref x), .val (.int (0 : Int32)), .val (.ref t), .val (.int (0 : Int32)), .val (.int (3 : Int32)), .val (.int (0 : Int32)), .unset]) rfl rfl ?_
  refine gLoadI 5 X0 hx (H d23_3) rfl rfl ?_
  refine gLoadI 7 X0 hx (H d23_5) rfl rfl ?_
  refine gIcmpGe X0 hx (H d23_7) (pc' := 44) (by decide) (by decide) (pn := 10) rfl (fun (c7 : (3 : Int) ≤ (0 : Int)) => ?_) (fun (c7 : (0 : Int) < (3 : Int)) => ?_)
  · exact absurd c7 (by decide)
  · refine gLoadAN 11 X0 hx (H d23_10) rfl rfl rfl ?_
    refine gLoadIN 12 X0 hx (H d23_11) rfl rfl ?_
    refine gCaload X0 hx hZ e0 A (j := (0 : Int32)) (v := (.int ch0)) (by decide) (by decide) rfl (H d23_12) (pc' := 13) rfl ?_
    refine gStoreI 15 X0 hx (H d23_13) (l' := #[.val (.ref x), .val (.int (0 : Int32)), .val (.ref t), .val (.int (0 : Int32)), .val (.int (3 : Int32)), .val (.int (0 : Int32)), .val (.int ch0)]) rfl rfl ?_
    refine gLoadI 17 X0 hx (H d23_15) rfl rfl ?_
    refine gSipush 20 X0 hx (v := (255 : Int32)) (H d23_17) rfl rfl ?_
    refine gIcmpLe X0 hx (H d23_20) (pc' := 26) (by decide) (by decide) (pn := 23) rfl (fun (c20 : ch0.toInt ≤ (255 : Int)) => ?_) (fun (c20 : (255 : Int) < ch0.toInt) => ?_)
    · refine gLoadAN 27 X0 hx (H d23_26) rfl rfl rfl ?_
      refine gLoadIN 28 X0 hx (H d23_27) rfl rfl ?_
      refine gLoadI 30 X0 hx (H d23_28) rfl rfl ?_
      refine gI2b 31 X0 hx (H d23_30) rfl ?_
      refine gBastore X0 hx hZ e0 (x := (ch0.toInt8.toInt32)) B (j := (0 : Int32)) (by decide) (by decide) 0 (by decide) (by simp) (H d23_31) (pc' := 32) rfl (fun T1 h1 X1 e1 W1 A1 => ?_)
      have f1_0 := A.other W1 hne
      have zs1 : h0.size ≤ h1.size := by rw [W1.size]; exact (Nat.le_refl _)
      have N1 := Fr.snoc X1 (Fr.nil n0) gt
      have K1 : Keep h0 h1 [t] := (Keep.refl h0 [t]).wr W1 (Or.inl (by simp))
      have V1 : Arv Z h1 t _ .byte (3 : Int32) [(.int (ch0.toInt8.toInt32)), (.int (0 : Int32)), (.int (0 : Int32))] (.int 0) := (by have q := A1; rw [own_nb] at q; exact q)
      refine gIinc X1 hx (v := (1 : Int32)) (H d23_32) (l' := #[.val (.ref x), .val (.int (1 : Int32)), .val (.ref t), .val (.int (0 : Int32)), .val (.int (3 : Int32)), .val (.int (0 : Int32)), .val (.int ch0)]) (pc' := 35) rfl rfl rfl rfl ?_
      refine gIinc X1 hx (v := (1 : Int32)) (H d23_35) (l' := #[.val (.ref x), .val (.int (1 : Int32)), .val (.ref t), .val (.int (1 : Int32)), .val (.int (3 : Int32)), .val (.int (0 : Int32)), .val (.int ch0)]) (pc' := 38) rfl rfl rfl rfl ?_
      refine gIinc X1 hx (v := (1 : Int32)) (H d23_38) (l' := #[.val (.ref x), .val (.int (1 : Int32)), .val (.ref t), .val (.int (1 : Int32)), .val (.int (3 : Int32)), .val (.int (1 : Int32)), .val (.int ch0)]) (pc' := 41) rfl rfl rfl rfl ?_
      refine gGoto X1 hx (H d23_41) (pc' := 3) (by decide) (by decide) ?_
      refine gLoadI 5 X1 hx (H d23_3) rfl rfl ?_
      refine gLoadI 7 X1 hx (H d23_5) rfl rfl ?_
      refine gIcmpGe X1 hx (H d23_7) (pc' := 44) (by decide) (by decide) (pn := 10) rfl (fun (c7' : (3 : Int) ≤ (1 : Int)) => ?_) (fun (c7' : (1 : Int) < (3 : Int)) => ?_)
      · exact absurd c7' (by decide)
      · refine gLoadAN 11 X1 hx (H d23_10) rfl rfl rfl ?_
        refine gLoadIN 12 X1 hx (H d23_11) rfl rfl ?_
        refine gCaload X1 hx hZ e1 f1_0 (j := (1 : Int32)) (v := (.int ch1)) (by decide) (by decide) rfl (H d23_12) (pc' := 13) rfl ?_
        refine gStoreI 15 X1 hx (H d23_13) (l' := #[.val (.ref x), .val (.int (1 : Int32)), .val (.ref t), .val (.int (1 : Int32)), .val (.int (3 : Int32)), .val (.int (1 : Int32)), .val (.int ch1)]) rfl rfl ?_
        refine gLoadI 17 X1 hx (H d23_15) rfl rfl ?_
        refine gSipush 20 X1 hx (v := (255 : Int32)) (H d23_17) rfl rfl ?_
        refine gIcmpLe X1 hx (H d23_20) (pc' := 26) (by decide) (by decide) (pn := 23) rfl (fun (c20' : ch1.toInt ≤ (255 : Int)) => ?_) (fun (c20' : (255 : Int) < ch1.toInt) => ?_)
        · refine gLoadAN 27 X1 hx (H d23_26) rfl rfl rfl ?_
          refine gLoadIN 28 X1 hx (H d23_27) rfl rfl ?_
          refine gLoadI 30 X1 hx (H d23_28) rfl rfl ?_
          refine gI2b 31 X1 hx (H d23_30) rfl ?_
          refine gBastore X1 hx hZ e1 (x := (ch1.toInt8.toInt32)) V1 (j := (1 : Int32)) (by decide) (by decide) 1 (by decide) (by simp) (H d23_31) (pc' := 32) rfl (fun T2 h2 X2 e2 W2 A2 => ?_)
          have f2_0 := f1_0.other W2 hne
          have zs2 : h0.size ≤ h2.size := by rw [W2.size]; exact zs1
          have N2 := Fr.snoc X2 N1 gt
          have K2 : Keep h0 h2 [t] := K1.wr W2 (Or.inl (by simp))
          have V2 : Arv Z h2 t _ .byte (3 : Int32) [(.int (ch0.toInt8.toInt32)), (.int (ch1.toInt8.toInt32)), (.int (0 : Int32))] (.int 0) := (by have q := A2; rw [own_nb] at q; exact q)
          refine gIinc X2 hx (v := (1 : Int32)) (H d23_32) (l' := #[.val (.ref x), .val (.int (2 : Int32)), .val (.ref t), .val (.int (1 : Int32)), .val (.int (3 : Int32)), .val (.int (1 : Int32)), .val (.int ch1)]) (pc' := 35) rfl rfl rfl rfl ?_
          refine gIinc X2 hx (v := (1 : Int32)) (H d23_35) (l' := #[.val (.ref x), .val (.int (2 : Int32)), .val (.ref t), .val (.int (2 : Int32)), .val (.int (3 : Int32)), .val (.int (1 : Int32)), .val (.int ch1)]) (pc' := 38) rfl rfl rfl rfl ?_
          refine gIinc X2 hx (v := (1 : Int32)) (H d23_38) (l' := #[.val (.ref x), .val (.int (2 : Int32)), .val (.ref t), .val (.int (2 : Int32)), .val (.int (3 : Int32)), .val (.int (2 : Int32)), .val (.int ch1)]) (pc' := 41) rfl rfl rfl rfl ?_
          refine gGoto X2 hx (H d23_41) (pc' := 3) (by decide) (by decide) ?_
          refine gLoadI 5 X2 hx (H d23_3) rfl rfl ?_
          refine gLoadI 7 X2 hx (H d23_5) rfl rfl ?_
          refine gIcmpGe X2 hx (H d23_7) (pc' := 44) (by decide) (by decide) (pn := 10) rfl (fun (c7'' : (3 : Int) ≤ (2 : Int)) => ?_) (fun (c7'' : (2 : Int) < (3 : Int)) => ?_)
          · exact absurd c7'' (by decide)
          · refine gLoadAN 11 X2 hx (H d23_10) rfl rfl rfl ?_
            refine gLoadIN 12 X2 hx (H d23_11) rfl rfl ?_
            refine gCaload X2 hx hZ e2 f2_0 (j := (2 : Int32)) (v := (.int ch2)) (by decide) (by decide) rfl (H d23_12) (pc' := 13) rfl ?_
            refine gStoreI 15 X2 hx (H d23_13) (l' := #[.val (.ref x), .val (.int (2 : Int32)), .val (.ref t), .val (.int (2 : Int32)), .val (.int (3 : Int32)), .val (.int (2 : Int32)), .val (.int ch2)]) rfl rfl ?_
            refine gLoadI 17 X2 hx (H d23_15) rfl rfl ?_
            refine gSipush 20 X2 hx (v := (255 : Int32)) (H d23_17) rfl rfl ?_
            refine gIcmpLe X2 hx (H d23_20) (pc' := 26) (by decide) (by decide) (pn := 23) rfl (fun (c20'' : ch2.toInt ≤ (255 : Int)) => ?_) (fun (c20'' : (255 : Int) < ch2.toInt) => ?_)
            · refine gLoadAN 27 X2 hx (H d23_26) rfl rfl rfl ?_
              refine gLoadIN 28 X2 hx (H d23_27) rfl rfl ?_
              refine gLoadI 30 X2 hx (H d23_28) rfl rfl ?_
              refine gI2b 31 X2 hx (H d23_30) rfl ?_
              refine gBastore X2 hx hZ e2 (x := (ch2.toInt8.toInt32)) V2 (j := (2 : Int32)) (by decide) (by decide) 2 (by decide) (by simp) (H d23_31) (pc' := 32) rfl (fun T3 h3 X3 e3 W3 A3 => ?_)
              have f3_0 := f2_0.other W3 hne
              have zs3 : h0.size ≤ h3.size := by rw [W3.size]; exact zs2
              have N3 := Fr.snoc X3 N2 gt
              have K3 : Keep h0 h3 [t] := K2.wr W3 (Or.inl (by simp))
              have V3 : Arv Z h3 t _ .byte (3 : Int32) [(.int (ch0.toInt8.toInt32)), (.int (ch1.toInt8.toInt32)), (.int (ch2.toInt8.toInt32))] (.int 0) := (by have q := A3; rw [own_nb] at q; exact q)
              refine gIinc X3 hx (v := (1 : Int32)) (H d23_32) (l' := #[.val (.ref x), .val (.int (3 : Int32)), .val (.ref t), .val (.int (2 : Int32)), .val (.int (3 : Int32)), .val (.int (2 : Int32)), .val (.int ch2)]) (pc' := 35) rfl rfl rfl rfl ?_
              refine gIinc X3 hx (v := (1 : Int32)) (H d23_35) (l' := #[.val (.ref x), .val (.int (3 : Int32)), .val (.ref t), .val (.int (3 : Int32)), .val (.int (3 : Int32)), .val (.int (2 : Int32)), .val (.int ch2)]) (pc' := 38) rfl rfl rfl rfl ?_
              refine gIinc X3 hx (v := (1 : Int32)) (H d23_38) (l' := #[.val (.ref x), .val (.int (3 : Int32)), .val (.ref t), .val (.int (3 : Int32)), .val (.int (3 : Int32)), .val (.int (3 : Int32)), .val (.int ch2)]) (pc' := 41) rfl rfl rfl rfl ?_
              refine gGoto X3 hx (H d23_41) (pc' := 3) (by decide) (by decide) ?_
              refine gLoadI 5 X3 hx (H d23_3) rfl rfl ?_
              refine gLoadI 7 X3 hx (H d23_5) rfl rfl ?_
              refine gIcmpGe X3 hx (H d23_7) (pc' := 44) (by decide) (by decide) (pn := 10) rfl (fun (c7''' : (3 : Int) ≤ (3 : Int)) => ?_) (fun (c7''' : (3 : Int) < (3 : Int)) => ?_)
              · refine gLoadI 46 X3 hx (H d23_44) rfl rfl ?_
                exact gRetI X3 hx hlk hret (H d23_46) (by decide) (by decide) (⟨rfl, N3, by rw [e3]; exact K3, by rw [e3]; exact V3⟩)
              · exact absurd c7''' (by decide)
            · exact absurd c20'' (by omega)
        · exact absurd c20' (by omega)
    · exact absurd c20 (by omega)
theorem c_compress_3 (l : Launch) (Z : State) (a0 : Array Value) (hw : ∀ d ∈ tables_1, d.before a0 Z = true) (x : Addr) (cx : ClassId) (ch0 ch1 ch2 : Int32) (h0 : Heap) (A : Arv Z h0 x cx .char 3 [.int ch0, .int ch1, .int ch2] (.int 0)) (hch0 : rg ch0) (hch1 : rg ch1) (hch2 : rg ch2) :
    Ctr l Z mn25 jdk_52_method_16_code 6 (some (.array .byte)) [] ⟨1, 1, 3, 18⟩ #[(.ref x), (.int (0 : Int32)), (.int (3 : Int32))] h0 (fun v h L => ∃ (t : Addr) (ct : ClassId), v = some (.ref t) ∧ h0.size ≤ t ∧ Fr h0.size L ∧ Keep h0 h [] ∧ sA Z h t ct 3 [by8 ch0, by8 ch1, by8 ch2]) := by
  refine Ctr.of (plainFor_of_name pn_6) ?_
  intro p e s m below meth c s₁ hx H hml hret hown hnm hZ hlk X0 e0
  refine Goes.cast (show entryFrame m _ _ = mkF m 0 #[.val (.ref x), .val (.int (0 : Int32)), .val (.int (3 : Int32)), .unset, .unset, .unset] [] from rfl) ?_
  refine gLoadIN 1 X0 hx (H d22_0) rfl rfl ?_
  refine gNewP X0 hx hZ (ow hw 23 rfl) e0 (n := (3 : Int32)) (H d22_1) (by decide) (cap := 3) (by decide) (by decide) (by decide) (by decide) 3 (pc' := 3) rfl (fun T1 h1 b1 ck1 X1 e1 g1 E1 A1 => ?_)
  have ne_x_b1 : x ≠ b1 := Nat.ne_of_lt (Nat.lt_of_lt_of_eq A.lt g1.symm)
  have f1_0 := A.ext E1
  have sz_b1 : h0.size ≤ b1 := Nat.le_trans (Nat.le_refl _) (Nat.le_of_eq g1.symm)
  have zs1 : h0.size ≤ h1.size := Nat.le_trans (Nat.le_refl _) E1.1
  have K1 : Keep h0 h1 [] := (Keep.refl h0 []).ext E1
  have V1 : Arv Z h1 b1 ck1 .byte (3 : Int32) [(.int (0 : Int32)), (.int (0 : Int32)), (.int (0 : Int32))] (.int (0 : Int32)) := A1
  refine gStoreAN 4 X1 hx (H d22_3) (l' := #[.val (.ref x), .val (.int (0 : Int32)), .val (.int (3 : Int32)), .val (.ref b1), .unset, .unset]) rfl rfl rfl ?_
  refine gLoadAN 5 X1 hx (H d22_4) rfl rfl rfl ?_
  refine gLoadIN 6 X1 hx (H d22_5) rfl rfl ?_
  refine gLoadAN 7 X1 hx (H d22_6) rfl rfl rfl ?_
  refine gIconst 8 X1 hx (v := (0 : Int32)) (H d22_7) rfl rfl ?_
  refine gLoadIN 9 X1 hx (H d22_8) rfl rfl ?_
  refine gCallS X1 hx hZ (y := mn26) hown e1 (by rw [hml]; rfl) (ow hw 94 rfl) (ow hw 95 rfl) (ow hw 92 rfl) (ow hw 96 rfl) (by decide) (argsL := [(.ref x), (.int (0 : Int32)), (.ref b1), (.int (0 : Int32)), (.int (3 : Int32))]) (st := []) (c_compress_3i l Z a0 hw x b1 cx ck1 h0.size ch0 ch1 ch2 h1 sz_b1 ne_x_b1 f1_0 V1 hch0 hch1 hch2) (lenOf pd_27 rfl) (H d22_9) (pc' := 12) rfl rfl (by decide) (W := 0) (Nat.le_of_eq rfl) (by decide) (by decide) (by decide) ?_
  intro T2 v2 L2 X2 hQ2
  obtain ⟨rfl, Nq2, Kq2, Aq2⟩ := hQ2
  have N2 := Fr.app (Fr.nil h0.size) Nq2
  have K2 : Keep h0 T2.heap [] := K1.trans Kq2 (allS (Or.inr sz_b1) all0)
  refine gStoreI 14 X2 hx (H d22_12) (l' := #[.val (.ref x), .val (.int (0 : Int32)), .val (.int (3 : Int32)), .val (.ref b1), .val (.int (3 : Int32)), .unset]) rfl rfl ?_
  refine gLoadI 16 X2 hx (H d22_14) rfl rfl ?_
  refine gLoadIN 17 X2 hx (H d22_16) rfl rfl ?_
  refine gIcmpEqT X2 hx (H d22_17) (pc' := 57) (by decide) (by decide) (pn := 20) rfl (fun (c17 : (3 : Int) = (3 : Int)) => ?_) (fun (c17 : ¬ (3 : Int) = (3 : Int)) => ?_)
  · refine gLoadAN 58 X2 hx (H d22_57) rfl rfl rfl ?_
    exact gRetA X2 hx hlk hret rfl rfl (H d22_58) (by decide) (by decide) (⟨b1, _, rfl, sz_b1, N2, K2, Aq2⟩)
  · exact absurd c17 (by decide)
theorem c_cfal_3 (l : Launch) (Z : State) (a0 : Array Value) (hw : ∀ d ∈ tables_1, d.before a0 Z = true) (t : Addr) (ck : ClassId) (ch0 ch1 ch2 : Int32) (h0 : Heap) (A : sA Z h0 t ck 3 [by8 ch0, by8 ch1, by8 ch2]) :
    Ctr l Z mn24 jdk_52_method_15_code 2 (some .byte) [] ⟨0, 0, 0, 0⟩ #[(.ref t), (.int (3 : Int32))] h0 (Just h0 (.int 0)) := by
  refine Ctr.of (plainFor_of_name pn_6) ?_
  intro p e s m below meth c s₁ hx H hml hret hown hnm hZ hlk X0 e0
  refine Goes.cast (show entryFrame m _ _ = mkF m 0 #[.val (.ref t), .val (.int (3 : Int32))] [] from rfl) ?_
  refine gLoadIN 1 X0 hx (H d21_0) rfl rfl ?_
  refine gLoadAN 2 X0 hx (H d21_1) rfl rfl rfl ?_
  refine gArrLen X0 hx hZ e0 A (H d21_2) (pc' := 3) rfl ?_
  refine gIsub 4 X0 hx (H d21_3) rfl ?_
  show Goes p e below _ s₁ (mkF m 4 #[.val (.ref t), .val (.int (3 : Int32))] [(.int (0 : Int32))])
  refine gBipush 6 X0 hx (v := (31 : Int32)) (H d21_4) rfl rfl ?_
  refine gIushr 7 X0 hx (H d21_6) rfl ?_
  show Goes p e below _ s₁ (mkF m 7 #[.val (.ref t), .val (.int (3 : Int32))] [(.int (0 : Int32))])
  refine gI2b 8 X0 hx (H d21_7) rfl ?_
  show Goes p e below _ s₁ (mkF m 8 #[.val (.ref t), .val (.int (3 : Int32))] [(.int (0 : Int32))])
  exact gRetN X0 hx hlk hret (by simp) (H d21_8) (w := (0 : Int32)) rfl (by decide) (by decide) (⟨rfl, e0, rfl⟩)
theorem c_sinit_3v (l : Launch) (Z : State) (a0 : Array Value) (hw : ∀ d ∈ tables_1, d.before a0 Z = true) (a x : Addr) (cx : ClassId) (n0 : Nat) (ch0 ch1 ch2 : Int32) (h0 : Heap) (hCpt : Cpt Z h0) (ga : n0 ≤ a) (gz : n0 ≤ h0.size) (hax : x ≠ a) (E : sE Z h0 a) (C : sC Z h0 a) (V : Fld Z h0 a "java/lang/String" "value" "[B" .null) (A : Arv Z h0 x cx .char 3 [.int ch0, .int ch1, .int ch2] (.int 0)) (hch0 : rg ch0) (hch1 : rg ch1) (hch2 : rg ch2) :
    Ctr l Z mn9 jdk_42_method_149_code 6 none [] ⟨2, 1, 3, 37⟩ #[(.ref a), (.ref x), (.int (0 : Int32)), (.int (3 : Int32)), .null] h0 (fun v h L => ∃ (t : Addr) (ct : ClassId), v = none ∧ Fr n0 L ∧ Keep h0 h [a] ∧ h0.size ≤ t ∧ sE Z h a ∧ sC Z h a ∧ sV Z h a t ∧ sA Z h t ct 3 [by8 ch0, by8 ch1, by8 ch2]) := by
  refine Ctr.of (plainFor_of_name pn_4) ?_
  intro p e s m below meth c s₁ hx H hml hret hown hnm hZ hlk X0 e0
  refine Goes.cast (show entryFrame m _ _ = mkF m 0 #[.val (.ref a), .val (.ref x), .val (.int (0 : Int32)), .val (.int (3 : Int32)), .val .null, .unset] [] from rfl) ?_
  have hCpt0 := hCpt
  obtain ⟨cz, SC, hcz⟩ := hCpt0
  refine gLoadAN 1 X0 hx (H d4_0) rfl rfl rfl ?_
  refine gInitO X0 hx hZ hown (ow hw 19 rfl) (ow hw 20 rfl) (ow hw 21 rfl) e0 (by rw [hml]; rfl) (H d4_1) (pc' := 4) rfl (by decide) (W := 0) (Nat.le_of_eq rfl) (by decide) (fun T1 X1 e1 => ?_)
  refine gLoadIN 5 X1 hx (H d4_4) rfl rfl ?_
  refine gIfNeT X1 hx (H d4_5) (pc' := 27) (by decide) (by decide) (pn := 8) rfl (fun (c5 : ¬ (3 : Int) = (0 : Int)) => ?_) (fun (c5 : (3 : Int) = (0 : Int)) => ?_)
  · refine gGetS X1 hx hZ hown (ow hw 49 rfl) Via.refl e1 SC (H d4_27) (pc' := 30) rfl (fun T2 X2 e2 => ?_)
    refine gIfEqT X2 hx (H d4_30) (pc' := 58) (by decide) (by decide) (pn := 33) rfl (fun (c30 : cz.toInt = (0 : Int)) => ?_) (fun (c30 : ¬ cz.toInt = (0 : Int)) => ?_)
    · exact absurd c30 hcz
    · refine gLoadAN 34 X2 hx (H d4_33) rfl rfl rfl ?_
      refine gLoadIN 35 X2 hx (H d4_34) rfl rfl ?_
      refine gLoadIN 36 X2 hx (H d4_35) rfl rfl ?_
      refine gCallS X2 hx hZ (y := mn25) hown e2 (by rw [hml]; rfl) (ow hw 90 rfl) (ow hw 91 rfl) (ow hw 92 rfl) (ow hw 93 rfl) (by decide) (argsL := [(.ref x), (.int (0 : Int32)), (.int (3 : Int32))]) (st := []) (c_compress_3 l Z a0 hw x cx ch0 ch1 ch2 h0 A hch0 hch1 hch2) (lenOf pd_25 rfl) (H d4_36) (pc' := 39) rfl rfl (by decide) (W := 0) (Nat.le_of_eq rfl) (by decide) (by decide) (by decide) ?_
      intro T3 v3 L3 X3 hQ3
      obtain ⟨t3, ct3, rfl, gt3, Nq3, Kq3, Aq3⟩ := hQ3
      have N3 := Fr.app (Fr.nil n0) (fun y hy => Nat.le_trans gz (Nq3 y hy))
      have K3 : Keep h0 T3.heap [a] := (Keep.refl h0 [a]).trans Kq3 all0
      have f3_0 := own_sta_keep SC Kq3 ns0
      have f3_1 := E.keep Kq3
      have f3_2 := C.keep Kq3 nin0
      have f3_3 := V.keep Kq3 nin0
      have nt3 : t3 ≠ a := Ne.symm (Nat.ne_of_lt (Nat.lt_of_lt_of_le E.lt gt3))
      refine gStoreA 41 X3 hx (H d4_39) (l' := #[.val (.ref a), .val (.ref x), .val (.int (0 : Int32)), .val (.int (3 : Int32)), .val .null, .val (.ref t3)]) rfl rfl rfl ?_
      refine gLoadAN 42 X3 hx (H d4_41) rfl rfl rfl ?_
      refine gLoadA 44 X3 hx (H d4_42) rfl rfl rfl ?_
      refine gLoadIN 45 X3 hx (H d4_44) rfl rfl ?_
      refine gCallSJ X3 hx hZ (y := mn24) hown rfl (by rw [hml]; rfl) (ow hw 97 rfl) (ow hw 98 rfl) (ow hw 92 rfl) (ow hw 99 rfl) (by decide) (argsL := [(.ref t3), (.int (3 : Int32))]) (st := [(.ref a)]) (c_cfal_3 l Z a0 hw t3 ct3 ch0 ch1 ch2 _ Aq3) (lenOf pd_19 rfl) (H d4_45) (pc' := 48) rfl rfl rfl rfl (by decide) (W := 1) (Nat.le_of_eq rfl) (by decide) (by decide) (by decide) ?_
      intro T4 X4 e4
      refine gPutF X4 hx hZ hown (ow hw 29 rfl) Via.refl e4 f3_2 f3_1 (Or.inr ⟨(ow hw 25 rfl), rfl, hnm⟩) (ow hw 9 rfl) (ty := .byte) (by decide) rfl rfl (H d4_48) (pc' := 51) rfl (fun T5 h5 X5 e5 W5 => ?_)
      have f5_0 := f3_0.wr W5
      have f5_1 := f3_1.wr W5
      have f5_2 := f3_2.same W5
      have f5_3 := f3_3.other W5 (Or.inr (slot_ne (Or.inr (ow hw 24 rfl)) (Or.inr (ow hw 25 rfl)) (by decide) (t := (.array .byte)) (t' := .byte) (by decide) (by decide)))
      have f5_4 := Aq3.other W5 nt3
      have zs5 : h0.size ≤ h5.size := by rw [W5.size]; exact Kq3.1
      have N5 := Fr.snoc X5 N3 ga
      have K5 : Keep h0 h5 [a] := K3.wr W5 (Or.inl (by simp))
      refine gLoadAN 52 X5 hx (H d4_51) rfl rfl rfl ?_
      refine gLoadA 54 X5 hx (H d4_52) rfl rfl rfl ?_
      refine gPutF X5 hx hZ hown (ow hw 28 rfl) Via.refl e5 f5_3 f5_1 (Or.inr ⟨(ow hw 24 rfl), rfl, hnm⟩) (ow hw 9 rfl) (ty := (.array .byte)) (by decide) rfl rfl (H d4_54) (pc' := 57) rfl (fun T6 h6 X6 e6 W6 => ?_)
      have f6_0 := f5_0.wr W6
      have f6_1 := f5_1.wr W6
      have f6_2 := f5_2.other W6 (Or.inr (slot_ne (Or.inr (ow hw 25 rfl)) (Or.inr (ow hw 24 rfl)) (by decide) (t := .byte) (t' := (.array .byte)) (by decide) (by decide)))
      have f6_3 := f5_3.same W6
      have f6_4 := f5_4.other W6 nt3
      have zs6 : h0.size ≤ h6.size := by rw [W6.size]; exact zs5
      have N6 := Fr.snoc X6 N5 ga
      have K6 : Keep h0 h6 [a] := K5.wr W6 (Or.inl (by simp))
      exact gRetV X6 hx hlk hret (H d4_57) (by decide) (by decide) (⟨t3, ct3, rfl, N6, by rw [e6]; exact K6, gt3, by rw [e6]; exact f6_1, by rw [e6]; exact f6_2, by rw [e6]; exact f6_3, by rw [e6]; exact f6_4⟩)
  · exact absurd c5 (by decide)
theorem c_sinit_3 (l : Launch) (Z : State) (a0 : Array Value) (hw : ∀ d ∈ tables_1, d.before a0 Z = true) (a x : Addr) (cx : ClassId) (n0 : Nat) (ch0 ch1 ch2 : Int32) (h0 : Heap) (hCpt : Cpt Z h0) (ga : n0 ≤ a) (gz : n0 ≤ h0.size) (hax : x ≠ a) (E : sE Z h0 a) (C : sC Z h0 a) (V : Fld Z h0 a "java/lang/String" "value" "[B" .null) (A : Arv Z h0 x cx .char 3 [.int ch0, .int ch1, .int ch2] (.int 0)) (hch0 : rg ch0) (hch1 : rg ch1) (hch2 : rg ch2) :
    Ctr l Z mn8 jdk_42_method_3_code 2 none [] ⟨3, 1, 3, 54⟩ #[(.ref a), (.ref x)] h0 (fun v h L => ∃ (t : Addr) (ct : ClassId), v = none ∧ Fr n0 L ∧ Keep h0 h [a] ∧ h0.size ≤ t ∧ sE Z h a ∧ sC Z h a ∧ sV Z h a t ∧ sA Z h t ct 3 [by8 ch0, by8 ch1, by8 ch2]) := by
  refine Ctr.of (plainFor_of_name pn_4) ?_
  intro p e s m below meth c s₁ hx H hml hret hown hnm hZ hlk X0 e0
  refine Goes.cast (show entryFrame m _ _ = mkF m 0 #[.val (.ref a), .val (.ref x)] [] from rfl) ?_
  refine gLoadAN 1 X0 hx (H d10_0) rfl rfl rfl ?_
  refine gLoadAN 2 X0 hx (H d10_1) rfl rfl rfl ?_
  refine gIconst 3 X0 hx (v := (0 : Int32)) (H d10_2) rfl rfl ?_
  refine gLoadAN 4 X0 hx (H d10_3) rfl rfl rfl ?_
  refine gArrLen X0 hx hZ e0 A (H d10_4) (pc' := 5) rfl ?_
  refine gNull 6 X0 hx (H d10_5) rfl ?_
  refine gCallI X0 hx hZ (y := mn9) rfl hown e0 (by rw [hml]; rfl) (ow hw 15 rfl) (ow hw 16 rfl) (ow hw 10 rfl) (ow hw 18 rfl) (by decide) (argsL := [(.ref x), (.int (0 : Int32)), (.int (3 : Int32)), .null]) (st := []) (c_sinit_3v l Z a0 hw a x cx n0 ch0 ch1 ch2 h0 hCpt ga gz hax E C V A hch0 hch1 hch2) (lenOf pd_26 rfl) (H d10_6) (pc' := 9) rfl rfl (by decide) (W := 0) (Nat.le_of_eq rfl) (by decide) (by decide) (by decide) ?_
  intro T1 v1 L1 X1 hQ1
  obtain ⟨t, ct, rfl, Nq, Kq, gt, Eq, Cq, Vq, Aq⟩ := hQ1
  exact gRetV X1 hx hlk hret (H d10_9) (by decide) (by decide) (⟨t, ct, rfl, Nq, Kq, gt, Eq, Cq, Vq, Aq⟩)
theorem d28_59 : decode method_3_code 59 = .ok (.iload_n 0, 1) := by decide +kernel
theorem d28_60 : decode method_3_code 60 = .ok (.iconst 3, 1) := by decide +kernel
theorem d28_61 : decode method_3_code 61 = .ok (.if_icmp .ne 26, 3) := by decide +kernel
theorem d28_64 : decode method_3_code 64 = .ok (.new 7, 3) := by decide +kernel
theorem d28_67 : decode method_3_code 67 = .ok (.dup, 1) := by decide +kernel
theorem d28_68 : decode method_3_code 68 = .ok (.iconst 3, 1) := by decide +kernel
theorem d28_69 : decode method_3_code 69 = .ok (.newarray .char, 2) := by decide +kernel
theorem d28_71 : decode method_3_code 71 = .ok (.dup, 1) := by decide +kernel
theorem d28_72 : decode method_3_code 72 = .ok (.iconst 0, 1) := by decide +kernel
theorem d28_73 : decode method_3_code 73 = .ok (.iload_n 1, 1) := by decide +kernel
theorem d28_74 : decode method_3_code 74 = .ok (.castore, 1) := by decide +kernel
theorem d28_75 : decode method_3_code 75 = .ok (.dup, 1) := by decide +kernel
theorem d28_76 : decode method_3_code 76 = .ok (.iconst 1, 1) := by decide +kernel
theorem d28_77 : decode method_3_code 77 = .ok (.iload_n 2, 1) := by decide +kernel
theorem d28_78 : decode method_3_code 78 = .ok (.castore, 1) := by decide +kernel
theorem d28_79 : decode method_3_code 79 = .ok (.dup, 1) := by decide +kernel
theorem d28_80 : decode method_3_code 80 = .ok (.iconst 2, 1) := by decide +kernel
theorem d28_81 : decode method_3_code 81 = .ok (.iload_n 3, 1) := by decide +kernel
theorem d28_82 : decode method_3_code 82 = .ok (.castore, 1) := by decide +kernel
theorem d28_83 : decode method_3_code 83 = .ok (.invokespecial 9, 3) := by decide +kernel
theorem d28_86 : decode method_3_code 86 = .ok (.areturn, 1) := by decide +kernel
theorem c_mk_3 (l : Launch) (Z : State) (a0 : Array Value) (hw : ∀ d ∈ tables_1, d.before a0 Z = true) (ch0 ch1 ch2 ch3 : Int32) (h0 : Heap) (hCpt : Cpt Z h0) (hch0 : rg ch0) (hch1 : rg ch1) (hch2 : rg ch2) (hch3 : rg ch3) :
    Ctr l Z mn3 method_3_code 5 (some (.object "java/lang/String")) [] ⟨4, 3, 10, 68⟩ #[(.int (3 : Int32)), (.int ch0), (.int ch1), (.int ch2), (.int ch3)] h0 (SQd Z h0 3 [by8 ch0, by8 ch1, by8 ch2]) := by
  refine Ctr.of (plainFor_of_name pn_1) ?_
  intro p e s m below meth c s₁ hx H hml hret hown hnm hZ hlk X0 e0
  refine Goes.cast (show entryFrame m _ _ = mkF m 0 #[.val (.int (3 : Int32)), .val (.int ch0), .val (.int ch1), .val (.int ch2), .val (.int ch3)] [] from rfl) ?_
  refine gLoadIN 1 X0 hx (H d28_0) rfl rfl ?_
  refine gIfNeT X0 hx (H d28_1) (pc' := 15) (by decide) (by decide) (pn := 4) rfl (fun (c1 : ¬ (3 : Int) = (0 : Int)) => ?_) (fun (c1 : (3 : Int) = (0 : Int)) => ?_)
  · refine gLoadIN 16 X0 hx (H d28_15) rfl rfl ?_
    refine gIconst 17 X0 hx (v := (1 : Int32)) (H d28_16) rfl rfl ?_
    refine gIcmpNeT X0 hx (H d28_17) (pc' := 35) (by decide) (by decide) (pn := 20) rfl (fun (c17 : ¬ (3 : Int) = (1 : Int)) => ?_) (fun (c17 : (3 : Int) = (1 : Int)) => ?_)
    · refine gLoadIN 36 X0 hx (H d28_35) rfl rfl ?_
      refine gIconst 37 X0 hx (v := (2 : Int32)) (H d28_36) rfl rfl ?_
      refine gIcmpNeT X0 hx (H d28_37) (pc' := 59) (by decide) (by decide) (pn := 40) rfl (fun (c37 : ¬ (3 : Int) = (2 : Int)) => ?_) (fun (c37 : (3 : Int) = (2 : Int)) => ?_)
      · refine gLoadIN 60 X0 hx (H d28_59) rfl rfl ?_
        refine gIconst 61 X0 hx (v := (3 : Int32)) (H d28_60) rfl rfl ?_
        refine gIcmpNeT X0 hx (H d28_61) (pc' := 87) (by decide) (by decide) (pn := 64) rfl (fun (c61 : ¬ (3 : Int) = (3 : Int)) => ?_) (fun (c61 : (3 : Int) = (3 : Int)) => ?_)
        · exact absurd c61 (by decide)
        · refine gNew X0 hx hZ hown (ow hw 8 rfl) (ow hw 9 rfl) (ow hw 10 rfl) e0 (H d28_64) (pc' := 67) rfl (by decide) (by decide) (fun T1 h1 b1 X1 e1 g1 E1 A1 D1 => ?_)
          have f1_0 := hCpt.ext E1
          have sz_b1 : h0.size ≤ b1 := Nat.le_trans (Nat.le_refl _) (Nat.le_of_eq g1.symm)
          have zs1 : h0.size ≤ h1.size := Nat.le_trans (Nat.le_refl _) E1.1
          have K1 : Keep h0 h1 [] := (Keep.refl h0 []).ext E1
          have F1_value : Fld Z h1 b1 "java/lang/String" "value" "[B" .null := D1 (Or.inr (ow hw 24 rfl)) (ty := (.array .byte)) (by decide)
          have F1_coder : Fld Z h1 b1 "java/lang/String" "coder" "B" (.int (0 : Int32)) := D1 (Or.inr (ow hw 25 rfl)) (ty := .byte) (by decide)
          refine gDup 68 X1 hx (H d28_67) rfl rfl ?_
          refine gIconst 69 X1 hx (v := (3 : Int32)) (H d28_68) rfl rfl ?_
          refine gNewP X1 hx hZ (ow hw 11 rfl) e1 (n := (3 : Int32)) (H d28_69) (by decide) (cap := 3) (by decide) (by decide) (by decide) (by decide) 3 (pc' := 71) rfl (fun T2 h2 b2 ck2 X2 e2 g2 E2 A2 => ?_)
          have ne_b1_b2 : b1 ≠ b2 := Nat.ne_of_lt (Nat.lt_of_lt_of_eq A1.lt g2.symm)
          have f2_0 := f1_0.ext E2
          have f2_1 := A1.ext E2
          have f2_2 := F1_value.ext E2
          have f2_3 := F1_coder.ext E2
          have sz_b2 : h0.size ≤ b2 := Nat.le_trans zs1 (Nat.le_of_eq g2.symm)
          have zs2 : h0.size ≤ h2.size := Nat.le_trans zs1 E2.1
          have K2 : Keep h0 h2 [] := K1.ext E2
          have V2 : Arv Z h2 b2 ck2 .char (3 : Int32) [(.int (0 : Int32)), (.int (0 : Int32)), (.int (0 : Int32))] (.int (0 : Int32)) := A2
          refine gDup 72 X2 hx (H d28_71) rfl rfl ?_
          refine gIconst 73 X2 hx (v := (0 : Int32)) (H d28_72) rfl rfl ?_
          refine gLoadIN 74 X2 hx (H d28_73) rfl rfl ?_
          refine gCastore X2 hx hZ e2 (x := ch0) V2 (j := (0 : Int32)) (by decide) (by decide) 0 (by decide) (by simp) (H d28_74) (pc' := 75) rfl (fun T3 h3 X3 e3 W3 A3 => ?_)
          have f3_0 := f2_0.wr W3
          have f3_1 := f2_1.wr W3
          have f3_2 := f2_2.other W3 (Or.inl ne_b1_b2)
          have f3_3 := f2_3.other W3 (Or.inl ne_b1_b2)
          have zs3 : h0.size ≤ h3.size := by rw [W3.size]; exact zs2
          have N3 := Fr.snoc X3 (Fr.nil h0.size) sz_b2
          have K3 : Keep h0 h3 [] := K2.wr W3 (Or.inr sz_b2)
          have V3 : Arv Z h3 b2 _ .char (3 : Int32) [(.int ch0), (.int (0 : Int32)), (.int (0 : Int32))] (.int (0 : Int32)) := (by have q := A3; rw [own_nc (own_c8 hch0)] at q; exact q)
          refine gDup 76 X3 hx (H d28_75) rfl rfl ?_
          refine gIconst 77 X3 hx (v := (1 : Int32)) (H d28_76) rfl rfl ?_
          refine gLoadIN 78 X3 hx (H d28_77) rfl rfl ?_
          refine gCastore X3 hx hZ e3 (x := ch1) V3 (j := (1 : Int32)) (by decide) (by decide) 1 (by decide) (by simp) (H d28_78) (pc' := 79) rfl (fun T4 h4 X4 e4 W4 A4 => ?_)
          have f4_0 := f3_0.wr W4
          have f4_1 := f3_1.wr W4
          have f4_2 := f3_2.other W4 (Or.inl ne_b1_b2)
          have f4_3 := f3_3.other W4 (Or.inl ne_b1_b2)
          have zs4 : h0.size ≤ h4.size := by rw [W4.size]; exact zs3
          have N4 := Fr.snoc X4 N3 sz_b2
          have K4 : Keep h0 h4 [] := K3.wr W4 (Or.inr sz_b2)
          have V4 : Arv Z h4 b2 _ .char (3 : Int32) [(.int ch0), (.int ch1), (.int (0 : Int32))] (.int (0 : Int32)) := (by have q := A4; rw [own_nc (own_c8 hch1)] at q; exact q)
          refine gDup 80 X4 hx (H d28_79) rfl rfl ?_
          refine gIconst 81 X4 hx (v := (2 : Int32)) (H d28_80) rfl rfl ?_
          refine gLoadIN 82 X4 hx (H d28_81) rfl rfl ?_
          refine gCastore X4 hx hZ e4 (x := ch2) V4 (j := (2 : Int32)) (by decide) (by decide) 2 (by decide) (by simp) (H d28_82) (pc' := 83) rfl (fun T5 h5 X5 e5 W5 A5 => ?_)
          have f5_0 := f4_0.wr W5
          have f5_1 := f4_1.wr W5
          have f5_2 := f4_2.other W5 (Or.inl ne_b1_b2)
          have f5_3 := f4_3.other W5 (Or.inl ne_b1_b2)
          have zs5 : h0.size ≤ h5.size := by rw [W5.size]; exact zs4
          have N5 := Fr.snoc X5 N4 sz_b2
          have K5 : Keep h0 h5 [] := K4.wr W5 (Or.inr sz_b2)
          have V5 : Arv Z h5 b2 _ .char (3 : Int32) [(.int ch0), (.int ch1), (.int ch2)] (.int (0 : Int32)) := (by have q := A5; rw [own_nc (own_c8 hch2)] at q; exact q)
          refine gCallI X5 hx hZ (y := mn8) rfl hown e5 (by rw [hml]; rfl) (ow hw 12 rfl) (ow hw 13 rfl) (ow hw 10 rfl) (ow hw 14 rfl) (by decide) (argsL := [(.ref b2)]) (st := [(.ref b1)]) (c_sinit_3 l Z a0 hw b1 b2 _ h0.size ch0 ch1 ch2 h5 f5_0 sz_b1 zs5 (Ne.symm ne_b1_b2) f5_1 f5_3 f5_2 V5 hch0 hch1 hch2) (lenOf pd_24 rfl) (H d28_83) (pc' := 86) rfl rfl (by decide) (W := 1) (Nat.le_of_eq rfl) (by decide) (by decide) (by decide) ?_
          intro T6 v6 L6 X6 hQ6
          obtain ⟨t6, ct6, rfl, Nq6, Kq6, gt6, Eq6, Cq6, Vq6, Aq6⟩ := hQ6
          have N6 := Fr.app N5 Nq6
          have f6_0 := own_cpt_keep f5_0 Kq6 (nsS (Exa.nostat f5_1) ns0)
          have f6_1 := f5_1.keep Kq6
          have f6_4 := V5.keep Kq6 (ninS (Ne.symm ne_b1_b2) nin0)
          have zs6 := Nat.le_trans zs5 Kq6.1
          have K6 : Keep h0 T6.heap [] := K5.trans Kq6 (allS (Or.inr sz_b1) all0)
          exact gRetA X6 hx hlk hret rfl rfl (H d28_86) (by decide) (by decide) (⟨b1, t6, ct6, rfl, N6, K6, Eq6, Cq6, Vq6, Aq6⟩)
      · exact absurd c37 (by decide)
    · exact absurd c17 (by decide)
  · exact absurd c1 (by decide)
theorem c_compress_4i (l : Launch) (Z : State) (a0 : Array Value) (hw : ∀ d ∈ tables_1, d.before a0 Z = true) (x t : Addr) (cx ct : ClassId) (n0 : Nat) (ch0 ch1 ch2 ch3 : Int32) (h0 : Heap) (gt : n0 ≤ t) (hne : x ≠ t) (A : Arv Z h0 x cx .char 4 [.int ch0, .int ch1, .int ch2, .int ch3] (.int 0)) (B : Arv Z h0 t ct .byte 4 [.int 0, .int 0, .int 0, .int 0] (.int 0)) (hch0 : rg ch0) (hch1 : rg ch1) (hch2 : rg ch2) (hch3 : rg ch3) :
    Ctr l Z mn26 jdk_52_method_21_code 7 (some .int) [] ⟨0, 0, 0, 0⟩ #[(.ref x), (.int (0 : Int32)), (.ref t), (.int (0 : Int32)), (.int (4 : Int32))] h0 (fun v h L => v = some (.int 4) ∧ Fr n0 L ∧ Keep h0 h [t] ∧ sA Z h t ct 4 [by8 ch0, by8 ch1, by8 ch2, by8 ch3]) := by
  refine Ctr.of (plainFor_of_name pn_6) ?_
  intro p e s m below meth c s₁ hx H hml hret hown hnm hZ hlk X0 e0
  refine Goes.cast (show entryFrame m _ _ = mkF m 0 #[.val (.ref x), .val (.int (0 : Int32)), .val (.ref t), .val (.int (0 : Int32)), .val (.int (4 : Int32)), .unset, .unset] [] from rfl) ?_
  refine gIconst 1 X0 hx (v := (0 : Int32)) (H d23_0) rfl rfl ?_
  refine gStoreI 3 X0 hx (H d23_1) (l' := #[.val (.ref x), .val (.int (0 : Int32)), .val (.ref t), .val (.int (0 : Int32)), .val (.int (4 : Int32)), .val (.int (0 : Int32)), .unset]) rfl rfl ?_
  refine gLoadI 5 X0 hx (H d23_3) rfl rfl ?_
  refine gLoadI 7 X0 hx (H d23_5) rfl rfl ?_
  refine gIcmpGe X0 hx (H d23_7) (pc' := 44) (by decide) (by decide) (pn := 10) rfl (fun (c7 : (4 : Int) ≤ (0 : Int)) => ?_) (fun (c7 : (0 : Int) < (4 : Int)) => ?_)
  · exact absurd c7 (by decide)
  · refine gLoadAN 11 X0 hx (H d23_10) rfl rfl rfl ?_
    refine gLoadIN 12 X0 hx (H d23_11) rfl rfl ?_
    refine gCaload X0 hx hZ e0 A (j := (0 : Int32)) (v := (.int ch0)) (by decide) (by decide) rfl (H d23_12) (pc' := 13) rfl ?_
    refine gStoreI 15 X0 hx (H d23_13) (l' := #[.val (.ref x), .val (.int (0 : Int32)), .val (.ref t), .val (.int (0 : Int32)), .val (.int (4 : Int32)), .val (.int (0 : Int32)), .val (.int ch0)]) rfl rfl ?_
    refine gLoadI 17 X0 hx (H d23_15) rfl rfl ?_
    refine gSipush 20 X0 hx (v := (255 : Int32)) (H d23_17) rfl rfl ?_
    refine gIcmpLe X0 hx (H d23_20) (pc' := 26) (by decide) (by decide) (pn := 23) rfl (fun (c20 : ch0.toInt ≤ (255 : Int)) => ?_) (fun (c20 : (255 : Int) < ch0.toInt) => ?_)
    · refine gLoadAN 27 X0 hx (H d23_26) rfl rfl rfl ?_
      refine gLoadIN 28 X0 hx (H d23_27) rfl rfl ?_
      refine gLoadI 30 X0 hx (H d23_28) rfl rfl ?_
      refine gI2b 31 X0 hx (H d23_30) rfl ?_
      refine gBastore X0 hx hZ e0 (x := (ch0.toInt8.toInt32)) B (j := (0 : Int32)) (by decide) (by decide) 0 (by decide) (by simp) (H d23_31) (pc' := 32) rfl (fun T1 h1 X1 e1 W1 A1 => ?_)
      have f1_0 := A.other W1 hne
      have zs1 : h0.size ≤ h1.size := by rw [W1.size]; exact (Nat.le_refl _)
      have N1 := Fr.snoc X1 (Fr.nil n0) gt
      have K1 : Keep h0 h1 [t] := (Keep.refl h0 [t]).wr W1 (Or.inl (by simp))
      have V1 : Arv Z h1 t _ .byte (4 : Int32) [(.int (ch0.toInt8.toInt32)), (.int (0 : Int32)), (.int (0 : Int32)), (.int (0 : Int32))] (.int 0) := (by have q := A1; rw [own_nb] at q; exact q)
      refine gIinc X1 hx (v := (1 : Int32)) (H d23_32) (l' := #[.val (.ref x), .val (.int (1 : Int32)), .val (.ref t), .val (.int (0 : Int32)), .val (.int (4 : Int32)), .val (.int (0 : Int32)), .val (.int ch0)]) (pc' := 35) rfl rfl rfl rfl ?_
      refine gIinc X1 hx (v := (1 : Int32)) (H d23_35) (l' := #[.val (.ref x), .val (.int (1 : Int32)), .val (.ref t), .val (.int (1 : Int32)), .val (.int (4 : Int32)), .val (.int (0 : Int32)), .val (.int ch0)]) (pc' := 38) rfl rfl rfl rfl ?_
      refine gIinc X1 hx (v := (1 : Int32)) (H d23_38) (l' := #[.val (.ref x), .val (.int (1 : Int32)), .val (.ref t), .val (.int (1 : Int32)), .val (.int (4 : Int32)), .val (.int (1 : Int32)), .val (.int ch0)]) (pc' := 41) rfl rfl rfl rfl ?_
      refine gGoto X1 hx (H d23_41) (pc' := 3) (by decide) (by decide) ?_
      refine gLoadI 5 X1 hx (H d23_3) rfl rfl ?_
      refine gLoadI 7 X1 hx (H d23_5) rfl rfl ?_
      refine gIcmpGe X1 hx (H d23_7) (pc' := 44) (by decide) (by decide) (pn := 10) rfl (fun (c7' : (4 : Int) ≤ (1 : Int)) => ?_) (fun (c7' : (1 : Int) < (4 : Int)) => ?_)
      · exact absurd c7' (by decide)
      · refine gLoadAN 11 X1 hx (H d23_10) rfl rfl rfl ?_
        refine gLoadIN 12 X1 hx (H d23_11) rfl rfl ?_
        refine gCaload X1 hx hZ e1 f1_0 (j := (1 : Int32)) (v := (.int ch1)) (by decide) (by decide) rfl (H d23_12) (pc' := 13) rfl ?_
        refine gStoreI 15 X1 hx (H d23_13) (l' := #[.val (.ref x), .val (.int (1 : Int32)), .val (.ref t), .val (.int (1 : Int32)), .val (.int (4 : Int32)), .val (.int (1 : Int32)), .val (.int ch1)]) rfl rfl ?_
        refine gLoadI 17 X1 hx (H d23_15) rfl rfl ?_
        refine gSipush 20 X1 hx (v := (255 : Int32)) (H d23_17) rfl rfl ?_
        refine gIcmpLe X1 hx (H d23_20) (pc' := 26) (by decide) (by decide) (pn := 23) rfl (fun (c20' : ch1.toInt ≤ (255 : Int)) => ?_) (fun (c20' : (255 : Int) < ch1.toInt) => ?_)
        · refine gLoadAN 27 X1 hx (H d23_26) rfl rfl rfl ?_
          refine gLoadIN 28 X1 hx (H d23_27) rfl rfl ?_
          refine gLoadI 30 X1 hx (H d23_28) rfl rfl ?_
          refine gI2b 31 X1 hx (H d23_30) rfl ?_
          refine gBastore X1 hx hZ e1 (x := (ch1.toInt8.toInt32)) V1 (j := (1 : Int32)) (by decide) (by decide) 1 (by decide) (by simp) (H d23_31) (pc' := 32) rfl (fun T2 h2 X2 e2 W2 A2 => ?_)
          have f2_0 := f1_0.other W2 hne
          have zs2 : h0.size ≤ h2.size := by rw [W2.size]; exact zs1
          have N2 := Fr.snoc X2 N1 gt
          have K2 : Keep h0 h2 [t] := K1.wr W2 (Or.inl (by simp))
          have V2 : Arv Z h2 t _ .byte (4 : Int32) [(.int (ch0.toInt8.toInt32)), (.int (ch1.toInt8.toInt32)), (.int (0 : Int32)), (.int (0 : Int32))] (.int 0) := (by have q := A2; rw [own_nb] at q; exact q)
          refine gIinc X2 hx (v := (1 : Int32)) (H d23_32) (l' := #[.val (.ref x), .val (.int (2 : Int32)), .val (.ref t), .val (.int (1 : Int32)), .val (.int (4 : Int32)), .val (.int (1 : Int32)), .val (.int ch1)]) (pc' := 35) rfl rfl rfl rfl ?_
          refine gIinc X2 hx (v := (1 : Int32)) (H d23_35) (l' := #[.val (.ref x), .val (.int (2 : Int32)), .val (.ref t), .val (.int (2 : Int32)), .val (.int (4 : Int32)), .val (.int (1 : Int32)), .val (.int ch1)]) (pc' := 38) rfl rfl rfl rfl ?_
          refine gIinc X2 hx (v := (1 : Int32)) (H d23_38) (l' := #[.val (.ref x), .val (.int (2 : Int32)), .val (.ref t), .val (.int (2 : Int32)), .val (.int (4 : Int32)), .val (.int (2 : Int32)), .val (.int ch1)]) (pc' := 41) rfl rfl rfl rfl ?_
          refine gGoto X2 hx (H d23_41) (pc' := 3) (by decide) (by decide) ?_
          refine gLoadI 5 X2 hx (H d23_3) rfl rfl ?_
          refine gLoadI 7 X2 hx (H d23_5) rfl rfl ?_
          refine gIcmpGe X2 hx (H d23_7) (pc' := 44) (by decide) (by decide) (pn := 10) rfl (fun (c7'' : (4 : Int) ≤ (2 : Int)) => ?_) (fun (c7'' : (2 : Int) < (4 : Int)) => ?_)
          · exact absurd c7'' (by decide)
          · refine gLoadAN 11 X2 hx (H d23_10) rfl rfl rfl ?_
            refine gLoadIN 12 X2 hx (H d23_11) rfl rfl ?_
            refine gCaload X2 hx hZ e2 f2_0 (j := (2 : Int32)) (v := (.int ch2)) (by decide) (by decide) rfl (H d23_12) (pc' := 13) rfl ?_
            refine gStoreI 15 X2 hx (H d23_13) (l' := #[.val (.ref x), .val (.int (2 : Int32)), .val (.ref t), .val (.int (2 : Int32)), .val (.int (4 : Int32)), .val (.int (2 : Int32)), .val (.int ch2)]) rfl rfl ?_
            refine gLoadI 17 X2 hx (H d23_15) rfl rfl ?_
            refine gSipush 20 X2 hx (v := (255 : Int32)) (H d23_17) rfl rfl ?_
            refine gIcmpLe X2 hx (H d23_20) (pc' := 26) (by decide) (by decide) (pn := 23) rfl (fun (c20'' : ch2.toInt ≤ (255 : Int)) => ?_) (fun (c20'' : (255 : Int) < ch2.toInt) => ?_)
            · refine gLoadAN 27 X2 hx (H d23_26) rfl rfl rfl ?_
              refine gLoadIN 28 X2 hx (H d23_27) rfl rfl ?_
              refine gLoadI 30 X2 hx (H d23_28) rfl rfl ?_
              refine gI2b 31 X2 hx (H d23_30) rfl ?_
              refine gBastore X2 hx hZ e2 (x := (ch2.toInt8.toInt32)) V2 (j := (2 : Int32)) (by decide) (by decide) 2 (by decide) (by simp) (H d23_31) (pc' := 32) rfl (fun T3 h3 X3 e3 W3 A3 => ?_)
              have f3_0 := f2_0.other W3 hne
              have zs3 : h0.size ≤ h3.size := by rw [W3.size]; exact zs2
              have N3 := Fr.snoc X3 N2 gt
              have K3 : Keep h0 h3 [t] := K2.wr W3 (Or.inl (by simp))
              have V3 : Arv Z h3 t _ .byte (4 : Int32) [(.int (ch0.toInt8.toInt32)), (.int (ch1.toInt8.toInt32)), (.int (ch2.toInt8.toInt32)), (.int (0 : Int32))] (.int 0) := (by have q := A3; rw [own_nb] at q; exact q)
              refine gIinc X3 hx (v := (1 : Int32)) (H d23_32) (l' := #[.val (.ref x), .val (.int (3 : Int32)), .val (.ref t), .val (.int (2 : Int32)), .val (.int (4 : Int32)), .val (.int (2 : Int32)), .val (.int ch2)]) (pc' := 35) rfl rfl rfl rfl ?_
              refine gIinc X3 hx (v := (1 : Int32)) (H d23_35) (l' := #[.val (.ref x), .val (.int (3 : Int32)), .val (.ref t), .val (.int (3 : Int32)), .val (.int (4 : Int32)), .val (.int (2 : Int32)), .val (.int ch2)]) (pc' := 38) rfl rfl rfl rfl ?_
              refine gIinc X3 hx (v := (1 : Int32)) (H d23_38) (l' := #[.val (.ref x), .val (.int (3 : Int32)), .val (.ref t), .val (.int (3 : Int32)), .val (.int (4 : Int32)), .val (.int (3 : Int32)), .val (.int ch2)]) (pc' := 41) rfl rfl rfl rfl ?_
              refine gGoto X3 hx (H d23_41) (pc' := 3) (by decide) (by decide) ?_
              refine gLoadI 5 X3 hx (H d23_3) rfl rfl ?_
              refine gLoadI 7 X3 hx (H d23_5) rfl rfl ?_
              refine gIcmpGe X3 hx (H d23_7) (pc' := 44) (by decide) (by decide) (pn := 10) rfl (fun (c7''' : (4 : Int) ≤ (3 : Int)) => ?_) (fun (c7''' : (3 : Int) < (4 : Int)) => ?_)
              · exact absurd c7''' (by decide)
              · refine gLoadAN 11 X3 hx (H d23_10) rfl rfl rfl ?_
                refine gLoadIN 12 X3 hx (H d23_11) rfl rfl ?_
                refine gCaload X3 hx hZ e3 f3_0 (j := (3 : Int32)) (v := (.int ch3)) (by decide) (by decide) rfl (H d23_12) (pc' := 13) rfl ?_
                refine gStoreI 15 X3 hx (H d23_13) (l' := #[.val (.ref x), .val (.int (3 : Int32)), .val (.ref t), .val (.int (3 : Int32)), .val (.int (4 : Int32)), .val (.int (3 : Int32)), .val (.int ch3)]) rfl rfl ?_
                refine gLoadI 17 X3 hx (H d23_15) rfl rfl ?_
                refine gSipush 20 X3 hx (v := (255 : Int32)) (H d23_17) rfl rfl ?_
                refine gIcmpLe X3 hx (H d23_20) (pc' := 26) (by decide) (by decide) (pn := 23) rfl (fun (c20''' : ch3.toInt ≤ (255 : Int)) => ?_) (fun (c20''' : (255 : Int) < ch3.toInt) => ?_)
                · refine gLoadAN 27 X3 hx (H d23_26) rfl rfl rfl ?_
                  refine gLoadIN 28 X3 hx (H d23_27) rfl rfl ?_
                  refine gLoadI 30 X3 hx (H d23_28) rfl rfl ?_
                  refine gI2b 31 X3 hx (H d23_30) rfl ?_
                  refine gBastore X3 hx hZ e3 (x := (ch3.toInt8.toInt32)) V3 (j := (3 : Int32)) (by decide) (by decide) 3 (by decide) (by simp) (H d23_31) (pc' := 32) rfl (fun T4 h4 X4 e4 W4 A4 => ?_)
                  have f4_0 := f3_0.other W4 hne
                  have zs4 : h0.size ≤ h4.size := by rw [W4.size]; exact zs3
                  have N4 := Fr.snoc X4 N3 gt
                  have K4 : Keep h0 h4 [t] := K3.wr W4 (Or.inl (by simp))
                  have V4 : Arv Z h4 t _ .byte (4 : Int32) [(.int (ch0.toInt8.toInt32)), (.int (ch1.toInt8.toInt32)), (.int (ch2.toInt8.toInt32)), (.int (ch3.toInt8.toInt32))] (.int 0) := (by have q := A4; rw [own_nb] at q; exact q)
                  refine gIinc X4 hx (v := (1 : Int32)) (H d23_32) (l' := #[.val (.ref x), .val (.int (4 : Int32)), .val (.ref t), .val (.int (3 : Int32)), .val (.int (4 : Int32)), .val (.int (3 : Int32)), .val (.int ch3)]) (pc' := 35) rfl rfl rfl rfl ?_
                  refine gIinc X4 hx (v := (1 : Int32)) (H d23_35) (l' := #[.val (.ref x), .val (.int (4 : Int32)), .val (.ref t), .val (.int (4 : Int32)), .val (.int (4 : Int32)), .val (.int (3 : Int32)), .val (.int ch3)]) (pc' := 38) rfl rfl rfl rfl ?_
                  refine gIinc X4 hx (v := (1 : Int32)) (H d23_38) (l' := #[.val (.ref x), .val (.int (4 : Int32)), .val (.ref t), .val (.int (4 : Int32)), .val (.int (4 : Int32)), .val (.int (4 : Int32)), .val (.int ch3)]) (pc' := 41) rfl rfl rfl rfl ?_
                  refine gGoto X4 hx (H d23_41) (pc' := 3) (by decide) (by decide) ?_
                  refine gLoadI 5 X4 hx (H d23_3) rfl rfl ?_
                  refine gLoadI 7 X4 hx (H d23_5) rfl rfl ?_
                  refine gIcmpGe X4 hx (H d23_7) (pc' := 44) (by decide) (by decide) (pn := 10) rfl (fun (c7'''' : (4 : Int) ≤ (4 : Int)) => ?_) (fun (c7'''' : (4 : Int) < (4 : Int)) => ?_)
                  · refine gLoadI 46 X4 hx (H d23_44) rfl rfl ?_
                    exact gRetI X4 hx hlk hret (H d23_46) (by decide) (by decide) (⟨rfl, N4, by rw [e4]; exact K4, by rw [e4]; exact V4⟩)
                  · exact absurd c7'''' (by decide)
                · exact absurd c20''' (by omega)
            · exact absurd c20'' (by omega)
        · exact absurd c20' (by omega)
    · exact absurd c20 (by omega)
theorem c_compress_4 (l : Launch) (Z : State) (a0 : Array Value) (hw : ∀ d ∈ tables_1, d.before a0 Z = true) (x : Addr) (cx : ClassId) (ch0 ch1 ch2 ch3 : Int32) (h0 : Heap) (A : Arv Z h0 x cx .char 4 [.int ch0, .int ch1, .int ch2, .int ch3] (.int 0)) (hch0 : rg ch0) (hch1 : rg ch1) (hch2 : rg ch2) (hch3 : rg ch3) :
    Ctr l Z mn25 jdk_52_method_16_code 6 (some (.array .byte)) [] ⟨1, 1, 4, 18⟩ #[(.ref x), (.int (0 : Int32)), (.int (4 : Int32))] h0 (fun v h L => ∃ (t : Addr) (ct : ClassId), v = some (.ref t) ∧ h0.size ≤ t ∧ Fr h0.size L ∧ Keep h0 h [] ∧ sA Z h t ct 4 [by8 ch0, by8 ch1, by8 ch2, by8 ch3]) := by
  refine Ctr.of (plainFor_of_name pn_6) ?_
  intro p e s m below meth c s₁ hx H hml hret hown hnm hZ hlk X0 e0
  refine Goes.cast (show entryFrame m _ _ = mkF m 0 #[.val (.ref x), .val (.int (0 : Int32)), .val (.int (4 : Int32)), .unset, .unset, .unset] [] from rfl) ?_
  refine gLoadIN 1 X0 hx (H d22_0) rfl rfl ?_
  refine gNewP X0 hx hZ (ow hw 23 rfl) e0 (n := (4 : Int32)) (H d22_1) (by decide) (cap := 4) (by decide) (by decide) (by decide) (by decide) 4 (pc' := 3) rfl (fun T1 h1 b1 ck1 X1 e1 g1 E1 A1 => ?_)
  have ne_x_b1 : x ≠ b1 := Nat.ne_of_lt (Nat.lt_of_lt_of_eq A.lt g1.symm)
  have f1_0 := A.ext E1
  have sz_b1 : h0.size ≤ b1 := Nat.le_trans (Nat.le_refl _) (Nat.le_of_eq g1.symm)
  have zs1 : h0.size ≤ h1.size := Nat.le_trans (Nat.le_refl _) E1.1
  have K1 : Keep h0 h1 [] := (Keep.refl h0 []).ext E1
  have V1 : Arv Z h1 b1 ck1 .byte (4 : Int32) [(.int (0 : Int32)), (.int (0 : Int32)), (.int (0 : Int32)), (.int (0 : Int32))] (.int (0 : Int32)) := A1
  refine gStoreAN 4 X1 hx (H d22_3) (l' := #[.val (.ref x), .val (.int (0 : Int32)), .val (.int (4 : Int32)), .val (.ref b1), .unset, .unset]) rfl rfl rfl ?_
  refine gLoadAN 5 X1 hx (H d22_4) rfl rfl rfl ?_
  refine gLoadIN 6 X1 hx (H d22_5) rfl rfl ?_
  refine gLoadAN 7 X1 hx (H d22_6) rfl rfl rfl ?_
  refine gIconst 8 X1 hx (v := (0 : Int32)) (H d22_7) rfl rfl ?_
  refine gLoadIN 9 X1 hx (H d22_8) rfl rfl ?_
  refine gCallS X1 hx hZ (y := mn26) hown e1 (by rw [hml]; rfl) (ow hw 94 rfl) (ow hw 95 rfl) (ow hw 92 rfl) (ow hw 96 rfl) (by decide) (argsL := [(.ref x), (.int (0 : Int32)), (.ref b1), (.int (0 : Int32)), (.int (4 : Int32))]) (st := []) (c_compress_4i l Z a0 hw x b1 cx ck1 h0.size ch0 ch1 ch2 ch3 h1 sz_b1 ne_x_b1 f1_0 V1 hch0 hch1 hch2 hch3) (lenOf pd_27 rfl) (H d22_9) (pc' := 12) rfl rfl (by decide) (W := 0) (Nat.le_of_eq rfl) (by decide) (by decide) (by decide) ?_
  intro T2 v2 L2 X2 hQ2
  obtain ⟨rfl, Nq2, Kq2, Aq2⟩ := hQ2
  have N2 := Fr.app (Fr.nil h0.size) Nq2
  have K2 : Keep h0 T2.heap [] := K1.trans Kq2 (allS (Or.inr sz_b1) all0)
  refine gStoreI 14 X2 hx (H d22_12) (l' := #[.val (.ref x), .val (.int (0 : Int32)), .val (.int (4 : Int32)), .val (.ref b1), .val (.int (4 : Int32)), .unset]) rfl rfl ?_
  refine gLoadI 16 X2 hx (H d22_14) rfl rfl ?_
  refine gLoadIN 17 X2 hx (H d22_16) rfl rfl ?_
  refine gIcmpEqT X2 hx (H d22_17) (pc' := 57) (by decide) (by decide) (pn := 20) rfl (fun (c17 : (4 : Int) = (4 : Int)) => ?_) (fun (c17 : ¬ (4 : Int) = (4 : Int)) => ?_)
  · refine gLoadAN 58 X2 hx (H d22_57) rfl rfl rfl ?_
    exact gRetA X2 hx hlk hret rfl rfl (H d22_58) (by decide) (by decide) (⟨b1, _, rfl, sz_b1, N2, K2, Aq2⟩)
  · exact absurd c17 (by decide)
theorem c_cfal_4 (l : Launch) (Z : State) (a0 : Array Value) (hw : ∀ d ∈ tables_1, d.before a0 Z = true) (t : Addr) (ck : ClassId) (ch0 ch1 ch2 ch3 : Int32) (h0 : Heap) (A : sA Z h0 t ck 4 [by8 ch0, by8 ch1, by8 ch2, by8 ch3]) :
    Ctr l Z mn24 jdk_52_method_15_code 2 (some .byte) [] ⟨0, 0, 0, 0⟩ #[(.ref t), (.int (4 : Int32))] h0 (Just h0 (.int 0)) := by
  refine Ctr.of (plainFor_of_name pn_6) ?_
  intro p e s m below meth c s₁ hx H hml hret hown hnm hZ hlk X0 e0
  refine Goes.cast (show entryFrame m _ _ = mkF m 0 #[.val (.ref t), .val (.int (4 : Int32))] [] from rfl) ?_
  refine gLoadIN 1 X0 hx (H d21_0) rfl rfl ?_
  refine gLoadAN 2 X0 hx (H d21_1) rfl rfl rfl ?_
  refine gArrLen X0 hx hZ e0 A (H d21_2) (pc' := 3) rfl ?_
  refine gIsub 4 X0 hx (H d21_3) rfl ?_
  show Goes p e below _ s₁ (mkF m 4 #[.val (.ref t), .val (.int (4 : Int32))] [(.int (0 : Int32))])
  refine gBipush 6 X0 hx (v := (31 : Int32)) (H d21_4) rfl rfl ?_
  refine gIushr 7 X0 hx (H d21_6) rfl ?_
  show Goes p e below _ s₁ (mkF m 7 #[.val (.ref t), .val (.int (4 : Int32))] [(.int (0 : Int32))])
  refine gI2b 8 X0 hx (H d21_7) rfl ?_
  show Goes p e below _ s₁ (mkF m 8 #[.val (.ref t), .val (.int (4 : Int32))] [(.int (0 : Int32))])
  exact gRetN X0 hx hlk hret (by simp) (H d21_8) (w := (0 : Int32)) rfl (by decide) (by decide) (⟨rfl, e0, rfl⟩)
theorem c_sinit_4v (l : Launch) (Z : State) (a0 : Array Value) (hw : ∀ d ∈ tables_1, d.before a0 Z = true) (a x : Addr) (cx : ClassId) (n0 : Nat) (ch0 ch1 ch2 ch3 : Int32) (h0 : Heap) (hCpt : Cpt Z h0) (ga : n0 ≤ a) (gz : n0 ≤ h0.size) (hax : x ≠ a) (E : sE Z h0 a) (C : sC Z h0 a) (V : Fld Z h0 a "java/lang/String" "value" "[B" .null) (A : Arv Z h0 x cx .char 4 [.int ch0, .int ch1, .int ch2, .int ch3] (.int 0)) (hch0 : rg ch0) (hch1 : rg ch1) (hch2 : rg ch2) (hch3 : rg ch3) :
    Ctr l Z mn9 jdk_42_method_149_code 6 none [] ⟨2, 1, 4, 37⟩ #[(.ref a), (.ref x), (.int (0 : Int32)), (.int (4 : Int32)), .null] h0 (fun v h L => ∃ (t : Addr) (ct : ClassId), v = none ∧ Fr n0 L ∧ Keep h0 h [a] ∧ h0.size ≤ t ∧ sE Z h a ∧ sC Z h a ∧ sV Z h a t ∧ sA Z h t ct 4 [by8 ch0, by8 ch1, by8 ch2, by8 ch3]) := by
  refine Ctr.of (plainFor_of_name pn_4) ?_
  intro p e s m below meth c s₁ hx H hml hret hown hnm hZ hlk X0 e0
  refine Goes.cast (show entryFrame m _ _ = mkF m 0 #[.val (.ref a), .val (.ref x), .val (.int (0 : Int32)), .val (.int (4 : Int32)), .val .null, .unset] [] from rfl) ?_
  have hCpt0 := hCpt
  obtain ⟨cz, SC, hcz⟩ := hCpt0
  refine gLoadAN 1 X0 hx (H d4_0) rfl rfl rfl ?_
  refine gInitO X0 hx hZ hown (ow hw 19 rfl) (ow hw 20 rfl) (ow hw 21 rfl) e0 (by rw [hml]; rfl) (H d4_1) (pc' := 4) rfl (by decide) (W := 0) (Nat.le_of_eq rfl) (by decide) (fun T1 X1 e1 => ?_)
  refine gLoadIN 5 X1 hx (H d4_4) rfl rfl ?_
  refine gIfNeT X1 hx (H d4_5) (pc' := 27) (by decide) (by decide) (pn := 8) rfl (fun (c5 : ¬ (4 : Int) = (0 : Int)) => ?_) (fun (c5 : (4 : Int) = (0 : Int)) => ?_)
  · refine gGetS X1 hx hZ hown (ow hw 49 rfl) Via.refl e1 SC (H d4_27) (pc' := 30) rfl (fun T2 X2 e2 => ?_)
    refine gIfEqT X2 hx (H d4_30) (pc' := 58) (by decide) (by decide) (pn := 33) rfl (fun (c30 : cz.toInt = (0 : Int)) => ?_) (fun (c30 : ¬ cz.toInt = (0 : Int)) => ?_)
    · exact absurd c30 hcz
    · refine gLoadAN 34 X2 hx (H d4_33) rfl rfl rfl ?_
      refine gLoadIN 35 X2 hx (H d4_34) rfl rfl ?_
      refine gLoadIN 36 X2 hx (H d4_35) rfl rfl ?_
      refine gCallS X2 hx hZ (y := mn25) hown e2 (by rw [hml]; rfl) (ow hw 90 rfl) (ow hw 91 rfl) (ow hw 92 rfl) (ow hw 93 rfl) (by decide) (argsL := [(.ref x), (.int (0 : Int32)), (.int (4 : Int32))]) (st := []) (c_compress_4 l Z a0 hw x cx ch0 ch1 ch2 ch3 h0 A hch0 hch1 hch2 hch3) (lenOf pd_25 rfl) (H d4_36) (pc' := 39) rfl rfl (by decide) (W := 0) (Nat.le_of_eq rfl) (by decide) (by decide) (by decide) ?_
      intro T3 v3 L3 X3 hQ3
      obtain ⟨t3, ct3, rfl, gt3, Nq3, Kq3, Aq3⟩ := hQ3
      have N3 := Fr.app (Fr.nil n0) (fun y hy => Nat.le_trans gz (Nq3 y hy))
      have K3 : Keep h0 T3.heap [a] := (Keep.refl h0 [a]).trans Kq3 all0
      have f3_0 := own_sta_keep SC Kq3 ns0
      have f3_1 := E.keep Kq3
      have f3_2 := C.keep Kq3 nin0
      have f3_3 := V.keep Kq3 nin0
      have nt3 : t3 ≠ a := Ne.symm (Nat.ne_of_lt (Nat.lt_of_lt_of_le E.lt gt3))
      refine gStoreA 41 X3 hx (H d4_39) (l' := #[.val (.ref a), .val (.ref x), .val (.int (0 : Int32)), .val (.int (4 : Int32)), .val .null, .val (.ref t3)]) rfl rfl rfl ?_
      refine gLoadAN 42 X3 hx (H d4_41) rfl rfl rfl ?_
      refine gLoadA 44 X3 hx (H d4_42) rfl rfl rfl ?_
      refine gLoadIN 45 X3 hx (H d4_44) rfl rfl ?_
      refine gCallSJ X3 hx hZ (y := mn24) hown rfl (by rw [hml]; rfl) (ow hw 97 rfl) (ow hw 98 rfl) (ow hw 92 rfl) (ow hw 99 rfl) (by decide) (argsL := [(.ref t3), (.int (4 : Int32))]) (st := [(.ref a)]) (c_cfal_4 l Z a0 hw t3 ct3 ch0 ch1 ch2 ch3 _ Aq3) (lenOf pd_19 rfl) (H d4_45) (pc' := 48) rfl rfl rfl rfl (by decide) (W := 1) (Nat.le_of_eq rfl) (by decide) (by decide) (by decide) ?_
      intro T4 X4 e4
      refine gPutF X4 hx hZ hown (ow hw 29 rfl) Via.refl e4 f3_2 f3_1 (Or.inr ⟨(ow hw 25 rfl), rfl, hnm⟩) (ow hw 9 rfl) (ty := .byte) (by decide) rfl rfl (H d4_48) (pc' := 51) rfl (fun T5 h5 X5 e5 W5 => ?_)
      have f5_0 := f3_0.wr W5
      have f5_1 := f3_1.wr W5
      have f5_2 := f3_2.same W5
      have f5_3 := f3_3.other W5 (Or.inr (slot_ne (Or.inr (ow hw 24 rfl)) (Or.inr (ow hw 25 rfl)) (by decide) (t := (.array .byte)) (t' := .byte) (by decide) (by decide)))
      have f5_4 := Aq3.other W5 nt3
      have zs5 : h0.size ≤ h5.size := by rw [W5.size]; exact Kq3.1
      have N5 := Fr.snoc X5 N3 ga
      have K5 : Keep h0 h5 [a] := K3.wr W5 (Or.inl (by simp))
      refine gLoadAN 52 X5 hx (H d4_51) rfl rfl rfl ?_
      refine gLoadA 54 X5 hx (H d4_52) rfl rfl rfl ?_
      refine gPutF X5 hx hZ hown (ow hw 28 rfl) Via.refl e5 f5_3 f5_1 (Or.inr ⟨(ow hw 24 rfl), rfl, hnm⟩) (ow hw 9 rfl) (ty := (.array .byte)) (by decide) rfl rfl (H d4_54) (pc' := 57) rfl (fun T6 h6 X6 e6 W6 => ?_)
      have f6_0 := f5_0.wr W6
      have f6_1 := f5_1.wr W6
      have f6_2 := f5_2.other W6 (Or.inr (slot_ne (Or.inr (ow hw 25 rfl)) (Or.inr (ow hw 24 rfl)) (by decide) (t := .byte) (t' := (.array .byte)) (by decide) (by decide)))
      have f6_3 := f5_3.same W6
      have f6_4 := f5_4.other W6 nt3
      have zs6 : h0.size ≤ h6.size := by rw [W6.size]; exact zs5
      have N6 := Fr.snoc X6 N5 ga
      have K6 : Keep h0 h6 [a] := K5.wr W6 (Or.inl (by simp))
      exact gRetV X6 hx hlk hret (H d4_57) (by decide) (by decide) (⟨t3, ct3, rfl, N6, by rw [e6]; exact K6, gt3, by rw [e6]; exact f6_1, by rw [e6]; exact f6_2, by rw [e6]; exact f6_3, by rw [e6]; exact f6_4⟩)
  · exact absurd c5 (by decide)
theorem c_sinit_4 (l : Launch) (Z : State) (a0 : Array Value) (hw : ∀ d ∈ tables_1, d.before a0 Z = true) (a x : Addr) (cx : ClassId) (n0 : Nat) (ch0 ch1 ch2 ch3 : Int32) (h0 : Heap) (hCpt : Cpt Z h0) (ga : n0 ≤ a) (gz : n0 ≤ h0.size) (hax : x ≠ a) (E : sE Z h0 a) (C : sC Z h0 a) (V : Fld Z h0 a "java/lang/String" "value" "[B" .null) (A : Arv Z h0 x cx .char 4 [.int ch0, .int ch1, .int ch2, .int ch3] (.int 0)) (hch0 : rg ch0) (hch1 : rg ch1) (hch2 : rg ch2) (hch3 : rg ch3) :
    Ctr l Z mn8 jdk_42_method_3_code 2 none [] ⟨3, 1, 4, 54⟩ #[(.ref a), (.ref x)] h0 (fun v h L => ∃ (t : Addr) (ct : ClassId), v = none ∧ Fr n0 L ∧ Keep h0 h [a] ∧ h0.size ≤ t ∧ sE Z h a ∧ sC Z h a ∧ sV Z h a t ∧ sA Z h t ct 4 [by8 ch0, by8 ch1, by8 ch2, by8 ch3]) := by
  refine Ctr.of (plainFor_of_name pn_4) ?_
  intro p e s m below meth c s₁ hx H hml hret hown hnm hZ hlk X0 e0
  refine Goes.cast (show entryFrame m _ _ = mkF m 0 #[.val (.ref a), .val (.ref x)] [] from rfl) ?_
  refine gLoadAN 1 X0 hx (H d10_0) rfl rfl rfl ?_
  refine gLoadAN 2 X0 hx (H d10_1) rfl rfl rfl ?_
  refine gIconst 3 X0 hx (v := (0 : Int32)) (H d10_2) rfl rfl ?_
  refine gLoadAN 4 X0 hx (H d10_3) rfl rfl rfl ?_
  refine gArrLen X0 hx hZ e0 A (H d10_4) (pc' := 5) rfl ?_
  refine gNull 6 X0 hx (H d10_5) rfl ?_
  refine gCallI X0 hx hZ (y := mn9) rfl hown e0 (by rw [hml]; rfl) (ow hw 15 rfl) (ow hw 16 rfl) (ow hw 10 rfl) (ow hw 18 rfl) (by decide) (argsL := [(.ref x), (.int (0 : Int32)), (.int (4 : Int32)), .null]) (st := []) (c_sinit_4v l Z a0 hw a x cx n0 ch0 ch1 ch2 ch3 h0 hCpt ga gz hax E C V A hch0 hch1 hch2 hch3) (lenOf pd_26 rfl) (H d10_6) (pc' := 9) rfl rfl (by decide) (W := 0) (Nat.le_of_eq rfl) (by decide) (by decide) (by decide) ?_
  intro T1 v1 L1 X1 hQ1
  obtain ⟨t, ct, rfl, Nq, Kq, gt, Eq, Cq, Vq, Aq⟩ := hQ1
  exact gRetV X1 hx hlk hret (H d10_9) (by decide) (by decide) (⟨t, ct, rfl, Nq, Kq, gt, Eq, Cq, Vq, Aq⟩)
theorem d28_87 : decode method_3_code 87 = .ok (.new 7, 3) := by decide +kernel
theorem d28_90 : decode method_3_code 90 = .ok (.dup, 1) := by decide +kernel
theorem d28_91 : decode method_3_code 91 = .ok (.iconst 4, 1) := by decide +kernel
theorem d28_92 : decode method_3_code 92 = .ok (.newarray .char, 2) := by decide +kernel
theorem d28_94 : decode method_3_code 94 = .ok (.dup, 1) := by decide +kernel
theorem d28_95 : decode method_3_code 95 = .ok (.iconst 0, 1) := by decide +kernel
theorem d28_96 : decode method_3_code 96 = .ok (.iload_n 1, 1) := by decide +kernel
theorem d28_97 : decode method_3_code 97 = .ok (.castore, 1) := by decide +kernel
theorem d28_98 : decode method_3_code 98 = .ok (.dup, 1) := by decide +kernel
theorem d28_99 : decode method_3_code 99 = .ok (.iconst 1, 1) := by decide +kernel
theorem d28_100 : decode method_3_code 100 = .ok (.iload_n 2, 1) := by decide +kernel
theorem d28_101 : decode method_3_code 101 = .ok (.castore, 1) := by decide +kernel
theorem d28_102 : decode method_3_code 102 = .ok (.dup, 1) := by decide +kernel
theorem d28_103 : decode method_3_code 103 = .ok (.iconst 2, 1) := by decide +kernel
theorem d28_104 : decode method_3_code 104 = .ok (.iload_n 3, 1) := by decide +kernel
theorem d28_105 : decode method_3_code 105 = .ok (.castore, 1) := by decide +kernel
theorem d28_106 : decode method_3_code 106 = .ok (.dup, 1) := by decide +kernel
theorem d28_107 : decode method_3_code 107 = .ok (.iconst 3, 1) := by decide +kernel
theorem d28_108 : decode method_3_code 108 = .ok (.iload 4, 2) := by decide +kernel
theorem d28_110 : decode method_3_code 110 = .ok (.castore, 1) := by decide +kernel
theorem d28_111 : decode method_3_code 111 = .ok (.invokespecial 9, 3) := by decide +kernel
theorem d28_114 : decode method_3_code 114 = .ok (.areturn, 1) := by decide +kernel
theorem c_mk_4 (l : Launch) (Z : State) (a0 : Array Value) (hw : ∀ d ∈ tables_1, d.before a0 Z = true) (ch0 ch1 ch2 ch3 : Int32) (h0 : Heap) (hCpt : Cpt Z h0) (hch0 : rg ch0) (hch1 : rg ch1) (hch2 : rg ch2) (hch3 : rg ch3) :
    Ctr l Z mn3 method_3_code 5 (some (.object "java/lang/String")) [] ⟨4, 3, 12, 68⟩ #[(.int (4 : Int32)), (.int ch0), (.int ch1), (.int ch2), (.int ch3)] h0 (SQd Z h0 4 [by8 ch0, by8 ch1, by8 ch2, by8 ch3]) := by
  refine Ctr.of (plainFor_of_name pn_1) ?_
  intro p e s m below meth c s₁ hx H hml hret hown hnm hZ hlk X0 e0
  refine Goes.cast (show entryFrame m _ _ = mkF m 0 #[.val (.int (4 : Int32)), .val (.int ch0), .val (.int ch1), .val (.int ch2), .val (.int ch3)] [] from rfl) ?_
  refine gLoadIN 1 X0 hx (H d28_0) rfl rfl ?_
  refine gIfNeT X0 hx (H d28_1) (pc' := 15) (by decide) (by decide) (pn := 4) rfl (fun (c1 : ¬ (4 : Int) = (0 : Int)) => ?_) (fun (c1 : (4 : Int) = (0 : Int)) => ?_)
  · refine gLoadIN 16 X0 hx (H d28_15) rfl rfl ?_
    refine gIconst 17 X0 hx (v := (1 : Int32)) (H d28_16) rfl rfl ?_
    refine gIcmpNeT X0 hx (H d28_17) (pc' := 35) (by decide) (by decide) (pn := 20) rfl (fun (c17 : ¬ (4 : Int) = (1 : Int)) => ?_) (fun (c17 : (4 : Int) = (1 : Int)) => ?_)
    · refine gLoadIN 36 X0 hx (H d28_35) rfl rfl ?_
      refine gIconst 37 X0 hx (v := (2 : Int32)) (H d28_36) rfl rfl ?_
      refine gIcmpNeT X0 hx (H d28_37) (pc' := 59) (by decide) (by decide) (pn := 40) rfl (fun (c37 : ¬ (4 : Int) = (2 : Int)) => ?_) (fun (c37 : (4 : Int) = (2 : Int)) => ?_)
      · refine gLoadIN 60 X0 hx (H d28_59) rfl rfl ?_
        refine gIconst 61 X0 hx (v := (3 : Int32)) (H d28_60) rfl rfl ?_
        refine gIcmpNeT X0 hx (H d28_61) (pc' := 87) (by decide) (by decide) (pn := 64) rfl (fun (c61 : ¬ (4 : Int) = (3 : Int)) => ?_) (fun (c61 : (4 : Int) = (3 : Int)) => ?_)
        · refine gNew X0 hx hZ hown (ow hw 8 rfl) (ow hw 9 rfl) (ow hw 10 rfl) e0 (H d28_87) (pc' := 90) rfl (by decide) (by decide) (fun T1 h1 b1 X1 e1 g1 E1 A1 D1 => ?_)
          have f1_0 := hCpt.ext E1
          have sz_b1 : h0.size ≤ b1 := Nat.le_trans (Nat.le_refl _) (Nat.le_of_eq g1.symm)
          have zs1 : h0.size ≤ h1.size := Nat.le_trans (Nat.le_refl _) E1.1
          have K1 : Keep h0 h1 [] := (Keep.refl h0 []).ext E1
          have F1_value : Fld Z h1 b1 "java/lang/String" "value" "[B" .null := D1 (Or.inr (ow hw 24 rfl)) (ty := (.array .byte)) (by decide)
          have F1_coder : Fld Z h1 b1 "java/lang/String" "coder" "B" (.int (0 : Int32)) := D1 (Or.inr (ow hw 25 rfl)) (ty := .byte) (by decide)
          refine gDup 91 X1 hx (H d28_90) rfl rfl ?_
          refine gIconst 92 X1 hx (v := (4 : Int32)) (H d28_91) rfl rfl ?_
          refine gNewP X1 hx hZ (ow hw 11 rfl) e1 (n := (4 : Int32)) (H d28_92) (by decide) (cap := 4) (by decide) (by decide) (by decide) (by decide) 4 (pc' := 94) rfl (fun T2 h2 b2 ck2 X2 e2 g2 E2 A2 => ?_)
          have ne_b1_b2 : b1 ≠ b2 := Nat.ne_of_lt (Nat.lt_of_lt_of_eq A1.lt g2.symm)
          have f2_0 := f1_0.ext E2
          have f2_1 := A1.ext E2
          have f2_2 := F1_value.ext E2
          have f2_3 := F1_coder.ext E2
          have sz_b2 : h0.size ≤ b2 := Nat.le_trans zs1 (Nat.le_of_eq g2.symm)
          have zs2 : h0.size ≤ h2.size := Nat.le_trans zs1 E2.1
          have K2 : Keep h0 h2 [] := K1.ext E2
          have V2 : Arv Z h2 b2 ck2 .char (4 : Int32) [(.int (0 : Int32)), (.int (0 : Int32)), (.int (0 : Int32)), (.int (0 : Int32))] (.int (0 : Int32)) := A2
          refine gDup 95 X2 hx (H d28_94) rfl rfl ?_
          refine gIconst 96 X2 hx (v := (0 : Int32)) (H d28_95) rfl rfl ?_
          refine gLoadIN 97 X2 hx (H d28_96) rfl rfl ?_
          refine gCastore X2 hx hZ e2 (x := ch0) V2 (j := (0 : Int32)) (by decide) (by decide) 0 (by decide) (by simp) (H d28_97) (pc' := 98) rfl (fun T3 h3 X3 e3 W3 A3 => ?_)
          have f3_0 := f2_0.wr W3
          have f3_1 := f2_1.wr W3
          have f3_2 := f2_2.other W3 (Or.inl ne_b1_b2)
          have f3_3 := f2_3.other W3 (Or.inl ne_b1_b2)
          have zs3 : h0.size ≤ h3.size := by rw [W3.size]; exact zs2
          have N3 := Fr.snoc X3 (Fr.nil h0.size) sz_b2
          have K3 : Keep h0 h3 [] := K2.wr W3 (Or.inr sz_b2)
          have V3 : Arv Z h3 b2 _ .char (4 : Int32) [(.int ch0), (.int (0 : Int32)), (.int (0 : Int32)), (.int (0 : Int32))] (.int (0 : Int32)) := (by have q := A3; rw [own_nc (own_c8 hch0)] at q; exact q)
          refine gDup 99 X3 hx (H d28_98) rfl rfl ?_
          refine gIconst 100 X3 hx (v := (1 : Int32)) (H d28_99) rfl rfl ?_
          refine gLoadIN 101 X3 hx (H d28_100) rfl rfl ?_
          refine gCastore X3 hx hZ e3 (x := ch1) V3 (j := (1 : Int32)) (by decide) (by decide) 1 (by decide) (by simp) (H d28_101) (pc' := 102) rfl (fun T4 h4 X4 e4 W4 A4 => ?_)
          have f4_0 := f3_0.wr W4
          have f4_1 := f3_1.wr W4
          have f4_2 := f3_2.other W4 (Or.inl ne_b1_b2)
          have f4_3 := f3_3.other W4 (Or.inl ne_b1_b2)
          have zs4 : h0.size ≤ h4.size := by rw [W4.size]; exact zs3
          have N4 := Fr.snoc X4 N3 sz_b2
          have K4 : Keep h0 h4 [] := K3.wr W4 (Or.inr sz_b2)
          have V4 : Arv Z h4 b2 _ .char (4 : Int32) [(.int ch0), (.int ch1), (.int (0 : Int32)), (.int (0 : Int32))] (.int (0 : Int32)) := (by have q := A4; rw [own_nc (own_c8 hch1)] at q; exact q)
          refine gDup 103 X4 hx (H d28_102) rfl rfl ?_
          refine gIconst 104 X4 hx (v := (2 : Int32)) (H d28_103) rfl rfl ?_
          refine gLoadIN 105 X4 hx (H d28_104) rfl rfl ?_
          refine gCastore X4 hx hZ e4 (x := ch2) V4 (j := (2 : Int32)) (by decide) (by decide) 2 (by decide) (by simp) (H d28_105) (pc' := 106) rfl (fun T5 h5 X5 e5 W5 A5 => ?_)
          have f5_0 := f4_0.wr W5
          have f5_1 := f4_1.wr W5
          have f5_2 := f4_2.other W5 (Or.inl ne_b1_b2)
          have f5_3 := f4_3.other W5 (Or.inl ne_b1_b2)
          have zs5 : h0.size ≤ h5.size := by rw [W5.size]; exact zs4
          have N5 := Fr.snoc X5 N4 sz_b2
          have K5 : Keep h0 h5 [] := K4.wr W5 (Or.inr sz_b2)
          have V5 : Arv Z h5 b2 _ .char (4 : Int32) [(.int ch0), (.int ch1), (.int ch2), (.int (0 : Int32))] (.int (0 : Int32)) := (by have q := A5; rw [own_nc (own_c8 hch2)] at q; exact q)
          refine gDup 107 X5 hx (H d28_106) rfl rfl ?_
          refine gIconst 108 X5 hx (v := (3 : Int32)) (H d28_107) rfl rfl ?_
          refine gLoadI 110 X5 hx (H d28_108) rfl rfl ?_
          refine gCastore X5 hx hZ e5 (x := ch3) V5 (j := (3 : Int32)) (by decide) (by decide) 3 (by decide) (by simp) (H d28_110) (pc' := 111) rfl (fun T6 h6 X6 e6 W6 A6 => ?_)
          have f6_0 := f5_0.wr W6
          have f6_1 := f5_1.wr W6
          have f6_2 := f5_2.other W6 (Or.inl ne_b1_b2)
          have f6_3 := f5_3.other W6 (Or.inl ne_b1_b2)
          have zs6 : h0.size ≤ h6.size := by rw [W6.size]; exact zs5
          have N6 := Fr.snoc X6 N5 sz_b2
          have K6 : Keep h0 h6 [] := K5.wr W6 (Or.inr sz_b2)
          have V6 : Arv Z h6 b2 _ .char (4 : Int32) [(.int ch0), (.int ch1), (.int ch2), (.int ch3)] (.int (0 : Int32)) := (by have q := A6; rw [own_nc (own_c8 hch3)] at q; exact q)
          refine gCallI X6 hx hZ (y := mn8) rfl hown e6 (by rw [hml]; rfl) (ow hw 12 rfl) (ow hw 13 rfl) (ow hw 10 rfl) (ow hw 14 rfl) (by decide) (argsL := [(.ref b2)]) (st := [(.ref b1)]) (c_sinit_4 l Z a0 hw b1 b2 _ h0.size ch0 ch1 ch2 ch3 h6 f6_0 sz_b1 zs6 (Ne.symm ne_b1_b2) f6_1 f6_3 f6_2 V6 hch0 hch1 hch2 hch3) (lenOf pd_24 rfl) (H d28_111) (pc' := 114) rfl rfl (by decide) (W := 1) (Nat.le_of_eq rfl) (by decide) (by decide) (by decide) ?_
          intro T7 v7 L7 X7 hQ7
          obtain ⟨t7, ct7, rfl, Nq7, Kq7, gt7, Eq7, Cq7, Vq7, Aq7⟩ := hQ7
          have N7 := Fr.app N6 Nq7
          have f7_0 := own_cpt_keep f6_0 Kq7 (nsS (Exa.nostat f6_1) ns0)
          have f7_1 := f6_1.keep Kq7
          have f7_4 := V6.keep Kq7 (ninS (Ne.symm ne_b1_b2) nin0)
          have zs7 := Nat.le_trans zs6 Kq7.1
          have K7 : Keep h0 T7.heap [] := K6.trans Kq7 (allS (Or.inr sz_b1) all0)
          exact gRetA X7 hx hlk hret rfl rfl (H d28_114) (by decide) (by decide) (⟨b1, t7, ct7, rfl, N7, K7, Eq7, Cq7, Vq7, Aq7⟩)
        · exact absurd c61 (by decide)
      · exact absurd c37 (by decide)
    · exact absurd c17 (by decide)
  · exact absurd c1 (by decide)
theorem d29_0 : decode method_4_code 0 = .ok (.iload_n 0, 1) := by decide +kernel
theorem d29_1 : decode method_4_code 1 = .ok (.ifCond .ne 5, 3) := by decide +kernel
theorem d29_4 : decode method_4_code 4 = .ok (.iload_n 1, 1) := by decide +kernel
theorem d29_5 : decode method_4_code 5 = .ok (.ireturn, 1) := by decide +kernel
abbrev mn4 : MethodName := ⟨"com/example/guildhall/guildhall/FqanNameOfPinLaw", "pick", "(ICCCC)C"⟩
theorem c_pick_0 (l : Launch) (Z : State) (a0 : Array Value) (hw : ∀ d ∈ tables_1, d.before a0 Z = true) (ch0 ch1 ch2 ch3 : Int32) (h0 : Heap) (hch0 : rg ch0) (hch1 : rg ch1) (hch2 : rg ch2) (hch3 : rg ch3) :
    Ctr l Z mn4 method_4_code 5 (some .char) [] ⟨0, 0, 0, 0⟩ #[(.int (0 : Int32)), (.int ch0), (.int ch1), (.int ch2), (.int ch3)] h0 (Just h0 (.int ch0)) := by
  refine Ctr.of (plainFor_of_name pn_1) ?_
  intro p e s m below meth c s₁ hx H hml hret hown hnm hZ hlk X0 e0
  refine Goes.cast (show entryFrame m _ _ = mkF m 0 #[.val (.int (0 : Int32)), .val (.int ch0), .val (.int ch1), .val (.int ch2), .val (.int ch3)] [] from rfl) ?_
  refine gLoadIN 1 X0 hx (H d29_0) rfl rfl ?_
  refine gIfNeT X0 hx (H d29_1) (pc' := 6) (by decide) (by decide) (pn := 4) rfl (fun (c1 : ¬ (0 : Int) = (0 : Int)) => ?_) (fun (c1 : (0 : Int) = (0 : Int)) => ?_)
  · exact absurd c1 (by decide)
  · refine gLoadIN 5 X0 hx (H d29_4) rfl rfl ?_
    exact gRetN X0 hx hlk hret (by simp) (H d29_5) (w := ch0) (own_nc (own_c8 hch0)) (by decide) (by decide) (⟨rfl, e0, rfl⟩)
theorem d29_6 : decode method_4_code 6 = .ok (.iload_n 0, 1) := by decide +kernel
theorem d29_7 : decode method_4_code 7 = .ok (.iconst 1, 1) := by decide +kernel
theorem d29_8 : decode method_4_code 8 = .ok (.if_icmp .ne 5, 3) := by decide +kernel
theorem d29_11 : decode method_4_code 11 = .ok (.iload_n 2, 1) := by decide +kernel
theorem d29_12 : decode method_4_code 12 = .ok (.ireturn, 1) := by decide +kernel
theorem c_pick_1 (l : Launch) (Z : State) (a0 : Array Value) (hw : ∀ d ∈ tables_1, d.before a0 Z = true) (ch0 ch1 ch2 ch3 : Int32) (h0 : Heap) (hch0 : rg ch0) (hch1 : rg ch1) (hch2 : rg ch2) (hch3 : rg ch3) :
    Ctr l Z mn4 method_4_code 5 (some .char) [] ⟨0, 0, 0, 0⟩ #[(.int (1 : Int32)), (.int ch0), (.int ch1), (.int ch2), (.int ch3)] h0 (Just h0 (.int ch1)) := by
  refine Ctr.of (plainFor_of_name pn_1) ?_
  intro p e s m below meth c s₁ hx H hml hret hown hnm hZ hlk X0 e0
  refine Goes.cast (show entryFrame m _ _ = mkF m 0 #[.val (.int (1 : Int32)), .val (.int ch0), .val (.int ch1), .val (.int ch2), .val (.int ch3)] [] from rfl) ?_
  refine gLoadIN 1 X0 hx (H d29_0) rfl rfl ?_
  refine gIfNeT X0 hx (H d29_1) (pc' := 6) (by decide) (by decide) (pn := 4) rfl (fun (c1 : ¬ (1 : Int) = (0 : Int)) => ?_) (fun (c1 : (1 : Int) = (0 : Int)) => ?_)
  · refine gLoadIN 7 X0 hx (H d29_6) rfl rfl ?_
    refine gIconst 8 X0 hx (v := (1 : Int32)) (H d29_7) rfl rfl ?_
    refine gIcmpNeT X0 hx (H d29_8) (pc' := 13) (by decide) (by decide) (pn := 11) rfl (fun (c8 : ¬ (1 : Int) = (1 : Int)) => ?_) (fun (c8 : (1 : Int) = (1 : Int)) => ?_)
    · exact absurd c8 (by decide)
    · refine gLoadIN 12 X0 hx (H d29_11) rfl rfl ?_
      exact gRetN X0 hx hlk hret (by simp) (H d29_12) (w := ch1) (own_nc (own_c8 hch1)) (by decide) (by decide) (⟨rfl, e0, rfl⟩)
  · exact absurd c1 (by decide)
theorem d29_13 : decode method_4_code 13 = .ok (.iload_n 0, 1) := by decide +kernel
theorem d29_14 : decode method_4_code 14 = .ok (.iconst 2, 1) := by decide +kernel
theorem d29_15 : decode method_4_code 15 = .ok (.if_icmp .ne 5, 3) := by decide +kernel
theorem d29_18 : decode method_4_code 18 = .ok (.iload_n 3, 1) := by decide +kernel
theorem d29_19 : decode method_4_code 19 = .ok (.ireturn, 1) := by decide +kernel
theorem c_pick_2 (l : Launch) (Z : State) (a0 : Array Value) (hw : ∀ d ∈ tables_1, d.before a0 Z = true) (ch0 ch1 ch2 ch3 : Int32) (h0 : Heap) (hch0 : rg ch0) (hch1 : rg ch1) (hch2 : rg ch2) (hch3 : rg ch3) :
    Ctr l Z mn4 method_4_code 5 (some .char) [] ⟨0, 0, 0, 0⟩ #[(.int (2 : Int32)), (.int ch0), (.int ch1), (.int ch2), (.int ch3)] h0 (Just h0 (.int ch2)) := by
  refine Ctr.of (plainFor_of_name pn_1) ?_
  intro p e s m below meth c s₁ hx H hml hret hown hnm hZ hlk X0 e0
  refine Goes.cast (show entryFrame m _ _ = mkF m 0 #[.val (.int (2 : Int32)), .val (.int ch0), .val (.int ch1), .val (.int ch2), .val (.int ch3)] [] from rfl) ?_
  refine gLoadIN 1 X0 hx (H d29_0) rfl rfl ?_
  refine gIfNeT X0 hx (H d29_1) (pc' := 6) (by decide) (by decide) (pn := 4) rfl (fun (c1 : ¬ (2 : Int) = (0 : Int)) => ?_) (fun (c1 : (2 : Int) = (0 : Int)) => ?_)
  · refine gLoadIN 7 X0 hx (H d29_6) rfl rfl ?_
    refine gIconst 8 X0 hx (v := (1 : Int32)) (H d29_7) rfl rfl ?_
    refine gIcmpNeT X0 hx (H d29_8) (pc' := 13) (by decide) (by decide) (pn := 11) rfl (fun (c8 : ¬ (2 : Int) = (1 : Int)) => ?_) (fun (c8 : (2 : Int) = (1 : Int)) => ?_)
    · refine gLoadIN 14 X0 hx (H d29_13) rfl rfl ?_
      refine gIconst 15 X0 hx (v := (2 : Int32)) (H d29_14) rfl rfl ?_
      refine gIcmpNeT X0 hx (H d29_15) (pc' := 20) (by decide) (by decide) (pn := 18) rfl (fun (c15 : ¬ (2 : Int) = (2 : Int)) => ?_) (fun (c15 : (2 : Int) = (2 : Int)) => ?_)
      · exact absurd c15 (by decide)
      · refine gLoadIN 19 X0 hx (H d29_18) rfl rfl ?_
        exact gRetN X0 hx hlk hret (by simp) (H d29_19) (w := ch2) (own_nc (own_c8 hch2)) (by decide) (by decide) (⟨rfl, e0, rfl⟩)
    · exact absurd c8 (by decide)
  · exact absurd c1 (by decide)
theorem d29_20 : decode method_4_code 20 = .ok (.iload 4, 2) := by decide +kernel
theorem d29_22 : decode method_4_code 22 = .ok (.ireturn, 1) := by decide +kernel
theorem c_pick_3 (l : Launch) (Z : State) (a0 : Array Value) (hw : ∀ d ∈ tables_1, d.before a0 Z = true) (ch0 ch1 ch2 ch3 : Int32) (h0 : Heap) (hch0 : rg ch0) (hch1 : rg ch1) (hch2 : rg ch2) (hch3 : rg ch3) :
    Ctr l Z mn4 method_4_code 5 (some .char) [] ⟨0, 0, 0, 0⟩ #[(.int (3 : Int32)), (.int ch0), (.int ch1), (.int ch2), (.int ch3)] h0 (Just h0 (.int ch3)) := by
  refine Ctr.of (plainFor_of_name pn_1) ?_
  intro p e s m below meth c s₁ hx H hml hret hown hnm hZ hlk X0 e0
  refine Goes.cast (show entryFrame m _ _ = mkF m 0 #[.val (.int (3 : Int32)), .val (.int ch0), .val (.int ch1), .val (.int ch2), .val (.int ch3)] [] from rfl) ?_
  refine gLoadIN 1 X0 hx (H d29_0) rfl rfl ?_
  refine gIfNeT X0 hx (H d29_1) (pc' := 6) (by decide) (by decide) (pn := 4) rfl (fun (c1 : ¬ (3 : Int) = (0 : Int)) => ?_) (fun (c1 : (3 : Int) = (0 : Int)) => ?_)
  · refine gLoadIN 7 X0 hx (H d29_6) rfl rfl ?_
    refine gIconst 8 X0 hx (v := (1 : Int32)) (H d29_7) rfl rfl ?_
    refine gIcmpNeT X0 hx (H d29_8) (pc' := 13) (by decide) (by decide) (pn := 11) rfl (fun (c8 : ¬ (3 : Int) = (1 : Int)) => ?_) (fun (c8 : (3 : Int) = (1 : Int)) => ?_)
    · refine gLoadIN 14 X0 hx (H d29_13) rfl rfl ?_
      refine gIconst 15 X0 hx (v := (2 : Int32)) (H d29_14) rfl rfl ?_
      refine gIcmpNeT X0 hx (H d29_15) (pc' := 20) (by decide) (by decide) (pn := 18) rfl (fun (c15 : ¬ (3 : Int) = (2 : Int)) => ?_) (fun (c15 : (3 : Int) = (2 : Int)) => ?_)
      · refine gLoadI 22 X0 hx (H d29_20) rfl rfl ?_
        exact gRetN X0 hx hlk hret (by simp) (H d29_22) (w := ch3) (own_nc (own_c8 hch3)) (by decide) (by decide) (⟨rfl, e0, rfl⟩)
      · exact absurd c15 (by decide)
    · exact absurd c8 (by decide)
  · exact absurd c1 (by decide)
def lx0  : Int32 := (-1)
theorem d20_0 : decode jdk_43_method_4_code 0 = .ok (.iload_n 0, 1) := by decide +kernel
theorem d20_1 : decode jdk_43_method_4_code 1 = .ok (.ifCond .lt 14, 3) := by decide +kernel
theorem d20_4 : decode jdk_43_method_4_code 4 = .ok (.iload_n 0, 1) := by decide +kernel
theorem d20_5 : decode jdk_43_method_4_code 5 = .ok (.sipush 255, 3) := by decide +kernel
theorem d20_8 : decode jdk_43_method_4_code 8 = .ok (.if_icmp .gt 7, 3) := by decide +kernel
theorem d20_11 : decode jdk_43_method_4_code 11 = .ok (.iconst 1, 1) := by decide +kernel
theorem d20_12 : decode jdk_43_method_4_code 12 = .ok (.goto 4, 3) := by decide +kernel
theorem d20_16 : decode jdk_43_method_4_code 16 = .ok (.ireturn, 1) := by decide +kernel
abbrev mn20 : MethodName := ⟨"java/lang/StringLatin1", "canEncode", "(I)Z"⟩
theorem pn_5 : plainName "java/lang/StringLatin1" = true := by first | (simp [plainName, overriddenIn]; done) | decide +kernel
theorem c_canI_47 (l : Launch) (Z : State) (a0 : Array Value) (hw : ∀ d ∈ tables_1, d.before a0 Z = true)  (h0 : Heap)  :
    Ctr l Z mn20 jdk_43_method_4_code 1 (some .boolean) [] ⟨0, 0, 0, 0⟩ #[(.int (47 : Int32))] h0 (Just h0 (.int 1)) := by
  refine Ctr.of (plainFor_of_name pn_5) ?_
  intro p e s m below meth c s₁ hx H hml hret hown hnm hZ hlk X0 e0
  refine Goes.cast (show entryFrame m _ _ = mkF m 0 #[.val (.int (47 : Int32))] [] from rfl) ?_
  refine gLoadIN 1 X0 hx (H d20_0) rfl rfl ?_
  refine gIfLt X0 hx (H d20_1) (pc' := 15) (by decide) (by decide) (pn := 4) rfl (fun (c1 : (47 : Int) < (0 : Int)) => ?_) (fun (c1 : (0 : Int) ≤ (47 : Int)) => ?_)
  · exact absurd c1 (by decide)
  · refine gLoadIN 5 X0 hx (H d20_4) rfl rfl ?_
    refine gSipush 8 X0 hx (v := (255 : Int32)) (H d20_5) rfl rfl ?_
    refine gIcmpGt X0 hx (H d20_8) (pc' := 15) (by decide) (by decide) (pn := 11) rfl (fun (c8 : (255 : Int) < (47 : Int)) => ?_) (fun (c8 : (47 : Int) ≤ (255 : Int)) => ?_)
    · exact absurd c8 (by decide)
    · refine gIconst 12 X0 hx (v := (1 : Int32)) (H d20_11) rfl rfl ?_
      refine gGoto X0 hx (H d20_12) (pc' := 16) (by decide) (by decide) ?_
      exact gRetN X0 hx hlk hret (by simp) (H d20_16) (w := (1 : Int32)) rfl (by decide) (by decide) (⟨rfl, e0, rfl⟩)
theorem d1_0 : decode jdk_29_method_69_code 0 = .ok (.iload_n 0, 1) := by decide +kernel
theorem d1_1 : decode jdk_29_method_69_code 1 = .ok (.iload_n 1, 1) := by decide +kernel
theorem d1_2 : decode jdk_29_method_69_code 2 = .ok (.if_icmp .gt 7, 3) := by decide +kernel
theorem d1_5 : decode jdk_29_method_69_code 5 = .ok (.iload_n 0, 1) := by decide +kernel
theorem d1_6 : decode jdk_29_method_69_code 6 = .ok (.goto 4, 3) := by decide +kernel
theorem d1_10 : decode jdk_29_method_69_code 10 = .ok (.ireturn, 1) := by decide +kernel
abbrev mn5 : MethodName := ⟨"java/lang/Math", "min", "(II)I"⟩
theorem c_min_m1_m1 (l : Launch) (Z : State) (a0 : Array Value) (hw : ∀ d ∈ tables_1, d.before a0 Z = true)  (h0 : Heap)  :
    Ctr l Z mn5 jdk_29_method_69_code 2 (some .int) [] ⟨0, 0, 0, 0⟩ #[(.int (-1 : Int32)), (.int (-1 : Int32))] h0 (Just h0 (.int (-1))) := by
  refine Ctr.of (Jvm.Free.JP.mathPlain rfl (by decide +kernel)) ?_
  intro p e s m below meth c s₁ hx H hml hret hown hnm hZ hlk X0 e0
  refine Goes.cast (show entryFrame m _ _ = mkF m 0 #[.val (.int (-1 : Int32)), .val (.int (-1 : Int32))] [] from rfl) ?_
  refine gLoadIN 1 X0 hx (H d1_0) rfl rfl ?_
  refine gLoadIN 2 X0 hx (H d1_1) rfl rfl ?_
  refine gIcmpGt X0 hx (H d1_2) (pc' := 9) (by decide) (by decide) (pn := 5) rfl (fun (c2 : (-1 : Int) < (-1 : Int)) => ?_) (fun (c2 : (-1 : Int) ≤ (-1 : Int)) => ?_)
  · exact absurd c2 (by decide)
  · refine gLoadIN 6 X0 hx (H d1_5) rfl rfl ?_
    refine gGoto X0 hx (H d1_6) (pc' := 10) (by decide) (by decide) ?_
    exact gRetI X0 hx hlk hret (H d1_10) (by decide) (by decide) (⟨rfl, e0, rfl⟩)
theorem d17_0 : decode jdk_43_method_27_code 0 = .ok (.iload_n 1, 1) := by decide +kernel
theorem d17_1 : decode jdk_43_method_27_code 1 = .ok (.invokestatic 88, 3) := by decide +kernel
theorem pd_7 : parseMethodDescriptor "(I)Z" = some ⟨[.int], some .boolean⟩ := by decide +kernel
theorem d17_4 : decode jdk_43_method_27_code 4 = .ok (.ifCond .ne 5, 3) := by decide +kernel
theorem d17_9 : decode jdk_43_method_27_code 9 = .ok (.iload_n 2, 1) := by decide +kernel
theorem d17_10 : decode jdk_43_method_27_code 10 = .ok (.aload_n 0, 1) := by decide +kernel
theorem d17_11 : decode jdk_43_method_27_code 11 = .ok (.arraylength, 1) := by decide +kernel
theorem d17_12 : decode jdk_43_method_27_code 12 = .ok (.iconst 1, 1) := by decide +kernel
theorem d17_13 : decode jdk_43_method_27_code 13 = .ok (.isub, 1) := by decide +kernel
theorem d17_14 : decode jdk_43_method_27_code 14 = .ok (.invokestatic 38, 3) := by decide +kernel
theorem pd_10 : parseMethodDescriptor "(II)I" = some ⟨[.int, .int], some .int⟩ := by decide +kernel
theorem d17_17 : decode jdk_43_method_27_code 17 = .ok (.istore_n 3, 1) := by decide +kernel
theorem d17_18 : decode jdk_43_method_27_code 18 = .ok (.iload_n 3, 1) := by decide +kernel
theorem d17_19 : decode jdk_43_method_27_code 19 = .ok (.ifCond .lt 19, 3) := by decide +kernel
theorem d17_38 : decode jdk_43_method_27_code 38 = .ok (.iconst (-1), 1) := by decide +kernel
theorem d17_39 : decode jdk_43_method_27_code 39 = .ok (.ireturn, 1) := by decide +kernel
abbrev mn22 : MethodName := ⟨"java/lang/StringLatin1", "lastIndexOf", "([BII)I"⟩
theorem c_lastIndexOf_0l (l : Launch) (Z : State) (a0 : Array Value) (hw : ∀ d ∈ tables_1, d.before a0 Z = true) (t : Addr) (ck : ClassId)  (h0 : Heap) (A : sA Z h0 t ck 0 [])  :
    Ctr l Z mn22 jdk_43_method_27_code 4 (some .int) [] ⟨1, 0, 0, 24⟩ #[(.ref t), (.int (47 : Int32)), (.int (-1 : Int32))] h0 (Just h0 (.int (lx0 ))) := by
  refine Ctr.of (plainFor_of_name pn_5) ?_
  intro p e s m below meth c s₁ hx H hml hret hown hnm hZ hlk X0 e0
  refine Goes.cast (show entryFrame m _ _ = mkF m 0 #[.val (.ref t), .val (.int (47 : Int32)), .val (.int (-1 : Int32)), .unset] [] from rfl) ?_
  refine gLoadIN 1 X0 hx (H d17_0) rfl rfl ?_
  refine gCallSJ X0 hx hZ (y := mn20) hown e0 (by rw [hml]; rfl) (ow hw 64 rfl) (ow hw 65 rfl) (ow hw 62 rfl) (ow hw 66 rfl) (by decide) (argsL := [(.int (47 : Int32))]) (st := []) (c_canI_47 l Z a0 hw h0) (lenOf pd_7 rfl) (H d17_1) (pc' := 4) rfl rfl rfl rfl (by decide) (W := 0) (Nat.le_of_eq rfl) (by decide) (by decide) (by decide) ?_
  intro T1 X1 e1
  refine gIfNeT X1 hx (H d17_4) (pc' := 9) (by decide) (by decide) (pn := 7) rfl (fun (c4 : ¬ (1 : Int) = (0 : Int)) => ?_) (fun (c4 : (1 : Int) = (0 : Int)) => ?_)
  · refine gLoadIN 10 X1 hx (H d17_9) rfl rfl ?_
    refine gLoadAN 11 X1 hx (H d17_10) rfl rfl rfl ?_
    refine gArrLen X1 hx hZ e1 A (H d17_11) (pc' := 12) rfl ?_
    refine gIconst 13 X1 hx (v := (1 : Int32)) (H d17_12) rfl rfl ?_
    refine gIsub 14 X1 hx (H d17_13) rfl ?_
    show Goes p e below _ T1 (mkF m 14 #[.val (.ref t), .val (.int (47 : Int32)), .val (.int (-1 : Int32)), .unset] [(.int (-1 : Int32)), (.int (-1 : Int32))])
    refine gCallSJ X1 hx hZ (y := mn5) hown e1 (by rw [hml]; rfl) (ow hw 67 rfl) (ow hw 68 rfl) (ow hw 69 rfl) (ow hw 70 rfl) (by decide) (argsL := [(.int (-1 : Int32)), (.int (-1 : Int32))]) (st := []) (c_min_m1_m1 l Z a0 hw h0) (lenOf pd_10 rfl) (H d17_14) (pc' := 17) rfl rfl rfl rfl (by decide) (W := 0) (Nat.le_of_eq rfl) (by decide) (by decide) (by decide) ?_
    intro T2 X2 e2
    refine gStoreIN 18 X2 hx (H d17_17) (l' := #[.val (.ref t), .val (.int (47 : Int32)), .val (.int (-1 : Int32)), .val (.int (-1 : Int32))]) rfl rfl ?_
    refine gLoadIN 19 X2 hx (H d17_18) rfl rfl ?_
    refine gIfLt X2 hx (H d17_19) (pc' := 38) (by decide) (by decide) (pn := 22) rfl (fun (c19 : (-1 : Int) < (0 : Int)) => ?_) (fun (c19 : (0 : Int) ≤ (-1 : Int)) => ?_)
    · refine gIconst 39 X2 hx (v := (-1 : Int32)) (H d17_38) rfl rfl ?_
      exact gRetI X2 hx hlk hret (H d17_39) (by decide) (by decide) (⟨by rw [lx0], e2, rfl⟩)
    · exact absurd c19 (by decide)
  · exact absurd c4 (by decide)
theorem d7_0 : decode jdk_42_method_154_code 0 = .ok (.getstatic 38, 3) := by decide +kernel
theorem d7_3 : decode jdk_42_method_154_code 3 = .ok (.ifCond .eq 14, 3) := by decide +kernel
theorem d7_6 : decode jdk_42_method_154_code 6 = .ok (.aload_n 0, 1) := by decide +kernel
theorem d7_7 : decode jdk_42_method_154_code 7 = .ok (.getfield 15, 3) := by decide +kernel
theorem d7_10 : decode jdk_42_method_154_code 10 = .ok (.ifCond .ne 7, 3) := by decide +kernel
theorem d7_13 : decode jdk_42_method_154_code 13 = .ok (.iconst 1, 1) := by decide +kernel
theorem d7_14 : decode jdk_42_method_154_code 14 = .ok (.goto 4, 3) := by decide +kernel
theorem d7_18 : decode jdk_42_method_154_code 18 = .ok (.ireturn, 1) := by decide +kernel
abbrev mn14 : MethodName := ⟨"java/lang/String", "isLatin1", "()Z"⟩
theorem c_isLatin1 (l : Launch) (Z : State) (a0 : Array Value) (hw : ∀ d ∈ tables_1, d.before a0 Z = true) (a : Addr) (h0 : Heap) (hCpt : Cpt Z h0) (C : sC Z h0 a) :
    Ctr l Z mn14 jdk_42_method_154_code 1 (some .boolean) [] ⟨0, 0, 0, 0⟩ #[(.ref a)] h0 (Just h0 (.int 1)) := by
  refine Ctr.of (plainFor_of_name pn_4) ?_
  intro p e s m below meth c s₁ hx H hml hret hown hnm hZ hlk X0 e0
  refine Goes.cast (show entryFrame m _ _ = mkF m 0 #[.val (.ref a)] [] from rfl) ?_
  obtain ⟨cz, SC, hcz⟩ := hCpt
  refine gGetS X0 hx hZ hown (ow hw 49 rfl) Via.refl e0 SC (H d7_0) (pc' := 3) rfl (fun T1 X1 e1 => ?_)
  refine gIfEqT X1 hx (H d7_3) (pc' := 17) (by decide) (by decide) (pn := 6) rfl (fun (c3 : cz.toInt = (0 : Int)) => ?_) (fun (c3 : ¬ cz.toInt = (0 : Int)) => ?_)
  · exact absurd c3 hcz
  · refine gLoadAN 7 X1 hx (H d7_6) rfl rfl rfl ?_
    refine gGetF X1 hx hZ hown (ow hw 29 rfl) Via.refl e1 C (H d7_7) (pc' := 10) rfl (fun T2 X2 e2 => ?_)
    refine gIfNeT X2 hx (H d7_10) (pc' := 17) (by decide) (by decide) (pn := 13) rfl (fun (c10 : ¬ (0 : Int) = (0 : Int)) => ?_) (fun (c10 : (0 : Int) = (0 : Int)) => ?_)
    · exact absurd c10 (by decide)
    · refine gIconst 14 X2 hx (v := (1 : Int32)) (H d7_13) rfl rfl ?_
      refine gGoto X2 hx (H d7_14) (pc' := 18) (by decide) (by decide) ?_
      exact gRetN X2 hx hlk hret (by simp) (H d7_18) (w := (1 : Int32)) rfl (by decide) (by decide) (⟨rfl, e2, rfl⟩)
theorem d6_0 : decode jdk_42_method_152_code 0 = .ok (.getstatic 38, 3) := by decide +kernel
theorem d6_3 : decode jdk_42_method_152_code 3 = .ok (.ifCond .eq 10, 3) := by decide +kernel
theorem d6_6 : decode jdk_42_method_152_code 6 = .ok (.aload_n 0, 1) := by decide +kernel
theorem d6_7 : decode jdk_42_method_152_code 7 = .ok (.getfield 15, 3) := by decide +kernel
theorem d6_10 : decode jdk_42_method_152_code 10 = .ok (.goto 4, 3) := by decide +kernel
theorem d6_14 : decode jdk_42_method_152_code 14 = .ok (.ireturn, 1) := by decide +kernel
abbrev mn13 : MethodName := ⟨"java/lang/String", "coder", "()B"⟩
theorem c_coder (l : Launch) (Z : State) (a0 : Array Value) (hw : ∀ d ∈ tables_1, d.before a0 Z = true) (a : Addr) (h0 : Heap) (hCpt : Cpt Z h0) (C : sC Z h0 a) :
    Ctr l Z mn13 jdk_42_method_152_code 1 (some .byte) [] ⟨0, 0, 0, 0⟩ #[(.ref a)] h0 (Just h0 (.int 0)) := by
  refine Ctr.of (plainFor_of_name pn_4) ?_
  intro p e s m below meth c s₁ hx H hml hret hown hnm hZ hlk X0 e0
  refine Goes.cast (show entryFrame m _ _ = mkF m 0 #[.val (.ref a)] [] from rfl) ?_
  obtain ⟨cz, SC, hcz⟩ := hCpt
  refine gGetS X0 hx hZ hown (ow hw 49 rfl) Via.refl e0 SC (H d6_0) (pc' := 3) rfl (fun T1 X1 e1 => ?_)
  refine gIfEqT X1 hx (H d6_3) (pc' := 13) (by decide) (by decide) (pn := 6) rfl (fun (c3 : cz.toInt = (0 : Int)) => ?_) (fun (c3 : ¬ cz.toInt = (0 : Int)) => ?_)
  · exact absurd c3 hcz
  · refine gLoadAN 7 X1 hx (H d6_6) rfl rfl rfl ?_
    refine gGetF X1 hx hZ hown (ow hw 29 rfl) Via.refl e1 C (H d6_7) (pc' := 10) rfl (fun T2 X2 e2 => ?_)
    refine gGoto X2 hx (H d6_10) (pc' := 14) (by decide) (by decide) ?_
    exact gRetN X2 hx hlk hret (by simp) (H d6_14) (w := (0 : Int32)) rfl (by decide) (by decide) (⟨rfl, e2, rfl⟩)
theorem d11_0 : decode jdk_42_method_54_code 0 = .ok (.aload_n 0, 1) := by decide +kernel
theorem d11_1 : decode jdk_42_method_54_code 1 = .ok (.getfield 9, 3) := by decide +kernel
theorem d11_4 : decode jdk_42_method_54_code 4 = .ok (.arraylength, 1) := by decide +kernel
theorem d11_5 : decode jdk_42_method_54_code 5 = .ok (.aload_n 0, 1) := by decide +kernel
theorem d11_6 : decode jdk_42_method_54_code 6 = .ok (.invokevirtual 335, 3) := by decide +kernel
theorem pd_0 : parseMethodDescriptor "()B" = some ⟨[], some .byte⟩ := by decide +kernel
theorem d11_9 : decode jdk_42_method_54_code 9 = .ok (.ishr, 1) := by decide +kernel
theorem d11_10 : decode jdk_42_method_54_code 10 = .ok (.ireturn, 1) := by decide +kernel
abbrev mn17 : MethodName := ⟨"java/lang/String", "length", "()I"⟩
theorem c_length_0 (l : Launch) (Z : State) (a0 : Array Value) (hw : ∀ d ∈ tables_1, d.before a0 Z = true) (a t : Addr) (ck : ClassId)  (h0 : Heap) (hCpt : Cpt Z h0) (E : sE Z h0 a) (C : sC Z h0 a) (V : sV Z h0 a t) (A : sA Z h0 t ck 0 [])  :
    Ctr l Z mn17 jdk_42_method_54_code 1 (some .int) [] ⟨1, 0, 0, 13⟩ #[(.ref a)] h0 (Just h0 (.int 0)) := by
  refine Ctr.of (plainFor_of_name pn_4) ?_
  intro p e s m below meth c s₁ hx H hml hret hown hnm hZ hlk X0 e0
  refine Goes.cast (show entryFrame m _ _ = mkF m 0 #[.val (.ref a)] [] from rfl) ?_
  refine gLoadAN 1 X0 hx (H d11_0) rfl rfl rfl ?_
  refine gGetF X0 hx hZ hown (ow hw 28 rfl) Via.refl e0 V (H d11_1) (pc' := 4) rfl (fun T1 X1 e1 => ?_)
  refine gArrLen X1 hx hZ e1 A (H d11_4) (pc' := 5) rfl ?_
  refine gLoadAN 6 X1 hx (H d11_5) rfl rfl rfl ?_
  refine gCallVJ X1 hx hZ (y := mn13) hown e1 (by rw [hml]; rfl) E (ow hw 44 rfl) (ow hw 45 rfl) (ow hw 47 rfl) (ow hw 46 rfl) (ow hw 10 rfl) (ow hw 48 rfl) (by decide) (argsL := []) (st := [(.int (0 : Int32))]) (c_coder l Z a0 hw a h0 hCpt C) (lenOf pd_0 rfl) (H d11_6) (pc' := 9) rfl rfl rfl rfl (by decide) (W := 1) (Nat.le_of_eq rfl) (by decide) (by decide) (by decide) ?_
  intro T2 X2 e2
  refine gIshr 10 X2 hx (H d11_9) rfl ?_
  show Goes p e below _ T2 (mkF m 10 #[.val (.ref a)] [(.int (0 : Int32))])
  exact gRetI X2 hx hlk hret (H d11_10) (by decide) (by decide) (⟨rfl, e2, rfl⟩)
theorem d14_0 : decode jdk_42_method_83_code 0 = .ok (.aload_n 0, 1) := by decide +kernel
theorem d14_1 : decode jdk_42_method_83_code 1 = .ok (.invokevirtual 492, 3) := by decide +kernel
theorem pd_3 : parseMethodDescriptor "()Z" = some ⟨[], some .boolean⟩ := by decide +kernel
theorem d14_4 : decode jdk_42_method_83_code 4 = .ok (.ifCond .eq 15, 3) := by decide +kernel
theorem d14_7 : decode jdk_42_method_83_code 7 = .ok (.aload_n 0, 1) := by decide +kernel
theorem d14_8 : decode jdk_42_method_83_code 8 = .ok (.getfield 9, 3) := by decide +kernel
theorem d14_11 : decode jdk_42_method_83_code 11 = .ok (.iload_n 1, 1) := by decide +kernel
theorem d14_12 : decode jdk_42_method_83_code 12 = .ok (.iload_n 2, 1) := by decide +kernel
theorem d14_13 : decode jdk_42_method_83_code 13 = .ok (.invokestatic 644, 3) := by decide +kernel
theorem pd_21 : parseMethodDescriptor "([BII)I" = some ⟨[(.array .byte), .int, .int], some .int⟩ := by decide +kernel
theorem d14_16 : decode jdk_42_method_83_code 16 = .ok (.goto 12, 3) := by decide +kernel
theorem d14_28 : decode jdk_42_method_83_code 28 = .ok (.ireturn, 1) := by decide +kernel
abbrev mn16 : MethodName := ⟨"java/lang/String", "lastIndexOf", "(II)I"⟩
theorem c_lastIndexOf_02 (l : Launch) (Z : State) (a0 : Array Value) (hw : ∀ d ∈ tables_1, d.before a0 Z = true) (a t : Addr) (ck : ClassId)  (h0 : Heap) (hCpt : Cpt Z h0) (E : sE Z h0 a) (C : sC Z h0 a) (V : sV Z h0 a t) (A : sA Z h0 t ck 0 [])  :
    Ctr l Z mn16 jdk_42_method_83_code 3 (some .int) [] ⟨2, 0, 0, 42⟩ #[(.ref a), (.int (47 : Int32)), (.int (-1 : Int32))] h0 (Just h0 (.int (lx0 ))) := by
  refine Ctr.of (plainFor_of_name pn_4) ?_
  intro p e s m below meth c s₁ hx H hml hret hown hnm hZ hlk X0 e0
  refine Goes.cast (show entryFrame m _ _ = mkF m 0 #[.val (.ref a), .val (.int (47 : Int32)), .val (.int (-1 : Int32))] [] from rfl) ?_
  refine gLoadAN 1 X0 hx (H d14_0) rfl rfl rfl ?_
  refine gCallVJ X0 hx hZ (y := mn14) hown e0 (by rw [hml]; rfl) E (ow hw 55 rfl) (ow hw 56 rfl) (ow hw 58 rfl) (ow hw 57 rfl) (ow hw 10 rfl) (ow hw 59 rfl) (by decide) (argsL := []) (st := []) (c_isLatin1 l Z a0 hw a h0 hCpt C) (lenOf pd_3 rfl) (H d14_1) (pc' := 4) rfl rfl rfl rfl (by decide) (W := 0) (Nat.le_of_eq rfl) (by decide) (by decide) (by decide) ?_
  intro T1 X1 e1
  refine gIfEqT X1 hx (H d14_4) (pc' := 19) (by decide) (by decide) (pn := 7) rfl (fun (c4 : (1 : Int) = (0 : Int)) => ?_) (fun (c4 : ¬ (1 : Int) = (0 : Int)) => ?_)
  · exact absurd c4 (by decide)
  · refine gLoadAN 8 X1 hx (H d14_7) rfl rfl rfl ?_
    refine gGetF X1 hx hZ hown (ow hw 28 rfl) Via.refl e1 V (H d14_8) (pc' := 11) rfl (fun T2 X2 e2 => ?_)
    refine gLoadIN 12 X2 hx (H d14_11) rfl rfl ?_
    refine gLoadIN 13 X2 hx (H d14_12) rfl rfl ?_
    refine gCallSJ X2 hx hZ (y := mn22) hown e2 (by rw [hml]; rfl) (ow hw 60 rfl) (ow hw 61 rfl) (ow hw 62 rfl) (ow hw 63 rfl) (by decide) (argsL := [(.ref t), (.int (47 : Int32)), (.int (-1 : Int32))]) (st := []) (c_lastIndexOf_0l l Z a0 hw t ck  h0 A ) (lenOf pd_21 rfl) (H d14_13) (pc' := 16) rfl rfl rfl rfl (by decide) (W := 0) (Nat.le_of_eq rfl) (by decide) (by decide) (by decide) ?_
    intro T3 X3 e3
    refine gGoto X3 hx (H d14_16) (pc' := 28) (by decide) (by decide) ?_
    exact gRetI X3 hx hlk hret (H d14_28) (by decide) (by decide) (⟨rfl, e3, rfl⟩)
theorem d13_0 : decode jdk_42_method_82_code 0 = .ok (.aload_n 0, 1) := by decide +kernel
theorem d13_1 : decode jdk_42_method_82_code 1 = .ok (.iload_n 1, 1) := by decide +kernel
theorem d13_2 : decode jdk_42_method_82_code 2 = .ok (.aload_n 0, 1) := by decide +kernel
theorem d13_3 : decode jdk_42_method_82_code 3 = .ok (.invokevirtual 505, 3) := by decide +kernel
theorem pd_1 : parseMethodDescriptor "()I" = some ⟨[], some .int⟩ := by decide +kernel
theorem d13_6 : decode jdk_42_method_82_code 6 = .ok (.iconst 1, 1) := by decide +kernel
theorem d13_7 : decode jdk_42_method_82_code 7 = .ok (.isub, 1) := by decide +kernel
theorem d13_8 : decode jdk_42_method_82_code 8 = .ok (.invokevirtual 641, 3) := by decide +kernel
theorem d13_11 : decode jdk_42_method_82_code 11 = .ok (.ireturn, 1) := by decide +kernel
abbrev mn15 : MethodName := ⟨"java/lang/String", "lastIndexOf", "(I)I"⟩
theorem c_lastIndexOf_0 (l : Launch) (Z : State) (a0 : Array Value) (hw : ∀ d ∈ tables_1, d.before a0 Z = true) (a t : Addr) (ck : ClassId)  (h0 : Heap) (hCpt : Cpt Z h0) (E : sE Z h0 a) (C : sC Z h0 a) (V : sV Z h0 a t) (A : sA Z h0 t ck 0 [])  :
    Ctr l Z mn15 jdk_42_method_82_code 2 (some .int) [] ⟨3, 0, 0, 58⟩ #[(.ref a), (.int (47 : Int32))] h0 (Just h0 (.int (lx0 ))) := by
  refine Ctr.of (plainFor_of_name pn_4) ?_
  intro p e s m below meth c s₁ hx H hml hret hown hnm hZ hlk X0 e0
  refine Goes.cast (show entryFrame m _ _ = mkF m 0 #[.val (.ref a), .val (.int (47 : Int32))] [] from rfl) ?_
  refine gLoadAN 1 X0 hx (H d13_0) rfl rfl rfl ?_
  refine gLoadIN 2 X0 hx (H d13_1) rfl rfl ?_
  refine gLoadAN 3 X0 hx (H d13_2) rfl rfl rfl ?_
  refine gCallVJ X0 hx hZ (y := mn17) hown e0 (by rw [hml]; rfl) E (ow hw 39 rfl) (ow hw 40 rfl) (ow hw 42 rfl) (ow hw 41 rfl) (ow hw 10 rfl) (ow hw 43 rfl) (by decide) (argsL := []) (st := [(.int (47 : Int32)), (.ref a)]) (c_length_0 l Z a0 hw a t ck  h0 hCpt E C V A ) (lenOf pd_1 rfl) (H d13_3) (pc' := 6) rfl rfl rfl rfl (by decide) (W := 2) (Nat.le_of_eq rfl) (by decide) (by decide) (by decide) ?_
  intro T1 X1 e1
  refine gIconst 7 X1 hx (v := (1 : Int32)) (H d13_6) rfl rfl ?_
  refine gIsub 8 X1 hx (H d13_7) rfl ?_
  show Goes p e below _ T1 (mkF m 8 #[.val (.ref a), .val (.int (47 : Int32))] [(.int (-1 : Int32)), (.int (47 : Int32)), (.ref a)])
  refine gCallVJ X1 hx hZ (y := mn16) hown e1 (by rw [hml]; rfl) E (ow hw 50 rfl) (ow hw 51 rfl) (ow hw 53 rfl) (ow hw 52 rfl) (ow hw 10 rfl) (ow hw 54 rfl) (by decide) (argsL := [(.int (47 : Int32)), (.int (-1 : Int32))]) (st := []) (c_lastIndexOf_02 l Z a0 hw a t ck  h0 hCpt E C V A ) (lenOf pd_10 rfl) (H d13_8) (pc' := 11) rfl rfl rfl rfl (by decide) (W := 0) (Nat.le_of_eq rfl) (by decide) (by decide) (by decide) ?_
  intro T2 X2 e2
  exact gRetI X2 hx hlk hret (H d13_11) (by decide) (by decide) (⟨rfl, e2, rfl⟩)
theorem d3_0 : decode jdk_41_method_12_code 0 = .ok (.iload_n 0, 1) := by decide +kernel
theorem d3_1 : decode jdk_41_method_12_code 1 = .ok (.ifCond .lt 13, 3) := by decide +kernel
theorem d3_4 : decode jdk_41_method_12_code 4 = .ok (.iload_n 0, 1) := by decide +kernel
theorem d3_5 : decode jdk_41_method_12_code 5 = .ok (.iload_n 1, 1) := by decide +kernel
theorem d3_6 : decode jdk_41_method_12_code 6 = .ok (.if_icmp .gt 8, 3) := by decide +kernel
theorem d3_9 : decode jdk_41_method_12_code 9 = .ok (.iload_n 1, 1) := by decide +kernel
theorem d3_10 : decode jdk_41_method_12_code 10 = .ok (.iload_n 2, 1) := by decide +kernel
theorem d3_11 : decode jdk_41_method_12_code 11 = .ok (.if_icmp .le 11, 3) := by decide +kernel
theorem d3_22 : decode jdk_41_method_12_code 22 = .ok (.iload_n 0, 1) := by decide +kernel
theorem d3_23 : decode jdk_41_method_12_code 23 = .ok (.ireturn, 1) := by decide +kernel
abbrev mn31 : MethodName := ⟨"jdk/internal/util/Preconditions", "checkFromToIndex", "(IIILjava/util/function/BiFunction;)I"⟩
theorem pn_8 : plainName "jdk/internal/util/Preconditions" = true := by first | (simp [plainName, overriddenIn]; done) | decide +kernel
theorem ef_c_chkftp (m : MethodId) (p0 : Int32) (p1 : Int32) (p2 : Int32) (sf : Value) (hsf : sf.isRef = true) : entryFrame m #[(.int p0), (.int p1), (.int p2), sf] 4 = mkF m 0 #[.val (.int p0), .val (.int p1), .val (.int p2), .val sf] [] := by rcases ref_cases hsf with rfl | ⟨_, rfl⟩ <;> (first | (simp [entryFrame, mkF, argsToLocals, Value.category]; done) | rfl)
theorem c_chkftp (l : Launch) (Z : State) (a0 : Array Value) (hw : ∀ d ∈ tables_1, d.before a0 Z = true) (p0 p1 p2 : Int32) (sf : Value) (hsf : sf.isRef = true) (h0 : Heap) (h1 : 0 ≤ p0.toInt) (h2 : p0.toInt ≤ p1.toInt) (h3 : p1.toInt ≤ p2.toInt) :
    Ctr l Z mn31 jdk_41_method_12_code 4 (some .int) [] ⟨0, 0, 0, 0⟩ #[(.int p0), (.int p1), (.int p2), sf] h0 (Just h0 (.int p0)) := by
  refine Ctr.of (plainFor_of_name pn_8) ?_
  intro p e s m below meth c s₁ hx H hml hret hown hnm hZ hlk X0 e0
  refine Goes.cast (ef_c_chkftp m p0 p1 p2 sf hsf) ?_
  refine gLoadIN 1 X0 hx (H d3_0) rfl rfl ?_
  refine gIfLt X0 hx (H d3_1) (pc' := 14) (by decide) (by decide) (pn := 4) rfl (fun (c1 : p0.toInt < (0 : Int)) => ?_) (fun (c1 : (0 : Int) ≤ p0.toInt) => ?_)
  · exact absurd c1 (by omega)
  · refine gLoadIN 5 X0 hx (H d3_4) rfl rfl ?_
    refine gLoadIN 6 X0 hx (H d3_5) rfl rfl ?_
    refine gIcmpGt X0 hx (H d3_6) (pc' := 14) (by decide) (by decide) (pn := 9) rfl (fun (c6 : p1.toInt < p0.toInt) => ?_) (fun (c6 : p0.toInt ≤ p1.toInt) => ?_)
    · exact absurd c6 (by omega)
    · refine gLoadIN 10 X0 hx (H d3_9) rfl rfl ?_
      refine gLoadIN 11 X0 hx (H d3_10) rfl rfl ?_
      refine gIcmpLe X0 hx (H d3_11) (pc' := 22) (by decide) (by decide) (pn := 14) rfl (fun (c11 : p1.toInt ≤ p2.toInt) => ?_) (fun (c11 : p2.toInt < p1.toInt) => ?_)
      · refine gLoadIN 23 X0 hx (H d3_22) rfl rfl ?_
        exact gRetI X0 hx hlk hret (H d3_23) (by decide) (by decide) (⟨rfl, e0, rfl⟩)
      · exact absurd c11 (by omega)
theorem d9_0 : decode jdk_42_method_158_code 0 = .ok (.iload_n 0, 1) := by decide +kernel
theorem d9_1 : decode jdk_42_method_158_code 1 = .ok (.iload_n 1, 1) := by decide +kernel
theorem d9_2 : decode jdk_42_method_158_code 2 = .ok (.iload_n 2, 1) := by decide +kernel
theorem d9_3 : decode jdk_42_method_158_code 3 = .ok (.getstatic 1053, 3) := by decide +kernel
theorem d9_6 : decode jdk_42_method_158_code 6 = .ok (.invokestatic 1062, 3) := by decide +kernel
theorem pd_14 : parseMethodDescriptor "(IIILjava/util/function/BiFunction;)I" = some ⟨[.int, .int, .int, (.object "java/util/function/BiFunction")], some .int⟩ := by decide +kernel
theorem d9_9 : decode jdk_42_method_158_code 9 = .ok (.pop, 1) := by decide +kernel
theorem d9_10 : decode jdk_42_method_158_code 10 = .ok (.return_, 1) := by decide +kernel
abbrev mn11 : MethodName := ⟨"java/lang/String", "checkBoundsBeginEnd", "(III)V"⟩
theorem c_chkft (l : Launch) (Z : State) (a0 : Array Value) (hw : ∀ d ∈ tables_1, d.before a0 Z = true) (p0 p1 p2 : Int32) (h0 : Heap) (h1 : 0 ≤ p0.toInt) (h2 : p0.toInt ≤ p1.toInt) (h3 : p1.toInt ≤ p2.toInt) (hSio : Sio Z h0) :
    Ctr l Z mn11 jdk_42_method_158_code 3 none [] ⟨1, 0, 0, 15⟩ #[(.int p0), (.int p1), (.int p2)] h0 (fun v h L => v = none ∧ h = h0 ∧ L = []) := by
  refine Ctr.of (plainFor_of_name pn_4) ?_
  intro p e s m below meth c s₁ hx H hml hret hown hnm hZ hlk X0 e0
  refine Goes.cast (show entryFrame m _ _ = mkF m 0 #[.val (.int p0), .val (.int p1), .val (.int p2)] [] from rfl) ?_
  obtain ⟨sf, SF, hsf⟩ := hSio
  refine gLoadIN 1 X0 hx (H d9_0) rfl rfl ?_
  refine gLoadIN 2 X0 hx (H d9_1) rfl rfl ?_
  refine gLoadIN 3 X0 hx (H d9_2) rfl rfl ?_
  refine gGetS X0 hx hZ hown (ow hw 84 rfl) Via.refl e0 SF (H d9_3) (pc' := 6) rfl (fun T1 X1 e1 => ?_)
  refine gCallSJ X1 hx hZ (y := mn31) hown e1 (by rw [hml]; rfl) (ow hw 86 rfl) (ow hw 87 rfl) (ow hw 85 rfl) (ow hw 88 rfl) (by decide) (argsL := [(.int p0), (.int p1), (.int p2), sf]) (st := []) (c_chkftp l Z a0 hw p0 p1 p2 sf hsf h0 h1 h2 h3) (lenOf pd_14 rfl) (H d9_6) (pc' := 9) rfl rfl rfl rfl (by decide) (W := 0) (Nat.le_of_eq rfl) (by decide) (by decide) (by decide) ?_
  intro T2 X2 e2
  refine gPop 10 X2 hx (H d9_9) rfl rfl ?_
  exact gRetV X2 hx hlk hret (H d9_10) (by decide) (by decide) (⟨rfl, e2, rfl⟩)
theorem d16_0 : decode jdk_42_method_92_code 0 = .ok (.aload_n 0, 1) := by decide +kernel
theorem d16_1 : decode jdk_42_method_92_code 1 = .ok (.invokevirtual 505, 3) := by decide +kernel
theorem d16_4 : decode jdk_42_method_92_code 4 = .ok (.istore_n 3, 1) := by decide +kernel
theorem d16_5 : decode jdk_42_method_92_code 5 = .ok (.iload_n 1, 1) := by decide +kernel
theorem d16_6 : decode jdk_42_method_92_code 6 = .ok (.iload_n 2, 1) := by decide +kernel
theorem d16_7 : decode jdk_42_method_92_code 7 = .ok (.iload_n 3, 1) := by decide +kernel
theorem d16_8 : decode jdk_42_method_92_code 8 = .ok (.invokestatic 521, 3) := by decide +kernel
theorem pd_13 : parseMethodDescriptor "(III)V" = some ⟨[.int, .int, .int], none⟩ := by decide +kernel
theorem d16_11 : decode jdk_42_method_92_code 11 = .ok (.iload_n 1, 1) := by decide +kernel
theorem d16_12 : decode jdk_42_method_92_code 12 = .ok (.ifCond .ne 10, 3) := by decide +kernel
theorem d16_15 : decode jdk_42_method_92_code 15 = .ok (.iload_n 2, 1) := by decide +kernel
theorem d16_16 : decode jdk_42_method_92_code 16 = .ok (.iload_n 3, 1) := by decide +kernel
theorem d16_17 : decode jdk_42_method_92_code 17 = .ok (.if_icmp .ne 5, 3) := by decide +kernel
theorem d16_20 : decode jdk_42_method_92_code 20 = .ok (.aload_n 0, 1) := by decide +kernel
theorem d16_21 : decode jdk_42_method_92_code 21 = .ok (.areturn, 1) := by decide +kernel
abbrev mn19 : MethodName := ⟨"java/lang/String", "substring", "(II)Ljava/lang/String;"⟩
theorem c_sub_0_0_0 (l : Launch) (Z : State) (a0 : Array Value) (hw : ∀ d ∈ tables_1, d.before a0 Z = true) (a t : Addr) (ck : ClassId)  (h0 : Heap) (hSio : Sio Z h0) (hCpt : Cpt Z h0) (E : sE Z h0 a) (C : sC Z h0 a) (V : sV Z h0 a t) (A : sA Z h0 t ck 0 [])  :
    Ctr l Z mn19 jdk_42_method_92_code 5 (some (.object "java/lang/String")) [] ⟨2, 0, 0, 30⟩ #[(.ref a), (.int (0 : Int32)), (.int (0 : Int32))] h0 (Just h0 (.ref a)) := by
  refine Ctr.of (plainFor_of_name pn_4) ?_
  intro p e s m below meth c s₁ hx H hml hret hown hnm hZ hlk X0 e0
  refine Goes.cast (show entryFrame m _ _ = mkF m 0 #[.val (.ref a), .val (.int (0 : Int32)), .val (.int (0 : Int32)), .unset, .unset] [] from rfl) ?_
  refine gLoadAN 1 X0 hx (H d16_0) rfl rfl rfl ?_
  refine gCallVJ X0 hx hZ (y := mn17) hown e0 (by rw [hml]; rfl) E (ow hw 39 rfl) (ow hw 40 rfl) (ow hw 42 rfl) (ow hw 41 rfl) (ow hw 10 rfl) (ow hw 43 rfl) (by decide) (argsL := []) (st := []) (c_length_0 l Z a0 hw a t ck  h0 hCpt E C V A ) (lenOf pd_1 rfl) (H d16_1) (pc' := 4) rfl rfl rfl rfl (by decide) (W := 0) (Nat.le_of_eq rfl) (by decide) (by decide) (by decide) ?_
  intro T1 X1 e1
  refine gStoreIN 5 X1 hx (H d16_4) (l' := #[.val (.ref a), .val (.int (0 : Int32)), .val (.int (0 : Int32)), .val (.int (0 : Int32)), .unset]) rfl rfl ?_
  refine gLoadIN 6 X1 hx (H d16_5) rfl rfl ?_
  refine gLoadIN 7 X1 hx (H d16_6) rfl rfl ?_
  refine gLoadIN 8 X1 hx (H d16_7) rfl rfl ?_
  refine gCallS X1 hx hZ (y := mn11) hown e1 (by rw [hml]; rfl) (ow hw 81 rfl) (ow hw 82 rfl) (ow hw 10 rfl) (ow hw 83 rfl) (by decide) (argsL := [(.int (0 : Int32)), (.int (0 : Int32)), (.int (0 : Int32))]) (st := []) (c_chkft l Z a0 hw (0 : Int32) (0 : Int32) (0 : Int32) h0 (by decide) (by decide) (by decide) hSio) (lenOf pd_13 rfl) (H d16_8) (pc' := 11) rfl rfl (by decide) (W := 0) (Nat.le_of_eq rfl) (by decide) (by decide) (by decide) ?_
  intro T2 v2 L2 X2 hQ2
  obtain ⟨rfl, eq2, rfl⟩ := hQ2
  rw [List.append_nil] at X2
  refine gLoadIN 12 X2 hx (H d16_11) rfl rfl ?_
  refine gIfNeT X2 hx (H d16_12) (pc' := 22) (by decide) (by decide) (pn := 15) rfl (fun (c12 : ¬ (0 : Int) = (0 : Int)) => ?_) (fun (c12 : (0 : Int) = (0 : Int)) => ?_)
  · exact absurd c12 (by decide)
  · refine gLoadIN 16 X2 hx (H d16_15) rfl rfl ?_
    refine gLoadIN 17 X2 hx (H d16_16) rfl rfl ?_
    refine gIcmpNeT X2 hx (H d16_17) (pc' := 22) (by decide) (by decide) (pn := 20) rfl (fun (c17 : ¬ (0 : Int) = (0 : Int)) => ?_) (fun (c17 : (0 : Int) = (0 : Int)) => ?_)
    · exact absurd c17 (by decide)
    · refine gLoadAN 21 X2 hx (H d16_20) rfl rfl rfl ?_
      exact gRetA X2 hx hlk hret rfl rfl (H d16_21) (by decide) (by decide) (⟨rfl, eq2, rfl⟩)
theorem d15_0 : decode jdk_42_method_91_code 0 = .ok (.aload_n 0, 1) := by decide +kernel
theorem d15_1 : decode jdk_42_method_91_code 1 = .ok (.iload_n 1, 1) := by decide +kernel
theorem d15_2 : decode jdk_42_method_91_code 2 = .ok (.aload_n 0, 1) := by decide +kernel
theorem d15_3 : decode jdk_42_method_91_code 3 = .ok (.invokevirtual 505, 3) := by decide +kernel
theorem d15_6 : decode jdk_42_method_91_code 6 = .ok (.invokevirtual 681, 3) := by decide +kernel
theorem pd_11 : parseMethodDescriptor "(II)Ljava/lang/String;" = some ⟨[.int, .int], some (.object "java/lang/String")⟩ := by decide +kernel
theorem d15_9 : decode jdk_42_method_91_code 9 = .ok (.areturn, 1) := by decide +kernel
abbrev mn18 : MethodName := ⟨"java/lang/String", "substring", "(I)Ljava/lang/String;"⟩
theorem c_sub_0_0_0o (l : Launch) (Z : State) (a0 : Array Value) (hw : ∀ d ∈ tables_1, d.before a0 Z = true) (a t : Addr) (ck : ClassId)  (h0 : Heap) (hSio : Sio Z h0) (hCpt : Cpt Z h0) (E : sE Z h0 a) (C : sC Z h0 a) (V : sV Z h0 a t) (A : sA Z h0 t ck 0 [])  :
    Ctr l Z mn18 jdk_42_method_91_code 2 (some (.object "java/lang/String")) [] ⟨3, 0, 0, 50⟩ #[(.ref a), (.int (0 : Int32))] h0 (Just h0 (.ref a)) := by
  refine Ctr.of (plainFor_of_name pn_4) ?_
  intro p e s m below meth c s₁ hx H hml hret hown hnm hZ hlk X0 e0
  refine Goes.cast (show entryFrame m _ _ = mkF m 0 #[.val (.ref a), .val (.int (0 : Int32))] [] from rfl) ?_
  refine gLoadAN 1 X0 hx (H d15_0) rfl rfl rfl ?_
  refine gLoadIN 2 X0 hx (H d15_1) rfl rfl ?_
  refine gLoadAN 3 X0 hx (H d15_2) rfl rfl rfl ?_
  refine gCallVJ X0 hx hZ (y := mn17) hown e0 (by rw [hml]; rfl) E (ow hw 39 rfl) (ow hw 40 rfl) (ow hw 42 rfl) (ow hw 41 rfl) (ow hw 10 rfl) (ow hw 43 rfl) (by decide) (argsL := []) (st := [(.int (0 : Int32)), (.ref a)]) (c_length_0 l Z a0 hw a t ck  h0 hCpt E C V A ) (lenOf pd_1 rfl) (H d15_3) (pc' := 6) rfl rfl rfl rfl (by decide) (W := 2) (Nat.le_of_eq rfl) (by decide) (by decide) (by decide) ?_
  intro T1 X1 e1
  refine gCallVJ X1 hx hZ (y := mn19) hown e1 (by rw [hml]; rfl) E (ow hw 76 rfl) (ow hw 77 rfl) (ow hw 79 rfl) (ow hw 78 rfl) (ow hw 10 rfl) (ow hw 80 rfl) (by decide) (argsL := [(.int (0 : Int32)), (.int (0 : Int32))]) (st := []) (c_sub_0_0_0 l Z a0 hw a t ck  h0 hSio hCpt E C V A ) (lenOf pd_11 rfl) (H d15_6) (pc' := 9) rfl rfl rfl rfl (by decide) (W := 0) (Nat.le_of_eq rfl) (by decide) (by decide) (by decide) ?_
  intro T2 X2 e2
  exact gRetA X2 hx hlk hret rfl rfl (H d15_9) (by decide) (by decide) (⟨rfl, e2, rfl⟩)
theorem d31_0 : decode prog_18_method_7_code 0 = .ok (.aload_n 0, 1) := by decide +kernel
theorem d31_1 : decode prog_18_method_7_code 1 = .ok (.aload_n 0, 1) := by decide +kernel
theorem d31_2 : decode prog_18_method_7_code 2 = .ok (.bipush 47, 2) := by decide +kernel
theorem d31_4 : decode prog_18_method_7_code 4 = .ok (.invokevirtual 57, 3) := by decide +kernel
theorem pd_5 : parseMethodDescriptor "(I)I" = some ⟨[.int], some .int⟩ := by decide +kernel
theorem d31_7 : decode prog_18_method_7_code 7 = .ok (.iconst 1, 1) := by decide +kernel
theorem d31_8 : decode prog_18_method_7_code 8 = .ok (.iadd, 1) := by decide +kernel
theorem d31_9 : decode prog_18_method_7_code 9 = .ok (.invokevirtual 75, 3) := by decide +kernel
theorem pd_6 : parseMethodDescriptor "(I)Ljava/lang/String;" = some ⟨[.int], some (.object "java/lang/String")⟩ := by decide +kernel
theorem d31_12 : decode prog_18_method_7_code 12 = .ok (.areturn, 1) := by decide +kernel
abbrev mn0 : MethodName := ⟨"com/example/guildhall/guildhall/Fqan", "nameOf", "(Ljava/lang/String;)Ljava/lang/String;"⟩
theorem pn_0 : plainName "com/example/guildhall/guildhall/Fqan" = true := by first | (simp [plainName, overriddenIn]; done) | decide +kernel
theorem c_nm_0_m (l : Launch) (Z : State) (a0 : Array Value) (hw : ∀ d ∈ tables_1, d.before a0 Z = true) (a t : Addr) (ck : ClassId)  (h0 : Heap) (hSio : Sio Z h0) (hCpt : Cpt Z h0) (E : sE Z h0 a) (C : sC Z h0 a) (V : sV Z h0 a t) (A : sA Z h0 t ck 0 [])   :
    Ctr l Z mn0 prog_18_method_7_code 1 (some (.object "java/lang/String")) [] ⟨4, 0, 0, 73⟩ #[(.ref a)] h0 (Just h0 (.ref a)) := by
  refine Ctr.of (plainFor_of_name pn_0) ?_
  intro p e s m below meth c s₁ hx H hml hret hown hnm hZ hlk X0 e0
  refine Goes.cast (show entryFrame m _ _ = mkF m 0 #[.val (.ref a)] [] from rfl) ?_
  refine gLoadAN 1 X0 hx (H d31_0) rfl rfl rfl ?_
  refine gLoadAN 2 X0 hx (H d31_1) rfl rfl rfl ?_
  refine gBipush 4 X0 hx (v := (47 : Int32)) (H d31_2) rfl rfl ?_
  refine gCallVJ X0 hx hZ (y := mn15) hown e0 (by rw [hml]; rfl) E (ow hw 34 rfl) (ow hw 35 rfl) (ow hw 37 rfl) (ow hw 36 rfl) (ow hw 10 rfl) (ow hw 38 rfl) (by decide) (argsL := [(.int (47 : Int32))]) (st := [(.ref a)]) (c_lastIndexOf_0 l Z a0 hw a t ck  h0 hCpt E C V A ) (lenOf pd_5 rfl) (H d31_4) (pc' := 7) rfl rfl rfl rfl (by decide) (W := 1) (Nat.le_of_eq rfl) (by decide) (by decide) (by decide) ?_
  intro T1 X1 e1
  rw [show lx0  = -1 from by rw [lx0]]
  refine gIconst 8 X1 hx (v := (1 : Int32)) (H d31_7) rfl rfl ?_
  refine gIadd 9 X1 hx (H d31_8) rfl ?_
  show Goes p e below _ T1 (mkF m 9 #[.val (.ref a)] [(.int (0 : Int32)), (.ref a)])
  refine gCallVJ X1 hx hZ (y := mn18) hown e1 (by rw [hml]; rfl) E (ow hw 71 rfl) (ow hw 72 rfl) (ow hw 74 rfl) (ow hw 73 rfl) (ow hw 10 rfl) (ow hw 75 rfl) (by decide) (argsL := [(.int (0 : Int32))]) (st := []) (c_sub_0_0_0o l Z a0 hw a t ck  h0 hSio hCpt E C V A ) (lenOf pd_6 rfl) (H d31_9) (pc' := 12) rfl rfl rfl rfl (by decide) (W := 0) (Nat.le_of_eq rfl) (by decide) (by decide) (by decide) ?_
  intro T2 X2 e2
  exact gRetA X2 hx hlk hret rfl rfl (H d31_12) (by decide) (by decide) (⟨rfl, e2, rfl⟩)
def lx1 (ch0 : Int32) : Int32 := if ch0.toInt = 47 then 0 else (-1)
theorem c_min_0_0 (l : Launch) (Z : State) (a0 : Array Value) (hw : ∀ d ∈ tables_1, d.before a0 Z = true)  (h0 : Heap)  :
    Ctr l Z mn5 jdk_29_method_69_code 2 (some .int) [] ⟨0, 0, 0, 0⟩ #[(.int (0 : Int32)), (.int (0 : Int32))] h0 (Just h0 (.int (0))) := by
  refine Ctr.of (Jvm.Free.JP.mathPlain rfl (by decide +kernel)) ?_
  intro p e s m below meth c s₁ hx H hml hret hown hnm hZ hlk X0 e0
  refine Goes.cast (show entryFrame m _ _ = mkF m 0 #[.val (.int (0 : Int32)), .val (.int (0 : Int32))] [] from rfl) ?_
  refine gLoadIN 1 X0 hx (H d1_0) rfl rfl ?_
  refine gLoadIN 2 X0 hx (H d1_1) rfl rfl ?_
  refine gIcmpGt X0 hx (H d1_2) (pc' := 9) (by decide) (by decide) (pn := 5) rfl (fun (c2 : (0 : Int) < (0 : Int)) => ?_) (fun (c2 : (0 : Int) ≤ (0 : Int)) => ?_)
  · exact absurd c2 (by decide)
  · refine gLoadIN 6 X0 hx (H d1_5) rfl rfl ?_
    refine gGoto X0 hx (H d1_6) (pc' := 10) (by decide) (by decide) ?_
    exact gRetI X0 hx hlk hret (H d1_10) (by decide) (by decide) (⟨rfl, e0, rfl⟩)
theorem d17_22 : decode jdk_43_method_27_code 22 = .ok (.aload_n 0, 1) := by decide +kernel
theorem d17_23 : decode jdk_43_method_27_code 23 = .ok (.iload_n 3, 1) := by decide +kernel
theorem d17_24 : decode jdk_43_method_27_code 24 = .ok (.baload, 1) := by decide +kernel
theorem d17_25 : decode jdk_43_method_27_code 25 = .ok (.iload_n 1, 1) := by decide +kernel
theorem d17_26 : decode jdk_43_method_27_code 26 = .ok (.i2b, 1) := by decide +kernel
theorem d17_27 : decode jdk_43_method_27_code 27 = .ok (.if_icmp .ne 5, 3) := by decide +kernel
theorem d17_32 : decode jdk_43_method_27_code 32 = .ok (.iinc 3 (-1), 3) := by decide +kernel
theorem d17_35 : decode jdk_43_method_27_code 35 = .ok (.goto (-17), 3) := by decide +kernel
theorem d17_30 : decode jdk_43_method_27_code 30 = .ok (.iload_n 3, 1) := by decide +kernel
theorem d17_31 : decode jdk_43_method_27_code 31 = .ok (.ireturn, 1) := by decide +kernel
theorem c_lastIndexOf_1l (l : Launch) (Z : State) (a0 : Array Value) (hw : ∀ d ∈ tables_1, d.before a0 Z = true) (t : Addr) (ck : ClassId) (ch0 : Int32) (h0 : Heap) (A : sA Z h0 t ck 1 [by8 ch0]) (hch0 : rg ch0) :
    Ctr l Z mn22 jdk_43_method_27_code 4 (some .int) [] ⟨1, 0, 0, 24⟩ #[(.ref t), (.int (47 : Int32)), (.int (0 : Int32))] h0 (Just h0 (.int (lx1 ch0))) := by
  refine Ctr.of (plainFor_of_name pn_5) ?_
  intro p e s m below meth c s₁ hx H hml hret hown hnm hZ hlk X0 e0
  refine Goes.cast (show entryFrame m _ _ = mkF m 0 #[.val (.ref t), .val (.int (47 : Int32)), .val (.int (0 : Int32)), .unset] [] from rfl) ?_
  refine gLoadIN 1 X0 hx (H d17_0) rfl rfl ?_
  refine gCallSJ X0 hx hZ (y := mn20) hown e0 (by rw [hml]; rfl) (ow hw 64 rfl) (ow hw 65 rfl) (ow hw 62 rfl) (ow hw 66 rfl) (by decide) (argsL := [(.int (47 : Int32))]) (st := []) (c_canI_47 l Z a0 hw h0) (lenOf pd_7 rfl) (H d17_1) (pc' := 4) rfl rfl rfl rfl (by decide) (W := 0) (Nat.le_of_eq rfl) (by decide) (by decide) (by decide) ?_
  intro T1 X1 e1
  refine gIfNeT X1 hx (H d17_4) (pc' := 9) (by decide) (by decide) (pn := 7) rfl (fun (c4 : ¬ (1 : Int) = (0 : Int)) => ?_) (fun (c4 : (1 : Int) = (0 : Int)) => ?_)
  · refine gLoadIN 10 X1 hx (H d17_9) rfl rfl ?_
    refine gLoadAN 11 X1 hx (H d17_10) rfl rfl rfl ?_
    refine gArrLen X1 hx hZ e1 A (H d17_11) (pc' := 12) rfl ?_
    refine gIconst 13 X1 hx (v := (1 : Int32)) (H d17_12) rfl rfl ?_
    refine gIsub 14 X1 hx (H d17_13) rfl ?_
    show Goes p e below _ T1 (mkF m 14 #[.val (.ref t), .val (.int (47 : Int32)), .val (.int (0 : Int32)), .unset] [(.int (0 : Int32)), (.int (0 : Int32))])
    refine gCallSJ X1 hx hZ (y := mn5) hown e1 (by rw [hml]; rfl) (ow hw 67 rfl) (ow hw 68 rfl) (ow hw 69 rfl) (ow hw 70 rfl) (by decide) (argsL := [(.int (0 : Int32)), (.int (0 : Int32))]) (st := []) (c_min_0_0 l Z a0 hw h0) (lenOf pd_10 rfl) (H d17_14) (pc' := 17) rfl rfl rfl rfl (by decide) (W := 0) (Nat.le_of_eq rfl) (by decide) (by decide) (by decide) ?_
    intro T2 X2 e2
    refine gStoreIN 18 X2 hx (H d17_17) (l' := #[.val (.ref t), .val (.int (47 : Int32)), .val (.int (0 : Int32)), .val (.int (0 : Int32))]) rfl rfl ?_
    refine gLoadIN 19 X2 hx (H d17_18) rfl rfl ?_
    refine gIfLt X2 hx (H d17_19) (pc' := 38) (by decide) (by decide) (pn := 22) rfl (fun (c19 : (0 : Int) < (0 : Int)) => ?_) (fun (c19 : (0 : Int) ≤ (0 : Int)) => ?_)
    · exact absurd c19 (by decide)
    · refine gLoadAN 23 X2 hx (H d17_22) rfl rfl rfl ?_
      refine gLoadIN 24 X2 hx (H d17_23) rfl rfl ?_
      refine gBaload X2 hx hZ e2 A (j := (0 : Int32)) (v := (.int (ch0.toInt8.toInt32))) (by decide) (by decide) rfl (H d17_24) (pc' := 25) rfl ?_
      refine gLoadIN 26 X2 hx (H d17_25) rfl rfl ?_
      refine gI2b 27 X2 hx (H d17_26) rfl ?_
      show Goes p e below _ T2 (mkF m 27 #[.val (.ref t), .val (.int (47 : Int32)), .val (.int (0 : Int32)), .val (.int (0 : Int32))] [(.int (47 : Int32)), (.int (ch0.toInt8.toInt32))])
      refine gIcmpNeT X2 hx (H d17_27) (pc' := 32) (by decide) (by decide) (pn := 30) rfl (fun (c27 : ¬ (ch0.toInt8.toInt32).toInt = (47 : Int)) => ?_) (fun (c27 : (ch0.toInt8.toInt32).toInt = (47 : Int)) => ?_)
      · refine gIinc X2 hx (v := (-1 : Int32)) (H d17_32) (l' := #[.val (.ref t), .val (.int (47 : Int32)), .val (.int (0 : Int32)), .val (.int (-1 : Int32))]) (pc' := 35) rfl rfl rfl rfl ?_
        refine gGoto X2 hx (H d17_35) (pc' := 18) (by decide) (by decide) ?_
        refine gLoadIN 19 X2 hx (H d17_18) rfl rfl ?_
        refine gIfLt X2 hx (H d17_19) (pc' := 38) (by decide) (by decide) (pn := 22) rfl (fun (c19' : (-1 : Int) < (0 : Int)) => ?_) (fun (c19' : (0 : Int) ≤ (-1 : Int)) => ?_)
        · refine gIconst 39 X2 hx (v := (-1 : Int32)) (H d17_38) rfl rfl ?_
          exact gRetI X2 hx hlk hret (H d17_39) (by decide) (by decide) (⟨by rw [lx1, if_neg (fun z => c27 ((own_beq hch0 (by decide)).mpr z))], e2, rfl⟩)
        · exact absurd c19' (by decide)
      · refine gLoadIN 31 X2 hx (H d17_30) rfl rfl ?_
        exact gRetI X2 hx hlk hret (H d17_31) (by decide) (by decide) (⟨by rw [lx1, if_pos ((own_beq hch0 (by decide)).mp c27)], e2, rfl⟩)
  · exact absurd c4 (by decide)
theorem c_length_1 (l : Launch) (Z : State) (a0 : Array Value) (hw : ∀ d ∈ tables_1, d.before a0 Z = true) (a t : Addr) (ck : ClassId) (ch0 : Int32) (h0 : Heap) (hCpt : Cpt Z h0) (E : sE Z h0 a) (C : sC Z h0 a) (V : sV Z h0 a t) (A : sA Z h0 t ck 1 [by8 ch0]) (hch0 : rg ch0) :
    Ctr l Z mn17 jdk_42_method_54_code 1 (some .int) [] ⟨1, 0, 0, 13⟩ #[(.ref a)] h0 (Just h0 (.int 1)) := by
  refine Ctr.of (plainFor_of_name pn_4) ?_
  intro p e s m below meth c s₁ hx H hml hret hown hnm hZ hlk X0 e0
  refine Goes.cast (show entryFrame m _ _ = mkF m 0 #[.val (.ref a)] [] from rfl) ?_
  refine gLoadAN 1 X0 hx (H d11_0) rfl rfl rfl ?_
  refine gGetF X0 hx hZ hown (ow hw 28 rfl) Via.refl e0 V (H d11_1) (pc' := 4) rfl (fun T1 X1 e1 => ?_)
  refine gArrLen X1 hx hZ e1 A (H d11_4) (pc' := 5) rfl ?_
  refine gLoadAN 6 X1 hx (H d11_5) rfl rfl rfl ?_
  refine gCallVJ X1 hx hZ (y := mn13) hown e1 (by rw [hml]; rfl) E (ow hw 44 rfl) (ow hw 45 rfl) (ow hw 47 rfl) (ow hw 46 rfl) (ow hw 10 rfl) (ow hw 48 rfl) (by decide) (argsL := []) (st := [(.int (1 : Int32))]) (c_coder l Z a0 hw a h0 hCpt C) (lenOf pd_0 rfl) (H d11_6) (pc' := 9) rfl rfl rfl rfl (by decide) (W := 1) (Nat.le_of_eq rfl) (by decide) (by decide) (by decide) ?_
  intro T2 X2 e2
  refine gIshr 10 X2 hx (H d11_9) rfl ?_
  show Goes p e below _ T2 (mkF m 10 #[.val (.ref a)] [(.int (1 : Int32))])
  exact gRetI X2 hx hlk hret (H d11_10) (by decide) (by decide) (⟨rfl, e2, rfl⟩)
theorem c_lastIndexOf_12 (l : Launch) (Z : State) (a0 : Array Value) (hw : ∀ d ∈ tables_1, d.before a0 Z = true) (a t : Addr) (ck : ClassId) (ch0 : Int32) (h0 : Heap) (hCpt : Cpt Z h0) (E : sE Z h0 a) (C : sC Z h0 a) (V : sV Z h0 a t) (A : sA Z h0 t ck 1 [by8 ch0]) (hch0 : rg ch0) :
    Ctr l Z mn16 jdk_42_method_83_code 3 (some .int) [] ⟨2, 0, 0, 42⟩ #[(.ref a), (.int (47 : Int32)), (.int (0 : Int32))] h0 (Just h0 (.int (lx1 ch0))) := by
  refine Ctr.of (plainFor_of_name pn_4) ?_
  intro p e s m below meth c s₁ hx H hml hret hown hnm hZ hlk X0 e0
  refine Goes.cast (show entryFrame m _ _ = mkF m 0 #[.val (.ref a), .val (.int (47 : Int32)), .val (.int (0 : Int32))] [] from rfl) ?_
  refine gLoadAN 1 X0 hx (H d14_0) rfl rfl rfl ?_
  refine gCallVJ X0 hx hZ (y := mn14) hown e0 (by rw [hml]; rfl) E (ow hw 55 rfl) (ow hw 56 rfl) (ow hw 58 rfl) (ow hw 57 rfl) (ow hw 10 rfl) (ow hw 59 rfl) (by decide) (argsL := []) (st := []) (c_isLatin1 l Z a0 hw a h0 hCpt C) (lenOf pd_3 rfl) (H d14_1) (pc' := 4) rfl rfl rfl rfl (by decide) (W := 0) (Nat.le_of_eq rfl) (by decide) (by decide) (by decide) ?_
  intro T1 X1 e1
  refine gIfEqT X1 hx (H d14_4) (pc' := 19) (by decide) (by decide) (pn := 7) rfl (fun (c4 : (1 : Int) = (0 : Int)) => ?_) (fun (c4 : ¬ (1 : Int) = (0 : Int)) => ?_)
  · exact absurd c4 (by decide)
  · refine gLoadAN 8 X1 hx (H d14_7) rfl rfl rfl ?_
    refine gGetF X1 hx hZ hown (ow hw 28 rfl) Via.refl e1 V (H d14_8) (pc' := 11) rfl (fun T2 X2 e2 => ?_)
    refine gLoadIN 12 X2 hx (H d14_11) rfl rfl ?_
    refine gLoadIN 13 X2 hx (H d14_12) rfl rfl ?_
    refine gCallSJ X2 hx hZ (y := mn22) hown e2 (by rw [hml]; rfl) (ow hw 60 rfl) (ow hw 61 rfl) (ow hw 62 rfl) (ow hw 63 rfl) (by decide) (argsL := [(.ref t), (.int (47 : Int32)), (.int (0 : Int32))]) (st := []) (c_lastIndexOf_1l l Z a0 hw t ck ch0 h0 A hch0) (lenOf pd_21 rfl) (H d14_13) (pc' := 16) rfl rfl rfl rfl (by decide) (W := 0) (Nat.le_of_eq rfl) (by decide) (by decide) (by decide) ?_
    intro T3 X3 e3
    refine gGoto X3 hx (H d14_16) (pc' := 28) (by decide) (by decide) ?_
    exact gRetI X3 hx hlk hret (H d14_28) (by decide) (by decide) (⟨rfl, e3, rfl⟩)
theorem c_lastIndexOf_1 (l : Launch) (Z : State) (a0 : Array Value) (hw : ∀ d ∈ tables_1, d.before a0 Z = true) (a t : Addr) (ck : ClassId) (ch0 : Int32) (h0 : Heap) (hCpt : Cpt Z h0) (E : sE Z h0 a) (C : sC Z h0 a) (V : sV Z h0 a t) (A : sA Z h0 t ck 1 [by8 ch0]) (hch0 : rg ch0) :
    Ctr l Z mn15 jdk_42_method_82_code 2 (some .int) [] ⟨3, 0, 0, 58⟩ #[(.ref a), (.int (47 : Int32))] h0 (Just h0 (.int (lx1 ch0))) := by
  refine Ctr.of (plainFor_of_name pn_4) ?_
  intro p e s m below meth c s₁ hx H hml hret hown hnm hZ hlk X0 e0
  refine Goes.cast (show entryFrame m _ _ = mkF m 0 #[.val (.ref a), .val (.int (47 : Int32))] [] from rfl) ?_
  refine gLoadAN 1 X0 hx (H d13_0) rfl rfl rfl ?_
  refine gLoadIN 2 X0 hx (H d13_1) rfl rfl ?_
  refine gLoadAN 3 X0 hx (H d13_2) rfl rfl rfl ?_
  refine gCallVJ X0 hx hZ (y := mn17) hown e0 (by rw [hml]; rfl) E (ow hw 39 rfl) (ow hw 40 rfl) (ow hw 42 rfl) (ow hw 41 rfl) (ow hw 10 rfl) (ow hw 43 rfl) (by decide) (argsL := []) (st := [(.int (47 : Int32)), (.ref a)]) (c_length_1 l Z a0 hw a t ck ch0 h0 hCpt E C V A hch0) (lenOf pd_1 rfl) (H d13_3) (pc' := 6) rfl rfl rfl rfl (by decide) (W := 2) (Nat.le_of_eq rfl) (by decide) (by decide) (by decide) ?_
  intro T1 X1 e1
  refine gIconst 7 X1 hx (v := (1 : Int32)) (H d13_6) rfl rfl ?_
  refine gIsub 8 X1 hx (H d13_7) rfl ?_
  show Goes p e below _ T1 (mkF m 8 #[.val (.ref a), .val (.int (47 : Int32))] [(.int (0 : Int32)), (.int (47 : Int32)), (.ref a)])
  refine gCallVJ X1 hx hZ (y := mn16) hown e1 (by rw [hml]; rfl) E (ow hw 50 rfl) (ow hw 51 rfl) (ow hw 53 rfl) (ow hw 52 rfl) (ow hw 10 rfl) (ow hw 54 rfl) (by decide) (argsL := [(.int (47 : Int32)), (.int (0 : Int32))]) (st := []) (c_lastIndexOf_12 l Z a0 hw a t ck ch0 h0 hCpt E C V A hch0) (lenOf pd_10 rfl) (H d13_8) (pc' := 11) rfl rfl rfl rfl (by decide) (W := 0) (Nat.le_of_eq rfl) (by decide) (by decide) (by decide) ?_
  intro T2 X2 e2
  exact gRetI X2 hx hlk hret (H d13_11) (by decide) (by decide) (⟨rfl, e2, rfl⟩)
theorem c_sub_1_0_1 (l : Launch) (Z : State) (a0 : Array Value) (hw : ∀ d ∈ tables_1, d.before a0 Z = true) (a t : Addr) (ck : ClassId) (ch0 : Int32) (h0 : Heap) (hSio : Sio Z h0) (hCpt : Cpt Z h0) (E : sE Z h0 a) (C : sC Z h0 a) (V : sV Z h0 a t) (A : sA Z h0 t ck 1 [by8 ch0]) (hch0 : rg ch0) :
    Ctr l Z mn19 jdk_42_method_92_code 5 (some (.object "java/lang/String")) [] ⟨2, 0, 0, 30⟩ #[(.ref a), (.int (0 : Int32)), (.int (1 : Int32))] h0 (Just h0 (.ref a)) := by
  refine Ctr.of (plainFor_of_name pn_4) ?_
  intro p e s m below meth c s₁ hx H hml hret hown hnm hZ hlk X0 e0
  refine Goes.cast (show entryFrame m _ _ = mkF m 0 #[.val (.ref a), .val (.int (0 : Int32)), .val (.int (1 : Int32)), .unset, .unset] [] from rfl) ?_
  refine gLoadAN 1 X0 hx (H d16_0) rfl rfl rfl ?_
  refine gCallVJ X0 hx hZ (y := mn17) hown e0 (by rw [hml]; rfl) E (ow hw 39 rfl) (ow hw 40 rfl) (ow hw 42 rfl) (ow hw 41 rfl) (ow hw 10 rfl) (ow hw 43 rfl) (by decide) (argsL := []) (st := []) (c_length_1 l Z a0 hw a t ck ch0 h0 hCpt E C V A hch0) (lenOf pd_1 rfl) (H d16_1) (pc' := 4) rfl rfl rfl rfl (by decide) (W := 0) (Nat.le_of_eq rfl) (by decide) (by decide) (by decide) ?_
  intro T1 X1 e1
  refine gStoreIN 5 X1 hx (H d16_4) (l' := #[.val (.ref a), .val (.int (0 : Int32)), .val (.int (1 : Int32)), .val (.int (1 : Int32)), .unset]) rfl rfl ?_
  refine gLoadIN 6 X1 hx (H d16_5) rfl rfl ?_
  refine gLoadIN 7 X1 hx (H d16_6) rfl rfl ?_
  refine gLoadIN 8 X1 hx (H d16_7) rfl rfl ?_
  refine gCallS X1 hx hZ (y := mn11) hown e1 (by rw [hml]; rfl) (ow hw 81 rfl) (ow hw 82 rfl) (ow hw 10 rfl) (ow hw 83 rfl) (by decide) (argsL := [(.int (0 : Int32)), (.int (1 : Int32)), (.int (1 : Int32))]) (st := []) (c_chkft l Z a0 hw (0 : Int32) (1 : Int32) (1 : Int32) h0 (by decide) (by decide) (by decide) hSio) (lenOf pd_13 rfl) (H d16_8) (pc' := 11) rfl rfl (by decide) (W := 0) (Nat.le_of_eq rfl) (by decide) (by decide) (by decide) ?_
  intro T2 v2 L2 X2 hQ2
  obtain ⟨rfl, eq2, rfl⟩ := hQ2
  rw [List.append_nil] at X2
  refine gLoadIN 12 X2 hx (H d16_11) rfl rfl ?_
  refine gIfNeT X2 hx (H d16_12) (pc' := 22) (by decide) (by decide) (pn := 15) rfl (fun (c12 : ¬ (0 : Int) = (0 : Int)) => ?_) (fun (c12 : (0 : Int) = (0 : Int)) => ?_)
  · exact absurd c12 (by decide)
  · refine gLoadIN 16 X2 hx (H d16_15) rfl rfl ?_
    refine gLoadIN 17 X2 hx (H d16_16) rfl rfl ?_
    refine gIcmpNeT X2 hx (H d16_17) (pc' := 22) (by decide) (by decide) (pn := 20) rfl (fun (c17 : ¬ (1 : Int) = (1 : Int)) => ?_) (fun (c17 : (1 : Int) = (1 : Int)) => ?_)
    · exact absurd c17 (by decide)
    · refine gLoadAN 21 X2 hx (H d16_20) rfl rfl rfl ?_
      exact gRetA X2 hx hlk hret rfl rfl (H d16_21) (by decide) (by decide) (⟨rfl, eq2, rfl⟩)
theorem c_sub_1_0_1o (l : Launch) (Z : State) (a0 : Array Value) (hw : ∀ d ∈ tables_1, d.before a0 Z = true) (a t : Addr) (ck : ClassId) (ch0 : Int32) (h0 : Heap) (hSio : Sio Z h0) (hCpt : Cpt Z h0) (E : sE Z h0 a) (C : sC Z h0 a) (V : sV Z h0 a t) (A : sA Z h0 t ck 1 [by8 ch0]) (hch0 : rg ch0) :
    Ctr l Z mn18 jdk_42_method_91_code 2 (some (.object "java/lang/String")) [] ⟨3, 0, 0, 50⟩ #[(.ref a), (.int (0 : Int32))] h0 (Just h0 (.ref a)) := by
  refine Ctr.of (plainFor_of_name pn_4) ?_
  intro p e s m below meth c s₁ hx H hml hret hown hnm hZ hlk X0 e0
  refine Goes.cast (show entryFrame m _ _ = mkF m 0 #[.val (.ref a), .val (.int (0 : Int32))] [] from rfl) ?_
  refine gLoadAN 1 X0 hx (H d15_0) rfl rfl rfl ?_
  refine gLoadIN 2 X0 hx (H d15_1) rfl rfl ?_
  refine gLoadAN 3 X0 hx (H d15_2) rfl rfl rfl ?_
  refine gCallVJ X0 hx hZ (y := mn17) hown e0 (by rw [hml]; rfl) E (ow hw 39 rfl) (ow hw 40 rfl) (ow hw 42 rfl) (ow hw 41 rfl) (ow hw 10 rfl) (ow hw 43 rfl) (by decide) (argsL := []) (st := [(.int (0 : Int32)), (.ref a)]) (c_length_1 l Z a0 hw a t ck ch0 h0 hCpt E C V A hch0) (lenOf pd_1 rfl) (H d15_3) (pc' := 6) rfl rfl rfl rfl (by decide) (W := 2) (Nat.le_of_eq rfl) (by decide) (by decide) (by decide) ?_
  intro T1 X1 e1
  refine gCallVJ X1 hx hZ (y := mn19) hown e1 (by rw [hml]; rfl) E (ow hw 76 rfl) (ow hw 77 rfl) (ow hw 79 rfl) (ow hw 78 rfl) (ow hw 10 rfl) (ow hw 80 rfl) (by decide) (argsL := [(.int (0 : Int32)), (.int (1 : Int32))]) (st := []) (c_sub_1_0_1 l Z a0 hw a t ck ch0 h0 hSio hCpt E C V A hch0) (lenOf pd_11 rfl) (H d15_6) (pc' := 9) rfl rfl rfl rfl (by decide) (W := 0) (Nat.le_of_eq rfl) (by decide) (by decide) (by decide) ?_
  intro T2 X2 e2
  exact gRetA X2 hx hlk hret rfl rfl (H d15_9) (by decide) (by decide) (⟨rfl, e2, rfl⟩)
theorem c_nm_1_m (l : Launch) (Z : State) (a0 : Array Value) (hw : ∀ d ∈ tables_1, d.before a0 Z = true) (a t : Addr) (ck : ClassId) (ch0 : Int32) (h0 : Heap) (hSio : Sio Z h0) (hCpt : Cpt Z h0) (E : sE Z h0 a) (C : sC Z h0 a) (V : sV Z h0 a t) (A : sA Z h0 t ck 1 [by8 ch0]) (hch0 : rg ch0) (d0 : ¬ ch0.toInt = 47) :
    Ctr l Z mn0 prog_18_method_7_code 1 (some (.object "java/lang/String")) [] ⟨4, 0, 0, 73⟩ #[(.ref a)] h0 (Just h0 (.ref a)) := by
  refine Ctr.of (plainFor_of_name pn_0) ?_
  intro p e s m below meth c s₁ hx H hml hret hown hnm hZ hlk X0 e0
  refine Goes.cast (show entryFrame m _ _ = mkF m 0 #[.val (.ref a)] [] from rfl) ?_
  refine gLoadAN 1 X0 hx (H d31_0) rfl rfl rfl ?_
  refine gLoadAN 2 X0 hx (H d31_1) rfl rfl rfl ?_
  refine gBipush 4 X0 hx (v := (47 : Int32)) (H d31_2) rfl rfl ?_
  refine gCallVJ X0 hx hZ (y := mn15) hown e0 (by rw [hml]; rfl) E (ow hw 34 rfl) (ow hw 35 rfl) (ow hw 37 rfl) (ow hw 36 rfl) (ow hw 10 rfl) (ow hw 38 rfl) (by decide) (argsL := [(.int (47 : Int32))]) (st := [(.ref a)]) (c_lastIndexOf_1 l Z a0 hw a t ck ch0 h0 hCpt E C V A hch0) (lenOf pd_5 rfl) (H d31_4) (pc' := 7) rfl rfl rfl rfl (by decide) (W := 1) (Nat.le_of_eq rfl) (by decide) (by decide) (by decide) ?_
  intro T1 X1 e1
  rw [show lx1 ch0 = -1 from by rw [lx1, if_neg d0]]
  refine gIconst 8 X1 hx (v := (1 : Int32)) (H d31_7) rfl rfl ?_
  refine gIadd 9 X1 hx (H d31_8) rfl ?_
  show Goes p e below _ T1 (mkF m 9 #[.val (.ref a)] [(.int (0 : Int32)), (.ref a)])
  refine gCallVJ X1 hx hZ (y := mn18) hown e1 (by rw [hml]; rfl) E (ow hw 71 rfl) (ow hw 72 rfl) (ow hw 74 rfl) (ow hw 73 rfl) (ow hw 10 rfl) (ow hw 75 rfl) (by decide) (argsL := [(.int (0 : Int32))]) (st := []) (c_sub_1_0_1o l Z a0 hw a t ck ch0 h0 hSio hCpt E C V A hch0) (lenOf pd_6 rfl) (H d31_9) (pc' := 12) rfl rfl rfl rfl (by decide) (W := 0) (Nat.le_of_eq rfl) (by decide) (by decide) (by decide) ?_
  intro T2 X2 e2
  exact gRetA X2 hx hlk hret rfl rfl (H d31_12) (by decide) (by decide) (⟨rfl, e2, rfl⟩)
theorem d19_0 : decode jdk_43_method_47_code 0 = .ok (.iload_n 2, 1) := by decide +kernel
theorem d19_1 : decode jdk_43_method_47_code 1 = .ok (.ifCond .ne 6, 3) := by decide +kernel
theorem d19_4 : decode jdk_43_method_47_code 4 = .ok (.ldc 151, 2) := by decide +kernel
theorem d19_6 : decode jdk_43_method_47_code 6 = .ok (.areturn, 1) := by decide +kernel
abbrev mn23 : MethodName := ⟨"java/lang/StringLatin1", "newString", "([BII)Ljava/lang/String;"⟩
theorem c_newString_1_1_0 (l : Launch) (Z : State) (a0 : Array Value) (hw : ∀ d ∈ tables_1, d.before a0 Z = true) (t : Addr) (ck : ClassId) (ch0 : Int32) (h0 : Heap) (hEL : EW Z a0 [("java/lang/String", 7), ("java/lang/StringLatin1", 151)]) :
    CtrH l Z [("java/lang/String", 7), ("java/lang/StringLatin1", 151)] [] mn23 jdk_43_method_47_code 3 (some (.object "java/lang/String")) [] ⟨0, 2, 4, 0⟩ #[(.ref t), (.int (1 : Int32)), (.int (0 : Int32))] h0 (SQd Z h0 0 []) := by
  refine CtrH.of (plainFor_of_name pn_5) ?_
  intro p e s m below meth c s₁ hx H hml hret hown hnm hZ hlk X0 e0 hS H0 hSafe
  have wS : ∀ a ∈ Bundle.stringAtoms, a.before a0 Z = true := by
    intro d hd
    simp only [Bundle.stringAtoms, Bundle.sN, List.mem_cons, List.not_mem_nil, or_false] at hd
    rcases hd with rfl | rfl | rfl | rfl | rfl | rfl | rfl
    · exact (ow hw 10 rfl)
    · exact (ow hw 9 rfl)
    · exact (ow hw 23 rfl)
    · exact (ow hw 24 rfl)
    · exact (ow hw 25 rfl)
    · exact (ow hw 26 rfl)
    · exact (ow hw 27 rfl)
  refine Goes.cast (show entryFrame m _ _ = mkF m 0 #[.val (.ref t), .val (.int (1 : Int32)), .val (.int (0 : Int32))] [] from rfl) ?_
  refine gLoadIN 1 X0 hx (H d19_0) rfl rfl ?_
  refine gIfNeT X0 hx (H d19_1) (pc' := 7) (by decide) (by decide) (pn := 4) rfl (fun (c1 : ¬ (0 : Int) = (0 : Int)) => ?_) (fun (c1 : (0 : Int) = (0 : Int)) => ?_)
  · exact absurd c1 (by decide)
  · refine gLdcC X0 hx hZ hown (ow hw 139 rfl) wS e0 hS (Nat.zero_le _) hEL (by simp) H0 (vs := []) (z := 0) ⟨by decide, by decide⟩ (by decide) (by decide) (H d19_4) (pc' := 6) rfl (n := 0) (by decide) (by decide) (by decide) (by decide) (fun a1 T1 h1 k1 b1 ck1 X1 e1 E1 hS hk1 hZ hown C1 H1 Ex1 Fc1 Fv1 A1 sf1 => ?_)
    have zs1 : h0.size ≤ h1.size := Nat.le_trans (Nat.le_refl _) E1.1
    have K1 : Keep h0 h1 [] := (Keep.refl h0 []).ext E1
    exact gRetHA X1 hx hlk hret rfl rfl (H d19_6) e1 hS hk1 hZ hEL H1 (by decide) (by decide) (⟨a1, b1, ck1, rfl, (Fr.nil h0.size), by rw [e1]; exact K1, by rw [e1]; exact Ex1, by rw [e1]; exact Fc1, by rw [e1]; exact Fv1, by rw [e1]; exact A1⟩)
theorem d16_22 : decode jdk_42_method_92_code 22 = .ok (.iload_n 2, 1) := by decide +kernel
theorem d16_23 : decode jdk_42_method_92_code 23 = .ok (.iload_n 1, 1) := by decide +kernel
theorem d16_24 : decode jdk_42_method_92_code 24 = .ok (.isub, 1) := by decide +kernel
theorem d16_25 : decode jdk_42_method_92_code 25 = .ok (.istore 4, 2) := by decide +kernel
theorem d16_27 : decode jdk_42_method_92_code 27 = .ok (.aload_n 0, 1) := by decide +kernel
theorem d16_28 : decode jdk_42_method_92_code 28 = .ok (.invokevirtual 492, 3) := by decide +kernel
theorem d16_31 : decode jdk_42_method_92_code 31 = .ok (.ifCond .eq 16, 3) := by decide +kernel
theorem d16_34 : decode jdk_42_method_92_code 34 = .ok (.aload_n 0, 1) := by decide +kernel
theorem d16_35 : decode jdk_42_method_92_code 35 = .ok (.getfield 9, 3) := by decide +kernel
theorem d16_38 : decode jdk_42_method_92_code 38 = .ok (.iload_n 1, 1) := by decide +kernel
theorem d16_39 : decode jdk_42_method_92_code 39 = .ok (.iload 4, 2) := by decide +kernel
theorem d16_41 : decode jdk_42_method_92_code 41 = .ok (.invokestatic 685, 3) := by decide +kernel
theorem pd_22 : parseMethodDescriptor "([BII)Ljava/lang/String;" = some ⟨[(.array .byte), .int, .int], some (.object "java/lang/String")⟩ := by decide +kernel
theorem d16_44 : decode jdk_42_method_92_code 44 = .ok (.goto 13, 3) := by decide +kernel
theorem d16_57 : decode jdk_42_method_92_code 57 = .ok (.areturn, 1) := by decide +kernel
theorem c_sub_1_1_1 (l : Launch) (Z : State) (a0 : Array Value) (hw : ∀ d ∈ tables_1, d.before a0 Z = true) (a t : Addr) (ck : ClassId) (ch0 : Int32) (h0 : Heap) (hEL : EW Z a0 [("java/lang/String", 7), ("java/lang/StringLatin1", 151)]) (hSio : Sio Z h0) (hCpt : Cpt Z h0) (E : sE Z h0 a) (C : sC Z h0 a) (V : sV Z h0 a t) (A : sA Z h0 t ck 1 [by8 ch0]) (hch0 : rg ch0) :
    CtrH l Z [("java/lang/String", 7), ("java/lang/StringLatin1", 151)] [] mn19 jdk_42_method_92_code 5 (some (.object "java/lang/String")) [] ⟨2, 2, 4, 30⟩ #[(.ref a), (.int (1 : Int32)), (.int (1 : Int32))] h0 (SQd Z h0 0 []) := by
  refine CtrH.of (plainFor_of_name pn_4) ?_
  intro p e s m below meth c s₁ hx H hml hret hown hnm hZ hlk X0 e0 hS H0 hSafe
  refine Goes.cast (show entryFrame m _ _ = mkF m 0 #[.val (.ref a), .val (.int (1 : Int32)), .val (.int (1 : Int32)), .unset, .unset] [] from rfl) ?_
  refine gLoadAN 1 X0 hx (H d16_0) rfl rfl rfl ?_
  refine gCallVJ X0 hx hZ (y := mn17) hown e0 (by rw [hml]; rfl) E (ow hw 39 rfl) (ow hw 40 rfl) (ow hw 42 rfl) (ow hw 41 rfl) (ow hw 10 rfl) (ow hw 43 rfl) (by decide) (argsL := []) (st := []) (c_length_1 l Z a0 hw a t ck ch0 h0 hCpt E C V A hch0) (lenOf pd_1 rfl) (H d16_1) (pc' := 4) rfl rfl rfl rfl (by decide) (W := 0) (Nat.le_of_eq rfl) (by decide) (by decide) (by decide) ?_
  intro T1 X1 e1
  refine gStoreIN 5 X1 hx (H d16_4) (l' := #[.val (.ref a), .val (.int (1 : Int32)), .val (.int (1 : Int32)), .val (.int (1 : Int32)), .unset]) rfl rfl ?_
  refine gLoadIN 6 X1 hx (H d16_5) rfl rfl ?_
  refine gLoadIN 7 X1 hx (H d16_6) rfl rfl ?_
  refine gLoadIN 8 X1 hx (H d16_7) rfl rfl ?_
  refine gCallS X1 hx hZ (y := mn11) hown e1 (by rw [hml]; rfl) (ow hw 81 rfl) (ow hw 82 rfl) (ow hw 10 rfl) (ow hw 83 rfl) (by decide) (argsL := [(.int (1 : Int32)), (.int (1 : Int32)), (.int (1 : Int32))]) (st := []) (c_chkft l Z a0 hw (1 : Int32) (1 : Int32) (1 : Int32) h0 (by decide) (by decide) (by decide) hSio) (lenOf pd_13 rfl) (H d16_8) (pc' := 11) rfl rfl (by decide) (W := 0) (Nat.le_of_eq rfl) (by decide) (by decide) (by decide) ?_
  intro T2 v2 L2 X2 hQ2
  obtain ⟨rfl, eq2, rfl⟩ := hQ2
  rw [List.append_nil] at X2
  refine gLoadIN 12 X2 hx (H d16_11) rfl rfl ?_
  refine gIfNeT X2 hx (H d16_12) (pc' := 22) (by decide) (by decide) (pn := 15) rfl (fun (c12 : ¬ (1 : Int) = (0 : Int)) => ?_) (fun (c12 : (1 : Int) = (0 : Int)) => ?_)
  · refine gLoadIN 23 X2 hx (H d16_22) rfl rfl ?_
    refine gLoadIN 24 X2 hx (H d16_23) rfl rfl ?_
    refine gIsub 25 X2 hx (H d16_24) rfl ?_
    show Goes p e below _ T2 (mkF m 25 #[.val (.ref a), .val (.int (1 : Int32)), .val (.int (1 : Int32)), .val (.int (1 : Int32)), .unset] [(.int (0 : Int32))])
    refine gStoreI 27 X2 hx (H d16_25) (l' := #[.val (.ref a), .val (.int (1 : Int32)), .val (.int (1 : Int32)), .val (.int (1 : Int32)), .val (.int (0 : Int32))]) rfl rfl ?_
    refine gLoadAN 28 X2 hx (H d16_27) rfl rfl rfl ?_
    refine gCallVJ X2 hx hZ (y := mn14) hown eq2 (by rw [hml]; rfl) E (ow hw 55 rfl) (ow hw 56 rfl) (ow hw 58 rfl) (ow hw 57 rfl) (ow hw 10 rfl) (ow hw 59 rfl) (by decide) (argsL := []) (st := []) (c_isLatin1 l Z a0 hw a h0 hCpt C) (lenOf pd_3 rfl) (H d16_28) (pc' := 31) rfl rfl rfl rfl (by decide) (W := 0) (Nat.le_of_eq rfl) (by decide) (by decide) (by decide) ?_
    intro T3 X3 e3
    refine gIfEqT X3 hx (H d16_31) (pc' := 47) (by decide) (by decide) (pn := 34) rfl (fun (c31 : (1 : Int) = (0 : Int)) => ?_) (fun (c31 : ¬ (1 : Int) = (0 : Int)) => ?_)
    · exact absurd c31 (by decide)
    · refine gLoadAN 35 X3 hx (H d16_34) rfl rfl rfl ?_
      refine gGetF X3 hx hZ hown (ow hw 28 rfl) Via.refl e3 V (H d16_35) (pc' := 38) rfl (fun T4 X4 e4 => ?_)
      refine gLoadIN 39 X4 hx (H d16_38) rfl rfl ?_
      refine gLoadI 41 X4 hx (H d16_39) rfl rfl ?_
      refine gCallSH X4 hx hZ (y := mn23) hown e4 (by rw [hml]; rfl) hS (Nat.zero_le _) hEL H0 (ow hw 100 rfl) (ow hw 101 rfl) (ow hw 62 rfl) (ow hw 102 rfl) (by decide) sl0 (argsL := [(.ref t), (.int (1 : Int32)), (.int (0 : Int32))]) (st := []) (c_newString_1_1_0 l Z a0 hw t ck ch0 h0 hEL) (lenOf pd_22 rfl) (H d16_41) (pc' := 44) rfl rfl (by decide) (W := 0) (Nat.le_of_eq rfl) (by decide) (by decide) (by decide) ?_
      intro T5 v5 L5 X5 hS hZ hown C5 H5 hQ5
      obtain ⟨r5, t5, ct5, rfl, Nq5, Kq5, Eq5, Cq5, Vq5, Aq5⟩ := hQ5
      have N5 := Fr.app (Fr.nil h0.size) (fun y hy => Nat.le_trans (Nat.le_refl _) (Nq5 y hy))
      have f5_0 := E.keep Kq5
      have f5_1 := C.keep Kq5 nin0
      have f5_2 := V.keep Kq5 nin0
      have f5_3 := A.keep Kq5 nin0
      have f5_4 := own_cpt_keep hCpt Kq5 ns0
      have zs5 := Nat.le_trans (Nat.le_refl _) Kq5.1
      have K5 : Keep h0 T5.heap [] := (Keep.refl h0 []).trans Kq5 all0
      refine gGoto X5 hx (H d16_44) (pc' := 57) (by decide) (by decide) ?_
      exact gRetHA X5 hx hlk hret rfl rfl (H d16_57) rfl hS (Nat.le_refl _) hZ hEL H5 (by decide) (by decide) (⟨r5, t5, ct5, rfl, N5, K5, Eq5, Cq5, Vq5, Aq5⟩)
  · exact absurd c12 (by decide)
theorem c_sub_1_1_1o (l : Launch) (Z : State) (a0 : Array Value) (hw : ∀ d ∈ tables_1, d.before a0 Z = true) (a t : Addr) (ck : ClassId) (ch0 : Int32) (h0 : Heap) (hEL : EW Z a0 [("java/lang/String", 7), ("java/lang/StringLatin1", 151)]) (hSio : Sio Z h0) (hCpt : Cpt Z h0) (E : sE Z h0 a) (C : sC Z h0 a) (V : sV Z h0 a t) (A : sA Z h0 t ck 1 [by8 ch0]) (hch0 : rg ch0) :
    CtrH l Z [("java/lang/String", 7), ("java/lang/StringLatin1", 151)] [] mn18 jdk_42_method_91_code 2 (some (.object "java/lang/String")) [] ⟨3, 2, 4, 50⟩ #[(.ref a), (.int (1 : Int32))] h0 (SQd Z h0 0 []) := by
  refine CtrH.of (plainFor_of_name pn_4) ?_
  intro p e s m below meth c s₁ hx H hml hret hown hnm hZ hlk X0 e0 hS H0 hSafe
  refine Goes.cast (show entryFrame m _ _ = mkF m 0 #[.val (.ref a), .val (.int (1 : Int32))] [] from rfl) ?_
  refine gLoadAN 1 X0 hx (H d15_0) rfl rfl rfl ?_
  refine gLoadIN 2 X0 hx (H d15_1) rfl rfl ?_
  refine gLoadAN 3 X0 hx (H d15_2) rfl rfl rfl ?_
  refine gCallVJ X0 hx hZ (y := mn17) hown e0 (by rw [hml]; rfl) E (ow hw 39 rfl) (ow hw 40 rfl) (ow hw 42 rfl) (ow hw 41 rfl) (ow hw 10 rfl) (ow hw 43 rfl) (by decide) (argsL := []) (st := [(.int (1 : Int32)), (.ref a)]) (c_length_1 l Z a0 hw a t ck ch0 h0 hCpt E C V A hch0) (lenOf pd_1 rfl) (H d15_3) (pc' := 6) rfl rfl rfl rfl (by decide) (W := 2) (Nat.le_of_eq rfl) (by decide) (by decide) (by decide) ?_
  intro T1 X1 e1
  refine gCallVH X1 hx hZ (y := mn19) hown e1 (by rw [hml]; rfl) hS (Nat.zero_le _) hEL H0 E (ow hw 76 rfl) (ow hw 77 rfl) (ow hw 79 rfl) (ow hw 78 rfl) (ow hw 10 rfl) (ow hw 80 rfl) (by decide) sl0 (argsL := [(.int (1 : Int32)), (.int (1 : Int32))]) (st := []) (c_sub_1_1_1 l Z a0 hw a t ck ch0 h0 hEL hSio hCpt E C V A hch0) (lenOf pd_11 rfl) (H d15_6) (pc' := 9) rfl rfl (by decide) (W := 0) (Nat.le_of_eq rfl) (by decide) (by decide) (by decide) ?_
  intro T2 v2 L2 X2 hS hZ hown C2 H2 hQ2
  obtain ⟨r2, t2, ct2, rfl, Nq2, Kq2, Eq2, Cq2, Vq2, Aq2⟩ := hQ2
  have N2 := Fr.app (Fr.nil h0.size) (fun y hy => Nat.le_trans (Nat.le_refl _) (Nq2 y hy))
  have f2_0 := E.keep Kq2
  have f2_1 := C.keep Kq2 nin0
  have f2_2 := V.keep Kq2 nin0
  have f2_3 := A.keep Kq2 nin0
  have f2_4 := own_cpt_keep hCpt Kq2 ns0
  have zs2 := Nat.le_trans (Nat.le_refl _) Kq2.1
  have K2 : Keep h0 T2.heap [] := (Keep.refl h0 []).trans Kq2 all0
  exact gRetHA X2 hx hlk hret rfl rfl (H d15_9) rfl hS (Nat.le_refl _) hZ hEL H2 (by decide) (by decide) (⟨r2, t2, ct2, rfl, N2, K2, Eq2, Cq2, Vq2, Aq2⟩)
theorem c_nm_1_0 (l : Launch) (Z : State) (a0 : Array Value) (hw : ∀ d ∈ tables_1, d.before a0 Z = true) (a t : Addr) (ck : ClassId) (ch0 : Int32) (h0 : Heap) (hEL : EW Z a0 [("java/lang/String", 7), ("java/lang/StringLatin1", 151)]) (hSio : Sio Z h0) (hCpt : Cpt Z h0) (E : sE Z h0 a) (C : sC Z h0 a) (V : sV Z h0 a t) (A : sA Z h0 t ck 1 [by8 ch0]) (hch0 : rg ch0)  (dq : ch0.toInt = 47) :
    CtrH l Z [("java/lang/String", 7), ("java/lang/StringLatin1", 151)] [] mn0 prog_18_method_7_code 1 (some (.object "java/lang/String")) [] ⟨4, 2, 4, 73⟩ #[(.ref a)] h0 (SQd Z h0 0 []) := by
  refine CtrH.of (plainFor_of_name pn_0) ?_
  intro p e s m below meth c s₁ hx H hml hret hown hnm hZ hlk X0 e0 hS H0 hSafe
  refine Goes.cast (show entryFrame m _ _ = mkF m 0 #[.val (.ref a)] [] from rfl) ?_
  refine gLoadAN 1 X0 hx (H d31_0) rfl rfl rfl ?_
  refine gLoadAN 2 X0 hx (H d31_1) rfl rfl rfl ?_
  refine gBipush 4 X0 hx (v := (47 : Int32)) (H d31_2) rfl rfl ?_
  refine gCallVJ X0 hx hZ (y := mn15) hown e0 (by rw [hml]; rfl) E (ow hw 34 rfl) (ow hw 35 rfl) (ow hw 37 rfl) (ow hw 36 rfl) (ow hw 10 rfl) (ow hw 38 rfl) (by decide) (argsL := [(.int (47 : Int32))]) (st := [(.ref a)]) (c_lastIndexOf_1 l Z a0 hw a t ck ch0 h0 hCpt E C V A hch0) (lenOf pd_5 rfl) (H d31_4) (pc' := 7) rfl rfl rfl rfl (by decide) (W := 1) (Nat.le_of_eq rfl) (by decide) (by decide) (by decide) ?_
  intro T1 X1 e1
  rw [show lx1 ch0 = 0 from by rw [lx1, if_pos dq]]
  refine gIconst 8 X1 hx (v := (1 : Int32)) (H d31_7) rfl rfl ?_
  refine gIadd 9 X1 hx (H d31_8) rfl ?_
  show Goes p e below _ T1 (mkF m 9 #[.val (.ref a)] [(.int (1 : Int32)), (.ref a)])
  refine gCallVH X1 hx hZ (y := mn18) hown e1 (by rw [hml]; rfl) hS (Nat.zero_le _) hEL H0 E (ow hw 71 rfl) (ow hw 72 rfl) (ow hw 74 rfl) (ow hw 73 rfl) (ow hw 10 rfl) (ow hw 75 rfl) (by decide) sl0 (argsL := [(.int (1 : Int32))]) (st := []) (c_sub_1_1_1o l Z a0 hw a t ck ch0 h0 hEL hSio hCpt E C V A hch0) (lenOf pd_6 rfl) (H d31_9) (pc' := 12) rfl rfl (by decide) (W := 0) (Nat.le_of_eq rfl) (by decide) (by decide) (by decide) ?_
  intro T2 v2 L2 X2 hS hZ hown C2 H2 hQ2
  obtain ⟨r2, t2, ct2, rfl, Nq2, Kq2, Eq2, Cq2, Vq2, Aq2⟩ := hQ2
  have N2 := Fr.app (Fr.nil h0.size) (fun y hy => Nat.le_trans (Nat.le_refl _) (Nq2 y hy))
  have f2_0 := E.keep Kq2
  have f2_1 := C.keep Kq2 nin0
  have f2_2 := V.keep Kq2 nin0
  have f2_3 := A.keep Kq2 nin0
  have f2_4 := own_cpt_keep hCpt Kq2 ns0
  have zs2 := Nat.le_trans (Nat.le_refl _) Kq2.1
  have K2 : Keep h0 T2.heap [] := (Keep.refl h0 []).trans Kq2 all0
  exact gRetHA X2 hx hlk hret rfl rfl (H d31_12) rfl hS (Nat.le_refl _) hZ hEL H2 (by decide) (by decide) (⟨r2, t2, ct2, rfl, N2, K2, Eq2, Cq2, Vq2, Aq2⟩)
def lx2 (ch0 ch1 : Int32) : Int32 := if ch1.toInt = 47 then 1 else if ch0.toInt = 47 then 0 else (-1)
theorem c_min_1_1 (l : Launch) (Z : State) (a0 : Array Value) (hw : ∀ d ∈ tables_1, d.before a0 Z = true)  (h0 : Heap)  :
    Ctr l Z mn5 jdk_29_method_69_code 2 (some .int) [] ⟨0, 0, 0, 0⟩ #[(.int (1 : Int32)), (.int (1 : Int32))] h0 (Just h0 (.int (1))) := by
  refine Ctr.of (Jvm.Free.JP.mathPlain rfl (by decide +kernel)) ?_
  intro p e s m below meth c s₁ hx H hml hret hown hnm hZ hlk X0 e0
  refine Goes.cast (show entryFrame m _ _ = mkF m 0 #[.val (.int (1 : Int32)), .val (.int (1 : Int32))] [] from rfl) ?_
  refine gLoadIN 1 X0 hx (H d1_0) rfl rfl ?_
  refine gLoadIN 2 X0 hx (H d1_1) rfl rfl ?_
  refine gIcmpGt X0 hx (H d1_2) (pc' := 9) (by decide) (by decide) (pn := 5) rfl (fun (c2 : (1 : Int) < (1 : Int)) => ?_) (fun (c2 : (1 : Int) ≤ (1 : Int)) => ?_)
  · exact absurd c2 (by decide)
  · refine gLoadIN 6 X0 hx (H d1_5) rfl rfl ?_
    refine gGoto X0 hx (H d1_6) (pc' := 10) (by decide) (by decide) ?_
    exact gRetI X0 hx hlk hret (H d1_10) (by decide) (by decide) (⟨rfl, e0, rfl⟩)
theorem c_lastIndexOf_2l (l : Launch) (Z : State) (a0 : Array Value) (hw : ∀ d ∈ tables_1, d.before a0 Z = true) (t : Addr) (ck : ClassId) (ch0 ch1 : Int32) (h0 : Heap) (A : sA Z h0 t ck 2 [by8 ch0, by8 ch1]) (hch0 : rg ch0) (hch1 : rg ch1) :
    Ctr l Z mn22 jdk_43_method_27_code 4 (some .int) [] ⟨1, 0, 0, 24⟩ #[(.ref t), (.int (47 : Int32)), (.int (1 : Int32))] h0 (Just h0 (.int (lx2 ch0 ch1))) := by
  refine Ctr.of (plainFor_of_name pn_5) ?_
  intro p e s m below meth c s₁ hx H hml hret hown hnm hZ hlk X0 e0
  refine Goes.cast (show entryFrame m _ _ = mkF m 0 #[.val (.ref t), .val (.int (47 : Int32)), .val (.int (1 : Int32)), .unset] [] from rfl) ?_
  refine gLoadIN 1 X0 hx (H d17_0) rfl rfl ?_
  refine gCallSJ X0 hx hZ (y := mn20) hown e0 (by rw [hml]; rfl) (ow hw 64 rfl) (ow hw 65 rfl) (ow hw 62 rfl) (ow hw 66 rfl) (by decide) (argsL := [(.int (47 : Int32))]) (st := []) (c_canI_47 l Z a0 hw h0) (lenOf pd_7 rfl) (H d17_1) (pc' := 4) rfl rfl rfl rfl (by decide) (W := 0) (Nat.le_of_eq rfl) (by decide) (by decide) (by decide) ?_
  intro T1 X1 e1
  refine gIfNeT X1 hx (H d17_4) (pc' := 9) (by decide) (by decide) (pn := 7) rfl (fun (c4 : ¬ (1 : Int) = (0 : Int)) => ?_) (fun (c4 : (1 : Int) = (0 : Int)) => ?_)
  · refine gLoadIN 10 X1 hx (H d17_9) rfl rfl ?_
    refine gLoadAN 11 X1 hx (H d17_10) rfl rfl rfl ?_
    refine gArrLen X1 hx hZ e1 A (H d17_11) (pc' := 12) rfl ?_
    refine gIconst 13 X1 hx (v := (1 : Int32)) (H d17_12) rfl rfl ?_
    refine gIsub 14 X1 hx (H d17_13) rfl ?_
    show Goes p e below _ T1 (mkF m 14 #[.val (.ref t), .val (.int (47 : Int32)), .val (.int (1 : Int32)), .unset] [(.int (1 : Int32)), (.int (1 : Int32))])
    refine gCallSJ X1 hx hZ (y := mn5) hown e1 (by rw [hml]; rfl) (ow hw 67 rfl) (ow hw 68 rfl) (ow hw 69 rfl) (ow hw 70 rfl) (by decide) (argsL := [(.int (1 : Int32)), (.int (1 : Int32))]) (st := []) (c_min_1_1 l Z a0 hw h0) (lenOf pd_10 rfl) (H d17_14) (pc' := 17) rfl rfl rfl rfl (by decide) (W := 0) (Nat.le_of_eq rfl) (by decide) (by decide) (by decide) ?_
    intro T2 X2 e2
    refine gStoreIN 18 X2 hx (H d17_17) (l' := #[.val (.ref t), .val (.int (47 : Int32)), .val (.int (1 : Int32)), .val (.int (1 : Int32))]) rfl rfl ?_
    refine gLoadIN 19 X2 hx (H d17_18) rfl rfl ?_
    refine gIfLt X2 hx (H d17_19) (pc' := 38) (by decide) (by decide) (pn := 22) rfl (fun (c19 : (1 : Int) < (0 : Int)) => ?_) (fun (c19 : (0 : Int) ≤ (1 : Int)) => ?_)
    · exact absurd c19 (by decide)
    · refine gLoadAN 23 X2 hx (H d17_22) rfl rfl rfl ?_
      refine gLoadIN 24 X2 hx (H d17_23) rfl rfl ?_
      refine gBaload X2 hx hZ e2 A (j := (1 : Int32)) (v := (.int (ch1.toInt8.toInt32))) (by decide) (by decide) rfl (H d17_24) (pc' := 25) rfl ?_
      refine gLoadIN 26 X2 hx (H d17_25) rfl rfl ?_
      refine gI2b 27 X2 hx (H d17_26) rfl ?_
      show Goes p e below _ T2 (mkF m 27 #[.val (.ref t), .val (.int (47 : Int32)), .val (.int (1 : Int32)), .val (.int (1 : Int32))] [(.int (47 : Int32)), (.int (ch1.toInt8.toInt32))])
      refine gIcmpNeT X2 hx (H d17_27) (pc' := 32) (by decide) (by decide) (pn := 30) rfl (fun (c27 : ¬ (ch1.toInt8.toInt32).toInt = (47 : Int)) => ?_) (fun (c27 : (ch1.toInt8.toInt32).toInt = (47 : Int)) => ?_)
      · refine gIinc X2 hx (v := (-1 : Int32)) (H d17_32) (l' := #[.val (.ref t), .val (.int (47 : Int32)), .val (.int (1 : Int32)), .val (.int (0 : Int32))]) (pc' := 35) rfl rfl rfl rfl ?_
        refine gGoto X2 hx (H d17_35) (pc' := 18) (by decide) (by decide) ?_
        refine gLoadIN 19 X2 hx (H d17_18) rfl rfl ?_
        refine gIfLt X2 hx (H d17_19) (pc' := 38) (by decide) (by decide) (pn := 22) rfl (fun (c19' : (0 : Int) < (0 : Int)) => ?_) (fun (c19' : (0 : Int) ≤ (0 : Int)) => ?_)
        · exact absurd c19' (by decide)
        · refine gLoadAN 23 X2 hx (H d17_22) rfl rfl rfl ?_
          refine gLoadIN 24 X2 hx (H d17_23) rfl rfl ?_
          refine gBaload X2 hx hZ e2 A (j := (0 : Int32)) (v := (.int (ch0.toInt8.toInt32))) (by decide) (by decide) rfl (H d17_24) (pc' := 25) rfl ?_
          refine gLoadIN 26 X2 hx (H d17_25) rfl rfl ?_
          refine gI2b 27 X2 hx (H d17_26) rfl ?_
          show Goes p e below _ T2 (mkF m 27 #[.val (.ref t), .val (.int (47 : Int32)), .val (.int (1 : Int32)), .val (.int (0 : Int32))] [(.int (47 : Int32)), (.int (ch0.toInt8.toInt32))])
          refine gIcmpNeT X2 hx (H d17_27) (pc' := 32) (by decide) (by decide) (pn := 30) rfl (fun (c27' : ¬ (ch0.toInt8.toInt32).toInt = (47 : Int)) => ?_) (fun (c27' : (ch0.toInt8.toInt32).toInt = (47 : Int)) => ?_)
          · refine gIinc X2 hx (v := (-1 : Int32)) (H d17_32) (l' := #[.val (.ref t), .val (.int (47 : Int32)), .val (.int (1 : Int32)), .val (.int (-1 : Int32))]) (pc' := 35) rfl rfl rfl rfl ?_
            refine gGoto X2 hx (H d17_35) (pc' := 18) (by decide) (by decide) ?_
            refine gLoadIN 19 X2 hx (H d17_18) rfl rfl ?_
            refine gIfLt X2 hx (H d17_19) (pc' := 38) (by decide) (by decide) (pn := 22) rfl (fun (c19'' : (-1 : Int) < (0 : Int)) => ?_) (fun (c19'' : (0 : Int) ≤ (-1 : Int)) => ?_)
            · refine gIconst 39 X2 hx (v := (-1 : Int32)) (H d17_38) rfl rfl ?_
              exact gRetI X2 hx hlk hret (H d17_39) (by decide) (by decide) (⟨by rw [lx2, if_neg (fun z => c27 ((own_beq hch1 (by decide)).mpr z)), if_neg (fun z => c27' ((own_beq hch0 (by decide)).mpr z))], e2, rfl⟩)
            · exact absurd c19'' (by decide)
          · refine gLoadIN 31 X2 hx (H d17_30) rfl rfl ?_
            exact gRetI X2 hx hlk hret (H d17_31) (by decide) (by decide) (⟨by rw [lx2, if_neg (fun z => c27 ((own_beq hch1 (by decide)).mpr z)), if_pos ((own_beq hch0 (by decide)).mp c27')], e2, rfl⟩)
      · refine gLoadIN 31 X2 hx (H d17_30) rfl rfl ?_
        exact gRetI X2 hx hlk hret (H d17_31) (by decide) (by decide) (⟨by rw [lx2, if_pos ((own_beq hch1 (by decide)).mp c27)], e2, rfl⟩)
  · exact absurd c4 (by decide)
theorem c_length_2 (l : Launch) (Z : State) (a0 : Array Value) (hw : ∀ d ∈ tables_1, d.before a0 Z = true) (a t : Addr) (ck : ClassId) (ch0 ch1 : Int32) (h0 : Heap) (hCpt : Cpt Z h0) (E : sE Z h0 a) (C : sC Z h0 a) (V : sV Z h0 a t) (A : sA Z h0 t ck 2 [by8 ch0, by8 ch1]) (hch0 : rg ch0) (hch1 : rg ch1) :
    Ctr l Z mn17 jdk_42_method_54_code 1 (some .int) [] ⟨1, 0, 0, 13⟩ #[(.ref a)] h0 (Just h0 (.int 2)) := by
  refine Ctr.of (plainFor_of_name pn_4) ?_
  intro p e s m below meth c s₁ hx H hml hret hown hnm hZ hlk X0 e0
  refine Goes.cast (show entryFrame m _ _ = mkF m 0 #[.val (.ref a)] [] from rfl) ?_
  refine gLoadAN 1 X0 hx (H d11_0) rfl rfl rfl ?_
  refine gGetF X0 hx hZ hown (ow hw 28 rfl) Via.refl e0 V (H d11_1) (pc' := 4) rfl (fun T1 X1 e1 => ?_)
  refine gArrLen X1 hx hZ e1 A (H d11_4) (pc' := 5) rfl ?_
  refine gLoadAN 6 X1 hx (H d11_5) rfl rfl rfl ?_
  refine gCallVJ X1 hx hZ (y := mn13) hown e1 (by rw [hml]; rfl) E (ow hw 44 rfl) (ow hw 45 rfl) (ow hw 47 rfl) (ow hw 46 rfl) (ow hw 10 rfl) (ow hw 48 rfl) (by decide) (argsL := []) (st := [(.int (2 : Int32))]) (c_coder l Z a0 hw a h0 hCpt C) (lenOf pd_0 rfl) (H d11_6) (pc' := 9) rfl rfl rfl rfl (by decide) (W := 1) (Nat.le_of_eq rfl) (by decide) (by decide) (by decide) ?_
  intro T2 X2 e2
  refine gIshr 10 X2 hx (H d11_9) rfl ?_
  show Goes p e below _ T2 (mkF m 10 #[.val (.ref a)] [(.int (2 : Int32))])
  exact gRetI X2 hx hlk hret (H d11_10) (by decide) (by decide) (⟨rfl, e2, rfl⟩)
theorem c_lastIndexOf_22 (l : Launch) (Z : State) (a0 : Array Value) (hw : ∀ d ∈ tables_1, d.before a0 Z = true) (a t : Addr) (ck : ClassId) (ch0 ch1 : Int32) (h0 : Heap) (hCpt : Cpt Z h0) (E : sE Z h0 a) (C : sC Z h0 a) (V : sV Z h0 a t) (A : sA Z h0 t ck 2 [by8 ch0, by8 ch1]) (hch0 : rg ch0) (hch1 : rg ch1) :
    Ctr l Z mn16 jdk_42_method_83_code 3 (some .int) [] ⟨2, 0, 0, 42⟩ #[(.ref a), (.int (47 : Int32)), (.int (1 : Int32))] h0 (Just h0 (.int (lx2 ch0 ch1))) := by
  refine Ctr.of (plainFor_of_name pn_4) ?_
  intro p e s m below meth c s₁ hx H hml hret hown hnm hZ hlk X0 e0
  refine Goes.cast (show entryFrame m _ _ = mkF m 0 #[.val (.ref a), .val (.int (47 : Int32)), .val (.int (1 : Int32))] [] from rfl) ?_
  refine gLoadAN 1 X0 hx (H d14_0) rfl rfl rfl ?_
  refine gCallVJ X0 hx hZ (y := mn14) hown e0 (by rw [hml]; rfl) E (ow hw 55 rfl) (ow hw 56 rfl) (ow hw 58 rfl) (ow hw 57 rfl) (ow hw 10 rfl) (ow hw 59 rfl) (by decide) (argsL := []) (st := []) (c_isLatin1 l Z a0 hw a h0 hCpt C) (lenOf pd_3 rfl) (H d14_1) (pc' := 4) rfl rfl rfl rfl (by decide) (W := 0) (Nat.le_of_eq rfl) (by decide) (by decide) (by decide) ?_
  intro T1 X1 e1
  refine gIfEqT X1 hx (H d14_4) (pc' := 19) (by decide) (by decide) (pn := 7) rfl (fun (c4 : (1 : Int) = (0 : Int)) => ?_) (fun (c4 : ¬ (1 : Int) = (0 : Int)) => ?_)
  · exact absurd c4 (by decide)
  · refine gLoadAN 8 X1 hx (H d14_7) rfl rfl rfl ?_
    refine gGetF X1 hx hZ hown (ow hw 28 rfl) Via.refl e1 V (H d14_8) (pc' := 11) rfl (fun T2 X2 e2 => ?_)
    refine gLoadIN 12 X2 hx (H d14_11) rfl rfl ?_
    refine gLoadIN 13 X2 hx (H d14_12) rfl rfl ?_
    refine gCallSJ X2 hx hZ (y := mn22) hown e2 (by rw [hml]; rfl) (ow hw 60 rfl) (ow hw 61 rfl) (ow hw 62 rfl) (ow hw 63 rfl) (by decide) (argsL := [(.ref t), (.int (47 : Int32)), (.int (1 : Int32))]) (st := []) (c_lastIndexOf_2l l Z a0 hw t ck ch0 ch1 h0 A hch0 hch1) (lenOf pd_21 rfl) (H d14_13) (pc' := 16) rfl rfl rfl rfl (by decide) (W := 0) (Nat.le_of_eq rfl) (by decide) (by decide) (by decide) ?_
    intro T3 X3 e3
    refine gGoto X3 hx (H d14_16) (pc' := 28) (by decide) (by decide) ?_
    exact gRetI X3 hx hlk hret (H d14_28) (by decide) (by decide) (⟨rfl, e3, rfl⟩)
theorem c_lastIndexOf_2 (l : Launch) (Z : State) (a0 : Array Value) (hw : ∀ d ∈ tables_1, d.before a0 Z = true) (a t : Addr) (ck : ClassId) (ch0 ch1 : Int32) (h0 : Heap) (hCpt : Cpt Z h0) (E : sE Z h0 a) (C : sC Z h0 a) (V : sV Z h0 a t) (A : sA Z h0 t ck 2 [by8 ch0, by8 ch1]) (hch0 : rg ch0) (hch1 : rg ch1) :
    Ctr l Z mn15 jdk_42_method_82_code 2 (some .int) [] ⟨3, 0, 0, 58⟩ #[(.ref a), (.int (47 : Int32))] h0 (Just h0 (.int (lx2 ch0 ch1))) := by
  refine Ctr.of (plainFor_of_name pn_4) ?_
  intro p e s m below meth c s₁ hx H hml hret hown hnm hZ hlk X0 e0
  refine Goes.cast (show entryFrame m _ _ = mkF m 0 #[.val (.ref a), .val (.int (47 : Int32))] [] from rfl) ?_
  refine gLoadAN 1 X0 hx (H d13_0) rfl rfl rfl ?_
  refine gLoadIN 2 X0 hx (H d13_1) rfl rfl ?_
  refine gLoadAN 3 X0 hx (H d13_2) rfl rfl rfl ?_
  refine gCallVJ X0 hx hZ (y := mn17) hown e0 (by rw [hml]; rfl) E (ow hw 39 rfl) (ow hw 40 rfl) (ow hw 42 rfl) (ow hw 41 rfl) (ow hw 10 rfl) (ow hw 43 rfl) (by decide) (argsL := []) (st := [(.int (47 : Int32)), (.ref a)]) (c_length_2 l Z a0 hw a t ck ch0 ch1 h0 hCpt E C V A hch0 hch1) (lenOf pd_1 rfl) (H d13_3) (pc' := 6) rfl rfl rfl rfl (by decide) (W := 2) (Nat.le_of_eq rfl) (by decide) (by decide) (by decide) ?_
  intro T1 X1 e1
  refine gIconst 7 X1 hx (v := (1 : Int32)) (H d13_6) rfl rfl ?_
  refine gIsub 8 X1 hx (H d13_7) rfl ?_
  show Goes p e below _ T1 (mkF m 8 #[.val (.ref a), .val (.int (47 : Int32))] [(.int (1 : Int32)), (.int (47 : Int32)), (.ref a)])
  refine gCallVJ X1 hx hZ (y := mn16) hown e1 (by rw [hml]; rfl) E (ow hw 50 rfl) (ow hw 51 rfl) (ow hw 53 rfl) (ow hw 52 rfl) (ow hw 10 rfl) (ow hw 54 rfl) (by decide) (argsL := [(.int (47 : Int32)), (.int (1 : Int32))]) (st := []) (c_lastIndexOf_22 l Z a0 hw a t ck ch0 ch1 h0 hCpt E C V A hch0 hch1) (lenOf pd_10 rfl) (H d13_8) (pc' := 11) rfl rfl rfl rfl (by decide) (W := 0) (Nat.le_of_eq rfl) (by decide) (by decide) (by decide) ?_
  intro T2 X2 e2
  exact gRetI X2 hx hlk hret (H d13_11) (by decide) (by decide) (⟨rfl, e2, rfl⟩)
theorem c_sub_2_0_2 (l : Launch) (Z : State) (a0 : Array Value) (hw : ∀ d ∈ tables_1, d.before a0 Z = true) (a t : Addr) (ck : ClassId) (ch0 ch1 : Int32) (h0 : Heap) (hSio : Sio Z h0) (hCpt : Cpt Z h0) (E : sE Z h0 a) (C : sC Z h0 a) (V : sV Z h0 a t) (A : sA Z h0 t ck 2 [by8 ch0, by8 ch1]) (hch0 : rg ch0) (hch1 : rg ch1) :
    Ctr l Z mn19 jdk_42_method_92_code 5 (some (.object "java/lang/String")) [] ⟨2, 0, 0, 30⟩ #[(.ref a), (.int (0 : Int32)), (.int (2 : Int32))] h0 (Just h0 (.ref a)) := by
  refine Ctr.of (plainFor_of_name pn_4) ?_
  intro p e s m below meth c s₁ hx H hml hret hown hnm hZ hlk X0 e0
  refine Goes.cast (show entryFrame m _ _ = mkF m 0 #[.val (.ref a), .val (.int (0 : Int32)), .val (.int (2 : Int32)), .unset, .unset] [] from rfl) ?_
  refine gLoadAN 1 X0 hx (H d16_0) rfl rfl rfl ?_
  refine gCallVJ X0 hx hZ (y := mn17) hown e0 (by rw [hml]; rfl) E (ow hw 39 rfl) (ow hw 40 rfl) (ow hw 42 rfl) (ow hw 41 rfl) (ow hw 10 rfl) (ow hw 43 rfl) (by decide) (argsL := []) (st := []) (c_length_2 l Z a0 hw a t ck ch0 ch1 h0 hCpt E C V A hch0 hch1) (lenOf pd_1 rfl) (H d16_1) (pc' := 4) rfl rfl rfl rfl (by decide) (W := 0) (Nat.le_of_eq rfl) (by decide) (by decide) (by decide) ?_
  intro T1 X1 e1
  refine gStoreIN 5 X1 hx (H d16_4) (l' := #[.val (.ref a), .val (.int (0 : Int32)), .val (.int (2 : Int32)), .val (.int (2 : Int32)), .unset]) rfl rfl ?_
  refine gLoadIN 6 X1 hx (H d16_5) rfl rfl ?_
  refine gLoadIN 7 X1 hx (H d16_6) rfl rfl ?_
  refine gLoadIN 8 X1 hx (H d16_7) rfl rfl ?_
  refine gCallS X1 hx hZ (y := mn11) hown e1 (by rw [hml]; rfl) (ow hw 81 rfl) (ow hw 82 rfl) (ow hw 10 rfl) (ow hw 83 rfl) (by decide) (argsL := [(.int (0 : Int32)), (.int (2 : Int32)), (.int (2 : Int32))]) (st := []) (c_chkft l Z a0 hw (0 : Int32) (2 : Int32) (2 : Int32) h0 (by decide) (by decide) (by decide) hSio) (lenOf pd_13 rfl) (H d16_8) (pc' := 11) rfl rfl (by decide) (W := 0) (Nat.le_of_eq rfl) (by decide) (by decide) (by decide) ?_
  intro T2 v2 L2 X2 hQ2
  obtain ⟨rfl, eq2, rfl⟩ := hQ2
  rw [List.append_nil] at X2
  refine gLoadIN 12 X2 hx (H d16_11) rfl rfl ?_
  refine gIfNeT X2 hx (H d16_12) (pc' := 22) (by decide) (by decide) (pn := 15) rfl (fun (c12 : ¬ (0 : Int) = (0 : Int)) => ?_) (fun (c12 : (0 : Int) = (0 : Int)) => ?_)
  · exact absurd c12 (by decide)
  · refine gLoadIN 16 X2 hx (H d16_15) rfl rfl ?_
    refine gLoadIN 17 X2 hx (H d16_16) rfl rfl ?_
    refine gIcmpNeT X2 hx (H d16_17) (pc' := 22) (by decide) (by decide) (pn := 20) rfl (fun (c17 : ¬ (2 : Int) = (2 : Int)) => ?_) (fun (c17 : (2 : Int) = (2 : Int)) => ?_)
    · exact absurd c17 (by decide)
    · refine gLoadAN 21 X2 hx (H d16_20) rfl rfl rfl ?_
      exact gRetA X2 hx hlk hret rfl rfl (H d16_21) (by decide) (by decide) (⟨rfl, eq2, rfl⟩)
theorem c_sub_2_0_2o (l : Launch) (Z : State) (a0 : Array Value) (hw : ∀ d ∈ tables_1, d.before a0 Z = true) (a t : Addr) (ck : ClassId) (ch0 ch1 : Int32) (h0 : Heap) (hSio : Sio Z h0) (hCpt : Cpt Z h0) (E : sE Z h0 a) (C : sC Z h0 a) (V : sV Z h0 a t) (A : sA Z h0 t ck 2 [by8 ch0, by8 ch1]) (hch0 : rg ch0) (hch1 : rg ch1) :
    Ctr l Z mn18 jdk_42_method_91_code 2 (some (.object "java/lang/String")) [] ⟨3, 0, 0, 50⟩ #[(.ref a), (.int (0 : Int32))] h0 (Just h0 (.ref a)) := by
  refine Ctr.of (plainFor_of_name pn_4) ?_
  intro p e s m below meth c s₁ hx H hml hret hown hnm hZ hlk X0 e0
  refine Goes.cast (show entryFrame m _ _ = mkF m 0 #[.val (.ref a), .val (.int (0 : Int32))] [] from rfl) ?_
  refine gLoadAN 1 X0 hx (H d15_0) rfl rfl rfl ?_
  refine gLoadIN 2 X0 hx (H d15_1) rfl rfl ?_
  refine gLoadAN 3 X0 hx (H d15_2) rfl rfl rfl ?_
  refine gCallVJ X0 hx hZ (y := mn17) hown e0 (by rw [hml]; rfl) E (ow hw 39 rfl) (ow hw 40 rfl) (ow hw 42 rfl) (ow hw 41 rfl) (ow hw 10 rfl) (ow hw 43 rfl) (by decide) (argsL := []) (st := [(.int (0 : Int32)), (.ref a)]) (c_length_2 l Z a0 hw a t ck ch0 ch1 h0 hCpt E C V A hch0 hch1) (lenOf pd_1 rfl) (H d15_3) (pc' := 6) rfl rfl rfl rfl (by decide) (W := 2) (Nat.le_of_eq rfl) (by decide) (by decide) (by decide) ?_
  intro T1 X1 e1
  refine gCallVJ X1 hx hZ (y := mn19) hown e1 (by rw [hml]; rfl) E (ow hw 76 rfl) (ow hw 77 rfl) (ow hw 79 rfl) (ow hw 78 rfl) (ow hw 10 rfl) (ow hw 80 rfl) (by decide) (argsL := [(.int (0 : Int32)), (.int (2 : Int32))]) (st := []) (c_sub_2_0_2 l Z a0 hw a t ck ch0 ch1 h0 hSio hCpt E C V A hch0 hch1) (lenOf pd_11 rfl) (H d15_6) (pc' := 9) rfl rfl rfl rfl (by decide) (W := 0) (Nat.le_of_eq rfl) (by decide) (by decide) (by decide) ?_
  intro T2 X2 e2
  exact gRetA X2 hx hlk hret rfl rfl (H d15_9) (by decide) (by decide) (⟨rfl, e2, rfl⟩)
theorem c_nm_2_m (l : Launch) (Z : State) (a0 : Array Value) (hw : ∀ d ∈ tables_1, d.before a0 Z = true) (a t : Addr) (ck : ClassId) (ch0 ch1 : Int32) (h0 : Heap) (hSio : Sio Z h0) (hCpt : Cpt Z h0) (E : sE Z h0 a) (C : sC Z h0 a) (V : sV Z h0 a t) (A : sA Z h0 t ck 2 [by8 ch0, by8 ch1]) (hch0 : rg ch0) (hch1 : rg ch1) (d0 : ¬ ch0.toInt = 47) (d1 : ¬ ch1.toInt = 47) :
    Ctr l Z mn0 prog_18_method_7_code 1 (some (.object "java/lang/String")) [] ⟨4, 0, 0, 73⟩ #[(.ref a)] h0 (Just h0 (.ref a)) := by
  refine Ctr.of (plainFor_of_name pn_0) ?_
  intro p e s m below meth c s₁ hx H hml hret hown hnm hZ hlk X0 e0
  refine Goes.cast (show entryFrame m _ _ = mkF m 0 #[.val (.ref a)] [] from rfl) ?_
  refine gLoadAN 1 X0 hx (H d31_0) rfl rfl rfl ?_
  refine gLoadAN 2 X0 hx (H d31_1) rfl rfl rfl ?_
  refine gBipush 4 X0 hx (v := (47 : Int32)) (H d31_2) rfl rfl ?_
  refine gCallVJ X0 hx hZ (y := mn15) hown e0 (by rw [hml]; rfl) E (ow hw 34 rfl) (ow hw 35 rfl) (ow hw 37 rfl) (ow hw 36 rfl) (ow hw 10 rfl) (ow hw 38 rfl) (by decide) (argsL := [(.int (47 : Int32))]) (st := [(.ref a)]) (c_lastIndexOf_2 l Z a0 hw a t ck ch0 ch1 h0 hCpt E C V A hch0 hch1) (lenOf pd_5 rfl) (H d31_4) (pc' := 7) rfl rfl rfl rfl (by decide) (W := 1) (Nat.le_of_eq rfl) (by decide) (by decide) (by decide) ?_
  intro T1 X1 e1
  rw [show lx2 ch0 ch1 = -1 from by rw [lx2, if_neg d1, if_neg d0]]
  refine gIconst 8 X1 hx (v := (1 : Int32)) (H d31_7) rfl rfl ?_
  refine gIadd 9 X1 hx (H d31_8) rfl ?_
  show Goes p e below _ T1 (mkF m 9 #[.val (.ref a)] [(.int (0 : Int32)), (.ref a)])
  refine gCallVJ X1 hx hZ (y := mn18) hown e1 (by rw [hml]; rfl) E (ow hw 71 rfl) (ow hw 72 rfl) (ow hw 74 rfl) (ow hw 73 rfl) (ow hw 10 rfl) (ow hw 75 rfl) (by decide) (argsL := [(.int (0 : Int32))]) (st := []) (c_sub_2_0_2o l Z a0 hw a t ck ch0 ch1 h0 hSio hCpt E C V A hch0 hch1) (lenOf pd_6 rfl) (H d31_9) (pc' := 12) rfl rfl rfl rfl (by decide) (W := 0) (Nat.le_of_eq rfl) (by decide) (by decide) (by decide) ?_
  intro T2 X2 e2
  exact gRetA X2 hx hlk hret rfl rfl (H d31_12) (by decide) (by decide) (⟨rfl, e2, rfl⟩)
theorem d24_0 : decode jdk_65_method_131_code 0 = .ok (.iload_n 1, 1) := by decide +kernel
theorem d24_1 : decode jdk_65_method_131_code 1 = .ok (.iload_n 0, 1) := by decide +kernel
theorem d24_2 : decode jdk_65_method_131_code 2 = .ok (.if_icmp .ge 35, 3) := by decide +kernel
theorem d24_37 : decode jdk_65_method_131_code 37 = .ok (.return_, 1) := by decide +kernel
abbrev mn28 : MethodName := ⟨"java/util/Arrays", "checkLength", "(II)V"⟩
theorem pn_7 : plainName "java/util/Arrays" = true := by first | (simp [plainName, overriddenIn]; done) | decide +kernel
theorem c_clen_1_2 (l : Launch) (Z : State) (a0 : Array Value) (hw : ∀ d ∈ tables_1, d.before a0 Z = true)  (h0 : Heap)  :
    Ctr l Z mn28 jdk_65_method_131_code 2 none [] ⟨0, 0, 0, 0⟩ #[(.int (1 : Int32)), (.int (2 : Int32))] h0 (fun v h L => v = none ∧ h = h0 ∧ L = []) := by
  refine Ctr.of (plainFor_of_name pn_7) ?_
  intro p e s m below meth c s₁ hx H hml hret hown hnm hZ hlk X0 e0
  refine Goes.cast (show entryFrame m _ _ = mkF m 0 #[.val (.int (1 : Int32)), .val (.int (2 : Int32))] [] from rfl) ?_
  refine gLoadIN 1 X0 hx (H d24_0) rfl rfl ?_
  refine gLoadIN 2 X0 hx (H d24_1) rfl rfl ?_
  refine gIcmpGe X0 hx (H d24_2) (pc' := 37) (by decide) (by decide) (pn := 5) rfl (fun (c2 : (1 : Int) ≤ (2 : Int)) => ?_) (fun (c2 : (2 : Int) < (1 : Int)) => ?_)
  · exact gRetV X0 hx hlk hret (H d24_37) (by decide) (by decide) (⟨rfl, e0, rfl⟩)
  · exact absurd c2 (by decide)
theorem d26_0 : decode jdk_65_method_133_code 0 = .ok (.iload_n 1, 1) := by decide +kernel
theorem d26_1 : decode jdk_65_method_133_code 1 = .ok (.iload_n 2, 1) := by decide +kernel
theorem d26_2 : decode jdk_65_method_133_code 2 = .ok (.invokestatic 343, 3) := by decide +kernel
theorem pd_12 : parseMethodDescriptor "(II)V" = some ⟨[.int, .int], none⟩ := by decide +kernel
theorem d26_5 : decode jdk_65_method_133_code 5 = .ok (.iload_n 2, 1) := by decide +kernel
theorem d26_6 : decode jdk_65_method_133_code 6 = .ok (.iload_n 1, 1) := by decide +kernel
theorem d26_7 : decode jdk_65_method_133_code 7 = .ok (.isub, 1) := by decide +kernel
theorem d26_8 : decode jdk_65_method_133_code 8 = .ok (.istore_n 3, 1) := by decide +kernel
theorem d26_9 : decode jdk_65_method_133_code 9 = .ok (.iload_n 3, 1) := by decide +kernel
theorem d26_10 : decode jdk_65_method_133_code 10 = .ok (.newarray .byte, 2) := by decide +kernel
theorem d26_12 : decode jdk_65_method_133_code 12 = .ok (.astore 4, 2) := by decide +kernel
theorem d26_14 : decode jdk_65_method_133_code 14 = .ok (.aload_n 0, 1) := by decide +kernel
theorem d26_15 : decode jdk_65_method_133_code 15 = .ok (.iload_n 1, 1) := by decide +kernel
theorem d26_16 : decode jdk_65_method_133_code 16 = .ok (.aload 4, 2) := by decide +kernel
theorem d26_18 : decode jdk_65_method_133_code 18 = .ok (.iconst 0, 1) := by decide +kernel
theorem d26_19 : decode jdk_65_method_133_code 19 = .ok (.aload_n 0, 1) := by decide +kernel
theorem d26_20 : decode jdk_65_method_133_code 20 = .ok (.arraylength, 1) := by decide +kernel
theorem d26_21 : decode jdk_65_method_133_code 21 = .ok (.iload_n 1, 1) := by decide +kernel
theorem d26_22 : decode jdk_65_method_133_code 22 = .ok (.isub, 1) := by decide +kernel
theorem d26_23 : decode jdk_65_method_133_code 23 = .ok (.iload_n 3, 1) := by decide +kernel
theorem d26_24 : decode jdk_65_method_133_code 24 = .ok (.invokestatic 304, 3) := by decide +kernel
theorem d26_27 : decode jdk_65_method_133_code 27 = .ok (.invokestatic 150, 3) := by decide +kernel
theorem d26_30 : decode jdk_65_method_133_code 30 = .ok (.aload 4, 2) := by decide +kernel
theorem d26_32 : decode jdk_65_method_133_code 32 = .ok (.areturn, 1) := by decide +kernel
abbrev mn30 : MethodName := ⟨"java/util/Arrays", "copyOfRangeByte", "([BII)[B"⟩
theorem c_cor_2_1_2b (l : Launch) (Z : State) (a0 : Array Value) (hw : ∀ d ∈ tables_1, d.before a0 Z = true) (t : Addr) (ck : ClassId) (ch0 ch1 : Int32) (h0 : Heap) (A : sA Z h0 t ck 2 [by8 ch0, by8 ch1]) :
    Ctr l Z mn30 jdk_65_method_133_code 5 (some (.array .byte)) [] ⟨1, 1, 1, 24⟩ #[(.ref t), (.int (1 : Int32)), (.int (2 : Int32))] h0 (fun v h L => ∃ (b : Addr) (ct : ClassId), v = some (.ref b) ∧ h0.size ≤ b ∧ Fr h0.size L ∧ Keep h0 h [] ∧ sA Z h b ct 1 [by8 ch1]) := by
  refine Ctr.of (plainFor_of_name pn_7) ?_
  intro p e s m below meth c s₁ hx H hml hret hown hnm hZ hlk X0 e0
  refine Goes.cast (show entryFrame m _ _ = mkF m 0 #[.val (.ref t), .val (.int (1 : Int32)), .val (.int (2 : Int32)), .unset, .unset] [] from rfl) ?_
  refine gLoadIN 1 X0 hx (H d26_0) rfl rfl ?_
  refine gLoadIN 2 X0 hx (H d26_1) rfl rfl ?_
  refine gCallS X0 hx hZ (y := mn28) hown e0 (by rw [hml]; rfl) (ow hw 111 rfl) (ow hw 112 rfl) (ow hw 106 rfl) (ow hw 113 rfl) (by decide) (argsL := [(.int (1 : Int32)), (.int (2 : Int32))]) (st := []) (c_clen_1_2 l Z a0 hw h0) (lenOf pd_12 rfl) (H d26_2) (pc' := 5) rfl rfl (by decide) (W := 0) (Nat.le_of_eq rfl) (by decide) (by decide) (by decide) ?_
  intro T1 v1 L1 X1 hQ1
  obtain ⟨rfl, eq1, rfl⟩ := hQ1
  rw [List.append_nil] at X1
  refine gLoadIN 6 X1 hx (H d26_5) rfl rfl ?_
  refine gLoadIN 7 X1 hx (H d26_6) rfl rfl ?_
  refine gIsub 8 X1 hx (H d26_7) rfl ?_
  show Goes p e below _ T1 (mkF m 8 #[.val (.ref t), .val (.int (1 : Int32)), .val (.int (2 : Int32)), .unset, .unset] [(.int (1 : Int32))])
  refine gStoreIN 9 X1 hx (H d26_8) (l' := #[.val (.ref t), .val (.int (1 : Int32)), .val (.int (2 : Int32)), .val (.int (1 : Int32)), .unset]) rfl rfl ?_
  refine gLoadIN 10 X1 hx (H d26_9) rfl rfl ?_
  refine gNewP X1 hx hZ (ow hw 23 rfl) eq1 (n := (1 : Int32)) (H d26_10) (by decide) (cap := 1) (by decide) (by decide) (by decide) (by decide) 1 (pc' := 12) rfl (fun T2 h2 b2 ck2 X2 e2 g2 E2 A2 => ?_)
  have ne_t_b2 : t ≠ b2 := Nat.ne_of_lt (Nat.lt_of_lt_of_eq A.lt g2.symm)
  have f2_0 := A.ext E2
  have sz_b2 : h0.size ≤ b2 := Nat.le_trans (Nat.le_refl _) (Nat.le_of_eq g2.symm)
  have zs2 : h0.size ≤ h2.size := Nat.le_trans (Nat.le_refl _) E2.1
  have K2 : Keep h0 h2 [] := (Keep.refl h0 []).ext E2
  have V2 : Arv Z h2 b2 ck2 .byte (1 : Int32) [(.int (0 : Int32))] (.int (0 : Int32)) := A2
  refine gStoreA 14 X2 hx (H d26_12) (l' := #[.val (.ref t), .val (.int (1 : Int32)), .val (.int (2 : Int32)), .val (.int (1 : Int32)), .val (.ref b2)]) rfl rfl rfl ?_
  refine gLoadAN 15 X2 hx (H d26_14) rfl rfl rfl ?_
  refine gLoadIN 16 X2 hx (H d26_15) rfl rfl ?_
  refine gLoadA 18 X2 hx (H d26_16) rfl rfl rfl ?_
  refine gIconst 19 X2 hx (v := (0 : Int32)) (H d26_18) rfl rfl ?_
  refine gLoadAN 20 X2 hx (H d26_19) rfl rfl rfl ?_
  refine gArrLen X2 hx hZ e2 f2_0 (H d26_20) (pc' := 21) rfl ?_
  refine gLoadIN 22 X2 hx (H d26_21) rfl rfl ?_
  refine gIsub 23 X2 hx (H d26_22) rfl ?_
  show Goes p e below _ T2 (mkF m 23 #[.val (.ref t), .val (.int (1 : Int32)), .val (.int (2 : Int32)), .val (.int (1 : Int32)), .val (.ref b2)] [(.int (1 : Int32)), (.int (0 : Int32)), (.ref b2), (.int (1 : Int32)), (.ref t)])
  refine gLoadIN 24 X2 hx (H d26_23) rfl rfl ?_
  refine gCallSJ X2 hx hZ (y := mn5) hown e2 (by rw [hml]; rfl) (ow hw 114 rfl) (ow hw 68 rfl) (ow hw 69 rfl) (ow hw 70 rfl) (by decide) (argsL := [(.int (1 : Int32)), (.int (1 : Int32))]) (st := [(.int (0 : Int32)), (.ref b2), (.int (1 : Int32)), (.ref t)]) (c_min_1_1 l Z a0 hw h2) (lenOf pd_10 rfl) (H d26_24) (pc' := 27) rfl rfl rfl rfl (by decide) (W := 4) (Nat.le_of_eq rfl) (by decide) (by decide) (by decide) ?_
  intro T3 X3 e3
  refine gArrCopy X3 hx hZ hown (ow hw 115 rfl) (ow hw 118 rfl) (ow hw 116 rfl) (ow hw 117 rfl) e3 (dv := (.int 0)) (dd := (.int 0)) f2_0 V2 rfl (by decide) (by decide) (by decide) (by decide) (by decide) (by decide) (Fr.nil h0.size) sz_b2 (by rw [hml]; rfl) (H d26_27) (pc' := 30) rfl (by decide) (W := 0) (Nat.le_of_eq rfl) (by decide) (fun T4 h4 L4 X4 e4 N4 K4 A4 => ?_)
  have KK : Keep h0 h4 [] := K2.trans K4 (allS (Or.inr sz_b2) all0)
  have VV : Arv Z h4 b2 ck2 .byte 1 [by8 ch1] (.int 0) := A4
  refine gLoadA 32 X4 hx (H d26_30) rfl rfl rfl ?_
  exact gRetA X4 hx hlk hret rfl rfl (H d26_32) (by decide) (by decide) (⟨_, _, rfl, sz_b2, N4, by rw [e4]; exact KK, by rw [e4]; exact VV⟩)
theorem d25_0 : decode jdk_65_method_132_code 0 = .ok (.iload_n 1, 1) := by decide +kernel
theorem d25_1 : decode jdk_65_method_132_code 1 = .ok (.ifCond .ne 9, 3) := by decide +kernel
theorem d25_10 : decode jdk_65_method_132_code 10 = .ok (.aload_n 0, 1) := by decide +kernel
theorem d25_11 : decode jdk_65_method_132_code 11 = .ok (.iload_n 1, 1) := by decide +kernel
theorem d25_12 : decode jdk_65_method_132_code 12 = .ok (.iload_n 2, 1) := by decide +kernel
theorem d25_13 : decode jdk_65_method_132_code 13 = .ok (.invokestatic 339, 3) := by decide +kernel
theorem pd_23 : parseMethodDescriptor "([BII)[B" = some ⟨[(.array .byte), .int, .int], some (.array .byte)⟩ := by decide +kernel
theorem d25_16 : decode jdk_65_method_132_code 16 = .ok (.areturn, 1) := by decide +kernel
abbrev mn29 : MethodName := ⟨"java/util/Arrays", "copyOfRange", "([BII)[B"⟩
theorem c_cor_2_1_2 (l : Launch) (Z : State) (a0 : Array Value) (hw : ∀ d ∈ tables_1, d.before a0 Z = true) (t : Addr) (ck : ClassId) (ch0 ch1 : Int32) (h0 : Heap) (A : sA Z h0 t ck 2 [by8 ch0, by8 ch1]) :
    Ctr l Z mn29 jdk_65_method_132_code 3 (some (.array .byte)) [] ⟨2, 1, 1, 40⟩ #[(.ref t), (.int (1 : Int32)), (.int (2 : Int32))] h0 (fun v h L => ∃ (b : Addr) (ct : ClassId), v = some (.ref b) ∧ h0.size ≤ b ∧ Fr h0.size L ∧ Keep h0 h [] ∧ sA Z h b ct 1 [by8 ch1]) := by
  refine Ctr.of (plainFor_of_name pn_7) ?_
  intro p e s m below meth c s₁ hx H hml hret hown hnm hZ hlk X0 e0
  refine Goes.cast (show entryFrame m _ _ = mkF m 0 #[.val (.ref t), .val (.int (1 : Int32)), .val (.int (2 : Int32))] [] from rfl) ?_
  refine gLoadIN 1 X0 hx (H d25_0) rfl rfl ?_
  refine gIfNeT X0 hx (H d25_1) (pc' := 10) (by decide) (by decide) (pn := 4) rfl (fun (c1 : ¬ (1 : Int) = (0 : Int)) => ?_) (fun (c1 : (1 : Int) = (0 : Int)) => ?_)
  · refine gLoadAN 11 X0 hx (H d25_10) rfl rfl rfl ?_
    refine gLoadIN 12 X0 hx (H d25_11) rfl rfl ?_
    refine gLoadIN 13 X0 hx (H d25_12) rfl rfl ?_
    refine gCallS X0 hx hZ (y := mn30) hown e0 (by rw [hml]; rfl) (ow hw 108 rfl) (ow hw 109 rfl) (ow hw 106 rfl) (ow hw 110 rfl) (by decide) (argsL := [(.ref t), (.int (1 : Int32)), (.int (2 : Int32))]) (st := []) (c_cor_2_1_2b l Z a0 hw t ck ch0 ch1 h0 A) (lenOf pd_23 rfl) (H d25_13) (pc' := 16) rfl rfl (by decide) (W := 0) (Nat.le_of_eq rfl) (by decide) (by decide) (by decide) ?_
    intro T1 v1 L1 X1 hQ1
    obtain ⟨b1, ct1, rfl, g1, g2, g3, g4⟩ := hQ1
    exact gRetA X1 hx hlk hret rfl rfl (H d25_16) (by decide) (by decide) (⟨_, _, rfl, g1, g2, g3, g4⟩)
  · exact absurd c1 (by decide)
theorem d5_0 : decode jdk_42_method_151_code 0 = .ok (.aload_n 0, 1) := by decide +kernel
theorem d5_1 : decode jdk_42_method_151_code 1 = .ok (.invokespecial 1, 3) := by decide +kernel
theorem d5_4 : decode jdk_42_method_151_code 4 = .ok (.aload_n 0, 1) := by decide +kernel
theorem d5_5 : decode jdk_42_method_151_code 5 = .ok (.aload_n 1, 1) := by decide +kernel
theorem d5_6 : decode jdk_42_method_151_code 6 = .ok (.putfield 9, 3) := by decide +kernel
theorem d5_9 : decode jdk_42_method_151_code 9 = .ok (.aload_n 0, 1) := by decide +kernel
theorem d5_10 : decode jdk_42_method_151_code 10 = .ok (.iload_n 2, 1) := by decide +kernel
theorem d5_11 : decode jdk_42_method_151_code 11 = .ok (.putfield 15, 3) := by decide +kernel
theorem d5_14 : decode jdk_42_method_151_code 14 = .ok (.return_, 1) := by decide +kernel
abbrev mn7 : MethodName := ⟨"java/lang/String", "<init>", "([BB)V"⟩
theorem c_sinitB (l : Launch) (Z : State) (a0 : Array Value) (hw : ∀ d ∈ tables_1, d.before a0 Z = true) (a t : Addr) (n0 : Nat) (h0 : Heap) (ga : n0 ≤ a) (E : sE Z h0 a) (C : sC Z h0 a) (V : Fld Z h0 a "java/lang/String" "value" "[B" .null) :
    Ctr l Z mn7 jdk_42_method_151_code 3 none [] ⟨1, 0, 0, 12⟩ #[(.ref a), (.ref t), (.int (0 : Int32))] h0 (fun v h L => v = none ∧ Fr n0 L ∧ Keep h0 h [a] ∧ sE Z h a ∧ sC Z h a ∧ sV Z h a t) := by
  refine Ctr.of (plainFor_of_name pn_4) ?_
  intro p e s m below meth c s₁ hx H hml hret hown hnm hZ hlk X0 e0
  refine Goes.cast (show entryFrame m _ _ = mkF m 0 #[.val (.ref a), .val (.ref t), .val (.int (0 : Int32))] [] from rfl) ?_
  refine gLoadAN 1 X0 hx (H d5_0) rfl rfl rfl ?_
  refine gInitO X0 hx hZ hown (ow hw 19 rfl) (ow hw 20 rfl) (ow hw 21 rfl) e0 (by rw [hml]; rfl) (H d5_1) (pc' := 4) rfl (by decide) (W := 0) (Nat.le_of_eq rfl) (by decide) (fun T1 X1 e1 => ?_)
  refine gLoadAN 5 X1 hx (H d5_4) rfl rfl rfl ?_
  refine gLoadAN 6 X1 hx (H d5_5) rfl rfl rfl ?_
  refine gPutF X1 hx hZ hown (ow hw 28 rfl) Via.refl e1 V E (Or.inr ⟨(ow hw 24 rfl), rfl, hnm⟩) (ow hw 9 rfl) (ty := (.array .byte)) (by decide) rfl rfl (H d5_6) (pc' := 9) rfl (fun T2 h2 X2 e2 W2 => ?_)
  have f2_0 := E.wr W2
  have f2_1 := C.other W2 (Or.inr (slot_ne (Or.inr (ow hw 25 rfl)) (Or.inr (ow hw 24 rfl)) (by decide) (t := .byte) (t' := (.array .byte)) (by decide) (by decide)))
  have f2_2 := V.same W2
  have zs2 : h0.size ≤ h2.size := by rw [W2.size]; exact (Nat.le_refl _)
  have N2 := Fr.snoc X2 (Fr.nil n0) ga
  have K2 : Keep h0 h2 [a] := (Keep.refl h0 [a]).wr W2 (Or.inl (by simp))
  refine gLoadAN 10 X2 hx (H d5_9) rfl rfl rfl ?_
  refine gLoadIN 11 X2 hx (H d5_10) rfl rfl ?_
  refine gPutF X2 hx hZ hown (ow hw 29 rfl) Via.refl e2 f2_1 f2_0 (Or.inr ⟨(ow hw 25 rfl), rfl, hnm⟩) (ow hw 9 rfl) (ty := .byte) (by decide) rfl rfl (H d5_11) (pc' := 14) rfl (fun T3 h3 X3 e3 W3 => ?_)
  have f3_0 := f2_0.wr W3
  have f3_1 := f2_1.same W3
  have f3_2 := f2_2.other W3 (Or.inr (slot_ne (Or.inr (ow hw 24 rfl)) (Or.inr (ow hw 25 rfl)) (by decide) (t := (.array .byte)) (t' := .byte) (by decide) (by decide)))
  have zs3 : h0.size ≤ h3.size := by rw [W3.size]; exact zs2
  have N3 := Fr.snoc X3 N2 ga
  have K3 : Keep h0 h3 [a] := K2.wr W3 (Or.inl (by simp))
  exact gRetV X3 hx hlk hret (H d5_14) (by decide) (by decide) (⟨rfl, N3, by rw [e3]; exact K3, by rw [e3]; exact f3_0, by rw [e3]; exact f3_1, by rw [e3]; exact f3_2⟩)
theorem d19_7 : decode jdk_43_method_47_code 7 = .ok (.new 1, 3) := by decide +kernel
theorem d19_10 : decode jdk_43_method_47_code 10 = .ok (.dup, 1) := by decide +kernel
theorem d19_11 : decode jdk_43_method_47_code 11 = .ok (.aload_n 0, 1) := by decide +kernel
theorem d19_12 : decode jdk_43_method_47_code 12 = .ok (.iload_n 1, 1) := by decide +kernel
theorem d19_13 : decode jdk_43_method_47_code 13 = .ok (.iload_n 1, 1) := by decide +kernel
theorem d19_14 : decode jdk_43_method_47_code 14 = .ok (.iload_n 2, 1) := by decide +kernel
theorem d19_15 : decode jdk_43_method_47_code 15 = .ok (.iadd, 1) := by decide +kernel
theorem d19_16 : decode jdk_43_method_47_code 16 = .ok (.invokestatic 232, 3) := by decide +kernel
theorem d19_19 : decode jdk_43_method_47_code 19 = .ok (.iconst 0, 1) := by decide +kernel
theorem d19_20 : decode jdk_43_method_47_code 20 = .ok (.invokespecial 112, 3) := by decide +kernel
theorem pd_18 : parseMethodDescriptor "([BB)V" = some ⟨[(.array .byte), .byte], none⟩ := by decide +kernel
theorem d19_23 : decode jdk_43_method_47_code 23 = .ok (.areturn, 1) := by decide +kernel
theorem c_newString_2_1_1 (l : Launch) (Z : State) (a0 : Array Value) (hw : ∀ d ∈ tables_1, d.before a0 Z = true) (t : Addr) (ck : ClassId) (ch0 ch1 : Int32) (h0 : Heap) (A : sA Z h0 t ck 2 [by8 ch0, by8 ch1]) :
    Ctr l Z mn23 jdk_43_method_47_code 3 (some (.object "java/lang/String")) [] ⟨3, 2, 5, 57⟩ #[(.ref t), (.int (1 : Int32)), (.int (1 : Int32))] h0 (SQd Z h0 1 [by8 ch1]) := by
  refine Ctr.of (plainFor_of_name pn_5) ?_
  intro p e s m below meth c s₁ hx H hml hret hown hnm hZ hlk X0 e0
  refine Goes.cast (show entryFrame m _ _ = mkF m 0 #[.val (.ref t), .val (.int (1 : Int32)), .val (.int (1 : Int32))] [] from rfl) ?_
  refine gLoadIN 1 X0 hx (H d19_0) rfl rfl ?_
  refine gIfNeT X0 hx (H d19_1) (pc' := 7) (by decide) (by decide) (pn := 4) rfl (fun (c1 : ¬ (1 : Int) = (0 : Int)) => ?_) (fun (c1 : (1 : Int) = (0 : Int)) => ?_)
  · refine gNew X0 hx hZ hown (ow hw 103 rfl) (ow hw 9 rfl) (ow hw 10 rfl) e0 (H d19_7) (pc' := 10) rfl (by decide) (by decide) (fun T1 h1 b1 X1 e1 g1 E1 A1 D1 => ?_)
    have ne_t_b1 : t ≠ b1 := Nat.ne_of_lt (Nat.lt_of_lt_of_eq A.lt g1.symm)
    have f1_0 := A.ext E1
    have sz_b1 : h0.size ≤ b1 := Nat.le_trans (Nat.le_refl _) (Nat.le_of_eq g1.symm)
    have zs1 : h0.size ≤ h1.size := Nat.le_trans (Nat.le_refl _) E1.1
    have K1 : Keep h0 h1 [] := (Keep.refl h0 []).ext E1
    have F1_value : Fld Z h1 b1 "java/lang/String" "value" "[B" .null := D1 (Or.inr (ow hw 24 rfl)) (ty := (.array .byte)) (by decide)
    have F1_coder : Fld Z h1 b1 "java/lang/String" "coder" "B" (.int (0 : Int32)) := D1 (Or.inr (ow hw 25 rfl)) (ty := .byte) (by decide)
    refine gDup 11 X1 hx (H d19_10) rfl rfl ?_
    refine gLoadAN 12 X1 hx (H d19_11) rfl rfl rfl ?_
    refine gLoadIN 13 X1 hx (H d19_12) rfl rfl ?_
    refine gLoadIN 14 X1 hx (H d19_13) rfl rfl ?_
    refine gLoadIN 15 X1 hx (H d19_14) rfl rfl ?_
    refine gIadd 16 X1 hx (H d19_15) rfl ?_
    show Goes p e below _ T1 (mkF m 16 #[.val (.ref t), .val (.int (1 : Int32)), .val (.int (1 : Int32))] [(.int (2 : Int32)), (.int (1 : Int32)), (.ref t), (.ref b1), (.ref b1)])
    refine gCallS X1 hx hZ (y := mn29) hown e1 (by rw [hml]; rfl) (ow hw 104 rfl) (ow hw 105 rfl) (ow hw 106 rfl) (ow hw 107 rfl) (by decide) (argsL := [(.ref t), (.int (1 : Int32)), (.int (2 : Int32))]) (st := [(.ref b1), (.ref b1)]) (c_cor_2_1_2 l Z a0 hw t ck ch0 ch1 h1 f1_0) (lenOf pd_23 rfl) (H d19_16) (pc' := 19) rfl rfl (by decide) (W := 2) (Nat.le_of_eq rfl) (by decide) (by decide) (by decide) ?_
    intro T2 v2 L2 X2 hQ2
    obtain ⟨q2, ctq2, rfl, gq2, Nq2, Kq2, Aq2⟩ := hQ2
    have N2 := Fr.app (Fr.nil h0.size) (fun y hy => Nat.le_trans zs1 (Nq2 y hy))
    have K2 : Keep h0 T2.heap [] := K1.trans Kq2 all0
    have f2_0 := f1_0.keep Kq2 nin0
    have f2_1 := A1.keep Kq2
    have f2_2 := F1_value.keep Kq2 nin0
    have f2_3 := F1_coder.keep Kq2 nin0
    have zs2 := Nat.le_trans zs1 Kq2.1
    have nq2 : q2 ≠ b1 := Ne.symm (Nat.ne_of_lt (Nat.lt_of_lt_of_le A1.lt gq2))
    refine gIconst 20 X2 hx (v := (0 : Int32)) (H d19_19) rfl rfl ?_
    refine gCallI X2 hx hZ (y := mn7) rfl hown rfl (by rw [hml]; rfl) (ow hw 119 rfl) (ow hw 120 rfl) (ow hw 10 rfl) (ow hw 121 rfl) (by decide) (argsL := [(.ref q2), (.int (0 : Int32))]) (st := [(.ref b1)]) (c_sinitB l Z a0 hw b1 q2 h0.size T2.heap sz_b1 f2_1 f2_3 f2_2) (lenOf pd_18 rfl) (H d19_20) (pc' := 23) rfl rfl (by decide) (W := 1) (Nat.le_of_eq rfl) (by decide) (by decide) (by decide) ?_
    intro T3 v3 L3 X3 hQ3
    obtain ⟨rfl, Nq3, Kq3, Eq3, Cq3, Vq3⟩ := hQ3
    have N3 := Fr.app N2 Nq3
    have K3 : Keep h0 T3.heap [] := K2.trans Kq3 (allS (Or.inr sz_b1) all0)
    have Ak3 := Aq2.keep Kq3 (ninS nq2 nin0)
    exact gRetA X3 hx hlk hret rfl rfl (H d19_23) (by decide) (by decide) (⟨b1, q2, ctq2, rfl, N3, K3, Eq3, Cq3, Vq3, Ak3⟩)
  · exact absurd c1 (by decide)
theorem c_sub_2_1_2 (l : Launch) (Z : State) (a0 : Array Value) (hw : ∀ d ∈ tables_1, d.before a0 Z = true) (a t : Addr) (ck : ClassId) (ch0 ch1 : Int32) (h0 : Heap) (hSio : Sio Z h0) (hCpt : Cpt Z h0) (E : sE Z h0 a) (C : sC Z h0 a) (V : sV Z h0 a t) (A : sA Z h0 t ck 2 [by8 ch0, by8 ch1]) (hch0 : rg ch0) (hch1 : rg ch1) :
    Ctr l Z mn19 jdk_42_method_92_code 5 (some (.object "java/lang/String")) [] ⟨4, 2, 5, 71⟩ #[(.ref a), (.int (1 : Int32)), (.int (2 : Int32))] h0 (SQd Z h0 1 [by8 ch1]) := by
  refine Ctr.of (plainFor_of_name pn_4) ?_
  intro p e s m below meth c s₁ hx H hml hret hown hnm hZ hlk X0 e0
  refine Goes.cast (show entryFrame m _ _ = mkF m 0 #[.val (.ref a), .val (.int (1 : Int32)), .val (.int (2 : Int32)), .unset, .unset] [] from rfl) ?_
  refine gLoadAN 1 X0 hx (H d16_0) rfl rfl rfl ?_
  refine gCallVJ X0 hx hZ (y := mn17) hown e0 (by rw [hml]; rfl) E (ow hw 39 rfl) (ow hw 40 rfl) (ow hw 42 rfl) (ow hw 41 rfl) (ow hw 10 rfl) (ow hw 43 rfl) (by decide) (argsL := []) (st := []) (c_length_2 l Z a0 hw a t ck ch0 ch1 h0 hCpt E C V A hch0 hch1) (lenOf pd_1 rfl) (H d16_1) (pc' := 4) rfl rfl rfl rfl (by decide) (W := 0) (Nat.le_of_eq rfl) (by decide) (by decide) (by decide) ?_
  intro T1 X1 e1
  refine gStoreIN 5 X1 hx (H d16_4) (l' := #[.val (.ref a), .val (.int (1 : Int32)), .val (.int (2 : Int32)), .val (.int (2 : Int32)), .unset]) rfl rfl ?_
  refine gLoadIN 6 X1 hx (H d16_5) rfl rfl ?_
  refine gLoadIN 7 X1 hx (H d16_6) rfl rfl ?_
  refine gLoadIN 8 X1 hx (H d16_7) rfl rfl ?_
  refine gCallS X1 hx hZ (y := mn11) hown e1 (by rw [hml]; rfl) (ow hw 81 rfl) (ow hw 82 rfl) (ow hw 10 rfl) (ow hw 83 rfl) (by decide) (argsL := [(.int (1 : Int32)), (.int (2 : Int32)), (.int (2 : Int32))]) (st := []) (c_chkft l Z a0 hw (1 : Int32) (2 : Int32) (2 : Int32) h0 (by decide) (by decide) (by decide) hSio) (lenOf pd_13 rfl) (H d16_8) (pc' := 11) rfl rfl (by decide) (W := 0) (Nat.le_of_eq rfl) (by decide) (by decide) (by decide) ?_
  intro T2 v2 L2 X2 hQ2
  obtain ⟨rfl, eq2, rfl⟩ := hQ2
  rw [List.append_nil] at X2
  refine gLoadIN 12 X2 hx (H d16_11) rfl rfl ?_
  refine gIfNeT X2 hx (H d16_12) (pc' := 22) (by decide) (by decide) (pn := 15) rfl (fun (c12 : ¬ (1 : Int) = (0 : Int)) => ?_) (fun (c12 : (1 : Int) = (0 : Int)) => ?_)
  · refine gLoadIN 23 X2 hx (H d16_22) rfl rfl ?_
    refine gLoadIN 24 X2 hx (H d16_23) rfl rfl ?_
    refine gIsub 25 X2 hx (H d16_24) rfl ?_
    show Goes p e below _ T2 (mkF m 25 #[.val (.ref a), .val (.int (1 : Int32)), .val (.int (2 : Int32)), .val (.int (2 : Int32)), .unset] [(.int (1 : Int32))])
    refine gStoreI 27 X2 hx (H d16_25) (l' := #[.val (.ref a), .val (.int (1 : Int32)), .val (.int (2 : Int32)), .val (.int (2 : Int32)), .val (.int (1 : Int32))]) rfl rfl ?_
    refine gLoadAN 28 X2 hx (H d16_27) rfl rfl rfl ?_
    refine gCallVJ X2 hx hZ (y := mn14) hown eq2 (by rw [hml]; rfl) E (ow hw 55 rfl) (ow hw 56 rfl) (ow hw 58 rfl) (ow hw 57 rfl) (ow hw 10 rfl) (ow hw 59 rfl) (by decide) (argsL := []) (st := []) (c_isLatin1 l Z a0 hw a h0 hCpt C) (lenOf pd_3 rfl) (H d16_28) (pc' := 31) rfl rfl rfl rfl (by decide) (W := 0) (Nat.le_of_eq rfl) (by decide) (by decide) (by decide) ?_
    intro T3 X3 e3
    refine gIfEqT X3 hx (H d16_31) (pc' := 47) (by decide) (by decide) (pn := 34) rfl (fun (c31 : (1 : Int) = (0 : Int)) => ?_) (fun (c31 : ¬ (1 : Int) = (0 : Int)) => ?_)
    · exact absurd c31 (by decide)
    · refine gLoadAN 35 X3 hx (H d16_34) rfl rfl rfl ?_
      refine gGetF X3 hx hZ hown (ow hw 28 rfl) Via.refl e3 V (H d16_35) (pc' := 38) rfl (fun T4 X4 e4 => ?_)
      refine gLoadIN 39 X4 hx (H d16_38) rfl rfl ?_
      refine gLoadI 41 X4 hx (H d16_39) rfl rfl ?_
      refine gCallS X4 hx hZ (y := mn23) hown e4 (by rw [hml]; rfl) (ow hw 100 rfl) (ow hw 101 rfl) (ow hw 62 rfl) (ow hw 102 rfl) (by decide) (argsL := [(.ref t), (.int (1 : Int32)), (.int (1 : Int32))]) (st := []) (c_newString_2_1_1 l Z a0 hw t ck ch0 ch1 h0 A) (lenOf pd_22 rfl) (H d16_41) (pc' := 44) rfl rfl (by decide) (W := 0) (Nat.le_of_eq rfl) (by decide) (by decide) (by decide) ?_
      intro T5 v5 L5 X5 hQ5
      obtain ⟨r5, t5, ct5, rfl, Nq5, Kq5, Eq5, Cq5, Vq5, Aq5⟩ := hQ5
      have N5 := Fr.app (Fr.nil h0.size) (fun y hy => Nat.le_trans (Nat.le_refl _) (Nq5 y hy))
      have f5_0 := E.keep Kq5
      have f5_1 := C.keep Kq5 nin0
      have f5_2 := V.keep Kq5 nin0
      have f5_3 := A.keep Kq5 nin0
      have f5_4 := own_cpt_keep hCpt Kq5 ns0
      have zs5 := Nat.le_trans (Nat.le_refl _) Kq5.1
      have K5 : Keep h0 T5.heap [] := (Keep.refl h0 []).trans Kq5 all0
      refine gGoto X5 hx (H d16_44) (pc' := 57) (by decide) (by decide) ?_
      exact gRetA X5 hx hlk hret rfl rfl (H d16_57) (by decide) (by decide) (⟨r5, t5, ct5, rfl, N5, K5, Eq5, Cq5, Vq5, Aq5⟩)
  · exact absurd c12 (by decide)
theorem c_sub_2_1_2o (l : Launch) (Z : State) (a0 : Array Value) (hw : ∀ d ∈ tables_1, d.before a0 Z = true) (a t : Addr) (ck : ClassId) (ch0 ch1 : Int32) (h0 : Heap) (hSio : Sio Z h0) (hCpt : Cpt Z h0) (E : sE Z h0 a) (C : sC Z h0 a) (V : sV Z h0 a t) (A : sA Z h0 t ck 2 [by8 ch0, by8 ch1]) (hch0 : rg ch0) (hch1 : rg ch1) :
    Ctr l Z mn18 jdk_42_method_91_code 2 (some (.object "java/lang/String")) [] ⟨5, 2, 5, 91⟩ #[(.ref a), (.int (1 : Int32))] h0 (SQd Z h0 1 [by8 ch1]) := by
  refine Ctr.of (plainFor_of_name pn_4) ?_
  intro p e s m below meth c s₁ hx H hml hret hown hnm hZ hlk X0 e0
  refine Goes.cast (show entryFrame m _ _ = mkF m 0 #[.val (.ref a), .val (.int (1 : Int32))] [] from rfl) ?_
  refine gLoadAN 1 X0 hx (H d15_0) rfl rfl rfl ?_
  refine gLoadIN 2 X0 hx (H d15_1) rfl rfl ?_
  refine gLoadAN 3 X0 hx (H d15_2) rfl rfl rfl ?_
  refine gCallVJ X0 hx hZ (y := mn17) hown e0 (by rw [hml]; rfl) E (ow hw 39 rfl) (ow hw 40 rfl) (ow hw 42 rfl) (ow hw 41 rfl) (ow hw 10 rfl) (ow hw 43 rfl) (by decide) (argsL := []) (st := [(.int (1 : Int32)), (.ref a)]) (c_length_2 l Z a0 hw a t ck ch0 ch1 h0 hCpt E C V A hch0 hch1) (lenOf pd_1 rfl) (H d15_3) (pc' := 6) rfl rfl rfl rfl (by decide) (W := 2) (Nat.le_of_eq rfl) (by decide) (by decide) (by decide) ?_
  intro T1 X1 e1
  refine gCallV X1 hx hZ (y := mn19) hown e1 (by rw [hml]; rfl) E (ow hw 76 rfl) (ow hw 77 rfl) (ow hw 79 rfl) (ow hw 78 rfl) (ow hw 10 rfl) (ow hw 80 rfl) (by decide) (argsL := [(.int (1 : Int32)), (.int (2 : Int32))]) (st := []) (c_sub_2_1_2 l Z a0 hw a t ck ch0 ch1 h0 hSio hCpt E C V A hch0 hch1) (lenOf pd_11 rfl) (H d15_6) (pc' := 9) rfl rfl (by decide) (W := 0) (Nat.le_of_eq rfl) (by decide) (by decide) (by decide) ?_
  intro T2 v2 L2 X2 hQ2
  obtain ⟨r2, t2, ct2, rfl, Nq2, Kq2, Eq2, Cq2, Vq2, Aq2⟩ := hQ2
  have N2 := Fr.app (Fr.nil h0.size) (fun y hy => Nat.le_trans (Nat.le_refl _) (Nq2 y hy))
  have f2_0 := E.keep Kq2
  have f2_1 := C.keep Kq2 nin0
  have f2_2 := V.keep Kq2 nin0
  have f2_3 := A.keep Kq2 nin0
  have f2_4 := own_cpt_keep hCpt Kq2 ns0
  have zs2 := Nat.le_trans (Nat.le_refl _) Kq2.1
  have K2 : Keep h0 T2.heap [] := (Keep.refl h0 []).trans Kq2 all0
  exact gRetA X2 hx hlk hret rfl rfl (H d15_9) (by decide) (by decide) (⟨r2, t2, ct2, rfl, N2, K2, Eq2, Cq2, Vq2, Aq2⟩)
theorem c_nm_2_0 (l : Launch) (Z : State) (a0 : Array Value) (hw : ∀ d ∈ tables_1, d.before a0 Z = true) (a t : Addr) (ck : ClassId) (ch0 ch1 : Int32) (h0 : Heap) (hSio : Sio Z h0) (hCpt : Cpt Z h0) (E : sE Z h0 a) (C : sC Z h0 a) (V : sV Z h0 a t) (A : sA Z h0 t ck 2 [by8 ch0, by8 ch1]) (hch0 : rg ch0) (hch1 : rg ch1) (d1 : ¬ ch1.toInt = 47) (dq : ch0.toInt = 47) :
    Ctr l Z mn0 prog_18_method_7_code 1 (some (.object "java/lang/String")) [] ⟨6, 2, 5, 104⟩ #[(.ref a)] h0 (SQd Z h0 1 [by8 ch1]) := by
  refine Ctr.of (plainFor_of_name pn_0) ?_
  intro p e s m below meth c s₁ hx H hml hret hown hnm hZ hlk X0 e0
  refine Goes.cast (show entryFrame m _ _ = mkF m 0 #[.val (.ref a)] [] from rfl) ?_
  refine gLoadAN 1 X0 hx (H d31_0) rfl rfl rfl ?_
  refine gLoadAN 2 X0 hx (H d31_1) rfl rfl rfl ?_
  refine gBipush 4 X0 hx (v := (47 : Int32)) (H d31_2) rfl rfl ?_
  refine gCallVJ X0 hx hZ (y := mn15) hown e0 (by rw [hml]; rfl) E (ow hw 34 rfl) (ow hw 35 rfl) (ow hw 37 rfl) (ow hw 36 rfl) (ow hw 10 rfl) (ow hw 38 rfl) (by decide) (argsL := [(.int (47 : Int32))]) (st := [(.ref a)]) (c_lastIndexOf_2 l Z a0 hw a t ck ch0 ch1 h0 hCpt E C V A hch0 hch1) (lenOf pd_5 rfl) (H d31_4) (pc' := 7) rfl rfl rfl rfl (by decide) (W := 1) (Nat.le_of_eq rfl) (by decide) (by decide) (by decide) ?_
  intro T1 X1 e1
  rw [show lx2 ch0 ch1 = 0 from by rw [lx2, if_neg d1, if_pos dq]]
  refine gIconst 8 X1 hx (v := (1 : Int32)) (H d31_7) rfl rfl ?_
  refine gIadd 9 X1 hx (H d31_8) rfl ?_
  show Goes p e below _ T1 (mkF m 9 #[.val (.ref a)] [(.int (1 : Int32)), (.ref a)])
  refine gCallV X1 hx hZ (y := mn18) hown e1 (by rw [hml]; rfl) E (ow hw 71 rfl) (ow hw 72 rfl) (ow hw 74 rfl) (ow hw 73 rfl) (ow hw 10 rfl) (ow hw 75 rfl) (by decide) (argsL := [(.int (1 : Int32))]) (st := []) (c_sub_2_1_2o l Z a0 hw a t ck ch0 ch1 h0 hSio hCpt E C V A hch0 hch1) (lenOf pd_6 rfl) (H d31_9) (pc' := 12) rfl rfl (by decide) (W := 0) (Nat.le_of_eq rfl) (by decide) (by decide) (by decide) ?_
  intro T2 v2 L2 X2 hQ2
  obtain ⟨r2, t2, ct2, rfl, Nq2, Kq2, Eq2, Cq2, Vq2, Aq2⟩ := hQ2
  have N2 := Fr.app (Fr.nil h0.size) (fun y hy => Nat.le_trans (Nat.le_refl _) (Nq2 y hy))
  have f2_0 := E.keep Kq2
  have f2_1 := C.keep Kq2 nin0
  have f2_2 := V.keep Kq2 nin0
  have f2_3 := A.keep Kq2 nin0
  have f2_4 := own_cpt_keep hCpt Kq2 ns0
  have zs2 := Nat.le_trans (Nat.le_refl _) Kq2.1
  have K2 : Keep h0 T2.heap [] := (Keep.refl h0 []).trans Kq2 all0
  exact gRetA X2 hx hlk hret rfl rfl (H d31_12) (by decide) (by decide) (⟨r2, t2, ct2, rfl, N2, K2, Eq2, Cq2, Vq2, Aq2⟩)
theorem c_newString_2_2_0 (l : Launch) (Z : State) (a0 : Array Value) (hw : ∀ d ∈ tables_1, d.before a0 Z = true) (t : Addr) (ck : ClassId) (ch0 ch1 : Int32) (h0 : Heap) (hEL : EW Z a0 [("java/lang/String", 7), ("java/lang/StringLatin1", 151)]) :
    CtrH l Z [("java/lang/String", 7), ("java/lang/StringLatin1", 151)] [] mn23 jdk_43_method_47_code 3 (some (.object "java/lang/String")) [] ⟨0, 2, 4, 0⟩ #[(.ref t), (.int (2 : Int32)), (.int (0 : Int32))] h0 (SQd Z h0 0 []) := by
  refine CtrH.of (plainFor_of_name pn_5) ?_
  intro p e s m below meth c s₁ hx H hml hret hown hnm hZ hlk X0 e0 hS H0 hSafe
  have wS : ∀ a ∈ Bundle.stringAtoms, a.before a0 Z = true := by
    intro d hd
    simp only [Bundle.stringAtoms, Bundle.sN, List.mem_cons, List.not_mem_nil, or_false] at hd
    rcases hd with rfl | rfl | rfl | rfl | rfl | rfl | rfl
    · exact (ow hw 10 rfl)
    · exact (ow hw 9 rfl)
    · exact (ow hw 23 rfl)
    · exact (ow hw 24 rfl)
    · exact (ow hw 25 rfl)
    · exact (ow hw 26 rfl)
    · exact (ow hw 27 rfl)
  refine Goes.cast (show entryFrame m _ _ = mkF m 0 #[.val (.ref t), .val (.int (2 : Int32)), .val (.int (0 : Int32))] [] from rfl) ?_
  refine gLoadIN 1 X0 hx (H d19_0) rfl rfl ?_
  refine gIfNeT X0 hx (H d19_1) (pc' := 7) (by decide) (by decide) (pn := 4) rfl (fun (c1 : ¬ (0 : Int) = (0 : Int)) => ?_) (fun (c1 : (0 : Int) = (0 : Int)) => ?_)
  · exact absurd c1 (by decide)
  · refine gLdcC X0 hx hZ hown (ow hw 139 rfl) wS e0 hS (Nat.zero_le _) hEL (by simp) H0 (vs := []) (z := 0) ⟨by decide, by decide⟩ (by decide) (by decide) (H d19_4) (pc' := 6) rfl (n := 0) (by decide) (by decide) (by decide) (by decide) (fun a1 T1 h1 k1 b1 ck1 X1 e1 E1 hS hk1 hZ hown C1 H1 Ex1 Fc1 Fv1 A1 sf1 => ?_)
    have zs1 : h0.size ≤ h1.size := Nat.le_trans (Nat.le_refl _) E1.1
    have K1 : Keep h0 h1 [] := (Keep.refl h0 []).ext E1
    exact gRetHA X1 hx hlk hret rfl rfl (H d19_6) e1 hS hk1 hZ hEL H1 (by decide) (by decide) (⟨a1, b1, ck1, rfl, (Fr.nil h0.size), by rw [e1]; exact K1, by rw [e1]; exact Ex1, by rw [e1]; exact Fc1, by rw [e1]; exact Fv1, by rw [e1]; exact A1⟩)
theorem c_sub_2_2_2 (l : Launch) (Z : State) (a0 : Array Value) (hw : ∀ d ∈ tables_1, d.before a0 Z = true) (a t : Addr) (ck : ClassId) (ch0 ch1 : Int32) (h0 : Heap) (hEL : EW Z a0 [("java/lang/String", 7), ("java/lang/StringLatin1", 151)]) (hSio : Sio Z h0) (hCpt : Cpt Z h0) (E : sE Z h0 a) (C : sC Z h0 a) (V : sV Z h0 a t) (A : sA Z h0 t ck 2 [by8 ch0, by8 ch1]) (hch0 : rg ch0) (hch1 : rg ch1) :
    CtrH l Z [("java/lang/String", 7), ("java/lang/StringLatin1", 151)] [] mn19 jdk_42_method_92_code 5 (some (.object "java/lang/String")) [] ⟨2, 2, 4, 30⟩ #[(.ref a), (.int (2 : Int32)), (.int (2 : Int32))] h0 (SQd Z h0 0 []) := by
  refine CtrH.of (plainFor_of_name pn_4) ?_
  intro p e s m below meth c s₁ hx H hml hret hown hnm hZ hlk X0 e0 hS H0 hSafe
  refine Goes.cast (show entryFrame m _ _ = mkF m 0 #[.val (.ref a), .val (.int (2 : Int32)), .val (.int (2 : Int32)), .unset, .unset] [] from rfl) ?_
  refine gLoadAN 1 X0 hx (H d16_0) rfl rfl rfl ?_
  refine gCallVJ X0 hx hZ (y := mn17) hown e0 (by rw [hml]; rfl) E (ow hw 39 rfl) (ow hw 40 rfl) (ow hw 42 rfl) (ow hw 41 rfl) (ow hw 10 rfl) (ow hw 43 rfl) (by decide) (argsL := []) (st := []) (c_length_2 l Z a0 hw a t ck ch0 ch1 h0 hCpt E C V A hch0 hch1) (lenOf pd_1 rfl) (H d16_1) (pc' := 4) rfl rfl rfl rfl (by decide) (W := 0) (Nat.le_of_eq rfl) (by decide) (by decide) (by decide) ?_
  intro T1 X1 e1
  refine gStoreIN 5 X1 hx (H d16_4) (l' := #[.val (.ref a), .val (.int (2 : Int32)), .val (.int (2 : Int32)), .val (.int (2 : Int32)), .unset]) rfl rfl ?_
  refine gLoadIN 6 X1 hx (H d16_5) rfl rfl ?_
  refine gLoadIN 7 X1 hx (H d16_6) rfl rfl ?_
  refine gLoadIN 8 X1 hx (H d16_7) rfl rfl ?_
  refine gCallS X1 hx hZ (y := mn11) hown e1 (by rw [hml]; rfl) (ow hw 81 rfl) (ow hw 82 rfl) (ow hw 10 rfl) (ow hw 83 rfl) (by decide) (argsL := [(.int (2 : Int32)), (.int (2 : Int32)), (.int (2 : Int32))]) (st := []) (c_chkft l Z a0 hw (2 : Int32) (2 : Int32) (2 : Int32) h0 (by decide) (by decide) (by decide) hSio) (lenOf pd_13 rfl) (H d16_8) (pc' := 11) rfl rfl (by decide) (W := 0) (Nat.le_of_eq rfl) (by decide) (by decide) (by decide) ?_
  intro T2 v2 L2 X2 hQ2
  obtain ⟨rfl, eq2, rfl⟩ := hQ2
  rw [List.append_nil] at X2
  refine gLoadIN 12 X2 hx (H d16_11) rfl rfl ?_
  refine gIfNeT X2 hx (H d16_12) (pc' := 22) (by decide) (by decide) (pn := 15) rfl (fun (c12 : ¬ (2 : Int) = (0 : Int)) => ?_) (fun (c12 : (2 : Int) = (0 : Int)) => ?_)
  · refine gLoadIN 23 X2 hx (H d16_22) rfl rfl ?_
    refine gLoadIN 24 X2 hx (H d16_23) rfl rfl ?_
    refine gIsub 25 X2 hx (H d16_24) rfl ?_
    show Goes p e below _ T2 (mkF m 25 #[.val (.ref a), .val (.int (2 : Int32)), .val (.int (2 : Int32)), .val (.int (2 : Int32)), .unset] [(.int (0 : Int32))])
    refine gStoreI 27 X2 hx (H d16_25) (l' := #[.val (.ref a), .val (.int (2 : Int32)), .val (.int (2 : Int32)), .val (.int (2 : Int32)), .val (.int (0 : Int32))]) rfl rfl ?_
    refine gLoadAN 28 X2 hx (H d16_27) rfl rfl rfl ?_
    refine gCallVJ X2 hx hZ (y := mn14) hown eq2 (by rw [hml]; rfl) E (ow hw 55 rfl) (ow hw 56 rfl) (ow hw 58 rfl) (ow hw 57 rfl) (ow hw 10 rfl) (ow hw 59 rfl) (by decide) (argsL := []) (st := []) (c_isLatin1 l Z a0 hw a h0 hCpt C) (lenOf pd_3 rfl) (H d16_28) (pc' := 31) rfl rfl rfl rfl (by decide) (W := 0) (Nat.le_of_eq rfl) (by decide) (by decide) (by decide) ?_
    intro T3 X3 e3
    refine gIfEqT X3 hx (H d16_31) (pc' := 47) (by decide) (by decide) (pn := 34) rfl (fun (c31 : (1 : Int) = (0 : Int)) => ?_) (fun (c31 : ¬ (1 : Int) = (0 : Int)) => ?_)
    · exact absurd c31 (by decide)
    · refine gLoadAN 35 X3 hx (H d16_34) rfl rfl rfl ?_
      refine gGetF X3 hx hZ hown (ow hw 28 rfl) Via.refl e3 V (H d16_35) (pc' := 38) rfl (fun T4 X4 e4 => ?_)
      refine gLoadIN 39 X4 hx (H d16_38) rfl rfl ?_
      refine gLoadI 41 X4 hx (H d16_39) rfl rfl ?_
      refine gCallSH X4 hx hZ (y := mn23) hown e4 (by rw [hml]; rfl) hS (Nat.zero_le _) hEL H0 (ow hw 100 rfl) (ow hw 101 rfl) (ow hw 62 rfl) (ow hw 102 rfl) (by decide) sl0 (argsL := [(.ref t), (.int (2 : Int32)), (.int (0 : Int32))]) (st := []) (c_newString_2_2_0 l Z a0 hw t ck ch0 ch1 h0 hEL) (lenOf pd_22 rfl) (H d16_41) (pc' := 44) rfl rfl (by decide) (W := 0) (Nat.le_of_eq rfl) (by decide) (by decide) (by decide) ?_
      intro T5 v5 L5 X5 hS hZ hown C5 H5 hQ5
      obtain ⟨r5, t5, ct5, rfl, Nq5, Kq5, Eq5, Cq5, Vq5, Aq5⟩ := hQ5
      have N5 := Fr.app (Fr.nil h0.size) (fun y hy => Nat.le_trans (Nat.le_refl _) (Nq5 y hy))
      have f5_0 := E.keep Kq5
      have f5_1 := C.keep Kq5 nin0
      have f5_2 := V.keep Kq5 nin0
      have f5_3 := A.keep Kq5 nin0
      have f5_4 := own_cpt_keep hCpt Kq5 ns0
      have zs5 := Nat.le_trans (Nat.le_refl _) Kq5.1
      have K5 : Keep h0 T5.heap [] := (Keep.refl h0 []).trans Kq5 all0
      refine gGoto X5 hx (H d16_44) (pc' := 57) (by decide) (by decide) ?_
      exact gRetHA X5 hx hlk hret rfl rfl (H d16_57) rfl hS (Nat.le_refl _) hZ hEL H5 (by decide) (by decide) (⟨r5, t5, ct5, rfl, N5, K5, Eq5, Cq5, Vq5, Aq5⟩)
  · exact absurd c12 (by decide)
theorem c_sub_2_2_2o (l : Launch) (Z : State) (a0 : Array Value) (hw : ∀ d ∈ tables_1, d.before a0 Z = true) (a t : Addr) (ck : ClassId) (ch0 ch1 : Int32) (h0 : Heap) (hEL : EW Z a0 [("java/lang/String", 7), ("java/lang/StringLatin1", 151)]) (hSio : Sio Z h0) (hCpt : Cpt Z h0) (E : sE Z h0 a) (C : sC Z h0 a) (V : sV Z h0 a t) (A : sA Z h0 t ck 2 [by8 ch0, by8 ch1]) (hch0 : rg ch0) (hch1 : rg ch1) :
    CtrH l Z [("java/lang/String", 7), ("java/lang/StringLatin1", 151)] [] mn18 jdk_42_method_91_code 2 (some (.object "java/lang/String")) [] ⟨3, 2, 4, 50⟩ #[(.ref a), (.int (2 : Int32))] h0 (SQd Z h0 0 []) := by
  refine CtrH.of (plainFor_of_name pn_4) ?_
  intro p e s m below meth c s₁ hx H hml hret hown hnm hZ hlk X0 e0 hS H0 hSafe
  refine Goes.cast (show entryFrame m _ _ = mkF m 0 #[.val (.ref a), .val (.int (2 : Int32))] [] from rfl) ?_
  refine gLoadAN 1 X0 hx (H d15_0) rfl rfl rfl ?_
  refine gLoadIN 2 X0 hx (H d15_1) rfl rfl ?_
  refine gLoadAN 3 X0 hx (H d15_2) rfl rfl rfl ?_
  refine gCallVJ X0 hx hZ (y := mn17) hown e0 (by rw [hml]; rfl) E (ow hw 39 rfl) (ow hw 40 rfl) (ow hw 42 rfl) (ow hw 41 rfl) (ow hw 10 rfl) (ow hw 43 rfl) (by decide) (argsL := []) (st := [(.int (2 : Int32)), (.ref a)]) (c_length_2 l Z a0 hw a t ck ch0 ch1 h0 hCpt E C V A hch0 hch1) (lenOf pd_1 rfl) (H d15_3) (pc' := 6) rfl rfl rfl rfl (by decide) (W := 2) (Nat.le_of_eq rfl) (by decide) (by decide) (by decide) ?_
  intro T1 X1 e1
  refine gCallVH X1 hx hZ (y := mn19) hown e1 (by rw [hml]; rfl) hS (Nat.zero_le _) hEL H0 E (ow hw 76 rfl) (ow hw 77 rfl) (ow hw 79 rfl) (ow hw 78 rfl) (ow hw 10 rfl) (ow hw 80 rfl) (by decide) sl0 (argsL := [(.int (2 : Int32)), (.int (2 : Int32))]) (st := []) (c_sub_2_2_2 l Z a0 hw a t ck ch0 ch1 h0 hEL hSio hCpt E C V A hch0 hch1) (lenOf pd_11 rfl) (H d15_6) (pc' := 9) rfl rfl (by decide) (W := 0) (Nat.le_of_eq rfl) (by decide) (by decide) (by decide) ?_
  intro T2 v2 L2 X2 hS hZ hown C2 H2 hQ2
  obtain ⟨r2, t2, ct2, rfl, Nq2, Kq2, Eq2, Cq2, Vq2, Aq2⟩ := hQ2
  have N2 := Fr.app (Fr.nil h0.size) (fun y hy => Nat.le_trans (Nat.le_refl _) (Nq2 y hy))
  have f2_0 := E.keep Kq2
  have f2_1 := C.keep Kq2 nin0
  have f2_2 := V.keep Kq2 nin0
  have f2_3 := A.keep Kq2 nin0
  have f2_4 := own_cpt_keep hCpt Kq2 ns0
  have zs2 := Nat.le_trans (Nat.le_refl _) Kq2.1
  have K2 : Keep h0 T2.heap [] := (Keep.refl h0 []).trans Kq2 all0
  exact gRetHA X2 hx hlk hret rfl rfl (H d15_9) rfl hS (Nat.le_refl _) hZ hEL H2 (by decide) (by decide) (⟨r2, t2, ct2, rfl, N2, K2, Eq2, Cq2, Vq2, Aq2⟩)
theorem c_nm_2_1 (l : Launch) (Z : State) (a0 : Array Value) (hw : ∀ d ∈ tables_1, d.before a0 Z = true) (a t : Addr) (ck : ClassId) (ch0 ch1 : Int32) (h0 : Heap) (hEL : EW Z a0 [("java/lang/String", 7), ("java/lang/StringLatin1", 151)]) (hSio : Sio Z h0) (hCpt : Cpt Z h0) (E : sE Z h0 a) (C : sC Z h0 a) (V : sV Z h0 a t) (A : sA Z h0 t ck 2 [by8 ch0, by8 ch1]) (hch0 : rg ch0) (hch1 : rg ch1)  (dq : ch1.toInt = 47) :
    CtrH l Z [("java/lang/String", 7), ("java/lang/StringLatin1", 151)] [] mn0 prog_18_method_7_code 1 (some (.object "java/lang/String")) [] ⟨4, 2, 4, 73⟩ #[(.ref a)] h0 (SQd Z h0 0 []) := by
  refine CtrH.of (plainFor_of_name pn_0) ?_
  intro p e s m below meth c s₁ hx H hml hret hown hnm hZ hlk X0 e0 hS H0 hSafe
  refine Goes.cast (show entryFrame m _ _ = mkF m 0 #[.val (.ref a)] [] from rfl) ?_
  refine gLoadAN 1 X0 hx (H d31_0) rfl rfl rfl ?_
  refine gLoadAN 2 X0 hx (H d31_1) rfl rfl rfl ?_
  refine gBipush 4 X0 hx (v := (47 : Int32)) (H d31_2) rfl rfl ?_
  refine gCallVJ X0 hx hZ (y := mn15) hown e0 (by rw [hml]; rfl) E (ow hw 34 rfl) (ow hw 35 rfl) (ow hw 37 rfl) (ow hw 36 rfl) (ow hw 10 rfl) (ow hw 38 rfl) (by decide) (argsL := [(.int (47 : Int32))]) (st := [(.ref a)]) (c_lastIndexOf_2 l Z a0 hw a t ck ch0 ch1 h0 hCpt E C V A hch0 hch1) (lenOf pd_5 rfl) (H d31_4) (pc' := 7) rfl rfl rfl rfl (by decide) (W := 1) (Nat.le_of_eq rfl) (by decide) (by decide) (by decide) ?_
  intro T1 X1 e1
  rw [show lx2 ch0 ch1 = 1 from by rw [lx2, if_pos dq]]
  refine gIconst 8 X1 hx (v := (1 : Int32)) (H d31_7) rfl rfl ?_
  refine gIadd 9 X1 hx (H d31_8) rfl ?_
  show Goes p e below _ T1 (mkF m 9 #[.val (.ref a)] [(.int (2 : Int32)), (.ref a)])
  refine gCallVH X1 hx hZ (y := mn18) hown e1 (by rw [hml]; rfl) hS (Nat.zero_le _) hEL H0 E (ow hw 71 rfl) (ow hw 72 rfl) (ow hw 74 rfl) (ow hw 73 rfl) (ow hw 10 rfl) (ow hw 75 rfl) (by decide) sl0 (argsL := [(.int (2 : Int32))]) (st := []) (c_sub_2_2_2o l Z a0 hw a t ck ch0 ch1 h0 hEL hSio hCpt E C V A hch0 hch1) (lenOf pd_6 rfl) (H d31_9) (pc' := 12) rfl rfl (by decide) (W := 0) (Nat.le_of_eq rfl) (by decide) (by decide) (by decide) ?_
  intro T2 v2 L2 X2 hS hZ hown C2 H2 hQ2
  obtain ⟨r2, t2, ct2, rfl, Nq2, Kq2, Eq2, Cq2, Vq2, Aq2⟩ := hQ2
  have N2 := Fr.app (Fr.nil h0.size) (fun y hy => Nat.le_trans (Nat.le_refl _) (Nq2 y hy))
  have f2_0 := E.keep Kq2
  have f2_1 := C.keep Kq2 nin0
  have f2_2 := V.keep Kq2 nin0
  have f2_3 := A.keep Kq2 nin0
  have f2_4 := own_cpt_keep hCpt Kq2 ns0
  have zs2 := Nat.le_trans (Nat.le_refl _) Kq2.1
  have K2 : Keep h0 T2.heap [] := (Keep.refl h0 []).trans Kq2 all0
  exact gRetHA X2 hx hlk hret rfl rfl (H d31_12) rfl hS (Nat.le_refl _) hZ hEL H2 (by decide) (by decide) (⟨r2, t2, ct2, rfl, N2, K2, Eq2, Cq2, Vq2, Aq2⟩)
def lx3 (ch0 ch1 ch2 : Int32) : Int32 := if ch2.toInt = 47 then 2 else if ch1.toInt = 47 then 1 else if ch0.toInt = 47 then 0 else (-1)
theorem c_min_2_2 (l : Launch) (Z : State) (a0 : Array Value) (hw : ∀ d ∈ tables_1, d.before a0 Z = true)  (h0 : Heap)  :
    Ctr l Z mn5 jdk_29_method_69_code 2 (some .int) [] ⟨0, 0, 0, 0⟩ #[(.int (2 : Int32)), (.int (2 : Int32))] h0 (Just h0 (.int (2))) := by
  refine Ctr.of (Jvm.Free.JP.mathPlain rfl (by decide +kernel)) ?_
  intro p e s m below meth c s₁ hx H hml hret hown hnm hZ hlk X0 e0
  refine Goes.cast (show entryFrame m _ _ = mkF m 0 #[.val (.int (2 : Int32)), .val (.int (2 : Int32))] [] from rfl) ?_
  refine gLoadIN 1 X0 hx (H d1_0) rfl rfl ?_
  refine gLoadIN 2 X0 hx (H d1_1) rfl rfl ?_
  refine gIcmpGt X0 hx (H d1_2) (pc' := 9) (by decide) (by decide) (pn := 5) rfl (fun (c2 : (2 : Int) < (2 : Int)) => ?_) (fun (c2 : (2 : Int) ≤ (2 : Int)) => ?_)
  · exact absurd c2 (by decide)
  · refine gLoadIN 6 X0 hx (H d1_5) rfl rfl ?_
    refine gGoto X0 hx (H d1_6) (pc' := 10) (by decide) (by decide) ?_
    exact gRetI X0 hx hlk hret (H d1_10) (by decide) (by decide) (⟨rfl, e0, rfl⟩)
theorem c_lastIndexOf_3l (l : Launch) (Z : State) (a0 : Array Value) (hw : ∀ d ∈ tables_1, d.before a0 Z = true) (t : Addr) (ck : ClassId) (ch0 ch1 ch2 : Int32) (h0 : Heap) (A : sA Z h0 t ck 3 [by8 ch0, by8 ch1, by8 ch2]) (hch0 : rg ch0) (hch1 : rg ch1) (hch2 : rg ch2) :
    Ctr l Z mn22 jdk_43_method_27_code 4 (some .int) [] ⟨1, 0, 0, 24⟩ #[(.ref t), (.int (47 : Int32)), (.int (2 : Int32))] h0 (Just h0 (.int (lx3 ch0 ch1 ch2))) := by
  refine Ctr.of (plainFor_of_name pn_5) ?_
  intro p e s m below meth c s₁ hx H hml hret hown hnm hZ hlk X0 e0
  refine Goes.cast (show entryFrame m _ _ = mkF m 0 #[.val (.ref t), .val (.int (47 : Int32)), .val (.int (2 : Int32)), .unset] [] from rfl) ?_
  refine gLoadIN 1 X0 hx (H d17_0) rfl rfl ?_
  refine gCallSJ X0 hx hZ (y := mn20) hown e0 (by rw [hml]; rfl) (ow hw 64 rfl) (ow hw 65 rfl) (ow hw 62 rfl) (ow hw 66 rfl) (by decide) (argsL := [(.int (47 : Int32))]) (st := []) (c_canI_47 l Z a0 hw h0) (lenOf pd_7 rfl) (H d17_1) (pc' := 4) rfl rfl rfl rfl (by decide) (W := 0) (Nat.le_of_eq rfl) (by decide) (by decide) (by decide) ?_
  intro T1 X1 e1
  refine gIfNeT X1 hx (H d17_4) (pc' := 9) (by decide) (by decide) (pn := 7) rfl (fun (c4 : ¬ (1 : Int) = (0 : Int)) => ?_) (fun (c4 : (1 : Int) = (0 : Int)) => ?_)
  · refine gLoadIN 10 X1 hx (H d17_9) rfl rfl ?_
    refine gLoadAN 11 X1 hx (H d17_10) rfl rfl rfl ?_
    refine gArrLen X1 hx hZ e1 A (H d17_11) (pc' := 12) rfl ?_
    refine gIconst 13 X1 hx (v := (1 : Int32)) (H d17_12) rfl rfl ?_
    refine gIsub 14 X1 hx (H d17_13) rfl ?_
    show Goes p e below _ T1 (mkF m 14 #[.val (.ref t), .val (.int (47 : Int32)), .val (.int (2 : Int32)), .unset] [(.int (2 : Int32)), (.int (2 : Int32))])
    refine gCallSJ X1 hx hZ (y := mn5) hown e1 (by rw [hml]; rfl) (ow hw 67 rfl) (ow hw 68 rfl) (ow hw 69 rfl) (ow hw 70 rfl) (by decide) (argsL := [(.int (2 : Int32)), (.int (2 : Int32))]) (st := []) (c_min_2_2 l Z a0 hw h0) (lenOf pd_10 rfl) (H d17_14) (pc' := 17) rfl rfl rfl rfl (by decide) (W := 0) (Nat.le_of_eq rfl) (by decide) (by decide) (by decide) ?_
    intro T2 X2 e2
    refine gStoreIN 18 X2 hx (H d17_17) (l' := #[.val (.ref t), .val (.int (47 : Int32)), .val (.int (2 : Int32)), .val (.int (2 : Int32))]) rfl rfl ?_
    refine gLoadIN 19 X2 hx (H d17_18) rfl rfl ?_
    refine gIfLt X2 hx (H d17_19) (pc' := 38) (by decide) (by decide) (pn := 22) rfl (fun (c19 : (2 : Int) < (0 : Int)) => ?_) (fun (c19 : (0 : Int) ≤ (2 : Int)) => ?_)
    · exact absurd c19 (by decide)
    · refine gLoadAN 23 X2 hx (H d17_22) rfl rfl rfl ?_
      refine gLoadIN 24 X2 hx (H d17_23) rfl rfl ?_
      refine gBaload X2 hx hZ e2 A (j := (2 : Int32)) (v := (.int (ch2.toInt8.toInt32))) (by decide) (by decide) rfl (H d17_24) (pc' := 25) rfl ?_
      refine gLoadIN 26 X2 hx (H d17_25) rfl rfl ?_
      refine gI2b 27 X2 hx (H d17_26) rfl ?_
      show Goes p e below _ T2 (mkF m 27 #[.val (.ref t), .val (.int (47 : Int32)), .val (.int (2 : Int32)), .val (.int (2 : Int32))] [(.int (47 : Int32)), (.int (ch2.toInt8.toInt32))])
      refine gIcmpNeT X2 hx (H d17_27) (pc' := 32) (by decide) (by decide) (pn := 30) rfl (fun (c27 : ¬ (ch2.toInt8.toInt32).toInt = (47 : Int)) => ?_) (fun (c27 : (ch2.toInt8.toInt32).toInt = (47 : Int)) => ?_)
      · refine gIinc X2 hx (v := (-1 : Int32)) (H d17_32) (l' := #[.val (.ref t), .val (.int (47 : Int32)), .val (.int (2 : Int32)), .val (.int (1 : Int32))]) (pc' := 35) rfl rfl rfl rfl ?_
        refine gGoto X2 hx (H d17_35) (pc' := 18) (by decide) (by decide) ?_
        refine gLoadIN 19 X2 hx (H d17_18) rfl rfl ?_
        refine gIfLt X2 hx (H d17_19) (pc' := 38) (by decide) (by decide) (pn := 22) rfl (fun (c19' : (1 : Int) < (0 : Int)) => ?_) (fun (c19' : (0 : Int) ≤ (1 : Int)) => ?_)
        · exact absurd c19' (by decide)
        · refine gLoadAN 23 X2 hx (H d17_22) rfl rfl rfl ?_
          refine gLoadIN 24 X2 hx (H d17_23) rfl rfl ?_
          refine gBaload X2 hx hZ e2 A (j := (1 : Int32)) (v := (.int (ch1.toInt8.toInt32))) (by decide) (by decide) rfl (H d17_24) (pc' := 25) rfl ?_
          refine gLoadIN 26 X2 hx (H d17_25) rfl rfl ?_
          refine gI2b 27 X2 hx (H d17_26) rfl ?_
          show Goes p e below _ T2 (mkF m 27 #[.val (.ref t), .val (.int (47 : Int32)), .val (.int (2 : Int32)), .val (.int (1 : Int32))] [(.int (47 : Int32)), (.int (ch1.toInt8.toInt32))])
          refine gIcmpNeT X2 hx (H d17_27) (pc' := 32) (by decide) (by decide) (pn := 30) rfl (fun (c27' : ¬ (ch1.toInt8.toInt32).toInt = (47 : Int)) => ?_) (fun (c27' : (ch1.toInt8.toInt32).toInt = (47 : Int)) => ?_)
          · refine gIinc X2 hx (v := (-1 : Int32)) (H d17_32) (l' := #[.val (.ref t), .val (.int (47 : Int32)), .val (.int (2 : Int32)), .val (.int (0 : Int32))]) (pc' := 35) rfl rfl rfl rfl ?_
            refine gGoto X2 hx (H d17_35) (pc' := 18) (by decide) (by decide) ?_
            refine gLoadIN 19 X2 hx (H d17_18) rfl rfl ?_
            refine gIfLt X2 hx (H d17_19) (pc' := 38) (by decide) (by decide) (pn := 22) rfl (fun (c19'' : (0 : Int) < (0 : Int)) => ?_) (fun (c19'' : (0 : Int) ≤ (0 : Int)) => ?_)
            · exact absurd c19'' (by decide)
            · refine gLoadAN 23 X2 hx (H d17_22) rfl rfl rfl ?_
              refine gLoadIN 24 X2 hx (H d17_23) rfl rfl ?_
              refine gBaload X2 hx hZ e2 A (j := (0 : Int32)) (v := (.int (ch0.toInt8.toInt32))) (by decide) (by decide) rfl (H d17_24) (pc' := 25) rfl ?_
              refine gLoadIN 26 X2 hx (H d17_25) rfl rfl ?_
              refine gI2b 27 X2 hx (H d17_26) rfl ?_
              show Goes p e below _ T2 (mkF m 27 #[.val (.ref t), .val (.int (47 : Int32)), .val (.int (2 : Int32)), .val (.int (0 : Int32))] [(.int (47 : Int32)), (.int (ch0.toInt8.toInt32))])
              refine gIcmpNeT X2 hx (H d17_27) (pc' := 32) (by decide) (by decide) (pn := 30) rfl (fun (c27'' : ¬ (ch0.toInt8.toInt32).toInt = (47 : Int)) => ?_) (fun (c27'' : (ch0.toInt8.toInt32).toInt = (47 : Int)) => ?_)
              · refine gIinc X2 hx (v := (-1 : Int32)) (H d17_32) (l' := #[.val (.ref t), .val (.int (47 : Int32)), .val (.int (2 : Int32)), .val (.int (-1 : Int32))]) (pc' := 35) rfl rfl rfl rfl ?_
                refine gGoto X2 hx (H d17_35) (pc' := 18) (by decide) (by decide) ?_
                refine gLoadIN 19 X2 hx (H d17_18) rfl rfl ?_
                refine gIfLt X2 hx (H d17_19) (pc' := 38) (by decide) (by decide) (pn := 22) rfl (fun (c19''' : (-1 : Int) < (0 : Int)) => ?_) (fun (c19''' : (0 : Int) ≤ (-1 : Int)) => ?_)
                · refine gIconst 39 X2 hx (v := (-1 : Int32)) (H d17_38) rfl rfl ?_
                  exact gRetI X2 hx hlk hret (H d17_39) (by decide) (by decide) (⟨by rw [lx3, if_neg (fun z => c27 ((own_beq hch2 (by decide)).mpr z)), if_neg (fun z => c27' ((own_beq hch1 (by decide)).mpr z)), if_neg (fun z => c27'' ((own_beq hch0 (by decide)).mpr z))], e2, rfl⟩)
                · exact absurd c19''' (by decide)
              · refine gLoadIN 31 X2 hx (H d17_30) rfl rfl ?_
                exact gRetI X2 hx hlk hret (H d17_31) (by decide) (by decide) (⟨by rw [lx3, if_neg (fun z => c27 ((own_beq hch2 (by decide)).mpr z)), if_neg (fun z => c27' ((own_beq hch1 (by decide)).mpr z)), if_pos ((own_beq hch0 (by decide)).mp c27'')], e2, rfl⟩)
          · refine gLoadIN 31 X2 hx (H d17_30) rfl rfl ?_
            exact gRetI X2 hx hlk hret (H d17_31) (by decide) (by decide) (⟨by rw [lx3, if_neg (fun z => c27 ((own_beq hch2 (by decide)).mpr z)), if_pos ((own_beq hch1 (by decide)).mp c27')], e2, rfl⟩)
      · refine gLoadIN 31 X2 hx (H d17_30) rfl rfl ?_
        exact gRetI X2 hx hlk hret (H d17_31) (by decide) (by decide) (⟨by rw [lx3, if_pos ((own_beq hch2 (by decide)).mp c27)], e2, rfl⟩)
  · exact absurd c4 (by decide)
theorem c_length_3 (l : Launch) (Z : State) (a0 : Array Value) (hw : ∀ d ∈ tables_1, d.before a0 Z = true) (a t : Addr) (ck : ClassId) (ch0 ch1 ch2 : Int32) (h0 : Heap) (hCpt : Cpt Z h0) (E : sE Z h0 a) (C : sC Z h0 a) (V : sV Z h0 a t) (A : sA Z h0 t ck 3 [by8 ch0, by8 ch1, by8 ch2]) (hch0 : rg ch0) (hch1 : rg ch1) (hch2 : rg ch2) :
    Ctr l Z mn17 jdk_42_method_54_code 1 (some .int) [] ⟨1, 0, 0, 13⟩ #[(.ref a)] h0 (Just h0 (.int 3)) := by
  refine Ctr.of (plainFor_of_name pn_4) ?_
  intro p e s m below meth c s₁ hx H hml hret hown hnm hZ hlk X0 e0
  refine Goes.cast (show entryFrame m _ _ = mkF m 0 #[.val (.ref a)] [] from rfl) ?_
  refine gLoadAN 1 X0 hx (H d11_0) rfl rfl rfl ?_
  refine gGetF X0 hx hZ hown (ow hw 28 rfl) Via.refl e0 V (H d11_1) (pc' := 4) rfl (fun T1 X1 e1 => ?_)
  refine gArrLen X1 hx hZ e1 A (H d11_4) (pc' := 5) rfl ?_
  refine gLoadAN 6 X1 hx (H d11_5) rfl rfl rfl ?_
  refine gCallVJ X1 hx hZ (y := mn13) hown e1 (by rw [hml]; rfl) E (ow hw 44 rfl) (ow hw 45 rfl) (ow hw 47 rfl) (ow hw 46 rfl) (ow hw 10 rfl) (ow hw 48 rfl) (by decide) (argsL := []) (st := [(.int (3 : Int32))]) (c_coder l Z a0 hw a h0 hCpt C) (lenOf pd_0 rfl) (H d11_6) (pc' := 9) rfl rfl rfl rfl (by decide) (W := 1) (Nat.le_of_eq rfl) (by decide) (by decide) (by decide) ?_
  intro T2 X2 e2
  refine gIshr 10 X2 hx (H d11_9) rfl ?_
  show Goes p e below _ T2 (mkF m 10 #[.val (.ref a)] [(.int (3 : Int32))])
  exact gRetI X2 hx hlk hret (H d11_10) (by decide) (by decide) (⟨rfl, e2, rfl⟩)
theorem c_lastIndexOf_32 (l : Launch) (Z : State) (a0 : Array Value) (hw : ∀ d ∈ tables_1, d.before a0 Z = true) (a t : Addr) (ck : ClassId) (ch0 ch1 ch2 : Int32) (h0 : Heap) (hCpt : Cpt Z h0) (E : sE Z h0 a) (C : sC Z h0 a) (V : sV Z h0 a t) (A : sA Z h0 t ck 3 [by8 ch0, by8 ch1, by8 ch2]) (hch0 : rg ch0) (hch1 : rg ch1) (hch2 : rg ch2) :
    Ctr l Z mn16 jdk_42_method_83_code 3 (some .int) [] ⟨2, 0, 0, 42⟩ #[(.ref a), (.int (47 : Int32)), (.int (2 : Int32))] h0 (Just h0 (.int (lx3 ch0 ch1 ch2))) := by
  refine Ctr.of (plainFor_of_name pn_4) ?_
  intro p e s m below meth c s₁ hx H hml hret hown hnm hZ hlk X0 e0
  refine Goes.cast (show entryFrame m _ _ = mkF m 0 #[.val (.ref a), .val (.int (47 : Int32)), .val (.int (2 : Int32))] [] from rfl) ?_
  refine gLoadAN 1 X0 hx (H d14_0) rfl rfl rfl ?_
  refine gCallVJ X0 hx hZ (y := mn14) hown e0 (by rw [hml]; rfl) E (ow hw 55 rfl) (ow hw 56 rfl) (ow hw 58 rfl) (ow hw 57 rfl) (ow hw 10 rfl) (ow hw 59 rfl) (by decide) (argsL := []) (st := []) (c_isLatin1 l Z a0 hw a h0 hCpt C) (lenOf pd_3 rfl) (H d14_1) (pc' := 4) rfl rfl rfl rfl (by decide) (W := 0) (Nat.le_of_eq rfl) (by decide) (by decide) (by decide) ?_
  intro T1 X1 e1
  refine gIfEqT X1 hx (H d14_4) (pc' := 19) (by decide) (by decide) (pn := 7) rfl (fun (c4 : (1 : Int) = (0 : Int)) => ?_) (fun (c4 : ¬ (1 : Int) = (0 : Int)) => ?_)
  · exact absurd c4 (by decide)
  · refine gLoadAN 8 X1 hx (H d14_7) rfl rfl rfl ?_
    refine gGetF X1 hx hZ hown (ow hw 28 rfl) Via.refl e1 V (H d14_8) (pc' := 11) rfl (fun T2 X2 e2 => ?_)
    refine gLoadIN 12 X2 hx (H d14_11) rfl rfl ?_
    refine gLoadIN 13 X2 hx (H d14_12) rfl rfl ?_
    refine gCallSJ X2 hx hZ (y := mn22) hown e2 (by rw [hml]; rfl) (ow hw 60 rfl) (ow hw 61 rfl) (ow hw 62 rfl) (ow hw 63 rfl) (by decide) (argsL := [(.ref t), (.int (47 : Int32)), (.int (2 : Int32))]) (st := []) (c_lastIndexOf_3l l Z a0 hw t ck ch0 ch1 ch2 h0 A hch0 hch1 hch2) (lenOf pd_21 rfl) (H d14_13) (pc' := 16) rfl rfl rfl rfl (by decide) (W := 0) (Nat.le_of_eq rfl) (by decide) (by decide) (by decide) ?_
    intro T3 X3 e3
    refine gGoto X3 hx (H d14_16) (pc' := 28) (by decide) (by decide) ?_
    exact gRetI X3 hx hlk hret (H d14_28) (by decide) (by decide) (⟨rfl, e3, rfl⟩)
theorem c_lastIndexOf_3 (l : Launch) (Z : State) (a0 : Array Value) (hw : ∀ d ∈ tables_1, d.before a0 Z = true) (a t : Addr) (ck : ClassId) (ch0 ch1 ch2 : Int32) (h0 : Heap) (hCpt : Cpt Z h0) (E : sE Z h0 a) (C : sC Z h0 a) (V : sV Z h0 a t) (A : sA Z h0 t ck 3 [by8 ch0, by8 ch1, by8 ch2]) (hch0 : rg ch0) (hch1 : rg ch1) (hch2 : rg ch2) :
    Ctr l Z mn15 jdk_42_method_82_code 2 (some .int) [] ⟨3, 0, 0, 58⟩ #[(.ref a), (.int (47 : Int32))] h0 (Just h0 (.int (lx3 ch0 ch1 ch2))) := by
  refine Ctr.of (plainFor_of_name pn_4) ?_
  intro p e s m below meth c s₁ hx H hml hret hown hnm hZ hlk X0 e0
  refine Goes.cast (show entryFrame m _ _ = mkF m 0 #[.val (.ref a), .val (.int (47 : Int32))] [] from rfl) ?_
  refine gLoadAN 1 X0 hx (H d13_0) rfl rfl rfl ?_
  refine gLoadIN 2 X0 hx (H d13_1) rfl rfl ?_
  refine gLoadAN 3 X0 hx (H d13_2) rfl rfl rfl ?_
  refine gCallVJ X0 hx hZ (y := mn17) hown e0 (by rw [hml]; rfl) E (ow hw 39 rfl) (ow hw 40 rfl) (ow hw 42 rfl) (ow hw 41 rfl) (ow hw 10 rfl) (ow hw 43 rfl) (by decide) (argsL := []) (st := [(.int (47 : Int32)), (.ref a)]) (c_length_3 l Z a0 hw a t ck ch0 ch1 ch2 h0 hCpt E C V A hch0 hch1 hch2) (lenOf pd_1 rfl) (H d13_3) (pc' := 6) rfl rfl rfl rfl (by decide) (W := 2) (Nat.le_of_eq rfl) (by decide) (by decide) (by decide) ?_
  intro T1 X1 e1
  refine gIconst 7 X1 hx (v := (1 : Int32)) (H d13_6) rfl rfl ?_
  refine gIsub 8 X1 hx (H d13_7) rfl ?_
  show Goes p e below _ T1 (mkF m 8 #[.val (.ref a), .val (.int (47 : Int32))] [(.int (2 : Int32)), (.int (47 : Int32)), (.ref a)])
  refine gCallVJ X1 hx hZ (y := mn16) hown e1 (by rw [hml]; rfl) E (ow hw 50 rfl) (ow hw 51 rfl) (ow hw 53 rfl) (ow hw 52 rfl) (ow hw 10 rfl) (ow hw 54 rfl) (by decide) (argsL := [(.int (47 : Int32)), (.int (2 : Int32))]) (st := []) (c_lastIndexOf_32 l Z a0 hw a t ck ch0 ch1 ch2 h0 hCpt E C V A hch0 hch1 hch2) (lenOf pd_10 rfl) (H d13_8) (pc' := 11) rfl rfl rfl rfl (by decide) (W := 0) (Nat.le_of_eq rfl) (by decide) (by decide) (by decide) ?_
  intro T2 X2 e2
  exact gRetI X2 hx hlk hret (H d13_11) (by decide) (by decide) (⟨rfl, e2, rfl⟩)
theorem c_sub_3_0_3 (l : Launch) (Z : State) (a0 : Array Value) (hw : ∀ d ∈ tables_1, d.before a0 Z = true) (a t : Addr) (ck : ClassId) (ch0 ch1 ch2 : Int32) (h0 : Heap) (hSio : Sio Z h0) (hCpt : Cpt Z h0) (E : sE Z h0 a) (C : sC Z h0 a) (V : sV Z h0 a t) (A : sA Z h0 t ck 3 [by8 ch0, by8 ch1, by8 ch2]) (hch0 : rg ch0) (hch1 : rg ch1) (hch2 : rg ch2) :
    Ctr l Z mn19 jdk_42_method_92_code 5 (some (.object "java/lang/String")) [] ⟨2, 0, 0, 30⟩ #[(.ref a), (.int (0 : Int32)), (.int (3 : Int32))] h0 (Just h0 (.ref a)) := by
  refine Ctr.of (plainFor_of_name pn_4) ?_
  intro p e s m below meth c s₁ hx H hml hret hown hnm hZ hlk X0 e0
  refine Goes.cast (show entryFrame m _ _ = mkF m 0 #[.val (.ref a), .val (.int (0 : Int32)), .val (.int (3 : Int32)), .unset, .unset] [] from rfl) ?_
  refine gLoadAN 1 X0 hx (H d16_0) rfl rfl rfl ?_
  refine gCallVJ X0 hx hZ (y := mn17) hown e0 (by rw [hml]; rfl) E (ow hw 39 rfl) (ow hw 40 rfl) (ow hw 42 rfl) (ow hw 41 rfl) (ow hw 10 rfl) (ow hw 43 rfl) (by decide) (argsL := []) (st := []) (c_length_3 l Z a0 hw a t ck ch0 ch1 ch2 h0 hCpt E C V A hch0 hch1 hch2) (lenOf pd_1 rfl) (H d16_1) (pc' := 4) rfl rfl rfl rfl (by decide) (W := 0) (Nat.le_of_eq rfl) (by decide) (by decide) (by decide) ?_
  intro T1 X1 e1
  refine gStoreIN 5 X1 hx (H d16_4) (l' := #[.val (.ref a), .val (.int (0 : Int32)), .val (.int (3 : Int32)), .val (.int (3 : Int32)), .unset]) rfl rfl ?_
  refine gLoadIN 6 X1 hx (H d16_5) rfl rfl ?_
  refine gLoadIN 7 X1 hx (H d16_6) rfl rfl ?_
  refine gLoadIN 8 X1 hx (H d16_7) rfl rfl ?_
  refine gCallS X1 hx hZ (y := mn11) hown e1 (by rw [hml]; rfl) (ow hw 81 rfl) (ow hw 82 rfl) (ow hw 10 rfl) (ow hw 83 rfl) (by decide) (argsL := [(.int (0 : Int32)), (.int (3 : Int32)), (.int (3 : Int32))]) (st := []) (c_chkft l Z a0 hw (0 : Int32) (3 : Int32) (3 : Int32) h0 (by decide) (by decide) (by decide) hSio) (lenOf pd_13 rfl) (H d16_8) (pc' := 11) rfl rfl (by decide) (W := 0) (Nat.le_of_eq rfl) (by decide) (by decide) (by decide) ?_
  intro T2 v2 L2 X2 hQ2
  obtain ⟨rfl, eq2, rfl⟩ := hQ2
  rw [List.append_nil] at X2
  refine gLoadIN 12 X2 hx (H d16_11) rfl rfl ?_
  refine gIfNeT X2 hx (H d16_12) (pc' := 22) (by decide) (by decide) (pn := 15) rfl (fun (c12 : ¬ (0 : Int) = (0 : Int)) => ?_) (fun (c12 : (0 : Int) = (0 : Int)) => ?_)
  · exact absurd c12 (by decide)
  · refine gLoadIN 16 X2 hx (H d16_15) rfl rfl ?_
    refine gLoadIN 17 X2 hx (H d16_16) rfl rfl ?_
    refine gIcmpNeT X2 hx (H d16_17) (pc' := 22) (by decide) (by decide) (pn := 20) rfl (fun (c17 : ¬ (3 : Int) = (3 : Int)) => ?_) (fun (c17 : (3 : Int) = (3 : Int)) => ?_)
    · exact absurd c17 (by decide)
    · refine gLoadAN 21 X2 hx (H d16_20) rfl rfl rfl ?_
      exact gRetA X2 hx hlk hret rfl rfl (H d16_21) (by decide) (by decide) (⟨rfl, eq2, rfl⟩)
theorem c_sub_3_0_3o (l : Launch) (Z : State) (a0 : Array Value) (hw : ∀ d ∈ tables_1, d.before a0 Z = true) (a t : Addr) (ck : ClassId) (ch0 ch1 ch2 : Int32) (h0 : Heap) (hSio : Sio Z h0) (hCpt : Cpt Z h0) (E : sE Z h0 a) (C : sC Z h0 a) (V : sV Z h0 a t) (A : sA Z h0 t ck 3 [by8 ch0, by8 ch1, by8 ch2]) (hch0 : rg ch0) (hch1 : rg ch1) (hch2 : rg ch2) :
    Ctr l Z mn18 jdk_42_method_91_code 2 (some (.object "java/lang/String")) [] ⟨3, 0, 0, 50⟩ #[(.ref a), (.int (0 : Int32))] h0 (Just h0 (.ref a)) := by
  refine Ctr.of (plainFor_of_name pn_4) ?_
  intro p e s m below meth c s₁ hx H hml hret hown hnm hZ hlk X0 e0
  refine Goes.cast (show entryFrame m _ _ = mkF m 0 #[.val (.ref a), .val (.int (0 : Int32))] [] from rfl) ?_
  refine gLoadAN 1 X0 hx (H d15_0) rfl rfl rfl ?_
  refine gLoadIN 2 X0 hx (H d15_1) rfl rfl ?_
  refine gLoadAN 3 X0 hx (H d15_2) rfl rfl rfl ?_
  refine gCallVJ X0 hx hZ (y := mn17) hown e0 (by rw [hml]; rfl) E (ow hw 39 rfl) (ow hw 40 rfl) (ow hw 42 rfl) (ow hw 41 rfl) (ow hw 10 rfl) (ow hw 43 rfl) (by decide) (argsL := []) (st := [(.int (0 : Int32)), (.ref a)]) (c_length_3 l Z a0 hw a t ck ch0 ch1 ch2 h0 hCpt E C V A hch0 hch1 hch2) (lenOf pd_1 rfl) (H d15_3) (pc' := 6) rfl rfl rfl rfl (by decide) (W := 2) (Nat.le_of_eq rfl) (by decide) (by decide) (by decide) ?_
  intro T1 X1 e1
  refine gCallVJ X1 hx hZ (y := mn19) hown e1 (by rw [hml]; rfl) E (ow hw 76 rfl) (ow hw 77 rfl) (ow hw 79 rfl) (ow hw 78 rfl) (ow hw 10 rfl) (ow hw 80 rfl) (by decide) (argsL := [(.int (0 : Int32)), (.int (3 : Int32))]) (st := []) (c_sub_3_0_3 l Z a0 hw a t ck ch0 ch1 ch2 h0 hSio hCpt E C V A hch0 hch1 hch2) (lenOf pd_11 rfl) (H d15_6) (pc' := 9) rfl rfl rfl rfl (by decide) (W := 0) (Nat.le_of_eq rfl) (by decide) (by decide) (by decide) ?_
  intro T2 X2 e2
  exact gRetA X2 hx hlk hret rfl rfl (H d15_9) (by decide) (by decide) (⟨rfl, e2, rfl⟩)
theorem c_nm_3_m (l : Launch) (Z : State) (a0 : Array Value) (hw : ∀ d ∈ tables_1, d.before a0 Z = true) (a t : Addr) (ck : ClassId) (ch0 ch1 ch2 : Int32) (h0 : Heap) (hSio : Sio Z h0) (hCpt : Cpt Z h0) (E : sE Z h0 a) (C : sC Z h0 a) (V : sV Z h0 a t) (A : sA Z h0 t ck 3 [by8 ch0, by8 ch1, by8 ch2]) (hch0 : rg ch0) (hch1 : rg ch1) (hch2 : rg ch2) (d0 : ¬ ch0.toInt = 47) (d1 : ¬ ch1.toInt = 47) (d2 : ¬ ch2.toInt = 47) :
    Ctr l Z mn0 prog_18_method_7_code 1 (some (.object "java/lang/String")) [] ⟨4, 0, 0, 73⟩ #[(.ref a)] h0 (Just h0 (.ref a)) := by
  refine Ctr.of (plainFor_of_name pn_0) ?_
  intro p e s m below meth c s₁ hx H hml hret hown hnm hZ hlk X0 e0
  refine Goes.cast (show entryFrame m _ _ = mkF m 0 #[.val (.ref a)] [] from rfl) ?_
  refine gLoadAN 1 X0 hx (H d31_0) rfl rfl rfl ?_
  refine gLoadAN 2 X0 hx (H d31_1) rfl rfl rfl ?_
  refine gBipush 4 X0 hx (v := (47 : Int32)) (H d31_2) rfl rfl ?_
  refine gCallVJ X0 hx hZ (y := mn15) hown e0 (by rw [hml]; rfl) E (ow hw 34 rfl) (ow hw 35 rfl) (ow hw 37 rfl) (ow hw 36 rfl) (ow hw 10 rfl) (ow hw 38 rfl) (by decide) (argsL := [(.int (47 : Int32))]) (st := [(.ref a)]) (c_lastIndexOf_3 l Z a0 hw a t ck ch0 ch1 ch2 h0 hCpt E C V A hch0 hch1 hch2) (lenOf pd_5 rfl) (H d31_4) (pc' := 7) rfl rfl rfl rfl (by decide) (W := 1) (Nat.le_of_eq rfl) (by decide) (by decide) (by decide) ?_
  intro T1 X1 e1
  rw [show lx3 ch0 ch1 ch2 = -1 from by rw [lx3, if_neg d2, if_neg d1, if_neg d0]]
  refine gIconst 8 X1 hx (v := (1 : Int32)) (H d31_7) rfl rfl ?_
  refine gIadd 9 X1 hx (H d31_8) rfl ?_
  show Goes p e below _ T1 (mkF m 9 #[.val (.ref a)] [(.int (0 : Int32)), (.ref a)])
  refine gCallVJ X1 hx hZ (y := mn18) hown e1 (by rw [hml]; rfl) E (ow hw 71 rfl) (ow hw 72 rfl) (ow hw 74 rfl) (ow hw 73 rfl) (ow hw 10 rfl) (ow hw 75 rfl) (by decide) (argsL := [(.int (0 : Int32))]) (st := []) (c_sub_3_0_3o l Z a0 hw a t ck ch0 ch1 ch2 h0 hSio hCpt E C V A hch0 hch1 hch2) (lenOf pd_6 rfl) (H d31_9) (pc' := 12) rfl rfl rfl rfl (by decide) (W := 0) (Nat.le_of_eq rfl) (by decide) (by decide) (by decide) ?_
  intro T2 X2 e2
  exact gRetA X2 hx hlk hret rfl rfl (H d31_12) (by decide) (by decide) (⟨rfl, e2, rfl⟩)
theorem c_clen_1_3 (l : Launch) (Z : State) (a0 : Array Value) (hw : ∀ d ∈ tables_1, d.before a0 Z = true)  (h0 : Heap)  :
    Ctr l Z mn28 jdk_65_method_131_code 2 none [] ⟨0, 0, 0, 0⟩ #[(.int (1 : Int32)), (.int (3 : Int32))] h0 (fun v h L => v = none ∧ h = h0 ∧ L = []) := by
  refine Ctr.of (plainFor_of_name pn_7) ?_
  intro p e s m below meth c s₁ hx H hml hret hown hnm hZ hlk X0 e0
  refine Goes.cast (show entryFrame m _ _ = mkF m 0 #[.val (.int (1 : Int32)), .val (.int (3 : Int32))] [] from rfl) ?_
  refine gLoadIN 1 X0 hx (H d24_0) rfl rfl ?_
  refine gLoadIN 2 X0 hx (H d24_1) rfl rfl ?_
  refine gIcmpGe X0 hx (H d24_2) (pc' := 37) (by decide) (by decide) (pn := 5) rfl (fun (c2 : (1 : Int) ≤ (3 : Int)) => ?_) (fun (c2 : (3 : Int) < (1 : Int)) => ?_)
  · exact gRetV X0 hx hlk hret (H d24_37) (by decide) (by decide) (⟨rfl, e0, rfl⟩)
  · exact absurd c2 (by decide)
theorem c_cor_3_1_3b (l : Launch) (Z : State) (a0 : Array Value) (hw : ∀ d ∈ tables_1, d.before a0 Z = true) (t : Addr) (ck : ClassId) (ch0 ch1 ch2 : Int32) (h0 : Heap) (A : sA Z h0 t ck 3 [by8 ch0, by8 ch1, by8 ch2]) :
    Ctr l Z mn30 jdk_65_method_133_code 5 (some (.array .byte)) [] ⟨1, 1, 2, 24⟩ #[(.ref t), (.int (1 : Int32)), (.int (3 : Int32))] h0 (fun v h L => ∃ (b : Addr) (ct : ClassId), v = some (.ref b) ∧ h0.size ≤ b ∧ Fr h0.size L ∧ Keep h0 h [] ∧ sA Z h b ct 2 [by8 ch1, by8 ch2]) := by
  refine Ctr.of (plainFor_of_name pn_7) ?_
  intro p e s m below meth c s₁ hx H hml hret hown hnm hZ hlk X0 e0
  refine Goes.cast (show entryFrame m _ _ = mkF m 0 #[.val (.ref t), .val (.int (1 : Int32)), .val (.int (3 : Int32)), .unset, .unset] [] from rfl) ?_
  refine gLoadIN 1 X0 hx (H d26_0) rfl rfl ?_
  refine gLoadIN 2 X0 hx (H d26_1) rfl rfl ?_
  refine gCallS X0 hx hZ (y := mn28) hown e0 (by rw [hml]; rfl) (ow hw 111 rfl) (ow hw 112 rfl) (ow hw 106 rfl) (ow hw 113 rfl) (by decide) (argsL := [(.int (1 : Int32)), (.int (3 : Int32))]) (st := []) (c_clen_1_3 l Z a0 hw h0) (lenOf pd_12 rfl) (H d26_2) (pc' := 5) rfl rfl (by decide) (W := 0) (Nat.le_of_eq rfl) (by decide) (by decide) (by decide) ?_
  intro T1 v1 L1 X1 hQ1
  obtain ⟨rfl, eq1, rfl⟩ := hQ1
  rw [List.append_nil] at X1
  refine gLoadIN 6 X1 hx (H d26_5) rfl rfl ?_
  refine gLoadIN 7 X1 hx (H d26_6) rfl rfl ?_
  refine gIsub 8 X1 hx (H d26_7) rfl ?_
  show Goes p e below _ T1 (mkF m 8 #[.val (.ref t), .val (.int (1 : Int32)), .val (.int (3 : Int32)), .unset, .unset] [(.int (2 : Int32))])
  refine gStoreIN 9 X1 hx (H d26_8) (l' := #[.val (.ref t), .val (.int (1 : Int32)), .val (.int (3 : Int32)), .val (.int (2 : Int32)), .unset]) rfl rfl ?_
  refine gLoadIN 10 X1 hx (H d26_9) rfl rfl ?_
  refine gNewP X1 hx hZ (ow hw 23 rfl) eq1 (n := (2 : Int32)) (H d26_10) (by decide) (cap := 2) (by decide) (by decide) (by decide) (by decide) 2 (pc' := 12) rfl (fun T2 h2 b2 ck2 X2 e2 g2 E2 A2 => ?_)
  have ne_t_b2 : t ≠ b2 := Nat.ne_of_lt (Nat.lt_of_lt_of_eq A.lt g2.symm)
  have f2_0 := A.ext E2
  have sz_b2 : h0.size ≤ b2 := Nat.le_trans (Nat.le_refl _) (Nat.le_of_eq g2.symm)
  have zs2 : h0.size ≤ h2.size := Nat.le_trans (Nat.le_refl _) E2.1
  have K2 : Keep h0 h2 [] := (Keep.refl h0 []).ext E2
  have V2 : Arv Z h2 b2 ck2 .byte (2 : Int32) [(.int (0 : Int32)), (.int (0 : Int32))] (.int (0 : Int32)) := A2
  refine gStoreA 14 X2 hx (H d26_12) (l' := #[.val (.ref t), .val (.int (1 : Int32)), .val (.int (3 : Int32)), .val (.int (2 : Int32)), .val (.ref b2)]) rfl rfl rfl ?_
  refine gLoadAN 15 X2 hx (H d26_14) rfl rfl rfl ?_
  refine gLoadIN 16 X2 hx (H d26_15) rfl rfl ?_
  refine gLoadA 18 X2 hx (H d26_16) rfl rfl rfl ?_
  refine gIconst 19 X2 hx (v := (0 : Int32)) (H d26_18) rfl rfl ?_
  refine gLoadAN 20 X2 hx (H d26_19) rfl rfl rfl ?_
  refine gArrLen X2 hx hZ e2 f2_0 (H d26_20) (pc' := 21) rfl ?_
  refine gLoadIN 22 X2 hx (H d26_21) rfl rfl ?_
  refine gIsub 23 X2 hx (H d26_22) rfl ?_
  show Goes p e below _ T2 (mkF m 23 #[.val (.ref t), .val (.int (1 : Int32)), .val (.int (3 : Int32)), .val (.int (2 : Int32)), .val (.ref b2)] [(.int (2 : Int32)), (.int (0 : Int32)), (.ref b2), (.int (1 : Int32)), (.ref t)])
  refine gLoadIN 24 X2 hx (H d26_23) rfl rfl ?_
  refine gCallSJ X2 hx hZ (y := mn5) hown e2 (by rw [hml]; rfl) (ow hw 114 rfl) (ow hw 68 rfl) (ow hw 69 rfl) (ow hw 70 rfl) (by decide) (argsL := [(.int (2 : Int32)), (.int (2 : Int32))]) (st := [(.int (0 : Int32)), (.ref b2), (.int (1 : Int32)), (.ref t)]) (c_min_2_2 l Z a0 hw h2) (lenOf pd_10 rfl) (H d26_24) (pc' := 27) rfl rfl rfl rfl (by decide) (W := 4) (Nat.le_of_eq rfl) (by decide) (by decide) (by decide) ?_
  intro T3 X3 e3
  refine gArrCopy X3 hx hZ hown (ow hw 115 rfl) (ow hw 118 rfl) (ow hw 116 rfl) (ow hw 117 rfl) e3 (dv := (.int 0)) (dd := (.int 0)) f2_0 V2 rfl (by decide) (by decide) (by decide) (by decide) (by decide) (by decide) (Fr.nil h0.size) sz_b2 (by rw [hml]; rfl) (H d26_27) (pc' := 30) rfl (by decide) (W := 0) (Nat.le_of_eq rfl) (by decide) (fun T4 h4 L4 X4 e4 N4 K4 A4 => ?_)
  have KK : Keep h0 h4 [] := K2.trans K4 (allS (Or.inr sz_b2) all0)
  have VV : Arv Z h4 b2 ck2 .byte 2 [by8 ch1, by8 ch2] (.int 0) := A4
  refine gLoadA 32 X4 hx (H d26_30) rfl rfl rfl ?_
  exact gRetA X4 hx hlk hret rfl rfl (H d26_32) (by decide) (by decide) (⟨_, _, rfl, sz_b2, N4, by rw [e4]; exact KK, by rw [e4]; exact VV⟩)
theorem c_cor_3_1_3 (l : Launch) (Z : State) (a0 : Array Value) (hw : ∀ d ∈ tables_1, d.before a0 Z = true) (t : Addr) (ck : ClassId) (ch0 ch1 ch2 : Int32) (h0 : Heap) (A : sA Z h0 t ck 3 [by8 ch0, by8 ch1, by8 ch2]) :
    Ctr l Z mn29 jdk_65_method_132_code 3 (some (.array .byte)) [] ⟨2, 1, 2, 40⟩ #[(.ref t), (.int (1 : Int32)), (.int (3 : Int32))] h0 (fun v h L => ∃ (b : Addr) (ct : ClassId), v = some (.ref b) ∧ h0.size ≤ b ∧ Fr h0.size L ∧ Keep h0 h [] ∧ sA Z h b ct 2 [by8 ch1, by8 ch2]) := by
  refine Ctr.of (plainFor_of_name pn_7) ?_
  intro p e s m below meth c s₁ hx H hml hret hown hnm hZ hlk X0 e0
  refine Goes.cast (show entryFrame m _ _ = mkF m 0 #[.val (.ref t), .val (.int (1 : Int32)), .val (.int (3 : Int32))] [] from rfl) ?_
  refine gLoadIN 1 X0 hx (H d25_0) rfl rfl ?_
  refine gIfNeT X0 hx (H d25_1) (pc' := 10) (by decide) (by decide) (pn := 4) rfl (fun (c1 : ¬ (1 : Int) = (0 : Int)) => ?_) (fun (c1 : (1 : Int) = (0 : Int)) => ?_)
  · refine gLoadAN 11 X0 hx (H d25_10) rfl rfl rfl ?_
    refine gLoadIN 12 X0 hx (H d25_11) rfl rfl ?_
    refine gLoadIN 13 X0 hx (H d25_12) rfl rfl ?_
    refine gCallS X0 hx hZ (y := mn30) hown e0 (by rw [hml]; rfl) (ow hw 108 rfl) (ow hw 109 rfl) (ow hw 106 rfl) (ow hw 110 rfl) (by decide) (argsL := [(.ref t), (.int (1 : Int32)), (.int (3 : Int32))]) (st := []) (c_cor_3_1_3b l Z a0 hw t ck ch0 ch1 ch2 h0 A) (lenOf pd_23 rfl) (H d25_13) (pc' := 16) rfl rfl (by decide) (W := 0) (Nat.le_of_eq rfl) (by decide) (by decide) (by decide) ?_
    intro T1 v1 L1 X1 hQ1
    obtain ⟨b1, ct1, rfl, g1, g2, g3, g4⟩ := hQ1
    exact gRetA X1 hx hlk hret rfl rfl (H d25_16) (by decide) (by decide) (⟨_, _, rfl, g1, g2, g3, g4⟩)
  · exact absurd c1 (by decide)
theorem c_newString_3_1_2 (l : Launch) (Z : State) (a0 : Array Value) (hw : ∀ d ∈ tables_1, d.before a0 Z = true) (t : Addr) (ck : ClassId) (ch0 ch1 ch2 : Int32) (h0 : Heap) (A : sA Z h0 t ck 3 [by8 ch0, by8 ch1, by8 ch2]) :
    Ctr l Z mn23 jdk_43_method_47_code 3 (some (.object "java/lang/String")) [] ⟨3, 2, 6, 57⟩ #[(.ref t), (.int (1 : Int32)), (.int (2 : Int32))] h0 (SQd Z h0 2 [by8 ch1, by8 ch2]) := by
  refine Ctr.of (plainFor_of_name pn_5) ?_
  intro p e s m below meth c s₁ hx H hml hret hown hnm hZ hlk X0 e0
  refine Goes.cast (show entryFrame m _ _ = mkF m 0 #[.val (.ref t), .val (.int (1 : Int32)), .val (.int (2 : Int32))] [] from rfl) ?_
  refine gLoadIN 1 X0 hx (H d19_0) rfl rfl ?_
  refine gIfNeT X0 hx (H d19_1) (pc' := 7) (by decide) (by decide) (pn := 4) rfl (fun (c1 : ¬ (2 : Int) = (0 : Int)) => ?_) (fun (c1 : (2 : Int) = (0 : Int)) => ?_)
  · refine gNew X0 hx hZ hown (ow hw 103 rfl) (ow hw 9 rfl) (ow hw 10 rfl) e0 (H d19_7) (pc' := 10) rfl (by decide) (by decide) (fun T1 h1 b1 X1 e1 g1 E1 A1 D1 => ?_)
    have ne_t_b1 : t ≠ b1 := Nat.ne_of_lt (Nat.lt_of_lt_of_eq A.lt g1.symm)
    have f1_0 := A.ext E1
    have sz_b1 : h0.size ≤ b1 := Nat.le_trans (Nat.le_refl _) (Nat.le_of_eq g1.symm)
    have zs1 : h0.size ≤ h1.size := Nat.le_trans (Nat.le_refl _) E1.1
    have K1 : Keep h0 h1 [] := (Keep.refl h0 []).ext E1
    have F1_value : Fld Z h1 b1 "java/lang/String" "value" "[B" .null := D1 (Or.inr (ow hw 24 rfl)) (ty := (.array .byte)) (by decide)
    have F1_coder : Fld Z h1 b1 "java/lang/String" "coder" "B" (.int (0 : Int32)) := D1 (Or.inr (ow hw 25 rfl)) (ty := .byte) (by decide)
    refine gDup 11 X1 hx (H d19_10) rfl rfl ?_
    refine gLoadAN 12 X1 hx (H d19_11) rfl rfl rfl ?_
    refine gLoadIN 13 X1 hx (H d19_12) rfl rfl ?_
    refine gLoadIN 14 X1 hx (H d19_13) rfl rfl ?_
    refine gLoadIN 15 X1 hx (H d19_14) rfl rfl ?_
    refine gIadd 16 X1 hx (H d19_15) rfl ?_
    show Goes p e below _ T1 (mkF m 16 #[.val (.ref t), .val (.int (1 : Int32)), .val (.int (2 : Int32))] [(.int (3 : Int32)), (.int (1 : Int32)), (.ref t), (.ref b1), (.ref b1)])
    refine gCallS X1 hx hZ (y := mn29) hown e1 (by rw [hml]; rfl) (ow hw 104 rfl) (ow hw 105 rfl) (ow hw 106 rfl) (ow hw 107 rfl) (by decide) (argsL := [(.ref t), (.int (1 : Int32)), (.int (3 : Int32))]) (st := [(.ref b1), (.ref b1)]) (c_cor_3_1_3 l Z a0 hw t ck ch0 ch1 ch2 h1 f1_0) (lenOf pd_23 rfl) (H d19_16) (pc' := 19) rfl rfl (by decide) (W := 2) (Nat.le_of_eq rfl) (by decide) (by decide) (by decide) ?_
    intro T2 v2 L2 X2 hQ2
    obtain ⟨q2, ctq2, rfl, gq2, Nq2, Kq2, Aq2⟩ := hQ2
    have N2 := Fr.app (Fr.nil h0.size) (fun y hy => Nat.le_trans zs1 (Nq2 y hy))
    have K2 : Keep h0 T2.heap [] := K1.trans Kq2 all0
    have f2_0 := f1_0.keep Kq2 nin0
    have f2_1 := A1.keep Kq2
    have f2_2 := F1_value.keep Kq2 nin0
    have f2_3 := F1_coder.keep Kq2 nin0
    have zs2 := Nat.le_trans zs1 Kq2.1
    have nq2 : q2 ≠ b1 := Ne.symm (Nat.ne_of_lt (Nat.lt_of_lt_of_le A1.lt gq2))
    refine gIconst 20 X2 hx (v := (0 : Int32)) (H d19_19) rfl rfl ?_
    refine gCallI X2 hx hZ (y := mn7) rfl hown rfl (by rw [hml]; rfl) (ow hw 119 rfl) (ow hw 120 rfl) (ow hw 10 rfl) (ow hw 121 rfl) (by decide) (argsL := [(.ref q2), (.int (0 : Int32))]) (st := [(.ref b1)]) (c_sinitB l Z a0 hw b1 q2 h0.size T2.heap sz_b1 f2_1 f2_3 f2_2) (lenOf pd_18 rfl) (H d19_20) (pc' := 23) rfl rfl (by decide) (W := 1) (Nat.le_of_eq rfl) (by decide) (by decide) (by decide) ?_
    intro T3 v3 L3 X3 hQ3
    obtain ⟨rfl, Nq3, Kq3, Eq3, Cq3, Vq3⟩ := hQ3
    have N3 := Fr.app N2 Nq3
    have K3 : Keep h0 T3.heap [] := K2.trans Kq3 (allS (Or.inr sz_b1) all0)
    have Ak3 := Aq2.keep Kq3 (ninS nq2 nin0)
    exact gRetA X3 hx hlk hret rfl rfl (H d19_23) (by decide) (by decide) (⟨b1, q2, ctq2, rfl, N3, K3, Eq3, Cq3, Vq3, Ak3⟩)
  · exact absurd c1 (by decide)
theorem c_sub_3_1_3 (l : Launch) (Z : State) (a0 : Array Value) (hw : ∀ d ∈ tables_1, d.before a0 Z = true) (a t : Addr) (ck : ClassId) (ch0 ch1 ch2 : Int32) (h0 : Heap) (hSio : Sio Z h0) (hCpt : Cpt Z h0) (E : sE Z h0 a) (C : sC Z h0 a) (V : sV Z h0 a t) (A : sA Z h0 t ck 3 [by8 ch0, by8 ch1, by8 ch2]) (hch0 : rg ch0) (hch1 : rg ch1) (hch2 : rg ch2) :
    Ctr l Z mn19 jdk_42_method_92_code 5 (some (.object "java/lang/String")) [] ⟨4, 2, 6, 71⟩ #[(.ref a), (.int (1 : Int32)), (.int (3 : Int32))] h0 (SQd Z h0 2 [by8 ch1, by8 ch2]) := by
  refine Ctr.of (plainFor_of_name pn_4) ?_
  intro p e s m below meth c s₁ hx H hml hret hown hnm hZ hlk X0 e0
  refine Goes.cast (show entryFrame m _ _ = mkF m 0 #[.val (.ref a), .val (.int (1 : Int32)), .val (.int (3 : Int32)), .unset, .unset] [] from rfl) ?_
  refine gLoadAN 1 X0 hx (H d16_0) rfl rfl rfl ?_
  refine gCallVJ X0 hx hZ (y := mn17) hown e0 (by rw [hml]; rfl) E (ow hw 39 rfl) (ow hw 40 rfl) (ow hw 42 rfl) (ow hw 41 rfl) (ow hw 10 rfl) (ow hw 43 rfl) (by decide) (argsL := []) (st := []) (c_length_3 l Z a0 hw a t ck ch0 ch1 ch2 h0 hCpt E C V A hch0 hch1 hch2) (lenOf pd_1 rfl) (H d16_1) (pc' := 4) rfl rfl rfl rfl (by decide) (W := 0) (Nat.le_of_eq rfl) (by decide) (by decide) (by decide) ?_
  intro T1 X1 e1
  refine gStoreIN 5 X1 hx (H d16_4) (l' := #[.val (.ref a), .val (.int (1 : Int32)), .val (.int (3 : Int32)), .val (.int (3 : Int32)), .unset]) rfl rfl ?_
  refine gLoadIN 6 X1 hx (H d16_5) rfl rfl ?_
  refine gLoadIN 7 X1 hx (H d16_6) rfl rfl ?_
  refine gLoadIN 8 X1 hx (H d16_7) rfl rfl ?_
  refine gCallS X1 hx hZ (y := mn11) hown e1 (by rw [hml]; rfl) (ow hw 81 rfl) (ow hw 82 rfl) (ow hw 10 rfl) (ow hw 83 rfl) (by decide) (argsL := [(.int (1 : Int32)), (.int (3 : Int32)), (.int (3 : Int32))]) (st := []) (c_chkft l Z a0 hw (1 : Int32) (3 : Int32) (3 : Int32) h0 (by decide) (by decide) (by decide) hSio) (lenOf pd_13 rfl) (H d16_8) (pc' := 11) rfl rfl (by decide) (W := 0) (Nat.le_of_eq rfl) (by decide) (by decide) (by decide) ?_
  intro T2 v2 L2 X2 hQ2
  obtain ⟨rfl, eq2, rfl⟩ := hQ2
  rw [List.append_nil] at X2
  refine gLoadIN 12 X2 hx (H d16_11) rfl rfl ?_
  refine gIfNeT X2 hx (H d16_12) (pc' := 22) (by decide) (by decide) (pn := 15) rfl (fun (c12 : ¬ (1 : Int) = (0 : Int)) => ?_) (fun (c12 : (1 : Int) = (0 : Int)) => ?_)
  · refine gLoadIN 23 X2 hx (H d16_22) rfl rfl ?_
    refine gLoadIN 24 X2 hx (H d16_23) rfl rfl ?_
    refine gIsub 25 X2 hx (H d16_24) rfl ?_
    show Goes p e below _ T2 (mkF m 25 #[.val (.ref a), .val (.int (1 : Int32)), .val (.int (3 : Int32)), .val (.int (3 : Int32)), .unset] [(.int (2 : Int32))])
    refine gStoreI 27 X2 hx (H d16_25) (l' := #[.val (.ref a), .val (.int (1 : Int32)), .val (.int (3 : Int32)), .val (.int (3 : Int32)), .val (.int (2 : Int32))]) rfl rfl ?_
    refine gLoadAN 28 X2 hx (H d16_27) rfl rfl rfl ?_
    refine gCallVJ X2 hx hZ (y := mn14) hown eq2 (by rw [hml]; rfl) E (ow hw 55 rfl) (ow hw 56 rfl) (ow hw 58 rfl) (ow hw 57 rfl) (ow hw 10 rfl) (ow hw 59 rfl) (by decide) (argsL := []) (st := []) (c_isLatin1 l Z a0 hw a h0 hCpt C) (lenOf pd_3 rfl) (H d16_28) (pc' := 31) rfl rfl rfl rfl (by decide) (W := 0) (Nat.le_of_eq rfl) (by decide) (by decide) (by decide) ?_
    intro T3 X3 e3
    refine gIfEqT X3 hx (H d16_31) (pc' := 47) (by decide) (by decide) (pn := 34) rfl (fun (c31 : (1 : Int) = (0 : Int)) => ?_) (fun (c31 : ¬ (1 : Int) = (0 : Int)) => ?_)
    · exact absurd c31 (by decide)
    · refine gLoadAN 35 X3 hx (H d16_34) rfl rfl rfl ?_
      refine gGetF X3 hx hZ hown (ow hw 28 rfl) Via.refl e3 V (H d16_35) (pc' := 38) rfl (fun T4 X4 e4 => ?_)
      refine gLoadIN 39 X4 hx (H d16_38) rfl rfl ?_
      refine gLoadI 41 X4 hx (H d16_39) rfl rfl ?_
      refine gCallS X4 hx hZ (y := mn23) hown e4 (by rw [hml]; rfl) (ow hw 100 rfl) (ow hw 101 rfl) (ow hw 62 rfl) (ow hw 102 rfl) (by decide) (argsL := [(.ref t), (.int (1 : Int32)), (.int (2 : Int32))]) (st := []) (c_newString_3_1_2 l Z a0 hw t ck ch0 ch1 ch2 h0 A) (lenOf pd_22 rfl) (H d16_41) (pc' := 44) rfl rfl (by decide) (W := 0) (Nat.le_of_eq rfl) (by decide) (by decide) (by decide) ?_
      intro T5 v5 L5 X5 hQ5
      obtain ⟨r5, t5, ct5, rfl, Nq5, Kq5, Eq5, Cq5, Vq5, Aq5⟩ := hQ5
      have N5 := Fr.app (Fr.nil h0.size) (fun y hy => Nat.le_trans (Nat.le_refl _) (Nq5 y hy))
      have f5_0 := E.keep Kq5
      have f5_1 := C.keep Kq5 nin0
      have f5_2 := V.keep Kq5 nin0
      have f5_3 := A.keep Kq5 nin0
      have f5_4 := own_cpt_keep hCpt Kq5 ns0
      have zs5 := Nat.le_trans (Nat.le_refl _) Kq5.1
      have K5 : Keep h0 T5.heap [] := (Keep.refl h0 []).trans Kq5 all0
      refine gGoto X5 hx (H d16_44) (pc' := 57) (by decide) (by decide) ?_
      exact gRetA X5 hx hlk hret rfl rfl (H d16_57) (by decide) (by decide) (⟨r5, t5, ct5, rfl, N5, K5, Eq5, Cq5, Vq5, Aq5⟩)
  · exact absurd c12 (by decide)
theorem c_sub_3_1_3o (l : Launch) (Z : State) (a0 : Array Value) (hw : ∀ d ∈ tables_1, d.before a0 Z = true) (a t : Addr) (ck : ClassId) (ch0 ch1 ch2 : Int32) (h0 : Heap) (hSio : Sio Z h0) (hCpt : Cpt Z h0) (E : sE Z h0 a) (C : sC Z h0 a) (V : sV Z h0 a t) (A : sA Z h0 t ck 3 [by8 ch0, by8 ch1, by8 ch2]) (hch0 : rg ch0) (hch1 : rg ch1) (hch2 : rg ch2) :
    Ctr l Z mn18 jdk_42_method_91_code 2 (some (.object "java/lang/String")) [] ⟨5, 2, 6, 91⟩ #[(.ref a), (.int (1 : Int32))] h0 (SQd Z h0 2 [by8 ch1, by8 ch2]) := by
  refine Ctr.of (plainFor_of_name pn_4) ?_
  intro p e s m below meth c s₁ hx H hml hret hown hnm hZ hlk X0 e0
  refine Goes.cast (show entryFrame m _ _ = mkF m 0 #[.val (.ref a), .val (.int (1 : Int32))] [] from rfl) ?_
  refine gLoadAN 1 X0 hx (H d15_0) rfl rfl rfl ?_
  refine gLoadIN 2 X0 hx (H d15_1) rfl rfl ?_
  refine gLoadAN 3 X0 hx (H d15_2) rfl rfl rfl ?_
  refine gCallVJ X0 hx hZ (y := mn17) hown e0 (by rw [hml]; rfl) E (ow hw 39 rfl) (ow hw 40 rfl) (ow hw 42 rfl) (ow hw 41 rfl) (ow hw 10 rfl) (ow hw 43 rfl) (by decide) (argsL := []) (st := [(.int (1 : Int32)), (.ref a)]) (c_length_3 l Z a0 hw a t ck ch0 ch1 ch2 h0 hCpt E C V A hch0 hch1 hch2) (lenOf pd_1 rfl) (H d15_3) (pc' := 6) rfl rfl rfl rfl (by decide) (W := 2) (Nat.le_of_eq rfl) (by decide) (by decide) (by decide) ?_
  intro T1 X1 e1
  refine gCallV X1 hx hZ (y := mn19) hown e1 (by rw [hml]; rfl) E (ow hw 76 rfl) (ow hw 77 rfl) (ow hw 79 rfl) (ow hw 78 rfl) (ow hw 10 rfl) (ow hw 80 rfl) (by decide) (argsL := [(.int (1 : Int32)), (.int (3 : Int32))]) (st := []) (c_sub_3_1_3 l Z a0 hw a t ck ch0 ch1 ch2 h0 hSio hCpt E C V A hch0 hch1 hch2) (lenOf pd_11 rfl) (H d15_6) (pc' := 9) rfl rfl (by decide) (W := 0) (Nat.le_of_eq rfl) (by decide) (by decide) (by decide) ?_
  intro T2 v2 L2 X2 hQ2
  obtain ⟨r2, t2, ct2, rfl, Nq2, Kq2, Eq2, Cq2, Vq2, Aq2⟩ := hQ2
  have N2 := Fr.app (Fr.nil h0.size) (fun y hy => Nat.le_trans (Nat.le_refl _) (Nq2 y hy))
  have f2_0 := E.keep Kq2
  have f2_1 := C.keep Kq2 nin0
  have f2_2 := V.keep Kq2 nin0
  have f2_3 := A.keep Kq2 nin0
  have f2_4 := own_cpt_keep hCpt Kq2 ns0
  have zs2 := Nat.le_trans (Nat.le_refl _) Kq2.1
  have K2 : Keep h0 T2.heap [] := (Keep.refl h0 []).trans Kq2 all0
  exact gRetA X2 hx hlk hret rfl rfl (H d15_9) (by decide) (by decide) (⟨r2, t2, ct2, rfl, N2, K2, Eq2, Cq2, Vq2, Aq2⟩)
theorem c_nm_3_0 (l : Launch) (Z : State) (a0 : Array Value) (hw : ∀ d ∈ tables_1, d.before a0 Z = true) (a t : Addr) (ck : ClassId) (ch0 ch1 ch2 : Int32) (h0 : Heap) (hSio : Sio Z h0) (hCpt : Cpt Z h0) (E : sE Z h0 a) (C : sC Z h0 a) (V : sV Z h0 a t) (A : sA Z h0 t ck 3 [by8 ch0, by8 ch1, by8 ch2]) (hch0 : rg ch0) (hch1 : rg ch1) (hch2 : rg ch2) (d1 : ¬ ch1.toInt = 47) (d2 : ¬ ch2.toInt = 47) (dq : ch0.toInt = 47) :
    Ctr l Z mn0 prog_18_method_7_code 1 (some (.object "java/lang/String")) [] ⟨6, 2, 6, 104⟩ #[(.ref a)] h0 (SQd Z h0 2 [by8 ch1, by8 ch2]) := by
  refine Ctr.of (plainFor_of_name pn_0) ?_
  intro p e s m below meth c s₁ hx H hml hret hown hnm hZ hlk X0 e0
  refine Goes.cast (show entryFrame m _ _ = mkF m 0 #[.val (.ref a)] [] from rfl) ?_
  refine gLoadAN 1 X0 hx (H d31_0) rfl rfl rfl ?_
  refine gLoadAN 2 X0 hx (H d31_1) rfl rfl rfl ?_
  refine gBipush 4 X0 hx (v := (47 : Int32)) (H d31_2) rfl rfl ?_
  refine gCallVJ X0 hx hZ (y := mn15) hown e0 (by rw [hml]; rfl) E (ow hw 34 rfl) (ow hw 35 rfl) (ow hw 37 rfl) (ow hw 36 rfl) (ow hw 10 rfl) (ow hw 38 rfl) (by decide) (argsL := [(.int (47 : Int32))]) (st := [(.ref a)]) (c_lastIndexOf_3 l Z a0 hw a t ck ch0 ch1 ch2 h0 hCpt E C V A hch0 hch1 hch2) (lenOf pd_5 rfl) (H d31_4) (pc' := 7) rfl rfl rfl rfl (by decide) (W := 1) (Nat.le_of_eq rfl) (by decide) (by decide) (by decide) ?_
  intro T1 X1 e1
  rw [show lx3 ch0 ch1 ch2 = 0 from by rw [lx3, if_neg d2, if_neg d1, if_pos dq]]
  refine gIconst 8 X1 hx (v := (1 : Int32)) (H d31_7) rfl rfl ?_
  refine gIadd 9 X1 hx (H d31_8) rfl ?_
  show Goes p e below _ T1 (mkF m 9 #[.val (.ref a)] [(.int (1 : Int32)), (.ref a)])
  refine gCallV X1 hx hZ (y := mn18) hown e1 (by rw [hml]; rfl) E (ow hw 71 rfl) (ow hw 72 rfl) (ow hw 74 rfl) (ow hw 73 rfl) (ow hw 10 rfl) (ow hw 75 rfl) (by decide) (argsL := [(.int (1 : Int32))]) (st := []) (c_sub_3_1_3o l Z a0 hw a t ck ch0 ch1 ch2 h0 hSio hCpt E C V A hch0 hch1 hch2) (lenOf pd_6 rfl) (H d31_9) (pc' := 12) rfl rfl (by decide) (W := 0) (Nat.le_of_eq rfl) (by decide) (by decide) (by decide) ?_
  intro T2 v2 L2 X2 hQ2
  obtain ⟨r2, t2, ct2, rfl, Nq2, Kq2, Eq2, Cq2, Vq2, Aq2⟩ := hQ2
  have N2 := Fr.app (Fr.nil h0.size) (fun y hy => Nat.le_trans (Nat.le_refl _) (Nq2 y hy))
  have f2_0 := E.keep Kq2
  have f2_1 := C.keep Kq2 nin0
  have f2_2 := V.keep Kq2 nin0
  have f2_3 := A.keep Kq2 nin0
  have f2_4 := own_cpt_keep hCpt Kq2 ns0
  have zs2 := Nat.le_trans (Nat.le_refl _) Kq2.1
  have K2 : Keep h0 T2.heap [] := (Keep.refl h0 []).trans Kq2 all0
  exact gRetA X2 hx hlk hret rfl rfl (H d31_12) (by decide) (by decide) (⟨r2, t2, ct2, rfl, N2, K2, Eq2, Cq2, Vq2, Aq2⟩)
theorem c_clen_2_3 (l : Launch) (Z : State) (a0 : Array Value) (hw : ∀ d ∈ tables_1, d.before a0 Z = true)  (h0 : Heap)  :
    Ctr l Z mn28 jdk_65_method_131_code 2 none [] ⟨0, 0, 0, 0⟩ #[(.int (2 : Int32)), (.int (3 : Int32))] h0 (fun v h L => v = none ∧ h = h0 ∧ L = []) := by
  refine Ctr.of (plainFor_of_name pn_7) ?_
  intro p e s m below meth c s₁ hx H hml hret hown hnm hZ hlk X0 e0
  refine Goes.cast (show entryFrame m _ _ = mkF m 0 #[.val (.int (2 : Int32)), .val (.int (3 : Int32))] [] from rfl) ?_
  refine gLoadIN 1 X0 hx (H d24_0) rfl rfl ?_
  refine gLoadIN 2 X0 hx (H d24_1) rfl rfl ?_
  refine gIcmpGe X0 hx (H d24_2) (pc' := 37) (by decide) (by decide) (pn := 5) rfl (fun (c2 : (2 : Int) ≤ (3 : Int)) => ?_) (fun (c2 : (3 : Int) < (2 : Int)) => ?_)
  · exact gRetV X0 hx hlk hret (H d24_37) (by decide) (by decide) (⟨rfl, e0, rfl⟩)
  · exact absurd c2 (by decide)
theorem c_cor_3_2_3b (l : Launch) (Z : State) (a0 : Array Value) (hw : ∀ d ∈ tables_1, d.before a0 Z = true) (t : Addr) (ck : ClassId) (ch0 ch1 ch2 : Int32) (h0 : Heap) (A : sA Z h0 t ck 3 [by8 ch0, by8 ch1, by8 ch2]) :
    Ctr l Z mn30 jdk_65_method_133_code 5 (some (.array .byte)) [] ⟨1, 1, 1, 24⟩ #[(.ref t), (.int (2 : Int32)), (.int (3 : Int32))] h0 (fun v h L => ∃ (b : Addr) (ct : ClassId), v = some (.ref b) ∧ h0.size ≤ b ∧ Fr h0.size L ∧ Keep h0 h [] ∧ sA Z h b ct 1 [by8 ch2]) := by
  refine Ctr.of (plainFor_of_name pn_7) ?_
  intro p e s m below meth c s₁ hx H hml hret hown hnm hZ hlk X0 e0
  refine Goes.cast (show entryFrame m _ _ = mkF m 0 #[.val (.ref t), .val (.int (2 : Int32)), .val (.int (3 : Int32)), .unset, .unset] [] from rfl) ?_
  refine gLoadIN 1 X0 hx (H d26_0) rfl rfl ?_
  refine gLoadIN 2 X0 hx (H d26_1) rfl rfl ?_
  refine gCallS X0 hx hZ (y := mn28) hown e0 (by rw [hml]; rfl) (ow hw 111 rfl) (ow hw 112 rfl) (ow hw 106 rfl) (ow hw 113 rfl) (by decide) (argsL := [(.int (2 : Int32)), (.int (3 : Int32))]) (st := []) (c_clen_2_3 l Z a0 hw h0) (lenOf pd_12 rfl) (H d26_2) (pc' := 5) rfl rfl (by decide) (W := 0) (Nat.le_of_eq rfl) (by decide) (by decide) (by decide) ?_
  intro T1 v1 L1 X1 hQ1
  obtain ⟨rfl, eq1, rfl⟩ := hQ1
  rw [List.append_nil] at X1
  refine gLoadIN 6 X1 hx (H d26_5) rfl rfl ?_
  refine gLoadIN 7 X1 hx (H d26_6) rfl rfl ?_
  refine gIsub 8 X1 hx (H d26_7) rfl ?_
  show Goes p e below _ T1 (mkF m 8 #[.val (.ref t), .val (.int (2 : Int32)), .val (.int (3 : Int32)), .unset, .unset] [(.int (1 : Int32))])
  refine gStoreIN 9 X1 hx (H d26_8) (l' := #[.val (.ref t), .val (.int (2 : Int32)), .val (.int (3 : Int32)), .val (.int (1 : Int32)), .unset]) rfl rfl ?_
  refine gLoadIN 10 X1 hx (H d26_9) rfl rfl ?_
  refine gNewP X1 hx hZ (ow hw 23 rfl) eq1 (n := (1 : Int32)) (H d26_10) (by decide) (cap := 1) (by decide) (by decide) (by decide) (by decide) 1 (pc' := 12) rfl (fun T2 h2 b2 ck2 X2 e2 g2 E2 A2 => ?_)
  have ne_t_b2 : t ≠ b2 := Nat.ne_of_lt (Nat.lt_of_lt_of_eq A.lt g2.symm)
  have f2_0 := A.ext E2
  have sz_b2 : h0.size ≤ b2 := Nat.le_trans (Nat.le_refl _) (Nat.le_of_eq g2.symm)
  have zs2 : h0.size ≤ h2.size := Nat.le_trans (Nat.le_refl _) E2.1
  have K2 : Keep h0 h2 [] := (Keep.refl h0 []).ext E2
  have V2 : Arv Z h2 b2 ck2 .byte (1 : Int32) [(.int (0 : Int32))] (.int (0 : Int32)) := A2
  refine gStoreA 14 X2 hx (H d26_12) (l' := #[.val (.ref t), .val (.int (2 : Int32)), .val (.int (3 : Int32)), .val (.int (1 : Int32)), .val (.ref b2)]) rfl rfl rfl ?_
  refine gLoadAN 15 X2 hx (H d26_14) rfl rfl rfl ?_
  refine gLoadIN 16 X2 hx (H d26_15) rfl rfl ?_
  refine gLoadA 18 X2 hx (H d26_16) rfl rfl rfl ?_
  refine gIconst 19 X2 hx (v := (0 : Int32)) (H d26_18) rfl rfl ?_
  refine gLoadAN 20 X2 hx (H d26_19) rfl rfl rfl ?_
  refine gArrLen X2 hx hZ e2 f2_0 (H d26_20) (pc' := 21) rfl ?_
  refine gLoadIN 22 X2 hx (H d26_21) rfl rfl ?_
  refine gIsub 23 X2 hx (H d26_22) rfl ?_
  show Goes p e below _ T2 (mkF m 23 #[.val (.ref t), .val (.int (2 : Int32)), .val (.int (3 : Int32)), .val (.int (1 : Int32)), .val (.ref b2)] [(.int (1 : Int32)), (.int (0 : Int32)), (.ref b2), (.int (2 : Int32)), (.ref t)])
  refine gLoadIN 24 X2 hx (H d26_23) rfl rfl ?_
  refine gCallSJ X2 hx hZ (y := mn5) hown e2 (by rw [hml]; rfl) (ow hw 114 rfl) (ow hw 68 rfl) (ow hw 69 rfl) (ow hw 70 rfl) (by decide) (argsL := [(.int (1 : Int32)), (.int (1 : Int32))]) (st := [(.int (0 : Int32)), (.ref b2), (.int (2 : Int32)), (.ref t)]) (c_min_1_1 l Z a0 hw h2) (lenOf pd_10 rfl) (H d26_24) (pc' := 27) rfl rfl rfl rfl (by decide) (W := 4) (Nat.le_of_eq rfl) (by decide) (by decide) (by decide) ?_
  intro T3 X3 e3
  refine gArrCopy X3 hx hZ hown (ow hw 115 rfl) (ow hw 118 rfl) (ow hw 116 rfl) (ow hw 117 rfl) e3 (dv := (.int 0)) (dd := (.int 0)) f2_0 V2 rfl (by decide) (by decide) (by decide) (by decide) (by decide) (by decide) (Fr.nil h0.size) sz_b2 (by rw [hml]; rfl) (H d26_27) (pc' := 30) rfl (by decide) (W := 0) (Nat.le_of_eq rfl) (by decide) (fun T4 h4 L4 X4 e4 N4 K4 A4 => ?_)
  have KK : Keep h0 h4 [] := K2.trans K4 (allS (Or.inr sz_b2) all0)
  have VV : Arv Z h4 b2 ck2 .byte 1 [by8 ch2] (.int 0) := A4
  refine gLoadA 32 X4 hx (H d26_30) rfl rfl rfl ?_
  exact gRetA X4 hx hlk hret rfl rfl (H d26_32) (by decide) (by decide) (⟨_, _, rfl, sz_b2, N4, by rw [e4]; exact KK, by rw [e4]; exact VV⟩)
theorem c_cor_3_2_3 (l : Launch) (Z : State) (a0 : Array Value) (hw : ∀ d ∈ tables_1, d.before a0 Z = true) (t : Addr) (ck : ClassId) (ch0 ch1 ch2 : Int32) (h0 : Heap) (A : sA Z h0 t ck 3 [by8 ch0, by8 ch1, by8 ch2]) :
    Ctr l Z mn29 jdk_65_method_132_code 3 (some (.array .byte)) [] ⟨2, 1, 1, 40⟩ #[(.ref t), (.int (2 : Int32)), (.int (3 : Int32))] h0 (fun v h L => ∃ (b : Addr) (ct : ClassId), v = some (.ref b) ∧ h0.size ≤ b ∧ Fr h0.size L ∧ Keep h0 h [] ∧ sA Z h b ct 1 [by8 ch2]) := by
  refine Ctr.of (plainFor_of_name pn_7) ?_
  intro p e s m below meth c s₁ hx H hml hret hown hnm hZ hlk X0 e0
  refine Goes.cast (show entryFrame m _ _ = mkF m 0 #[.val (.ref t), .val (.int (2 : Int32)), .val (.int (3 : Int32))] [] from rfl) ?_
  refine gLoadIN 1 X0 hx (H d25_0) rfl rfl ?_
  refine gIfNeT X0 hx (H d25_1) (pc' := 10) (by decide) (by decide) (pn := 4) rfl (fun (c1 : ¬ (2 : Int) = (0 : Int)) => ?_) (fun (c1 : (2 : Int) = (0 : Int)) => ?_)
  · refine gLoadAN 11 X0 hx (H d25_10) rfl rfl rfl ?_
    refine gLoadIN 12 X0 hx (H d25_11) rfl rfl ?_
    refine gLoadIN 13 X0 hx (H d25_12) rfl rfl ?_
    refine gCallS X0 hx hZ (y := mn30) hown e0 (by rw [hml]; rfl) (ow hw 108 rfl) (ow hw 109 rfl) (ow hw 106 rfl) (ow hw 110 rfl) (by decide) (argsL := [(.ref t), (.int (2 : Int32)), (.int (3 : Int32))]) (st := []) (c_cor_3_2_3b l Z a0 hw t ck ch0 ch1 ch2 h0 A) (lenOf pd_23 rfl) (H d25_13) (pc' := 16) rfl rfl (by decide) (W := 0) (Nat.le_of_eq rfl) (by decide) (by decide) (by decide) ?_
    intro T1 v1 L1 X1 hQ1
    obtain ⟨b1, ct1, rfl, g1, g2, g3, g4⟩ := hQ1
    exact gRetA X1 hx hlk hret rfl rfl (H d25_16) (by decide) (by decide) (⟨_, _, rfl, g1, g2, g3, g4⟩)
  · exact absurd c1 (by decide)
theorem c_newString_3_2_1 (l : Launch) (Z : State) (a0 : Array Value) (hw : ∀ d ∈ tables_1, d.before a0 Z = true) (t : Addr) (ck : ClassId) (ch0 ch1 ch2 : Int32) (h0 : Heap) (A : sA Z h0 t ck 3 [by8 ch0, by8 ch1, by8 ch2]) :
    Ctr l Z mn23 jdk_43_method_47_code 3 (some (.object "java/lang/String")) [] ⟨3, 2, 5, 57⟩ #[(.ref t), (.int (2 : Int32)), (.int (1 : Int32))] h0 (SQd Z h0 1 [by8 ch2]) := by
  refine Ctr.of (plainFor_of_name pn_5) ?_
  intro p e s m below meth c s₁ hx H hml hret hown hnm hZ hlk X0 e0
  refine Goes.cast (show entryFrame m _ _ = mkF m 0 #[.val (.ref t), .val (.int (2 : Int32)), .val (.int (1 : Int32))] [] from rfl) ?_
  refine gLoadIN 1 X0 hx (H d19_0) rfl rfl ?_
  refine gIfNeT X0 hx (H d19_1) (pc' := 7) (by decide) (by decide) (pn := 4) rfl (fun (c1 : ¬ (1 : Int) = (0 : Int)) => ?_) (fun (c1 : (1 : Int) = (0 : Int)) => ?_)
  · refine gNew X0 hx hZ hown (ow hw 103 rfl) (ow hw 9 rfl) (ow hw 10 rfl) e0 (H d19_7) (pc' := 10) rfl (by decide) (by decide) (fun T1 h1 b1 X1 e1 g1 E1 A1 D1 => ?_)
    have ne_t_b1 : t ≠ b1 := Nat.ne_of_lt (Nat.lt_of_lt_of_eq A.lt g1.symm)
    have f1_0 := A.ext E1
    have sz_b1 : h0.size ≤ b1 := Nat.le_trans (Nat.le_refl _) (Nat.le_of_eq g1.symm)
    have zs1 : h0.size ≤ h1.size := Nat.le_trans (Nat.le_refl _) E1.1
    have K1 : Keep h0 h1 [] := (Keep.refl h0 []).ext E1
    have F1_value : Fld Z h1 b1 "java/lang/String" "value" "[B" .null := D1 (Or.inr (ow hw 24 rfl)) (ty := (.array .byte)) (by decide)
    have F1_coder : Fld Z h1 b1 "java/lang/String" "coder" "B" (.int (0 : Int32)) := D1 (Or.inr (ow hw 25 rfl)) (ty := .byte) (by decide)
    refine gDup 11 X1 hx (H d19_10) rfl rfl ?_
    refine gLoadAN 12 X1 hx (H d19_11) rfl rfl rfl ?_
    refine gLoadIN 13 X1 hx (H d19_12) rfl rfl ?_
    refine gLoadIN 14 X1 hx (H d19_13) rfl rfl ?_
    refine gLoadIN 15 X1 hx (H d19_14) rfl rfl ?_
    refine gIadd 16 X1 hx (H d19_15) rfl ?_
    show Goes p e below _ T1 (mkF m 16 #[.val (.ref t), .val (.int (2 : Int32)), .val (.int (1 : Int32))] [(.int (3 : Int32)), (.int (2 : Int32)), (.ref t), (.ref b1), (.ref b1)])
    refine gCallS X1 hx hZ (y := mn29) hown e1 (by rw [hml]; rfl) (ow hw 104 rfl) (ow hw 105 rfl) (ow hw 106 rfl) (ow hw 107 rfl) (by decide) (argsL := [(.ref t), (.int (2 : Int32)), (.int (3 : Int32))]) (st := [(.ref b1), (.ref b1)]) (c_cor_3_2_3 l Z a0 hw t ck ch0 ch1 ch2 h1 f1_0) (lenOf pd_23 rfl) (H d19_16) (pc' := 19) rfl rfl (by decide) (W := 2) (Nat.le_of_eq rfl) (by decide) (by decide) (by decide) ?_
    intro T2 v2 L2 X2 hQ2
    obtain ⟨q2, ctq2, rfl, gq2, Nq2, Kq2, Aq2⟩ := hQ2
    have N2 := Fr.app (Fr.nil h0.size) (fun y hy => Nat.le_trans zs1 (Nq2 y hy))
    have K2 : Keep h0 T2.heap [] := K1.trans Kq2 all0
    have f2_0 := f1_0.keep Kq2 nin0
    have f2_1 := A1.keep Kq2
    have f2_2 := F1_value.keep Kq2 nin0
    have f2_3 := F1_coder.keep Kq2 nin0
    have zs2 := Nat.le_trans zs1 Kq2.1
    have nq2 : q2 ≠ b1 := Ne.symm (Nat.ne_of_lt (Nat.lt_of_lt_of_le A1.lt gq2))
    refine gIconst 20 X2 hx (v := (0 : Int32)) (H d19_19) rfl rfl ?_
    refine gCallI X2 hx hZ (y := mn7) rfl hown rfl (by rw [hml]; rfl) (ow hw 119 rfl) (ow hw 120 rfl) (ow hw 10 rfl) (ow hw 121 rfl) (by decide) (argsL := [(.ref q2), (.int (0 : Int32))]) (st := [(.ref b1)]) (c_sinitB l Z a0 hw b1 q2 h0.size T2.heap sz_b1 f2_1 f2_3 f2_2) (lenOf pd_18 rfl) (H d19_20) (pc' := 23) rfl rfl (by decide) (W := 1) (Nat.le_of_eq rfl) (by decide) (by decide) (by decide) ?_
    intro T3 v3 L3 X3 hQ3
    obtain ⟨rfl, Nq3, Kq3, Eq3, Cq3, Vq3⟩ := hQ3
    have N3 := Fr.app N2 Nq3
    have K3 : Keep h0 T3.heap [] := K2.trans Kq3 (allS (Or.inr sz_b1) all0)
    have Ak3 := Aq2.keep Kq3 (ninS nq2 nin0)
    exact gRetA X3 hx hlk hret rfl rfl (H d19_23) (by decide) (by decide) (⟨b1, q2, ctq2, rfl, N3, K3, Eq3, Cq3, Vq3, Ak3⟩)
  · exact absurd c1 (by decide)
theorem c_sub_3_2_3 (l : Launch) (Z : State) (a0 : Array Value) (hw : ∀ d ∈ tables_1, d.before a0 Z = true) (a t : Addr) (ck : ClassId) (ch0 ch1 ch2 : Int32) (h0 : Heap) (hSio : Sio Z h0) (hCpt : Cpt Z h0) (E : sE Z h0 a) (C : sC Z h0 a) (V : sV Z h0 a t) (A : sA Z h0 t ck 3 [by8 ch0, by8 ch1, by8 ch2]) (hch0 : rg ch0) (hch1 : rg ch1) (hch2 : rg ch2) :
    Ctr l Z mn19 jdk_42_method_92_code 5 (some (.object "java/lang/String")) [] ⟨4, 2, 5, 71⟩ #[(.ref a), (.int (2 : Int32)), (.int (3 : Int32))] h0 (SQd Z h0 1 [by8 ch2]) := by
  refine Ctr.of (plainFor_of_name pn_4) ?_
  intro p e s m below meth c s₁ hx H hml hret hown hnm hZ hlk X0 e0
  refine Goes.cast (show entryFrame m _ _ = mkF m 0 #[.val (.ref a), .val (.int (2 : Int32)), .val (.int (3 : Int32)), .unset, .unset] [] from rfl) ?_
  refine gLoadAN 1 X0 hx (H d16_0) rfl rfl rfl ?_
  refine gCallVJ X0 hx hZ (y := mn17) hown e0 (by rw [hml]; rfl) E (ow hw 39 rfl) (ow hw 40 rfl) (ow hw 42 rfl) (ow hw 41 rfl) (ow hw 10 rfl) (ow hw 43 rfl) (by decide) (argsL := []) (st := []) (c_length_3 l Z a0 hw a t ck ch0 ch1 ch2 h0 hCpt E C V A hch0 hch1 hch2) (lenOf pd_1 rfl) (H d16_1) (pc' := 4) rfl rfl rfl rfl (by decide) (W := 0) (Nat.le_of_eq rfl) (by decide) (by decide) (by decide) ?_
  intro T1 X1 e1
  refine gStoreIN 5 X1 hx (H d16_4) (l' := #[.val (.ref a), .val (.int (2 : Int32)), .val (.int (3 : Int32)), .val (.int (3 : Int32)), .unset]) rfl rfl ?_
  refine gLoadIN 6 X1 hx (H d16_5) rfl rfl ?_
  refine gLoadIN 7 X1 hx (H d16_6) rfl rfl ?_
  refine gLoadIN 8 X1 hx (H d16_7) rfl rfl ?_
  refine gCallS X1 hx hZ (y := mn11) hown e1 (by rw [hml]; rfl) (ow hw 81 rfl) (ow hw 82 rfl) (ow hw 10 rfl) (ow hw 83 rfl) (by decide) (argsL := [(.int (2 : Int32)), (.int (3 : Int32)), (.int (3 : Int32))]) (st := []) (c_chkft l Z a0 hw (2 : Int32) (3 : Int32) (3 : Int32) h0 (by decide) (by decide) (by decide) hSio) (lenOf pd_13 rfl) (H d16_8) (pc' := 11) rfl rfl (by decide) (W := 0) (Nat.le_of_eq rfl) (by decide) (by decide) (by decide) ?_
  intro T2 v2 L2 X2 hQ2
  obtain ⟨rfl, eq2, rfl⟩ := hQ2
  rw [List.append_nil] at X2
  refine gLoadIN 12 X2 hx (H d16_11) rfl rfl ?_
  refine gIfNeT X2 hx (H d16_12) (pc' := 22) (by decide) (by decide) (pn := 15) rfl (fun (c12 : ¬ (2 : Int) = (0 : Int)) => ?_) (fun (c12 : (2 : Int) = (0 : Int)) => ?_)
  · refine gLoadIN 23 X2 hx (H d16_22) rfl rfl ?_
    refine gLoadIN 24 X2 hx (H d16_23) rfl rfl ?_
    refine gIsub 25 X2 hx (H d16_24) rfl ?_
    show Goes p e below _ T2 (mkF m 25 #[.val (.ref a), .val (.int (2 : Int32)), .val (.int (3 : Int32)), .val (.int (3 : Int32)), .unset] [(.int (1 : Int32))])
    refine gStoreI 27 X2 hx (H d16_25) (l' := #[.val (.ref a), .val (.int (2 : Int32)), .val (.int (3 : Int32)), .val (.int (3 : Int32)), .val (.int (1 : Int32))]) rfl rfl ?_
    refine gLoadAN 28 X2 hx (H d16_27) rfl rfl rfl ?_
    refine gCallVJ X2 hx hZ (y := mn14) hown eq2 (by rw [hml]; rfl) E (ow hw 55 rfl) (ow hw 56 rfl) (ow hw 58 rfl) (ow hw 57 rfl) (ow hw 10 rfl) (ow hw 59 rfl) (by decide) (argsL := []) (st := []) (c_isLatin1 l Z a0 hw a h0 hCpt C) (lenOf pd_3 rfl) (H d16_28) (pc' := 31) rfl rfl rfl rfl (by decide) (W := 0) (Nat.le_of_eq rfl) (by decide) (by decide) (by decide) ?_
    intro T3 X3 e3
    refine gIfEqT X3 hx (H d16_31) (pc' := 47) (by decide) (by decide) (pn := 34) rfl (fun (c31 : (1 : Int) = (0 : Int)) => ?_) (fun (c31 : ¬ (1 : Int) = (0 : Int)) => ?_)
    · exact absurd c31 (by decide)
    · refine gLoadAN 35 X3 hx (H d16_34) rfl rfl rfl ?_
      refine gGetF X3 hx hZ hown (ow hw 28 rfl) Via.refl e3 V (H d16_35) (pc' := 38) rfl (fun T4 X4 e4 => ?_)
      refine gLoadIN 39 X4 hx (H d16_38) rfl rfl ?_
      refine gLoadI 41 X4 hx (H d16_39) rfl rfl ?_
      refine gCallS X4 hx hZ (y := mn23) hown e4 (by rw [hml]; rfl) (ow hw 100 rfl) (ow hw 101 rfl) (ow hw 62 rfl) (ow hw 102 rfl) (by decide) (argsL := [(.ref t), (.int (2 : Int32)), (.int (1 : Int32))]) (st := []) (c_newString_3_2_1 l Z a0 hw t ck ch0 ch1 ch2 h0 A) (lenOf pd_22 rfl) (H d16_41) (pc' := 44) rfl rfl (by decide) (W := 0) (Nat.le_of_eq rfl) (by decide) (by decide) (by decide) ?_
      intro T5 v5 L5 X5 hQ5
      obtain ⟨r5, t5, ct5, rfl, Nq5, Kq5, Eq5, Cq5, Vq5, Aq5⟩ := hQ5
      have N5 := Fr.app (Fr.nil h0.size) (fun y hy => Nat.le_trans (Nat.le_refl _) (Nq5 y hy))
      have f5_0 := E.keep Kq5
      have f5_1 := C.keep Kq5 nin0
      have f5_2 := V.keep Kq5 nin0
      have f5_3 := A.keep Kq5 nin0
      have f5_4 := own_cpt_keep hCpt Kq5 ns0
      have zs5 := Nat.le_trans (Nat.le_refl _) Kq5.1
      have K5 : Keep h0 T5.heap [] := (Keep.refl h0 []).trans Kq5 all0
      refine gGoto X5 hx (H d16_44) (pc' := 57) (by decide) (by decide) ?_
      exact gRetA X5 hx hlk hret rfl rfl (H d16_57) (by decide) (by decide) (⟨r5, t5, ct5, rfl, N5, K5, Eq5, Cq5, Vq5, Aq5⟩)
  · exact absurd c12 (by decide)
theorem c_sub_3_2_3o (l : Launch) (Z : State) (a0 : Array Value) (hw : ∀ d ∈ tables_1, d.before a0 Z = true) (a t : Addr) (ck : ClassId) (ch0 ch1 ch2 : Int32) (h0 : Heap) (hSio : Sio Z h0) (hCpt : Cpt Z h0) (E : sE Z h0 a) (C : sC Z h0 a) (V : sV Z h0 a t) (A : sA Z h0 t ck 3 [by8 ch0, by8 ch1, by8 ch2]) (hch0 : rg ch0) (hch1 : rg ch1) (hch2 : rg ch2) :
    Ctr l Z mn18 jdk_42_method_91_code 2 (some (.object "java/lang/String")) [] ⟨5, 2, 5, 91⟩ #[(.ref a), (.int (2 : Int32))] h0 (SQd Z h0 1 [by8 ch2]) := by
  refine Ctr.of (plainFor_of_name pn_4) ?_
  intro p e s m below meth c s₁ hx H hml hret hown hnm hZ hlk X0 e0
  refine Goes.cast (show entryFrame m _ _ = mkF m 0 #[.val (.ref a), .val (.int (2 : Int32))] [] from rfl) ?_
  refine gLoadAN 1 X0 hx (H d15_0) rfl rfl rfl ?_
  refine gLoadIN 2 X0 hx (H d15_1) rfl rfl ?_
  refine gLoadAN 3 X0 hx (H d15_2) rfl rfl rfl ?_
  refine gCallVJ X0 hx hZ (y := mn17) hown e0 (by rw [hml]; rfl) E (ow hw 39 rfl) (ow hw 40 rfl) (ow hw 42 rfl) (ow hw 41 rfl) (ow hw 10 rfl) (ow hw 43 rfl) (by decide) (argsL := []) (st := [(.int (2 : Int32)), (.ref a)]) (c_length_3 l Z a0 hw a t ck ch0 ch1 ch2 h0 hCpt E C V A hch0 hch1 hch2) (lenOf pd_1 rfl) (H d15_3) (pc' := 6) rfl rfl rfl rfl (by decide) (W := 2) (Nat.le_of_eq rfl) (by decide) (by decide) (by decide) ?_
  intro T1 X1 e1
  refine gCallV X1 hx hZ (y := mn19) hown e1 (by rw [hml]; rfl) E (ow hw 76 rfl) (ow hw 77 rfl) (ow hw 79 rfl) (ow hw 78 rfl) (ow hw 10 rfl) (ow hw 80 rfl) (by decide) (argsL := [(.int (2 : Int32)), (.int (3 : Int32))]) (st := []) (c_sub_3_2_3 l Z a0 hw a t ck ch0 ch1 ch2 h0 hSio hCpt E C V A hch0 hch1 hch2) (lenOf pd_11 rfl) (H d15_6) (pc' := 9) rfl rfl (by decide) (W := 0) (Nat.le_of_eq rfl) (by decide) (by decide) (by decide) ?_
  intro T2 v2 L2 X2 hQ2
  obtain ⟨r2, t2, ct2, rfl, Nq2, Kq2, Eq2, Cq2, Vq2, Aq2⟩ := hQ2
  have N2 := Fr.app (Fr.nil h0.size) (fun y hy => Nat.le_trans (Nat.le_refl _) (Nq2 y hy))
  have f2_0 := E.keep Kq2
  have f2_1 := C.keep Kq2 nin0
  have f2_2 := V.keep Kq2 nin0
  have f2_3 := A.keep Kq2 nin0
  have f2_4 := own_cpt_keep hCpt Kq2 ns0
  have zs2 := Nat.le_trans (Nat.le_refl _) Kq2.1
  have K2 : Keep h0 T2.heap [] := (Keep.refl h0 []).trans Kq2 all0
  exact gRetA X2 hx hlk hret rfl rfl (H d15_9) (by decide) (by decide) (⟨r2, t2, ct2, rfl, N2, K2, Eq2, Cq2, Vq2, Aq2⟩)
theorem c_nm_3_1 (l : Launch) (Z : State) (a0 : Array Value) (hw : ∀ d ∈ tables_1, d.before a0 Z = true) (a t : Addr) (ck : ClassId) (ch0 ch1 ch2 : Int32) (h0 : Heap) (hSio : Sio Z h0) (hCpt : Cpt Z h0) (E : sE Z h0 a) (C : sC Z h0 a) (V : sV Z h0 a t) (A : sA Z h0 t ck 3 [by8 ch0, by8 ch1, by8 ch2]) (hch0 : rg ch0) (hch1 : rg ch1) (hch2 : rg ch2) (d2 : ¬ ch2.toInt = 47) (dq : ch1.toInt = 47) :
    Ctr l Z mn0 prog_18_method_7_code 1 (some (.object "java/lang/String")) [] ⟨6, 2, 5, 104⟩ #[(.ref a)] h0 (SQd Z h0 1 [by8 ch2]) := by
  refine Ctr.of (plainFor_of_name pn_0) ?_
  intro p e s m below meth c s₁ hx H hml hret hown hnm hZ hlk X0 e0
  refine Goes.cast (show entryFrame m _ _ = mkF m 0 #[.val (.ref a)] [] from rfl) ?_
  refine gLoadAN 1 X0 hx (H d31_0) rfl rfl rfl ?_
  refine gLoadAN 2 X0 hx (H d31_1) rfl rfl rfl ?_
  refine gBipush 4 X0 hx (v := (47 : Int32)) (H d31_2) rfl rfl ?_
  refine gCallVJ X0 hx hZ (y := mn15) hown e0 (by rw [hml]; rfl) E (ow hw 34 rfl) (ow hw 35 rfl) (ow hw 37 rfl) (ow hw 36 rfl) (ow hw 10 rfl) (ow hw 38 rfl) (by decide) (argsL := [(.int (47 : Int32))]) (st := [(.ref a)]) (c_lastIndexOf_3 l Z a0 hw a t ck ch0 ch1 ch2 h0 hCpt E C V A hch0 hch1 hch2) (lenOf pd_5 rfl) (H d31_4) (pc' := 7) rfl rfl rfl rfl (by decide) (W := 1) (Nat.le_of_eq rfl) (by decide) (by decide) (by decide) ?_
  intro T1 X1 e1
  rw [show lx3 ch0 ch1 ch2 = 1 from by rw [lx3, if_neg d2, if_pos dq]]
  refine gIconst 8 X1 hx (v := (1 : Int32)) (H d31_7) rfl rfl ?_
  refine gIadd 9 X1 hx (H d31_8) rfl ?_
  show Goes p e below _ T1 (mkF m 9 #[.val (.ref a)] [(.int (2 : Int32)), (.ref a)])
  refine gCallV X1 hx hZ (y := mn18) hown e1 (by rw [hml]; rfl) E (ow hw 71 rfl) (ow hw 72 rfl) (ow hw 74 rfl) (ow hw 73 rfl) (ow hw 10 rfl) (ow hw 75 rfl) (by decide) (argsL := [(.int (2 : Int32))]) (st := []) (c_sub_3_2_3o l Z a0 hw a t ck ch0 ch1 ch2 h0 hSio hCpt E C V A hch0 hch1 hch2) (lenOf pd_6 rfl) (H d31_9) (pc' := 12) rfl rfl (by decide) (W := 0) (Nat.le_of_eq rfl) (by decide) (by decide) (by decide) ?_
  intro T2 v2 L2 X2 hQ2
  obtain ⟨r2, t2, ct2, rfl, Nq2, Kq2, Eq2, Cq2, Vq2, Aq2⟩ := hQ2
  have N2 := Fr.app (Fr.nil h0.size) (fun y hy => Nat.le_trans (Nat.le_refl _) (Nq2 y hy))
  have f2_0 := E.keep Kq2
  have f2_1 := C.keep Kq2 nin0
  have f2_2 := V.keep Kq2 nin0
  have f2_3 := A.keep Kq2 nin0
  have f2_4 := own_cpt_keep hCpt Kq2 ns0
  have zs2 := Nat.le_trans (Nat.le_refl _) Kq2.1
  have K2 : Keep h0 T2.heap [] := (Keep.refl h0 []).trans Kq2 all0
  exact gRetA X2 hx hlk hret rfl rfl (H d31_12) (by decide) (by decide) (⟨r2, t2, ct2, rfl, N2, K2, Eq2, Cq2, Vq2, Aq2⟩)
theorem c_newString_3_3_0 (l : Launch) (Z : State) (a0 : Array Value) (hw : ∀ d ∈ tables_1, d.before a0 Z = true) (t : Addr) (ck : ClassId) (ch0 ch1 ch2 : Int32) (h0 : Heap) (hEL : EW Z a0 [("java/lang/String", 7), ("java/lang/StringLatin1", 151)]) :
    CtrH l Z [("java/lang/String", 7), ("java/lang/StringLatin1", 151)] [] mn23 jdk_43_method_47_code 3 (some (.object "java/lang/String")) [] ⟨0, 2, 4, 0⟩ #[(.ref t), (.int (3 : Int32)), (.int (0 : Int32))] h0 (SQd Z h0 0 []) := by
  refine CtrH.of (plainFor_of_name pn_5) ?_
  intro p e s m below meth c s₁ hx H hml hret hown hnm hZ hlk X0 e0 hS H0 hSafe
  have wS : ∀ a ∈ Bundle.stringAtoms, a.before a0 Z = true := by
    intro d hd
    simp only [Bundle.stringAtoms, Bundle.sN, List.mem_cons, List.not_mem_nil, or_false] at hd
    rcases hd with rfl | rfl | rfl | rfl | rfl | rfl | rfl
    · exact (ow hw 10 rfl)
    · exact (ow hw 9 rfl)
    · exact (ow hw 23 rfl)
    · exact (ow hw 24 rfl)
    · exact (ow hw 25 rfl)
    · exact (ow hw 26 rfl)
    · exact (ow hw 27 rfl)
  refine Goes.cast (show entryFrame m _ _ = mkF m 0 #[.val (.ref t), .val (.int (3 : Int32)), .val (.int (0 : Int32))] [] from rfl) ?_
  refine gLoadIN 1 X0 hx (H d19_0) rfl rfl ?_
  refine gIfNeT X0 hx (H d19_1) (pc' := 7) (by decide) (by decide) (pn := 4) rfl (fun (c1 : ¬ (0 : Int) = (0 : Int)) => ?_) (fun (c1 : (0 : Int) = (0 : Int)) => ?_)
  · exact absurd c1 (by decide)
  · refine gLdcC X0 hx hZ hown (ow hw 139 rfl) wS e0 hS (Nat.zero_le _) hEL (by simp) H0 (vs := []) (z := 0) ⟨by decide, by decide⟩ (by decide) (by decide) (H d19_4) (pc' := 6) rfl (n := 0) (by decide) (by decide) (by decide) (by decide) (fun a1 T1 h1 k1 b1 ck1 X1 e1 E1 hS hk1 hZ hown C1 H1 Ex1 Fc1 Fv1 A1 sf1 => ?_)
    have zs1 : h0.size ≤ h1.size := Nat.le_trans (Nat.le_refl _) E1.1
    have K1 : Keep h0 h1 [] := (Keep.refl h0 []).ext E1
    exact gRetHA X1 hx hlk hret rfl rfl (H d19_6) e1 hS hk1 hZ hEL H1 (by decide) (by decide) (⟨a1, b1, ck1, rfl, (Fr.nil h0.size), by rw [e1]; exact K1, by rw [e1]; exact Ex1, by rw [e1]; exact Fc1, by rw [e1]; exact Fv1, by rw [e1]; exact A1⟩)
theorem c_sub_3_3_3 (l : Launch) (Z : State) (a0 : Array Value) (hw : ∀ d ∈ tables_1, d.before a0 Z = true) (a t : Addr) (ck : ClassId) (ch0 ch1 ch2 : Int32) (h0 : Heap) (hEL : EW Z a0 [("java/lang/String", 7), ("java/lang/StringLatin1", 151)]) (hSio : Sio Z h0) (hCpt : Cpt Z h0) (E : sE Z h0 a) (C : sC Z h0 a) (V : sV Z h0 a t) (A : sA Z h0 t ck 3 [by8 ch0, by8 ch1, by8 ch2]) (hch0 : rg ch0) (hch1 : rg ch1) (hch2 : rg ch2) :
    CtrH l Z [("java/lang/String", 7), ("java/lang/StringLatin1", 151)] [] mn19 jdk_42_method_92_code 5 (some (.object "java/lang/String")) [] ⟨2, 2, 4, 30⟩ #[(.ref a), (.int (3 : Int32)), (.int (3 : Int32))] h0 (SQd Z h0 0 []) := by
  refine CtrH.of (plainFor_of_name pn_4) ?_
  intro p e s m below meth c s₁ hx H hml hret hown hnm hZ hlk X0 e0 hS H0 hSafe
  refine Goes.cast (show entryFrame m _ _ = mkF m 0 #[.val (.ref a), .val (.int (3 : Int32)), .val (.int (3 : Int32)), .unset, .unset] [] from rfl) ?_
  refine gLoadAN 1 X0 hx (H d16_0) rfl rfl rfl ?_
  refine gCallVJ X0 hx hZ (y := mn17) hown e0 (by rw [hml]; rfl) E (ow hw 39 rfl) (ow hw 40 rfl) (ow hw 42 rfl) (ow hw 41 rfl) (ow hw 10 rfl) (ow hw 43 rfl) (by decide) (argsL := []) (st := []) (c_length_3 l Z a0 hw a t ck ch0 ch1 ch2 h0 hCpt E C V A hch0 hch1 hch2) (lenOf pd_1 rfl) (H d16_1) (pc' := 4) rfl rfl rfl rfl (by decide) (W := 0) (Nat.le_of_eq rfl) (by decide) (by decide) (by decide) ?_
  intro T1 X1 e1
  refine gStoreIN 5 X1 hx (H d16_4) (l' := #[.val (.ref a), .val (.int (3 : Int32)), .val (.int (3 : Int32)), .val (.int (3 : Int32)), .unset]) rfl rfl ?_
  refine gLoadIN 6 X1 hx (H d16_5) rfl rfl ?_
  refine gLoadIN 7 X1 hx (H d16_6) rfl rfl ?_
  refine gLoadIN 8 X1 hx (H d16_7) rfl rfl ?_
  refine gCallS X1 hx hZ (y := mn11) hown e1 (by rw [hml]; rfl) (ow hw 81 rfl) (ow hw 82 rfl) (ow hw 10 rfl) (ow hw 83 rfl) (by decide) (argsL := [(.int (3 : Int32)), (.int (3 : Int32)), (.int (3 : Int32))]) (st := []) (c_chkft l Z a0 hw (3 : Int32) (3 : Int32) (3 : Int32) h0 (by decide) (by decide) (by decide) hSio) (lenOf pd_13 rfl) (H d16_8) (pc' := 11) rfl rfl (by decide) (W := 0) (Nat.le_of_eq rfl) (by decide) (by decide) (by decide) ?_
  intro T2 v2 L2 X2 hQ2
  obtain ⟨rfl, eq2, rfl⟩ := hQ2
  rw [List.append_nil] at X2
  refine gLoadIN 12 X2 hx (H d16_11) rfl rfl ?_
  refine gIfNeT X2 hx (H d16_12) (pc' := 22) (by decide) (by decide) (pn := 15) rfl (fun (c12 : ¬ (3 : Int) = (0 : Int)) => ?_) (fun (c12 : (3 : Int) = (0 : Int)) => ?_)
  · refine gLoadIN 23 X2 hx (H d16_22) rfl rfl ?_
    refine gLoadIN 24 X2 hx (H d16_23) rfl rfl ?_
    refine gIsub 25 X2 hx (H d16_24) rfl ?_
    show Goes p e below _ T2 (mkF m 25 #[.val (.ref a), .val (.int (3 : Int32)), .val (.int (3 : Int32)), .val (.int (3 : Int32)), .unset] [(.int (0 : Int32))])
    refine gStoreI 27 X2 hx (H d16_25) (l' := #[.val (.ref a), .val (.int (3 : Int32)), .val (.int (3 : Int32)), .val (.int (3 : Int32)), .val (.int (0 : Int32))]) rfl rfl ?_
    refine gLoadAN 28 X2 hx (H d16_27) rfl rfl rfl ?_
    refine gCallVJ X2 hx hZ (y := mn14) hown eq2 (by rw [hml]; rfl) E (ow hw 55 rfl) (ow hw 56 rfl) (ow hw 58 rfl) (ow hw 57 rfl) (ow hw 10 rfl) (ow hw 59 rfl) (by decide) (argsL := []) (st := []) (c_isLatin1 l Z a0 hw a h0 hCpt C) (lenOf pd_3 rfl) (H d16_28) (pc' := 31) rfl rfl rfl rfl (by decide) (W := 0) (Nat.le_of_eq rfl) (by decide) (by decide) (by decide) ?_
    intro T3 X3 e3
    refine gIfEqT X3 hx (H d16_31) (pc' := 47) (by decide) (by decide) (pn := 34) rfl (fun (c31 : (1 : Int) = (0 : Int)) => ?_) (fun (c31 : ¬ (1 : Int) = (0 : Int)) => ?_)
    · exact absurd c31 (by decide)
    · refine gLoadAN 35 X3 hx (H d16_34) rfl rfl rfl ?_
      refine gGetF X3 hx hZ hown (ow hw 28 rfl) Via.refl e3 V (H d16_35) (pc' := 38) rfl (fun T4 X4 e4 => ?_)
      refine gLoadIN 39 X4 hx (H d16_38) rfl rfl ?_
      refine gLoadI 41 X4 hx (H d16_39) rfl rfl ?_
      refine gCallSH X4 hx hZ (y := mn23) hown e4 (by rw [hml]; rfl) hS (Nat.zero_le _) hEL H0 (ow hw 100 rfl) (ow hw 101 rfl) (ow hw 62 rfl) (ow hw 102 rfl) (by decide) sl0 (argsL := [(.ref t), (.int (3 : Int32)), (.int (0 : Int32))]) (st := []) (c_newString_3_3_0 l Z a0 hw t ck ch0 ch1 ch2 h0 hEL) (lenOf pd_22 rfl) (H d16_41) (pc' := 44) rfl rfl (by decide) (W := 0) (Nat.le_of_eq rfl) (by decide) (by decide) (by decide) ?_
      intro T5 v5 L5 X5 hS hZ hown C5 H5 hQ5
      obtain ⟨r5, t5, ct5, rfl, Nq5, Kq5, Eq5, Cq5, Vq5, Aq5⟩ := hQ5
      have N5 := Fr.app (Fr.nil h0.size) (fun y hy => Nat.le_trans (Nat.le_refl _) (Nq5 y hy))
      have f5_0 := E.keep Kq5
      have f5_1 := C.keep Kq5 nin0
      have f5_2 := V.keep Kq5 nin0
      have f5_3 := A.keep Kq5 nin0
      have f5_4 := own_cpt_keep hCpt Kq5 ns0
      have zs5 := Nat.le_trans (Nat.le_refl _) Kq5.1
      have K5 : Keep h0 T5.heap [] := (Keep.refl h0 []).trans Kq5 all0
      refine gGoto X5 hx (H d16_44) (pc' := 57) (by decide) (by decide) ?_
      exact gRetHA X5 hx hlk hret rfl rfl (H d16_57) rfl hS (Nat.le_refl _) hZ hEL H5 (by decide) (by decide) (⟨r5, t5, ct5, rfl, N5, K5, Eq5, Cq5, Vq5, Aq5⟩)
  · exact absurd c12 (by decide)
theorem c_sub_3_3_3o (l : Launch) (Z : State) (a0 : Array Value) (hw : ∀ d ∈ tables_1, d.before a0 Z = true) (a t : Addr) (ck : ClassId) (ch0 ch1 ch2 : Int32) (h0 : Heap) (hEL : EW Z a0 [("java/lang/String", 7), ("java/lang/StringLatin1", 151)]) (hSio : Sio Z h0) (hCpt : Cpt Z h0) (E : sE Z h0 a) (C : sC Z h0 a) (V : sV Z h0 a t) (A : sA Z h0 t ck 3 [by8 ch0, by8 ch1, by8 ch2]) (hch0 : rg ch0) (hch1 : rg ch1) (hch2 : rg ch2) :
    CtrH l Z [("java/lang/String", 7), ("java/lang/StringLatin1", 151)] [] mn18 jdk_42_method_91_code 2 (some (.object "java/lang/String")) [] ⟨3, 2, 4, 50⟩ #[(.ref a), (.int (3 : Int32))] h0 (SQd Z h0 0 []) := by
  refine CtrH.of (plainFor_of_name pn_4) ?_
  intro p e s m below meth c s₁ hx H hml hret hown hnm hZ hlk X0 e0 hS H0 hSafe
  refine Goes.cast (show entryFrame m _ _ = mkF m 0 #[.val (.ref a), .val (.int (3 : Int32))] [] from rfl) ?_
  refine gLoadAN 1 X0 hx (H d15_0) rfl rfl rfl ?_
  refine gLoadIN 2 X0 hx (H d15_1) rfl rfl ?_
  refine gLoadAN 3 X0 hx (H d15_2) rfl rfl rfl ?_
  refine gCallVJ X0 hx hZ (y := mn17) hown e0 (by rw [hml]; rfl) E (ow hw 39 rfl) (ow hw 40 rfl) (ow hw 42 rfl) (ow hw 41 rfl) (ow hw 10 rfl) (ow hw 43 rfl) (by decide) (argsL := []) (st := [(.int (3 : Int32)), (.ref a)]) (c_length_3 l Z a0 hw a t ck ch0 ch1 ch2 h0 hCpt E C V A hch0 hch1 hch2) (lenOf pd_1 rfl) (H d15_3) (pc' := 6) rfl rfl rfl rfl (by decide) (W := 2) (Nat.le_of_eq rfl) (by decide) (by decide) (by decide) ?_
  intro T1 X1 e1
  refine gCallVH X1 hx hZ (y := mn19) hown e1 (by rw [hml]; rfl) hS (Nat.zero_le _) hEL H0 E (ow hw 76 rfl) (ow hw 77 rfl) (ow hw 79 rfl) (ow hw 78 rfl) (ow hw 10 rfl) (ow hw 80 rfl) (by decide) sl0 (argsL := [(.int (3 : Int32)), (.int (3 : Int32))]) (st := []) (c_sub_3_3_3 l Z a0 hw a t ck ch0 ch1 ch2 h0 hEL hSio hCpt E C V A hch0 hch1 hch2) (lenOf pd_11 rfl) (H d15_6) (pc' := 9) rfl rfl (by decide) (W := 0) (Nat.le_of_eq rfl) (by decide) (by decide) (by decide) ?_
  intro T2 v2 L2 X2 hS hZ hown C2 H2 hQ2
  obtain ⟨r2, t2, ct2, rfl, Nq2, Kq2, Eq2, Cq2, Vq2, Aq2⟩ := hQ2
  have N2 := Fr.app (Fr.nil h0.size) (fun y hy => Nat.le_trans (Nat.le_refl _) (Nq2 y hy))
  have f2_0 := E.keep Kq2
  have f2_1 := C.keep Kq2 nin0
  have f2_2 := V.keep Kq2 nin0
  have f2_3 := A.keep Kq2 nin0
  have f2_4 := own_cpt_keep hCpt Kq2 ns0
  have zs2 := Nat.le_trans (Nat.le_refl _) Kq2.1
  have K2 : Keep h0 T2.heap [] := (Keep.refl h0 []).trans Kq2 all0
  exact gRetHA X2 hx hlk hret rfl rfl (H d15_9) rfl hS (Nat.le_refl _) hZ hEL H2 (by decide) (by decide) (⟨r2, t2, ct2, rfl, N2, K2, Eq2, Cq2, Vq2, Aq2⟩)
theorem c_nm_3_2 (l : Launch) (Z : State) (a0 : Array Value) (hw : ∀ d ∈ tables_1, d.before a0 Z = true) (a t : Addr) (ck : ClassId) (ch0 ch1 ch2 : Int32) (h0 : Heap) (hEL : EW Z a0 [("java/lang/String", 7), ("java/lang/StringLatin1", 151)]) (hSio : Sio Z h0) (hCpt : Cpt Z h0) (E : sE Z h0 a) (C : sC Z h0 a) (V : sV Z h0 a t) (A : sA Z h0 t ck 3 [by8 ch0, by8 ch1, by8 ch2]) (hch0 : rg ch0) (hch1 : rg ch1) (hch2 : rg ch2)  (dq : ch2.toInt = 47) :
    CtrH l Z [("java/lang/String", 7), ("java/lang/StringLatin1", 151)] [] mn0 prog_18_method_7_code 1 (some (.object "java/lang/String")) [] ⟨4, 2, 4, 73⟩ #[(.ref a)] h0 (SQd Z h0 0 []) := by
  refine CtrH.of (plainFor_of_name pn_0) ?_
  intro p e s m below meth c s₁ hx H hml hret hown hnm hZ hlk X0 e0 hS H0 hSafe
  refine Goes.cast (show entryFrame m _ _ = mkF m 0 #[.val (.ref a)] [] from rfl) ?_
  refine gLoadAN 1 X0 hx (H d31_0) rfl rfl rfl ?_
  refine gLoadAN 2 X0 hx (H d31_1) rfl rfl rfl ?_
  refine gBipush 4 X0 hx (v := (47 : Int32)) (H d31_2) rfl rfl ?_
  refine gCallVJ X0 hx hZ (y := mn15) hown e0 (by rw [hml]; rfl) E (ow hw 34 rfl) (ow hw 35 rfl) (ow hw 37 rfl) (ow hw 36 rfl) (ow hw 10 rfl) (ow hw 38 rfl) (by decide) (argsL := [(.int (47 : Int32))]) (st := [(.ref a)]) (c_lastIndexOf_3 l Z a0 hw a t ck ch0 ch1 ch2 h0 hCpt E C V A hch0 hch1 hch2) (lenOf pd_5 rfl) (H d31_4) (pc' := 7) rfl rfl rfl rfl (by decide) (W := 1) (Nat.le_of_eq rfl) (by decide) (by decide) (by decide) ?_
  intro T1 X1 e1
  rw [show lx3 ch0 ch1 ch2 = 2 from by rw [lx3, if_pos dq]]
  refine gIconst 8 X1 hx (v := (1 : Int32)) (H d31_7) rfl rfl ?_
  refine gIadd 9 X1 hx (H d31_8) rfl ?_
  show Goes p e below _ T1 (mkF m 9 #[.val (.ref a)] [(.int (3 : Int32)), (.ref a)])
  refine gCallVH X1 hx hZ (y := mn18) hown e1 (by rw [hml]; rfl) hS (Nat.zero_le _) hEL H0 E (ow hw 71 rfl) (ow hw 72 rfl) (ow hw 74 rfl) (ow hw 73 rfl) (ow hw 10 rfl) (ow hw 75 rfl) (by decide) sl0 (argsL := [(.int (3 : Int32))]) (st := []) (c_sub_3_3_3o l Z a0 hw a t ck ch0 ch1 ch2 h0 hEL hSio hCpt E C V A hch0 hch1 hch2) (lenOf pd_6 rfl) (H d31_9) (pc' := 12) rfl rfl (by decide) (W := 0) (Nat.le_of_eq rfl) (by decide) (by decide) (by decide) ?_
  intro T2 v2 L2 X2 hS hZ hown C2 H2 hQ2
  obtain ⟨r2, t2, ct2, rfl, Nq2, Kq2, Eq2, Cq2, Vq2, Aq2⟩ := hQ2
  have N2 := Fr.app (Fr.nil h0.size) (fun y hy => Nat.le_trans (Nat.le_refl _) (Nq2 y hy))
  have f2_0 := E.keep Kq2
  have f2_1 := C.keep Kq2 nin0
  have f2_2 := V.keep Kq2 nin0
  have f2_3 := A.keep Kq2 nin0
  have f2_4 := own_cpt_keep hCpt Kq2 ns0
  have zs2 := Nat.le_trans (Nat.le_refl _) Kq2.1
  have K2 : Keep h0 T2.heap [] := (Keep.refl h0 []).trans Kq2 all0
  exact gRetHA X2 hx hlk hret rfl rfl (H d31_12) rfl hS (Nat.le_refl _) hZ hEL H2 (by decide) (by decide) (⟨r2, t2, ct2, rfl, N2, K2, Eq2, Cq2, Vq2, Aq2⟩)
def lx4 (ch0 ch1 ch2 ch3 : Int32) : Int32 := if ch3.toInt = 47 then 3 else if ch2.toInt = 47 then 2 else if ch1.toInt = 47 then 1 else if ch0.toInt = 47 then 0 else (-1)
theorem c_min_3_3 (l : Launch) (Z : State) (a0 : Array Value) (hw : ∀ d ∈ tables_1, d.before a0 Z = true)  (h0 : Heap)  :
    Ctr l Z mn5 jdk_29_method_69_code 2 (some .int) [] ⟨0, 0, 0, 0⟩ #[(.int (3 : Int32)), (.int (3 : Int32))] h0 (Just h0 (.int (3))) := by
  refine Ctr.of (Jvm.Free.JP.mathPlain rfl (by decide +kernel)) ?_
  intro p e s m below meth c s₁ hx H hml hret hown hnm hZ hlk X0 e0
  refine Goes.cast (show entryFrame m _ _ = mkF m 0 #[.val (.int (3 : Int32)), .val (.int (3 : Int32))] [] from rfl) ?_
  refine gLoadIN 1 X0 hx (H d1_0) rfl rfl ?_
  refine gLoadIN 2 X0 hx (H d1_1) rfl rfl ?_
  refine gIcmpGt X0 hx (H d1_2) (pc' := 9) (by decide) (by decide) (pn := 5) rfl (fun (c2 : (3 : Int) < (3 : Int)) => ?_) (fun (c2 : (3 : Int) ≤ (3 : Int)) => ?_)
  · exact absurd c2 (by decide)
  · refine gLoadIN 6 X0 hx (H d1_5) rfl rfl ?_
    refine gGoto X0 hx (H d1_6) (pc' := 10) (by decide) (by decide) ?_
    exact gRetI X0 hx hlk hret (H d1_10) (by decide) (by decide) (⟨rfl, e0, rfl⟩)
theorem c_lastIndexOf_4l (l : Launch) (Z : State) (a0 : Array Value) (hw : ∀ d ∈ tables_1, d.before a0 Z = true) (t : Addr) (ck : ClassId) (ch0 ch1 ch2 ch3 : Int32) (h0 : Heap) (A : sA Z h0 t ck 4 [by8 ch0, by8 ch1, by8 ch2, by8 ch3]) (hch0 : rg ch0) (hch1 : rg ch1) (hch2 : rg ch2) (hch3 : rg ch3) :
    Ctr l Z mn22 jdk_43_method_27_code 4 (some .int) [] ⟨1, 0, 0, 24⟩ #[(.ref t), (.int (47 : Int32)), (.int (3 : Int32))] h0 (Just h0 (.int (lx4 ch0 ch1 ch2 ch3))) := by
  refine Ctr.of (plainFor_of_name pn_5) ?_
  intro p e s m below meth c s₁ hx H hml hret hown hnm hZ hlk X0 e0
  refine Goes.cast (show entryFrame m _ _ = mkF m 0 #[.val (.ref t), .val (.int (47 : Int32)), .val (.int (3 : Int32)), .unset] [] from rfl) ?_
  refine gLoadIN 1 X0 hx (H d17_0) rfl rfl ?_
  refine gCallSJ X0 hx hZ (y := mn20) hown e0 (by rw [hml]; rfl) (ow hw 64 rfl) (ow hw 65 rfl) (ow hw 62 rfl) (ow hw 66 rfl) (by decide) (argsL := [(.int (47 : Int32))]) (st := []) (c_canI_47 l Z a0 hw h0) (lenOf pd_7 rfl) (H d17_1) (pc' := 4) rfl rfl rfl rfl (by decide) (W := 0) (Nat.le_of_eq rfl) (by decide) (by decide) (by decide) ?_
  intro T1 X1 e1
  refine gIfNeT X1 hx (H d17_4) (pc' := 9) (by decide) (by decide) (pn := 7) rfl (fun (c4 : ¬ (1 : Int) = (0 : Int)) => ?_) (fun (c4 : (1 : Int) = (0 : Int)) => ?_)
  · refine gLoadIN 10 X1 hx (H d17_9) rfl rfl ?_
    refine gLoadAN 11 X1 hx (H d17_10) rfl rfl rfl ?_
    refine gArrLen X1 hx hZ e1 A (H d17_11) (pc' := 12) rfl ?_
    refine gIconst 13 X1 hx (v := (1 : Int32)) (H d17_12) rfl rfl ?_
    refine gIsub 14 X1 hx (H d17_13) rfl ?_
    show Goes p e below _ T1 (mkF m 14 #[.val (.ref t), .val (.int (47 : Int32)), .val (.int (3 : Int32)), .unset] [(.int (3 : Int32)), (.int (3 : Int32))])
    refine gCallSJ X1 hx hZ (y := mn5) hown e1 (by rw [hml]; rfl) (ow hw 67 rfl) (ow hw 68 rfl) (ow hw 69 rfl) (ow hw 70 rfl) (by decide) (argsL := [(.int (3 : Int32)), (.int (3 : Int32))]) (st := []) (c_min_3_3 l Z a0 hw h0) (lenOf pd_10 rfl) (H d17_14) (pc' := 17) rfl rfl rfl rfl (by decide) (W := 0) (Nat.le_of_eq rfl) (by decide) (by decide) (by decide) ?_
    intro T2 X2 e2
    refine gStoreIN 18 X2 hx (H d17_17) (l' := #[.val (.ref t), .val (.int (47 : Int32)), .val (.int (3 : Int32)), .val (.int (3 : Int32))]) rfl rfl ?_
    refine gLoadIN 19 X2 hx (H d17_18) rfl rfl ?_
    refine gIfLt X2 hx (H d17_19) (pc' := 38) (by decide) (by decide) (pn := 22) rfl (fun (c19 : (3 : Int) < (0 : Int)) => ?_) (fun (c19 : (0 : Int) ≤ (3 : Int)) => ?_)
    · exact absurd c19 (by decide)
    · refine gLoadAN 23 X2 hx (H d17_22) rfl rfl rfl ?_
      refine gLoadIN 24 X2 hx (H d17_23) rfl rfl ?_
      refine gBaload X2 hx hZ e2 A (j := (3 : Int32)) (v := (.int (ch3.toInt8.toInt32))) (by decide) (by decide) rfl (H d17_24) (pc' := 25) rfl ?_
      refine gLoadIN 26 X2 hx (H d17_25) rfl rfl ?_
      refine gI2b 27 X2 hx (H d17_26) rfl ?_
      show Goes p e below _ T2 (mkF m 27 #[.val (.ref t), .val (.int (47 : Int32)), .val (.int (3 : Int32)), .val (.int (3 : Int32))] [(.int (47 : Int32)), (.int (ch3.toInt8.toInt32))])
      refine gIcmpNeT X2 hx (H d17_27) (pc' := 32) (by decide) (by decide) (pn := 30) rfl (fun (c27 : ¬ (ch3.toInt8.toInt32).toInt = (47 : Int)) => ?_) (fun (c27 : (ch3.toInt8.toInt32).toInt = (47 : Int)) => ?_)
      · refine gIinc X2 hx (v := (-1 : Int32)) (H d17_32) (l' := #[.val (.ref t), .val (.int (47 : Int32)), .val (.int (3 : Int32)), .val (.int (2 : Int32))]) (pc' := 35) rfl rfl rfl rfl ?_
        refine gGoto X2 hx (H d17_35) (pc' := 18) (by decide) (by decide) ?_
        refine gLoadIN 19 X2 hx (H d17_18) rfl rfl ?_
        refine gIfLt X2 hx (H d17_19) (pc' := 38) (by decide) (by decide) (pn := 22) rfl (fun (c19' : (2 : Int) < (0 : Int)) => ?_) (fun (c19' : (0 : Int) ≤ (2 : Int)) => ?_)
        · exact absurd c19' (by decide)
        · refine gLoadAN 23 X2 hx (H d17_22) rfl rfl rfl ?_
          refine gLoadIN 24 X2 hx (H d17_23) rfl rfl ?_
          refine gBaload X2 hx hZ e2 A (j := (2 : Int32)) (v := (.int (ch2.toInt8.toInt32))) (by decide) (by decide) rfl (H d17_24) (pc' := 25) rfl ?_
          refine gLoadIN 26 X2 hx (H d17_25) rfl rfl ?_
          refine gI2b 27 X2 hx (H d17_26) rfl ?_
          show Goes p e below _ T2 (mkF m 27 #[.val (.ref t), .val (.int (47 : Int32)), .val (.int (3 : Int32)), .val (.int (2 : Int32))] [(.int (47 : Int32)), (.int (ch2.toInt8.toInt32))])
          refine gIcmpNeT X2 hx (H d17_27) (pc' := 32) (by decide) (by decide) (pn := 30) rfl (fun (c27' : ¬ (ch2.toInt8.toInt32).toInt = (47 : Int)) => ?_) (fun (c27' : (ch2.toInt8.toInt32).toInt = (47 : Int)) => ?_)
          · refine gIinc X2 hx (v := (-1 : Int32)) (H d17_32) (l' := #[.val (.ref t), .val (.int (47 : Int32)), .val (.int (3 : Int32)), .val (.int (1 : Int32))]) (pc' := 35) rfl rfl rfl rfl ?_
            refine gGoto X2 hx (H d17_35) (pc' := 18) (by decide) (by decide) ?_
            refine gLoadIN 19 X2 hx (H d17_18) rfl rfl ?_
            refine gIfLt X2 hx (H d17_19) (pc' := 38) (by decide) (by decide) (pn := 22) rfl (fun (c19'' : (1 : Int) < (0 : Int)) => ?_) (fun (c19'' : (0 : Int) ≤ (1 : Int)) => ?_)
            · exact absurd c19'' (by decide)
            · refine gLoadAN 23 X2 hx (H d17_22) rfl rfl rfl ?_
              refine gLoadIN 24 X2 hx (H d17_23) rfl rfl ?_
              refine gBaload X2 hx hZ e2 A (j := (1 : Int32)) (v := (.int (ch1.toInt8.toInt32))) (by decide) (by decide) rfl (H d17_24) (pc' := 25) rfl ?_
              refine gLoadIN 26 X2 hx (H d17_25) rfl rfl ?_
              refine gI2b 27 X2 hx (H d17_26) rfl ?_
              show Goes p e below _ T2 (mkF m 27 #[.val (.ref t), .val (.int (47 : Int32)), .val (.int (3 : Int32)), .val (.int (1 : Int32))] [(.int (47 : Int32)), (.int (ch1.toInt8.toInt32))])
              refine gIcmpNeT X2 hx (H d17_27) (pc' := 32) (by decide) (by decide) (pn := 30) rfl (fun (c27'' : ¬ (ch1.toInt8.toInt32).toInt = (47 : Int)) => ?_) (fun (c27'' : (ch1.toInt8.toInt32).toInt = (47 : Int)) => ?_)
              · refine gIinc X2 hx (v := (-1 : Int32)) (H d17_32) (l' := #[.val (.ref t), .val (.int (47 : Int32)), .val (.int (3 : Int32)), .val (.int (0 : Int32))]) (pc' := 35) rfl rfl rfl rfl ?_
                refine gGoto X2 hx (H d17_35) (pc' := 18) (by decide) (by decide) ?_
                refine gLoadIN 19 X2 hx (H d17_18) rfl rfl ?_
                refine gIfLt X2 hx (H d17_19) (pc' := 38) (by decide) (by decide) (pn := 22) rfl (fun (c19''' : (0 : Int) < (0 : Int)) => ?_) (fun (c19''' : (0 : Int) ≤ (0 : Int)) => ?_)
                · exact absurd c19''' (by decide)
                · refine gLoadAN 23 X2 hx (H d17_22) rfl rfl rfl ?_
                  refine gLoadIN 24 X2 hx (H d17_23) rfl rfl ?_
                  refine gBaload X2 hx hZ e2 A (j := (0 : Int32)) (v := (.int (ch0.toInt8.toInt32))) (by decide) (by decide) rfl (H d17_24) (pc' := 25) rfl ?_
                  refine gLoadIN 26 X2 hx (H d17_25) rfl rfl ?_
                  refine gI2b 27 X2 hx (H d17_26) rfl ?_
                  show Goes p e below _ T2 (mkF m 27 #[.val (.ref t), .val (.int (47 : Int32)), .val (.int (3 : Int32)), .val (.int (0 : Int32))] [(.int (47 : Int32)), (.int (ch0.toInt8.toInt32))])
                  refine gIcmpNeT X2 hx (H d17_27) (pc' := 32) (by decide) (by decide) (pn := 30) rfl (fun (c27''' : ¬ (ch0.toInt8.toInt32).toInt = (47 : Int)) => ?_) (fun (c27''' : (ch0.toInt8.toInt32).toInt = (47 : Int)) => ?_)
                  · refine gIinc X2 hx (v := (-1 : Int32)) (H d17_32) (l' := #[.val (.ref t), .val (.int (47 : Int32)), .val (.int (3 : Int32)), .val (.int (-1 : Int32))]) (pc' := 35) rfl rfl rfl rfl ?_
                    refine gGoto X2 hx (H d17_35) (pc' := 18) (by decide) (by decide) ?_
                    refine gLoadIN 19 X2 hx (H d17_18) rfl rfl ?_
                    refine gIfLt X2 hx (H d17_19) (pc' := 38) (by decide) (by decide) (pn := 22) rfl (fun (c19'''' : (-1 : Int) < (0 : Int)) => ?_) (fun (c19'''' : (0 : Int) ≤ (-1 : Int)) => ?_)
                    · refine gIconst 39 X2 hx (v := (-1 : Int32)) (H d17_38) rfl rfl ?_
                      exact gRetI X2 hx hlk hret (H d17_39) (by decide) (by decide) (⟨by rw [lx4, if_neg (fun z => c27 ((own_beq hch3 (by decide)).mpr z)), if_neg (fun z => c27' ((own_beq hch2 (by decide)).mpr z)), if_neg (fun z => c27'' ((own_beq hch1 (by decide)).mpr z)), if_neg (fun z => c27''' ((own_beq hch0 (by decide)).mpr z))], e2, rfl⟩)
                    · exact absurd c19'''' (by decide)
                  · refine gLoadIN 31 X2 hx (H d17_30) rfl rfl ?_
                    exact gRetI X2 hx hlk hret (H d17_31) (by decide) (by decide) (⟨by rw [lx4, if_neg (fun z => c27 ((own_beq hch3 (by decide)).mpr z)), if_neg (fun z => c27' ((own_beq hch2 (by decide)).mpr z)), if_neg (fun z => c27'' ((own_beq hch1 (by decide)).mpr z)), if_pos ((own_beq hch0 (by decide)).mp c27''')], e2, rfl⟩)
              · refine gLoadIN 31 X2 hx (H d17_30) rfl rfl ?_
                exact gRetI X2 hx hlk hret (H d17_31) (by decide) (by decide) (⟨by rw [lx4, if_neg (fun z => c27 ((own_beq hch3 (by decide)).mpr z)), if_neg (fun z => c27' ((own_beq hch2 (by decide)).mpr z)), if_pos ((own_beq hch1 (by decide)).mp c27'')], e2, rfl⟩)
          · refine gLoadIN 31 X2 hx (H d17_30) rfl rfl ?_
            exact gRetI X2 hx hlk hret (H d17_31) (by decide) (by decide) (⟨by rw [lx4, if_neg (fun z => c27 ((own_beq hch3 (by decide)).mpr z)), if_pos ((own_beq hch2 (by decide)).mp c27')], e2, rfl⟩)
      · refine gLoadIN 31 X2 hx (H d17_30) rfl rfl ?_
        exact gRetI X2 hx hlk hret (H d17_31) (by decide) (by decide) (⟨by rw [lx4, if_pos ((own_beq hch3 (by decide)).mp c27)], e2, rfl⟩)
  · exact absurd c4 (by decide)
theorem c_length_4 (l : Launch) (Z : State) (a0 : Array Value) (hw : ∀ d ∈ tables_1, d.before a0 Z = true) (a t : Addr) (ck : ClassId) (ch0 ch1 ch2 ch3 : Int32) (h0 : Heap) (hCpt : Cpt Z h0) (E : sE Z h0 a) (C : sC Z h0 a) (V : sV Z h0 a t) (A : sA Z h0 t ck 4 [by8 ch0, by8 ch1, by8 ch2, by8 ch3]) (hch0 : rg ch0) (hch1 : rg ch1) (hch2 : rg ch2) (hch3 : rg ch3) :
    Ctr l Z mn17 jdk_42_method_54_code 1 (some .int) [] ⟨1, 0, 0, 13⟩ #[(.ref a)] h0 (Just h0 (.int 4)) := by
  refine Ctr.of (plainFor_of_name pn_4) ?_
  intro p e s m below meth c s₁ hx H hml hret hown hnm hZ hlk X0 e0
  refine Goes.cast (show entryFrame m _ _ = mkF m 0 #[.val (.ref a)] [] from rfl) ?_
  refine gLoadAN 1 X0 hx (H d11_0) rfl rfl rfl ?_
  refine gGetF X0 hx hZ hown (ow hw 28 rfl) Via.refl e0 V (H d11_1) (pc' := 4) rfl (fun T1 X1 e1 => ?_)
  refine gArrLen X1 hx hZ e1 A (H d11_4) (pc' := 5) rfl ?_
  refine gLoadAN 6 X1 hx (H d11_5) rfl rfl rfl ?_
  refine gCallVJ X1 hx hZ (y := mn13) hown e1 (by rw [hml]; rfl) E (ow hw 44 rfl) (ow hw 45 rfl) (ow hw 47 rfl) (ow hw 46 rfl) (ow hw 10 rfl) (ow hw 48 rfl) (by decide) (argsL := []) (st := [(.int (4 : Int32))]) (c_coder l Z a0 hw a h0 hCpt C) (lenOf pd_0 rfl) (H d11_6) (pc' := 9) rfl rfl rfl rfl (by decide) (W := 1) (Nat.le_of_eq rfl) (by decide) (by decide) (by decide) ?_
  intro T2 X2 e2
  refine gIshr 10 X2 hx (H d11_9) rfl ?_
  show Goes p e below _ T2 (mkF m 10 #[.val (.ref a)] [(.int (4 : Int32))])
  exact gRetI X2 hx hlk hret (H d11_10) (by decide) (by decide) (⟨rfl, e2, rfl⟩)
theorem c_lastIndexOf_42 (l : Launch) (Z : State) (a0 : Array Value) (hw : ∀ d ∈ tables_1, d.before a0 Z = true) (a t : Addr) (ck : ClassId) (ch0 ch1 ch2 ch3 : Int32) (h0 : Heap) (hCpt : Cpt Z h0) (E : sE Z h0 a) (C : sC Z h0 a) (V : sV Z h0 a t) (A : sA Z h0 t ck 4 [by8 ch0, by8 ch1, by8 ch2, by8 ch3]) (hch0 : rg ch0) (hch1 : rg ch1) (hch2 : rg ch2) (hch3 : rg ch3) :
    Ctr l Z mn16 jdk_42_method_83_code 3 (some .int) [] ⟨2, 0, 0, 42⟩ #[(.ref a), (.int (47 : Int32)), (.int (3 : Int32))] h0 (Just h0 (.int (lx4 ch0 ch1 ch2 ch3))) := by
  refine Ctr.of (plainFor_of_name pn_4) ?_
  intro p e s m below meth c s₁ hx H hml hret hown hnm hZ hlk X0 e0
  refine Goes.cast (show entryFrame m _ _ = mkF m 0 #[.val (.ref a), .val (.int (47 : Int32)), .val (.int (3 : Int32))] [] from rfl) ?_
  refine gLoadAN 1 X0 hx (H d14_0) rfl rfl rfl ?_
  refine gCallVJ X0 hx hZ (y := mn14) hown e0 (by rw [hml]; rfl) E (ow hw 55 rfl) (ow hw 56 rfl) (ow hw 58 rfl) (ow hw 57 rfl) (ow hw 10 rfl) (ow hw 59 rfl) (by decide) (argsL := []) (st := []) (c_isLatin1 l Z a0 hw a h0 hCpt C) (lenOf pd_3 rfl) (H d14_1) (pc' := 4) rfl rfl rfl rfl (by decide) (W := 0) (Nat.le_of_eq rfl) (by decide) (by decide) (by decide) ?_
  intro T1 X1 e1
  refine gIfEqT X1 hx (H d14_4) (pc' := 19) (by decide) (by decide) (pn := 7) rfl (fun (c4 : (1 : Int) = (0 : Int)) => ?_) (fun (c4 : ¬ (1 : Int) = (0 : Int)) => ?_)
  · exact absurd c4 (by decide)
  · refine gLoadAN 8 X1 hx (H d14_7) rfl rfl rfl ?_
    refine gGetF X1 hx hZ hown (ow hw 28 rfl) Via.refl e1 V (H d14_8) (pc' := 11) rfl (fun T2 X2 e2 => ?_)
    refine gLoadIN 12 X2 hx (H d14_11) rfl rfl ?_
    refine gLoadIN 13 X2 hx (H d14_12) rfl rfl ?_
    refine gCallSJ X2 hx hZ (y := mn22) hown e2 (by rw [hml]; rfl) (ow hw 60 rfl) (ow hw 61 rfl) (ow hw 62 rfl) (ow hw 63 rfl) (by decide) (argsL := [(.ref t), (.int (47 : Int32)), (.int (3 : Int32))]) (st := []) (c_lastIndexOf_4l l Z a0 hw t ck ch0 ch1 ch2 ch3 h0 A hch0 hch1 hch2 hch3) (lenOf pd_21 rfl) (H d14_13) (pc' := 16) rfl rfl rfl rfl (by decide) (W := 0) (Nat.le_of_eq rfl) (by decide) (by decide) (by decide) ?_
    intro T3 X3 e3
    refine gGoto X3 hx (H d14_16) (pc' := 28) (by decide) (by decide) ?_
    exact gRetI X3 hx hlk hret (H d14_28) (by decide) (by decide) (⟨rfl, e3, rfl⟩)
theorem c_lastIndexOf_4 (l : Launch) (Z : State) (a0 : Array Value) (hw : ∀ d ∈ tables_1, d.before a0 Z = true) (a t : Addr) (ck : ClassId) (ch0 ch1 ch2 ch3 : Int32) (h0 : Heap) (hCpt : Cpt Z h0) (E : sE Z h0 a) (C : sC Z h0 a) (V : sV Z h0 a t) (A : sA Z h0 t ck 4 [by8 ch0, by8 ch1, by8 ch2, by8 ch3]) (hch0 : rg ch0) (hch1 : rg ch1) (hch2 : rg ch2) (hch3 : rg ch3) :
    Ctr l Z mn15 jdk_42_method_82_code 2 (some .int) [] ⟨3, 0, 0, 58⟩ #[(.ref a), (.int (47 : Int32))] h0 (Just h0 (.int (lx4 ch0 ch1 ch2 ch3))) := by
  refine Ctr.of (plainFor_of_name pn_4) ?_
  intro p e s m below meth c s₁ hx H hml hret hown hnm hZ hlk X0 e0
  refine Goes.cast (show entryFrame m _ _ = mkF m 0 #[.val (.ref a), .val (.int (47 : Int32))] [] from rfl) ?_
  refine gLoadAN 1 X0 hx (H d13_0) rfl rfl rfl ?_
  refine gLoadIN 2 X0 hx (H d13_1) rfl rfl ?_
  refine gLoadAN 3 X0 hx (H d13_2) rfl rfl rfl ?_
  refine gCallVJ X0 hx hZ (y := mn17) hown e0 (by rw [hml]; rfl) E (ow hw 39 rfl) (ow hw 40 rfl) (ow hw 42 rfl) (ow hw 41 rfl) (ow hw 10 rfl) (ow hw 43 rfl) (by decide) (argsL := []) (st := [(.int (47 : Int32)), (.ref a)]) (c_length_4 l Z a0 hw a t ck ch0 ch1 ch2 ch3 h0 hCpt E C V A hch0 hch1 hch2 hch3) (lenOf pd_1 rfl) (H d13_3) (pc' := 6) rfl rfl rfl rfl (by decide) (W := 2) (Nat.le_of_eq rfl) (by decide) (by decide) (by decide) ?_
  intro T1 X1 e1
  refine gIconst 7 X1 hx (v := (1 : Int32)) (H d13_6) rfl rfl ?_
  refine gIsub 8 X1 hx (H d13_7) rfl ?_
  show Goes p e below _ T1 (mkF m 8 #[.val (.ref a), .val (.int (47 : Int32))] [(.int (3 : Int32)), (.int (47 : Int32)), (.ref a)])
  refine gCallVJ X1 hx hZ (y := mn16) hown e1 (by rw [hml]; rfl) E (ow hw 50 rfl) (ow hw 51 rfl) (ow hw 53 rfl) (ow hw 52 rfl) (ow hw 10 rfl) (ow hw 54 rfl) (by decide) (argsL := [(.int (47 : Int32)), (.int (3 : Int32))]) (st := []) (c_lastIndexOf_42 l Z a0 hw a t ck ch0 ch1 ch2 ch3 h0 hCpt E C V A hch0 hch1 hch2 hch3) (lenOf pd_10 rfl) (H d13_8) (pc' := 11) rfl rfl rfl rfl (by decide) (W := 0) (Nat.le_of_eq rfl) (by decide) (by decide) (by decide) ?_
  intro T2 X2 e2
  exact gRetI X2 hx hlk hret (H d13_11) (by decide) (by decide) (⟨rfl, e2, rfl⟩)
theorem c_sub_4_0_4 (l : Launch) (Z : State) (a0 : Array Value) (hw : ∀ d ∈ tables_1, d.before a0 Z = true) (a t : Addr) (ck : ClassId) (ch0 ch1 ch2 ch3 : Int32) (h0 : Heap) (hSio : Sio Z h0) (hCpt : Cpt Z h0) (E : sE Z h0 a) (C : sC Z h0 a) (V : sV Z h0 a t) (A : sA Z h0 t ck 4 [by8 ch0, by8 ch1, by8 ch2, by8 ch3]) (hch0 : rg ch0) (hch1 : rg ch1) (hch2 : rg ch2) (hch3 : rg ch3) :
    Ctr l Z mn19 jdk_42_method_92_code 5 (some (.object "java/lang/String")) [] ⟨2, 0, 0, 30⟩ #[(.ref a), (.int (0 : Int32)), (.int (4 : Int32))] h0 (Just h0 (.ref a)) := by
  refine Ctr.of (plainFor_of_name pn_4) ?_
  intro p e s m below meth c s₁ hx H hml hret hown hnm hZ hlk X0 e0
  refine Goes.cast (show entryFrame m _ _ = mkF m 0 #[.val (.ref a), .val (.int (0 : Int32)), .val (.int (4 : Int32)), .unset, .unset] [] from rfl) ?_
  refine gLoadAN 1 X0 hx (H d16_0) rfl rfl rfl ?_
  refine gCallVJ X0 hx hZ (y := mn17) hown e0 (by rw [hml]; rfl) E (ow hw 39 rfl) (ow hw 40 rfl) (ow hw 42 rfl) (ow hw 41 rfl) (ow hw 10 rfl) (ow hw 43 rfl) (by decide) (argsL := []) (st := []) (c_length_4 l Z a0 hw a t ck ch0 ch1 ch2 ch3 h0 hCpt E C V A hch0 hch1 hch2 hch3) (lenOf pd_1 rfl) (H d16_1) (pc' := 4) rfl rfl rfl rfl (by decide) (W := 0) (Nat.le_of_eq rfl) (by decide) (by decide) (by decide) ?_
  intro T1 X1 e1
  refine gStoreIN 5 X1 hx (H d16_4) (l' := #[.val (.ref a), .val (.int (0 : Int32)), .val (.int (4 : Int32)), .val (.int (4 : Int32)), .unset]) rfl rfl ?_
  refine gLoadIN 6 X1 hx (H d16_5) rfl rfl ?_
  refine gLoadIN 7 X1 hx (H d16_6) rfl rfl ?_
  refine gLoadIN 8 X1 hx (H d16_7) rfl rfl ?_
  refine gCallS X1 hx hZ (y := mn11) hown e1 (by rw [hml]; rfl) (ow hw 81 rfl) (ow hw 82 rfl) (ow hw 10 rfl) (ow hw 83 rfl) (by decide) (argsL := [(.int (0 : Int32)), (.int (4 : Int32)), (.int (4 : Int32))]) (st := []) (c_chkft l Z a0 hw (0 : Int32) (4 : Int32) (4 : Int32) h0 (by decide) (by decide) (by decide) hSio) (lenOf pd_13 rfl) (H d16_8) (pc' := 11) rfl rfl (by decide) (W := 0) (Nat.le_of_eq rfl) (by decide) (by decide) (by decide) ?_
  intro T2 v2 L2 X2 hQ2
  obtain ⟨rfl, eq2, rfl⟩ := hQ2
  rw [List.append_nil] at X2
  refine gLoadIN 12 X2 hx (H d16_11) rfl rfl ?_
  refine gIfNeT X2 hx (H d16_12) (pc' := 22) (by decide) (by decide) (pn := 15) rfl (fun (c12 : ¬ (0 : Int) = (0 : Int)) => ?_) (fun (c12 : (0 : Int) = (0 : Int)) => ?_)
  · exact absurd c12 (by decide)
  · refine gLoadIN 16 X2 hx (H d16_15) rfl rfl ?_
    refine gLoadIN 17 X2 hx (H d16_16) rfl rfl ?_
    refine gIcmpNeT X2 hx (H d16_17) (pc' := 22) (by decide) (by decide) (pn := 20) rfl (fun (c17 : ¬ (4 : Int) = (4 : Int)) => ?_) (fun (c17 : (4 : Int) = (4 : Int)) => ?_)
    · exact absurd c17 (by decide)
    · refine gLoadAN 21 X2 hx (H d16_20) rfl rfl rfl ?_
      exact gRetA X2 hx hlk hret rfl rfl (H d16_21) (by decide) (by decide) (⟨rfl, eq2, rfl⟩)
theorem c_sub_4_0_4o (l : Launch) (Z : State) (a0 : Array Value) (hw : ∀ d ∈ tables_1, d.before a0 Z = true) (a t : Addr) (ck : ClassId) (ch0 ch1 ch2 ch3 : Int32) (h0 : Heap) (hSio : Sio Z h0) (hCpt : Cpt Z h0) (E : sE Z h0 a) (C : sC Z h0 a) (V : sV Z h0 a t) (A : sA Z h0 t ck 4 [by8 ch0, by8 ch1, by8 ch2, by8 ch3]) (hch0 : rg ch0) (hch1 : rg ch1) (hch2 : rg ch2) (hch3 : rg ch3) :
    Ctr l Z mn18 jdk_42_method_91_code 2 (some (.object "java/lang/String")) [] ⟨3, 0, 0, 50⟩ #[(.ref a), (.int (0 : Int32))] h0 (Just h0 (.ref a)) := by
  refine Ctr.of (plainFor_of_name pn_4) ?_
  intro p e s m below meth c s₁ hx H hml hret hown hnm hZ hlk X0 e0
  refine Goes.cast (show entryFrame m _ _ = mkF m 0 #[.val (.ref a), .val (.int (0 : Int32))] [] from rfl) ?_
  refine gLoadAN 1 X0 hx (H d15_0) rfl rfl rfl ?_
  refine gLoadIN 2 X0 hx (H d15_1) rfl rfl ?_
  refine gLoadAN 3 X0 hx (H d15_2) rfl rfl rfl ?_
  refine gCallVJ X0 hx hZ (y := mn17) hown e0 (by rw [hml]; rfl) E (ow hw 39 rfl) (ow hw 40 rfl) (ow hw 42 rfl) (ow hw 41 rfl) (ow hw 10 rfl) (ow hw 43 rfl) (by decide) (argsL := []) (st := [(.int (0 : Int32)), (.ref a)]) (c_length_4 l Z a0 hw a t ck ch0 ch1 ch2 ch3 h0 hCpt E C V A hch0 hch1 hch2 hch3) (lenOf pd_1 rfl) (H d15_3) (pc' := 6) rfl rfl rfl rfl (by decide) (W := 2) (Nat.le_of_eq rfl) (by decide) (by decide) (by decide) ?_
  intro T1 X1 e1
  refine gCallVJ X1 hx hZ (y := mn19) hown e1 (by rw [hml]; rfl) E (ow hw 76 rfl) (ow hw 77 rfl) (ow hw 79 rfl) (ow hw 78 rfl) (ow hw 10 rfl) (ow hw 80 rfl) (by decide) (argsL := [(.int (0 : Int32)), (.int (4 : Int32))]) (st := []) (c_sub_4_0_4 l Z a0 hw a t ck ch0 ch1 ch2 ch3 h0 hSio hCpt E C V A hch0 hch1 hch2 hch3) (lenOf pd_11 rfl) (H d15_6) (pc' := 9) rfl rfl rfl rfl (by decide) (W := 0) (Nat.le_of_eq rfl) (by decide) (by decide) (by decide) ?_
  intro T2 X2 e2
  exact gRetA X2 hx hlk hret rfl rfl (H d15_9) (by decide) (by decide) (⟨rfl, e2, rfl⟩)
theorem c_nm_4_m (l : Launch) (Z : State) (a0 : Array Value) (hw : ∀ d ∈ tables_1, d.before a0 Z = true) (a t : Addr) (ck : ClassId) (ch0 ch1 ch2 ch3 : Int32) (h0 : Heap) (hSio : Sio Z h0) (hCpt : Cpt Z h0) (E : sE Z h0 a) (C : sC Z h0 a) (V : sV Z h0 a t) (A : sA Z h0 t ck 4 [by8 ch0, by8 ch1, by8 ch2, by8 ch3]) (hch0 : rg ch0) (hch1 : rg ch1) (hch2 : rg ch2) (hch3 : rg ch3) (d0 : ¬ ch0.toInt = 47) (d1 : ¬ ch1.toInt = 47) (d2 : ¬ ch2.toInt = 47) (d3 : ¬ ch3.toInt = 47) :
    Ctr l Z mn0 prog_18_method_7_code 1 (some (.object "java/lang/String")) [] ⟨4, 0, 0, 73⟩ #[(.ref a)] h0 (Just h0 (.ref a)) := by
  refine Ctr.of (plainFor_of_name pn_0) ?_
  intro p e s m below meth c s₁ hx H hml hret hown hnm hZ hlk X0 e0
  refine Goes.cast (show entryFrame m _ _ = mkF m 0 #[.val (.ref a)] [] from rfl) ?_
  refine gLoadAN 1 X0 hx (H d31_0) rfl rfl rfl ?_
  refine gLoadAN 2 X0 hx (H d31_1) rfl rfl rfl ?_
  refine gBipush 4 X0 hx (v := (47 : Int32)) (H d31_2) rfl rfl ?_
  refine gCallVJ X0 hx hZ (y := mn15) hown e0 (by rw [hml]; rfl) E (ow hw 34 rfl) (ow hw 35 rfl) (ow hw 37 rfl) (ow hw 36 rfl) (ow hw 10 rfl) (ow hw 38 rfl) (by decide) (argsL := [(.int (47 : Int32))]) (st := [(.ref a)]) (c_lastIndexOf_4 l Z a0 hw a t ck ch0 ch1 ch2 ch3 h0 hCpt E C V A hch0 hch1 hch2 hch3) (lenOf pd_5 rfl) (H d31_4) (pc' := 7) rfl rfl rfl rfl (by decide) (W := 1) (Nat.le_of_eq rfl) (by decide) (by decide) (by decide) ?_
  intro T1 X1 e1
  rw [show lx4 ch0 ch1 ch2 ch3 = -1 from by rw [lx4, if_neg d3, if_neg d2, if_neg d1, if_neg d0]]
  refine gIconst 8 X1 hx (v := (1 : Int32)) (H d31_7) rfl rfl ?_
  refine gIadd 9 X1 hx (H d31_8) rfl ?_
  show Goes p e below _ T1 (mkF m 9 #[.val (.ref a)] [(.int (0 : Int32)), (.ref a)])
  refine gCallVJ X1 hx hZ (y := mn18) hown e1 (by rw [hml]; rfl) E (ow hw 71 rfl) (ow hw 72 rfl) (ow hw 74 rfl) (ow hw 73 rfl) (ow hw 10 rfl) (ow hw 75 rfl) (by decide) (argsL := [(.int (0 : Int32))]) (st := []) (c_sub_4_0_4o l Z a0 hw a t ck ch0 ch1 ch2 ch3 h0 hSio hCpt E C V A hch0 hch1 hch2 hch3) (lenOf pd_6 rfl) (H d31_9) (pc' := 12) rfl rfl rfl rfl (by decide) (W := 0) (Nat.le_of_eq rfl) (by decide) (by decide) (by decide) ?_
  intro T2 X2 e2
  exact gRetA X2 hx hlk hret rfl rfl (H d31_12) (by decide) (by decide) (⟨rfl, e2, rfl⟩)
theorem c_clen_1_4 (l : Launch) (Z : State) (a0 : Array Value) (hw : ∀ d ∈ tables_1, d.before a0 Z = true)  (h0 : Heap)  :
    Ctr l Z mn28 jdk_65_method_131_code 2 none [] ⟨0, 0, 0, 0⟩ #[(.int (1 : Int32)), (.int (4 : Int32))] h0 (fun v h L => v = none ∧ h = h0 ∧ L = []) := by
  refine Ctr.of (plainFor_of_name pn_7) ?_
  intro p e s m below meth c s₁ hx H hml hret hown hnm hZ hlk X0 e0
  refine Goes.cast (show entryFrame m _ _ = mkF m 0 #[.val (.int (1 : Int32)), .val (.int (4 : Int32))] [] from rfl) ?_
  refine gLoadIN 1 X0 hx (H d24_0) rfl rfl ?_
  refine gLoadIN 2 X0 hx (H d24_1) rfl rfl ?_
  refine gIcmpGe X0 hx (H d24_2) (pc' := 37) (by decide) (by decide) (pn := 5) rfl (fun (c2 : (1 : Int) ≤ (4 : Int)) => ?_) (fun (c2 : (4 : Int) < (1 : Int)) => ?_)
  · exact gRetV X0 hx hlk hret (H d24_37) (by decide) (by decide) (⟨rfl, e0, rfl⟩)
  · exact absurd c2 (by decide)
theorem c_cor_4_1_4b (l : Launch) (Z : State) (a0 : Array Value) (hw : ∀ d ∈ tables_1, d.before a0 Z = true) (t : Addr) (ck : ClassId) (ch0 ch1 ch2 ch3 : Int32) (h0 : Heap) (A : sA Z h0 t ck 4 [by8 ch0, by8 ch1, by8 ch2, by8 ch3]) :
    Ctr l Z mn30 jdk_65_method_133_code 5 (some (.array .byte)) [] ⟨1, 1, 3, 24⟩ #[(.ref t), (.int (1 : Int32)), (.int (4 : Int32))] h0 (fun v h L => ∃ (b : Addr) (ct : ClassId), v = some (.ref b) ∧ h0.size ≤ b ∧ Fr h0.size L ∧ Keep h0 h [] ∧ sA Z h b ct 3 [by8 ch1, by8 ch2, by8 ch3]) := by
  refine Ctr.of (plainFor_of_name pn_7) ?_
  intro p e s m below meth c s₁ hx H hml hret hown hnm hZ hlk X0 e0
  refine Goes.cast (show entryFrame m _ _ = mkF m 0 #[.val (.ref t), .val (.int (1 : Int32)), .val (.int (4 : Int32)), .unset, .unset] [] from rfl) ?_
  refine gLoadIN 1 X0 hx (H d26_0) rfl rfl ?_
  refine gLoadIN 2 X0 hx (H d26_1) rfl rfl ?_
  refine gCallS X0 hx hZ (y := mn28) hown e0 (by rw [hml]; rfl) (ow hw 111 rfl) (ow hw 112 rfl) (ow hw 106 rfl) (ow hw 113 rfl) (by decide) (argsL := [(.int (1 : Int32)), (.int (4 : Int32))]) (st := []) (c_clen_1_4 l Z a0 hw h0) (lenOf pd_12 rfl) (H d26_2) (pc' := 5) rfl rfl (by decide) (W := 0) (Nat.le_of_eq rfl) (by decide) (by decide) (by decide) ?_
  intro T1 v1 L1 X1 hQ1
  obtain ⟨rfl, eq1, rfl⟩ := hQ1
  rw [List.append_nil] at X1
  refine gLoadIN 6 X1 hx (H d26_5) rfl rfl ?_
  refine gLoadIN 7 X1 hx (H d26_6) rfl rfl ?_
  refine gIsub 8 X1 hx (H d26_7) rfl ?_
  show Goes p e below _ T1 (mkF m 8 #[.val (.ref t), .val (.int (1 : Int32)), .val (.int (4 : Int32)), .unset, .unset] [(.int (3 : Int32))])
  refine gStoreIN 9 X1 hx (H d26_8) (l' := #[.val (.ref t), .val (.int (1 : Int32)), .val (.int (4 : Int32)), .val (.int (3 : Int32)), .unset]) rfl rfl ?_
  refine gLoadIN 10 X1 hx (H d26_9) rfl rfl ?_
  refine gNewP X1 hx hZ (ow hw 23 rfl) eq1 (n := (3 : Int32)) (H d26_10) (by decide) (cap := 3) (by decide) (by decide) (by decide) (by decide) 3 (pc' := 12) rfl (fun T2 h2 b2 ck2 X2 e2 g2 E2 A2 => ?_)
  have ne_t_b2 : t ≠ b2 := Nat.ne_of_lt (Nat.lt_of_lt_of_eq A.lt g2.symm)
  have f2_0 := A.ext E2
  have sz_b2 : h0.size ≤ b2 := Nat.le_trans (Nat.le_refl _) (Nat.le_of_eq g2.symm)
  have zs2 : h0.size ≤ h2.size := Nat.le_trans (Nat.le_refl _) E2.1
  have K2 : Keep h0 h2 [] := (Keep.refl h0 []).ext E2
  have V2 : Arv Z h2 b2 ck2 .byte (3 : Int32) [(.int (0 : Int32)), (.int (0 : Int32)), (.int (0 : Int32))] (.int (0 : Int32)) := A2
  refine gStoreA 14 X2 hx (H d26_12) (l' := #[.val (.ref t), .val (.int (1 : Int32)), .val (.int (4 : Int32)), .val (.int (3 : Int32)), .val (.ref b2)]) rfl rfl rfl ?_
  refine gLoadAN 15 X2 hx (H d26_14) rfl rfl rfl ?_
  refine gLoadIN 16 X2 hx (H d26_15) rfl rfl ?_
  refine gLoadA 18 X2 hx (H d26_16) rfl rfl rfl ?_
  refine gIconst 19 X2 hx (v := (0 : Int32)) (H d26_18) rfl rfl ?_
  refine gLoadAN 20 X2 hx (H d26_19) rfl rfl rfl ?_
  refine gArrLen X2 hx hZ e2 f2_0 (H d26_20) (pc' := 21) rfl ?_
  refine gLoadIN 22 X2 hx (H d26_21) rfl rfl ?_
  refine gIsub 23 X2 hx (H d26_22) rfl ?_
  show Goes p e below _ T2 (mkF m 23 #[.val (.ref t), .val (.int (1 : Int32)), .val (.int (4 : Int32)), .val (.int (3 : Int32)), .val (.ref b2)] [(.int (3 : Int32)), (.int (0 : Int32)), (.ref b2), (.int (1 : Int32)), (.ref t)])
  refine gLoadIN 24 X2 hx (H d26_23) rfl rfl ?_
  refine gCallSJ X2 hx hZ (y := mn5) hown e2 (by rw [hml]; rfl) (ow hw 114 rfl) (ow hw 68 rfl) (ow hw 69 rfl) (ow hw 70 rfl) (by decide) (argsL := [(.int (3 : Int32)), (.int (3 : Int32))]) (st := [(.int (0 : Int32)), (.ref b2), (.int (1 : Int32)), (.ref t)]) (c_min_3_3 l Z a0 hw h2) (lenOf pd_10 rfl) (H d26_24) (pc' := 27) rfl rfl rfl rfl (by decide) (W := 4) (Nat.le_of_eq rfl) (by decide) (by decide) (by decide) ?_
  intro T3 X3 e3
  refine gArrCopy X3 hx hZ hown (ow hw 115 rfl) (ow hw 118 rfl) (ow hw 116 rfl) (ow hw 117 rfl) e3 (dv := (.int 0)) (dd := (.int 0)) f2_0 V2 rfl (by decide) (by decide) (by decide) (by decide) (by decide) (by decide) (Fr.nil h0.size) sz_b2 (by rw [hml]; rfl) (H d26_27) (pc' := 30) rfl (by decide) (W := 0) (Nat.le_of_eq rfl) (by decide) (fun T4 h4 L4 X4 e4 N4 K4 A4 => ?_)
  have KK : Keep h0 h4 [] := K2.trans K4 (allS (Or.inr sz_b2) all0)
  have VV : Arv Z h4 b2 ck2 .byte 3 [by8 ch1, by8 ch2, by8 ch3] (.int 0) := A4
  refine gLoadA 32 X4 hx (H d26_30) rfl rfl rfl ?_
  exact gRetA X4 hx hlk hret rfl rfl (H d26_32) (by decide) (by decide) (⟨_, _, rfl, sz_b2, N4, by rw [e4]; exact KK, by rw [e4]; exact VV⟩)
theorem c_cor_4_1_4 (l : Launch) (Z : State) (a0 : Array Value) (hw : ∀ d ∈ tables_1, d.before a0 Z = true) (t : Addr) (ck : ClassId) (ch0 ch1 ch2 ch3 : Int32) (h0 : Heap) (A : sA Z h0 t ck 4 [by8 ch0, by8 ch1, by8 ch2, by8 ch3]) :
    Ctr l Z mn29 jdk_65_method_132_code 3 (some (.array .byte)) [] ⟨2, 1, 3, 40⟩ #[(.ref t), (.int (1 : Int32)), (.int (4 : Int32))] h0 (fun v h L => ∃ (b : Addr) (ct : ClassId), v = some (.ref b) ∧ h0.size ≤ b ∧ Fr h0.size L ∧ Keep h0 h [] ∧ sA Z h b ct 3 [by8 ch1, by8 ch2, by8 ch3]) := by
  refine Ctr.of (plainFor_of_name pn_7) ?_
  intro p e s m below meth c s₁ hx H hml hret hown hnm hZ hlk X0 e0
  refine Goes.cast (show entryFrame m _ _ = mkF m 0 #[.val (.ref t), .val (.int (1 : Int32)), .val (.int (4 : Int32))] [] from rfl) ?_
  refine gLoadIN 1 X0 hx (H d25_0) rfl rfl ?_
  refine gIfNeT X0 hx (H d25_1) (pc' := 10) (by decide) (by decide) (pn := 4) rfl (fun (c1 : ¬ (1 : Int) = (0 : Int)) => ?_) (fun (c1 : (1 : Int) = (0 : Int)) => ?_)
  · refine gLoadAN 11 X0 hx (H d25_10) rfl rfl rfl ?_
    refine gLoadIN 12 X0 hx (H d25_11) rfl rfl ?_
    refine gLoadIN 13 X0 hx (H d25_12) rfl rfl ?_
    refine gCallS X0 hx hZ (y := mn30) hown e0 (by rw [hml]; rfl) (ow hw 108 rfl) (ow hw 109 rfl) (ow hw 106 rfl) (ow hw 110 rfl) (by decide) (argsL := [(.ref t), (.int (1 : Int32)), (.int (4 : Int32))]) (st := []) (c_cor_4_1_4b l Z a0 hw t ck ch0 ch1 ch2 ch3 h0 A) (lenOf pd_23 rfl) (H d25_13) (pc' := 16) rfl rfl (by decide) (W := 0) (Nat.le_of_eq rfl) (by decide) (by decide) (by decide) ?_
    intro T1 v1 L1 X1 hQ1
    obtain ⟨b1, ct1, rfl, g1, g2, g3, g4⟩ := hQ1
    exact gRetA X1 hx hlk hret rfl rfl (H d25_16) (by decide) (by decide) (⟨_, _, rfl, g1, g2, g3, g4⟩)
  · exact absurd c1 (by decide)
theorem c_newString_4_1_3 (l : Launch) (Z : State) (a0 : Array Value) (hw : ∀ d ∈ tables_1, d.before a0 Z = true) (t : Addr) (ck : ClassId) (ch0 ch1 ch2 ch3 : Int32) (h0 : Heap) (A : sA Z h0 t ck 4 [by8 ch0, by8 ch1, by8 ch2, by8 ch3]) :
    Ctr l Z mn23 jdk_43_method_47_code 3 (some (.object "java/lang/String")) [] ⟨3, 2, 7, 57⟩ #[(.ref t), (.int (1 : Int32)), (.int (3 : Int32))] h0 (SQd Z h0 3 [by8 ch1, by8 ch2, by8 ch3]) := by
  refine Ctr.of (plainFor_of_name pn_5) ?_
  intro p e s m below meth c s₁ hx H hml hret hown hnm hZ hlk X0 e0
  refine Goes.cast (show entryFrame m _ _ = mkF m 0 #[.val (.ref t), .val (.int (1 : Int32)), .val (.int (3 : Int32))] [] from rfl) ?_
  refine gLoadIN 1 X0 hx (H d19_0) rfl rfl ?_
  refine gIfNeT X0 hx (H d19_1) (pc' := 7) (by decide) (by decide) (pn := 4) rfl (fun (c1 : ¬ (3 : Int) = (0 : Int)) => ?_) (fun (c1 : (3 : Int) = (0 : Int)) => ?_)
  · refine gNew X0 hx hZ hown (ow hw 103 rfl) (ow hw 9 rfl) (ow hw 10 rfl) e0 (H d19_7) (pc' := 10) rfl (by decide) (by decide) (fun T1 h1 b1 X1 e1 g1 E1 A1 D1 => ?_)
    have ne_t_b1 : t ≠ b1 := Nat.ne_of_lt (Nat.lt_of_lt_of_eq A.lt g1.symm)
    have f1_0 := A.ext E1
    have sz_b1 : h0.size ≤ b1 := Nat.le_trans (Nat.le_refl _) (Nat.le_of_eq g1.symm)
    have zs1 : h0.size ≤ h1.size := Nat.le_trans (Nat.le_refl _) E1.1
    have K1 : Keep h0 h1 [] := (Keep.refl h0 []).ext E1
    have F1_value : Fld Z h1 b1 "java/lang/String" "value" "[B" .null := D1 (Or.inr (ow hw 24 rfl)) (ty := (.array .byte)) (by decide)
    have F1_coder : Fld Z h1 b1 "java/lang/String" "coder" "B" (.int (0 : Int32)) := D1 (Or.inr (ow hw 25 rfl)) (ty := .byte) (by decide)
    refine gDup 11 X1 hx (H d19_10) rfl rfl ?_
    refine gLoadAN 12 X1 hx (H d19_11) rfl rfl rfl ?_
    refine gLoadIN 13 X1 hx (H d19_12) rfl rfl ?_
    refine gLoadIN 14 X1 hx (H d19_13) rfl rfl ?_
    refine gLoadIN 15 X1 hx (H d19_14) rfl rfl ?_
    refine gIadd 16 X1 hx (H d19_15) rfl ?_
    show Goes p e below _ T1 (mkF m 16 #[.val (.ref t), .val (.int (1 : Int32)), .val (.int (3 : Int32))] [(.int (4 : Int32)), (.int (1 : Int32)), (.ref t), (.ref b1), (.ref b1)])
    refine gCallS X1 hx hZ (y := mn29) hown e1 (by rw [hml]; rfl) (ow hw 104 rfl) (ow hw 105 rfl) (ow hw 106 rfl) (ow hw 107 rfl) (by decide) (argsL := [(.ref t), (.int (1 : Int32)), (.int (4 : Int32))]) (st := [(.ref b1), (.ref b1)]) (c_cor_4_1_4 l Z a0 hw t ck ch0 ch1 ch2 ch3 h1 f1_0) (lenOf pd_23 rfl) (H d19_16) (pc' := 19) rfl rfl (by decide) (W := 2) (Nat.le_of_eq rfl) (by decide) (by decide) (by decide) ?_
    intro T2 v2 L2 X2 hQ2
    obtain ⟨q2, ctq2, rfl, gq2, Nq2, Kq2, Aq2⟩ := hQ2
    have N2 := Fr.app (Fr.nil h0.size) (fun y hy => Nat.le_trans zs1 (Nq2 y hy))
    have K2 : Keep h0 T2.heap [] := K1.trans Kq2 all0
    have f2_0 := f1_0.keep Kq2 nin0
    have f2_1 := A1.keep Kq2
    have f2_2 := F1_value.keep Kq2 nin0
    have f2_3 := F1_coder.keep Kq2 nin0
    have zs2 := Nat.le_trans zs1 Kq2.1
    have nq2 : q2 ≠ b1 := Ne.symm (Nat.ne_of_lt (Nat.lt_of_lt_of_le A1.lt gq2))
    refine gIconst 20 X2 hx (v := (0 : Int32)) (H d19_19) rfl rfl ?_
    refine gCallI X2 hx hZ (y := mn7) rfl hown rfl (by rw [hml]; rfl) (ow hw 119 rfl) (ow hw 120 rfl) (ow hw 10 rfl) (ow hw 121 rfl) (by decide) (argsL := [(.ref q2), (.int (0 : Int32))]) (st := [(.ref b1)]) (c_sinitB l Z a0 hw b1 q2 h0.size T2.heap sz_b1 f2_1 f2_3 f2_2) (lenOf pd_18 rfl) (H d19_20) (pc' := 23) rfl rfl (by decide) (W := 1) (Nat.le_of_eq rfl) (by decide) (by decide) (by decide) ?_
    intro T3 v3 L3 X3 hQ3
    obtain ⟨rfl, Nq3, Kq3, Eq3, Cq3, Vq3⟩ := hQ3
    have N3 := Fr.app N2 Nq3
    have K3 : Keep h0 T3.heap [] := K2.trans Kq3 (allS (Or.inr sz_b1) all0)
    have Ak3 := Aq2.keep Kq3 (ninS nq2 nin0)
    exact gRetA X3 hx hlk hret rfl rfl (H d19_23) (by decide) (by decide) (⟨b1, q2, ctq2, rfl, N3, K3, Eq3, Cq3, Vq3, Ak3⟩)
  · exact absurd c1 (by decide)
theorem c_sub_4_1_4 (l : Launch) (Z : State) (a0 : Array Value) (hw : ∀ d ∈ tables_1, d.before a0 Z = true) (a t : Addr) (ck : ClassId) (ch0 ch1 ch2 ch3 : Int32) (h0 : Heap) (hSio : Sio Z h0) (hCpt : Cpt Z h0) (E : sE Z h0 a) (C : sC Z h0 a) (V : sV Z h0 a t) (A : sA Z h0 t ck 4 [by8 ch0, by8 ch1, by8 ch2, by8 ch3]) (hch0 : rg ch0) (hch1 : rg ch1) (hch2 : rg ch2) (hch3 : rg ch3) :
    Ctr l Z mn19 jdk_42_method_92_code 5 (some (.object "java/lang/String")) [] ⟨4, 2, 7, 71⟩ #[(.ref a), (.int (1 : Int32)), (.int (4 : Int32))] h0 (SQd Z h0 3 [by8 ch1, by8 ch2, by8 ch3]) := by
  refine Ctr.of (plainFor_of_name pn_4) ?_
  intro p e s m below meth c s₁ hx H hml hret hown hnm hZ hlk X0 e0
  refine Goes.cast (show entryFrame m _ _ = mkF m 0 #[.val (.ref a), .val (.int (1 : Int32)), .val (.int (4 : Int32)), .unset, .unset] [] from rfl) ?_
  refine gLoadAN 1 X0 hx (H d16_0) rfl rfl rfl ?_
  refine gCallVJ X0 hx hZ (y := mn17) hown e0 (by rw [hml]; rfl) E (ow hw 39 rfl) (ow hw 40 rfl) (ow hw 42 rfl) (ow hw 41 rfl) (ow hw 10 rfl) (ow hw 43 rfl) (by decide) (argsL := []) (st := []) (c_length_4 l Z a0 hw a t ck ch0 ch1 ch2 ch3 h0 hCpt E C V A hch0 hch1 hch2 hch3) (lenOf pd_1 rfl) (H d16_1) (pc' := 4) rfl rfl rfl rfl (by decide) (W := 0) (Nat.le_of_eq rfl) (by decide) (by decide) (by decide) ?_
  intro T1 X1 e1
  refine gStoreIN 5 X1 hx (H d16_4) (l' := #[.val (.ref a), .val (.int (1 : Int32)), .val (.int (4 : Int32)), .val (.int (4 : Int32)), .unset]) rfl rfl ?_
  refine gLoadIN 6 X1 hx (H d16_5) rfl rfl ?_
  refine gLoadIN 7 X1 hx (H d16_6) rfl rfl ?_
  refine gLoadIN 8 X1 hx (H d16_7) rfl rfl ?_
  refine gCallS X1 hx hZ (y := mn11) hown e1 (by rw [hml]; rfl) (ow hw 81 rfl) (ow hw 82 rfl) (ow hw 10 rfl) (ow hw 83 rfl) (by decide) (argsL := [(.int (1 : Int32)), (.int (4 : Int32)), (.int (4 : Int32))]) (st := []) (c_chkft l Z a0 hw (1 : Int32) (4 : Int32) (4 : Int32) h0 (by decide) (by decide) (by decide) hSio) (lenOf pd_13 rfl) (H d16_8) (pc' := 11) rfl rfl (by decide) (W := 0) (Nat.le_of_eq rfl) (by decide) (by decide) (by decide) ?_
  intro T2 v2 L2 X2 hQ2
  obtain ⟨rfl, eq2, rfl⟩ := hQ2
  rw [List.append_nil] at X2
  refine gLoadIN 12 X2 hx (H d16_11) rfl rfl ?_
  refine gIfNeT X2 hx (H d16_12) (pc' := 22) (by decide) (by decide) (pn := 15) rfl (fun (c12 : ¬ (1 : Int) = (0 : Int)) => ?_) (fun (c12 : (1 : Int) = (0 : Int)) => ?_)
  · refine gLoadIN 23 X2 hx (H d16_22) rfl rfl ?_
    refine gLoadIN 24 X2 hx (H d16_23) rfl rfl ?_
    refine gIsub 25 X2 hx (H d16_24) rfl ?_
    show Goes p e below _ T2 (mkF m 25 #[.val (.ref a), .val (.int (1 : Int32)), .val (.int (4 : Int32)), .val (.int (4 : Int32)), .unset] [(.int (3 : Int32))])
    refine gStoreI 27 X2 hx (H d16_25) (l' := #[.val (.ref a), .val (.int (1 : Int32)), .val (.int (4 : Int32)), .val (.int (4 : Int32)), .val (.int (3 : Int32))]) rfl rfl ?_
    refine gLoadAN 28 X2 hx (H d16_27) rfl rfl rfl ?_
    refine gCallVJ X2 hx hZ (y := mn14) hown eq2 (by rw [hml]; rfl) E (ow hw 55 rfl) (ow hw 56 rfl) (ow hw 58 rfl) (ow hw 57 rfl) (ow hw 10 rfl) (ow hw 59 rfl) (by decide) (argsL := []) (st := []) (c_isLatin1 l Z a0 hw a h0 hCpt C) (lenOf pd_3 rfl) (H d16_28) (pc' := 31) rfl rfl rfl rfl (by decide) (W := 0) (Nat.le_of_eq rfl) (by decide) (by decide) (by decide) ?_
    intro T3 X3 e3
    refine gIfEqT X3 hx (H d16_31) (pc' := 47) (by decide) (by decide) (pn := 34) rfl (fun (c31 : (1 : Int) = (0 : Int)) => ?_) (fun (c31 : ¬ (1 : Int) = (0 : Int)) => ?_)
    · exact absurd c31 (by decide)
    · refine gLoadAN 35 X3 hx (H d16_34) rfl rfl rfl ?_
      refine gGetF X3 hx hZ hown (ow hw 28 rfl) Via.refl e3 V (H d16_35) (pc' := 38) rfl (fun T4 X4 e4 => ?_)
      refine gLoadIN 39 X4 hx (H d16_38) rfl rfl ?_
      refine gLoadI 41 X4 hx (H d16_39) rfl rfl ?_
      refine gCallS X4 hx hZ (y := mn23) hown e4 (by rw [hml]; rfl) (ow hw 100 rfl) (ow hw 101 rfl) (ow hw 62 rfl) (ow hw 102 rfl) (by decide) (argsL := [(.ref t), (.int (1 : Int32)), (.int (3 : Int32))]) (st := []) (c_newString_4_1_3 l Z a0 hw t ck ch0 ch1 ch2 ch3 h0 A) (lenOf pd_22 rfl) (H d16_41) (pc' := 44) rfl rfl (by decide) (W := 0) (Nat.le_of_eq rfl) (by decide) (by decide) (by decide) ?_
      intro T5 v5 L5 X5 hQ5
      obtain ⟨r5, t5, ct5, rfl, Nq5, Kq5, Eq5, Cq5, Vq5, Aq5⟩ := hQ5
      have N5 := Fr.app (Fr.nil h0.size) (fun y hy => Nat.le_trans (Nat.le_refl _) (Nq5 y hy))
      have f5_0 := E.keep Kq5
      have f5_1 := C.keep Kq5 nin0
      have f5_2 := V.keep Kq5 nin0
      have f5_3 := A.keep Kq5 nin0
      have f5_4 := own_cpt_keep hCpt Kq5 ns0
      have zs5 := Nat.le_trans (Nat.le_refl _) Kq5.1
      have K5 : Keep h0 T5.heap [] := (Keep.refl h0 []).trans Kq5 all0
      refine gGoto X5 hx (H d16_44) (pc' := 57) (by decide) (by decide) ?_
      exact gRetA X5 hx hlk hret rfl rfl (H d16_57) (by decide) (by decide) (⟨r5, t5, ct5, rfl, N5, K5, Eq5, Cq5, Vq5, Aq5⟩)
  · exact absurd c12 (by decide)
theorem c_sub_4_1_4o (l : Launch) (Z : State) (a0 : Array Value) (hw : ∀ d ∈ tables_1, d.before a0 Z = true) (a t : Addr) (ck : ClassId) (ch0 ch1 ch2 ch3 : Int32) (h0 : Heap) (hSio : Sio Z h0) (hCpt : Cpt Z h0) (E : sE Z h0 a) (C : sC Z h0 a) (V : sV Z h0 a t) (A : sA Z h0 t ck 4 [by8 ch0, by8 ch1, by8 ch2, by8 ch3]) (hch0 : rg ch0) (hch1 : rg ch1) (hch2 : rg ch2) (hch3 : rg ch3) :
    Ctr l Z mn18 jdk_42_method_91_code 2 (some (.object "java/lang/String")) [] ⟨5, 2, 7, 91⟩ #[(.ref a), (.int (1 : Int32))] h0 (SQd Z h0 3 [by8 ch1, by8 ch2, by8 ch3]) := by
  refine Ctr.of (plainFor_of_name pn_4) ?_
  intro p e s m below meth c s₁ hx H hml hret hown hnm hZ hlk X0 e0
  refine Goes.cast (show entryFrame m _ _ = mkF m 0 #[.val (.ref a), .val (.int (1 : Int32))] [] from rfl) ?_
  refine gLoadAN 1 X0 hx (H d15_0) rfl rfl rfl ?_
  refine gLoadIN 2 X0 hx (H d15_1) rfl rfl ?_
  refine gLoadAN 3 X0 hx (H d15_2) rfl rfl rfl ?_
  refine gCallVJ X0 hx hZ (y := mn17) hown e0 (by rw [hml]; rfl) E (ow hw 39 rfl) (ow hw 40 rfl) (ow hw 42 rfl) (ow hw 41 rfl) (ow hw 10 rfl) (ow hw 43 rfl) (by decide) (argsL := []) (st := [(.int (1 : Int32)), (.ref a)]) (c_length_4 l Z a0 hw a t ck ch0 ch1 ch2 ch3 h0 hCpt E C V A hch0 hch1 hch2 hch3) (lenOf pd_1 rfl) (H d15_3) (pc' := 6) rfl rfl rfl rfl (by decide) (W := 2) (Nat.le_of_eq rfl) (by decide) (by decide) (by decide) ?_
  intro T1 X1 e1
  refine gCallV X1 hx hZ (y := mn19) hown e1 (by rw [hml]; rfl) E (ow hw 76 rfl) (ow hw 77 rfl) (ow hw 79 rfl) (ow hw 78 rfl) (ow hw 10 rfl) (ow hw 80 rfl) (by decide) (argsL := [(.int (1 : Int32)), (.int (4 : Int32))]) (st := []) (c_sub_4_1_4 l Z a0 hw a t ck ch0 ch1 ch2 ch3 h0 hSio hCpt E C V A hch0 hch1 hch2 hch3) (lenOf pd_11 rfl) (H d15_6) (pc' := 9) rfl rfl (by decide) (W := 0) (Nat.le_of_eq rfl) (by decide) (by decide) (by decide) ?_
  intro T2 v2 L2 X2 hQ2
  obtain ⟨r2, t2, ct2, rfl, Nq2, Kq2, Eq2, Cq2, Vq2, Aq2⟩ := hQ2
  have N2 := Fr.app (Fr.nil h0.size) (fun y hy => Nat.le_trans (Nat.le_refl _) (Nq2 y hy))
  have f2_0 := E.keep Kq2
  have f2_1 := C.keep Kq2 nin0
  have f2_2 := V.keep Kq2 nin0
  have f2_3 := A.keep Kq2 nin0
  have f2_4 := own_cpt_keep hCpt Kq2 ns0
  have zs2 := Nat.le_trans (Nat.le_refl _) Kq2.1
  have K2 : Keep h0 T2.heap [] := (Keep.refl h0 []).trans Kq2 all0
  exact gRetA X2 hx hlk hret rfl rfl (H d15_9) (by decide) (by decide) (⟨r2, t2, ct2, rfl, N2, K2, Eq2, Cq2, Vq2, Aq2⟩)
theorem c_nm_4_0 (l : Launch) (Z : State) (a0 : Array Value) (hw : ∀ d ∈ tables_1, d.before a0 Z = true) (a t : Addr) (ck : ClassId) (ch0 ch1 ch2 ch3 : Int32) (h0 : Heap) (hSio : Sio Z h0) (hCpt : Cpt Z h0) (E : sE Z h0 a) (C : sC Z h0 a) (V : sV Z h0 a t) (A : sA Z h0 t ck 4 [by8 ch0, by8 ch1, by8 ch2, by8 ch3]) (hch0 : rg ch0) (hch1 : rg ch1) (hch2 : rg ch2) (hch3 : rg ch3) (d1 : ¬ ch1.toInt = 47) (d2 : ¬ ch2.toInt = 47) (d3 : ¬ ch3.toInt = 47) (dq : ch0.toInt = 47) :
    Ctr l Z mn0 prog_18_method_7_code 1 (some (.object "java/lang/String")) [] ⟨6, 2, 7, 104⟩ #[(.ref a)] h0 (SQd Z h0 3 [by8 ch1, by8 ch2, by8 ch3]) := by
  refine Ctr.of (plainFor_of_name pn_0) ?_
  intro p e s m below meth c s₁ hx H hml hret hown hnm hZ hlk X0 e0
  refine Goes.cast (show entryFrame m _ _ = mkF m 0 #[.val (.ref a)] [] from rfl) ?_
  refine gLoadAN 1 X0 hx (H d31_0) rfl rfl rfl ?_
  refine gLoadAN 2 X0 hx (H d31_1) rfl rfl rfl ?_
  refine gBipush 4 X0 hx (v := (47 : Int32)) (H d31_2) rfl rfl ?_
  refine gCallVJ X0 hx hZ (y := mn15) hown e0 (by rw [hml]; rfl) E (ow hw 34 rfl) (ow hw 35 rfl) (ow hw 37 rfl) (ow hw 36 rfl) (ow hw 10 rfl) (ow hw 38 rfl) (by decide) (argsL := [(.int (47 : Int32))]) (st := [(.ref a)]) (c_lastIndexOf_4 l Z a0 hw a t ck ch0 ch1 ch2 ch3 h0 hCpt E C V A hch0 hch1 hch2 hch3) (lenOf pd_5 rfl) (H d31_4) (pc' := 7) rfl rfl rfl rfl (by decide) (W := 1) (Nat.le_of_eq rfl) (by decide) (by decide) (by decide) ?_
  intro T1 X1 e1
  rw [show lx4 ch0 ch1 ch2 ch3 = 0 from by rw [lx4, if_neg d3, if_neg d2, if_neg d1, if_pos dq]]
  refine gIconst 8 X1 hx (v := (1 : Int32)) (H d31_7) rfl rfl ?_
  refine gIadd 9 X1 hx (H d31_8) rfl ?_
  show Goes p e below _ T1 (mkF m 9 #[.val (.ref a)] [(.int (1 : Int32)), (.ref a)])
  refine gCallV X1 hx hZ (y := mn18) hown e1 (by rw [hml]; rfl) E (ow hw 71 rfl) (ow hw 72 rfl) (ow hw 74 rfl) (ow hw 73 rfl) (ow hw 10 rfl) (ow hw 75 rfl) (by decide) (argsL := [(.int (1 : Int32))]) (st := []) (c_sub_4_1_4o l Z a0 hw a t ck ch0 ch1 ch2 ch3 h0 hSio hCpt E C V A hch0 hch1 hch2 hch3) (lenOf pd_6 rfl) (H d31_9) (pc' := 12) rfl rfl (by decide) (W := 0) (Nat.le_of_eq rfl) (by decide) (by decide) (by decide) ?_
  intro T2 v2 L2 X2 hQ2
  obtain ⟨r2, t2, ct2, rfl, Nq2, Kq2, Eq2, Cq2, Vq2, Aq2⟩ := hQ2
  have N2 := Fr.app (Fr.nil h0.size) (fun y hy => Nat.le_trans (Nat.le_refl _) (Nq2 y hy))
  have f2_0 := E.keep Kq2
  have f2_1 := C.keep Kq2 nin0
  have f2_2 := V.keep Kq2 nin0
  have f2_3 := A.keep Kq2 nin0
  have f2_4 := own_cpt_keep hCpt Kq2 ns0
  have zs2 := Nat.le_trans (Nat.le_refl _) Kq2.1
  have K2 : Keep h0 T2.heap [] := (Keep.refl h0 []).trans Kq2 all0
  exact gRetA X2 hx hlk hret rfl rfl (H d31_12) (by decide) (by decide) (⟨r2, t2, ct2, rfl, N2, K2, Eq2, Cq2, Vq2, Aq2⟩)
theorem c_clen_2_4 (l : Launch) (Z : State) (a0 : Array Value) (hw : ∀ d ∈ tables_1, d.before a0 Z = true)  (h0 : Heap)  :
    Ctr l Z mn28 jdk_65_method_131_code 2 none [] ⟨0, 0, 0, 0⟩ #[(.int (2 : Int32)), (.int (4 : Int32))] h0 (fun v h L => v = none ∧ h = h0 ∧ L = []) := by
  refine Ctr.of (plainFor_of_name pn_7) ?_
  intro p e s m below meth c s₁ hx H hml hret hown hnm hZ hlk X0 e0
  refine Goes.cast (show entryFrame m _ _ = mkF m 0 #[.val (.int (2 : Int32)), .val (.int (4 : Int32))] [] from rfl) ?_
  refine gLoadIN 1 X0 hx (H d24_0) rfl rfl ?_
  refine gLoadIN 2 X0 hx (H d24_1) rfl rfl ?_
  refine gIcmpGe X0 hx (H d24_2) (pc' := 37) (by decide) (by decide) (pn := 5) rfl (fun (c2 : (2 : Int) ≤ (4 : Int)) => ?_) (fun (c2 : (4 : Int) < (2 : Int)) => ?_)
  · exact gRetV X0 hx hlk hret (H d24_37) (by decide) (by decide) (⟨rfl, e0, rfl⟩)
  · exact absurd c2 (by decide)
theorem c_cor_4_2_4b (l : Launch) (Z : State) (a0 : Array Value) (hw : ∀ d ∈ tables_1, d.before a0 Z = true) (t : Addr) (ck : ClassId) (ch0 ch1 ch2 ch3 : Int32) (h0 : Heap) (A : sA Z h0 t ck 4 [by8 ch0, by8 ch1, by8 ch2, by8 ch3]) :
    Ctr l Z mn30 jdk_65_method_133_code 5 (some (.array .byte)) [] ⟨1, 1, 2, 24⟩ #[(.ref t), (.int (2 : Int32)), (.int (4 : Int32))] h0 (fun v h L => ∃ (b : Addr) (ct : ClassId), v = some (.ref b) ∧ h0.size ≤ b ∧ Fr h0.size L ∧ Keep h0 h [] ∧ sA Z h b ct 2 [by8 ch2, by8 ch3]) := by
  refine Ctr.of (plainFor_of_name pn_7) ?_
  intro p e s m below meth c s₁ hx H hml hret hown hnm hZ hlk X0 e0
  refine Goes.cast (show entryFrame m _ _ = mkF m 0 #[.val (.ref t), .val (.int (2 : Int32)), .val (.int (4 : Int32)), .unset, .unset] [] from rfl) ?_
  refine gLoadIN 1 X0 hx (H d26_0) rfl rfl ?_
  refine gLoadIN 2 X0 hx (H d26_1) rfl rfl ?_
  refine gCallS X0 hx hZ (y := mn28) hown e0 (by rw [hml]; rfl) (ow hw 111 rfl) (ow hw 112 rfl) (ow hw 106 rfl) (ow hw 113 rfl) (by decide) (argsL := [(.int (2 : Int32)), (.int (4 : Int32))]) (st := []) (c_clen_2_4 l Z a0 hw h0) (lenOf pd_12 rfl) (H d26_2) (pc' := 5) rfl rfl (by decide) (W := 0) (Nat.le_of_eq rfl) (by decide) (by decide) (by decide) ?_
  intro T1 v1 L1 X1 hQ1
  obtain ⟨rfl, eq1, rfl⟩ := hQ1
  rw [List.append_nil] at X1
  refine gLoadIN 6 X1 hx (H d26_5) rfl rfl ?_
  refine gLoadIN 7 X1 hx (H d26_6) rfl rfl ?_
  refine gIsub 8 X1 hx (H d26_7) rfl ?_
  show Goes p e below _ T1 (mkF m 8 #[.val (.ref t), .val (.int (2 : Int32)), .val (.int (4 : Int32)), .unset, .unset] [(.int (2 : Int32))])
  refine gStoreIN 9 X1 hx (H d26_8) (l' := #[.val (.ref t), .val (.int (2 : Int32)), .val (.int (4 : Int32)), .val (.int (2 : Int32)), .unset]) rfl rfl ?_
  refine gLoadIN 10 X1 hx (H d26_9) rfl rfl ?_
  refine gNewP X1 hx hZ (ow hw 23 rfl) eq1 (n := (2 : Int32)) (H d26_10) (by decide) (cap := 2) (by decide) (by decide) (by decide) (by decide) 2 (pc' := 12) rfl (fun T2 h2 b2 ck2 X2 e2 g2 E2 A2 => ?_)
  have ne_t_b2 : t ≠ b2 := Nat.ne_of_lt (Nat.lt_of_lt_of_eq A.lt g2.symm)
  have f2_0 := A.ext E2
  have sz_b2 : h0.size ≤ b2 := Nat.le_trans (Nat.le_refl _) (Nat.le_of_eq g2.symm)
  have zs2 : h0.size ≤ h2.size := Nat.le_trans (Nat.le_refl _) E2.1
  have K2 : Keep h0 h2 [] := (Keep.refl h0 []).ext E2
  have V2 : Arv Z h2 b2 ck2 .byte (2 : Int32) [(.int (0 : Int32)), (.int (0 : Int32))] (.int (0 : Int32)) := A2
  refine gStoreA 14 X2 hx (H d26_12) (l' := #[.val (.ref t), .val (.int (2 : Int32)), .val (.int (4 : Int32)), .val (.int (2 : Int32)), .val (.ref b2)]) rfl rfl rfl ?_
  refine gLoadAN 15 X2 hx (H d26_14) rfl rfl rfl ?_
  refine gLoadIN 16 X2 hx (H d26_15) rfl rfl ?_
  refine gLoadA 18 X2 hx (H d26_16) rfl rfl rfl ?_
  refine gIconst 19 X2 hx (v := (0 : Int32)) (H d26_18) rfl rfl ?_
  refine gLoadAN 20 X2 hx (H d26_19) rfl rfl rfl ?_
  refine gArrLen X2 hx hZ e2 f2_0 (H d26_20) (pc' := 21) rfl ?_
  refine gLoadIN 22 X2 hx (H d26_21) rfl rfl ?_
  refine gIsub 23 X2 hx (H d26_22) rfl ?_
  show Goes p e below _ T2 (mkF m 23 #[.val (.ref t), .val (.int (2 : Int32)), .val (.int (4 : Int32)), .val (.int (2 : Int32)), .val (.ref b2)] [(.int (2 : Int32)), (.int (0 : Int32)), (.ref b2), (.int (2 : Int32)), (.ref t)])
  refine gLoadIN 24 X2 hx (H d26_23) rfl rfl ?_
  refine gCallSJ X2 hx hZ (y := mn5) hown e2 (by rw [hml]; rfl) (ow hw 114 rfl) (ow hw 68 rfl) (ow hw 69 rfl) (ow hw 70 rfl) (by decide) (argsL := [(.int (2 : Int32)), (.int (2 : Int32))]) (st := [(.int (0 : Int32)), (.ref b2), (.int (2 : Int32)), (.ref t)]) (c_min_2_2 l Z a0 hw h2) (lenOf pd_10 rfl) (H d26_24) (pc' := 27) rfl rfl rfl rfl (by decide) (W := 4) (Nat.le_of_eq rfl) (by decide) (by decide) (by decide) ?_
  intro T3 X3 e3
  refine gArrCopy X3 hx hZ hown (ow hw 115 rfl) (ow hw 118 rfl) (ow hw 116 rfl) (ow hw 117 rfl) e3 (dv := (.int 0)) (dd := (.int 0)) f2_0 V2 rfl (by decide) (by decide) (by decide) (by decide) (by decide) (by decide) (Fr.nil h0.size) sz_b2 (by rw [hml]; rfl) (H d26_27) (pc' := 30) rfl (by decide) (W := 0) (Nat.le_of_eq rfl) (by decide) (fun T4 h4 L4 X4 e4 N4 K4 A4 => ?_)
  have KK : Keep h0 h4 [] := K2.trans K4 (allS (Or.inr sz_b2) all0)
  have VV : Arv Z h4 b2 ck2 .byte 2 [by8 ch2, by8 ch3] (.int 0) := A4
  refine gLoadA 32 X4 hx (H d26_30) rfl rfl rfl ?_
  exact gRetA X4 hx hlk hret rfl rfl (H d26_32) (by decide) (by decide) (⟨_, _, rfl, sz_b2, N4, by rw [e4]; exact KK, by rw [e4]; exact VV⟩)
theorem c_cor_4_2_4 (l : Launch) (Z : State) (a0 : Array Value) (hw : ∀ d ∈ tables_1, d.before a0 Z = true) (t : Addr) (ck : ClassId) (ch0 ch1 ch2 ch3 : Int32) (h0 : Heap) (A : sA Z h0 t ck 4 [by8 ch0, by8 ch1, by8 ch2, by8 ch3]) :
    Ctr l Z mn29 jdk_65_method_132_code 3 (some (.array .byte)) [] ⟨2, 1, 2, 40⟩ #[(.ref t), (.int (2 : Int32)), (.int (4 : Int32))] h0 (fun v h L => ∃ (b : Addr) (ct : ClassId), v = some (.ref b) ∧ h0.size ≤ b ∧ Fr h0.size L ∧ Keep h0 h [] ∧ sA Z h b ct 2 [by8 ch2, by8 ch3]) := by
  refine Ctr.of (plainFor_of_name pn_7) ?_
  intro p e s m below meth c s₁ hx H hml hret hown hnm hZ hlk X0 e0
  refine Goes.cast (show entryFrame m _ _ = mkF m 0 #[.val (.ref t), .val (.int (2 : Int32)), .val (.int (4 : Int32))] [] from rfl) ?_
  refine gLoadIN 1 X0 hx (H d25_0) rfl rfl ?_
  refine gIfNeT X0 hx (H d25_1) (pc' := 10) (by decide) (by decide) (pn := 4) rfl (fun (c1 : ¬ (2 : Int) = (0 : Int)) => ?_) (fun (c1 : (2 : Int) = (0 : Int)) => ?_)
  · refine gLoadAN 11 X0 hx (H d25_10) rfl rfl rfl ?_
    refine gLoadIN 12 X0 hx (H d25_11) rfl rfl ?_
    refine gLoadIN 13 X0 hx (H d25_12) rfl rfl ?_
    refine gCallS X0 hx hZ (y := mn30) hown e0 (by rw [hml]; rfl) (ow hw 108 rfl) (ow hw 109 rfl) (ow hw 106 rfl) (ow hw 110 rfl) (by decide) (argsL := [(.ref t), (.int (2 : Int32)), (.int (4 : Int32))]) (st := []) (c_cor_4_2_4b l Z a0 hw t ck ch0 ch1 ch2 ch3 h0 A) (lenOf pd_23 rfl) (H d25_13) (pc' := 16) rfl rfl (by decide) (W := 0) (Nat.le_of_eq rfl) (by decide) (by decide) (by decide) ?_
    intro T1 v1 L1 X1 hQ1
    obtain ⟨b1, ct1, rfl, g1, g2, g3, g4⟩ := hQ1
    exact gRetA X1 hx hlk hret rfl rfl (H d25_16) (by decide) (by decide) (⟨_, _, rfl, g1, g2, g3, g4⟩)
  · exact absurd c1 (by decide)
theorem c_newString_4_2_2 (l : Launch) (Z : State) (a0 : Array Value) (hw : ∀ d ∈ tables_1, d.before a0 Z = true) (t : Addr) (ck : ClassId) (ch0 ch1 ch2 ch3 : Int32) (h0 : Heap) (A : sA Z h0 t ck 4 [by8 ch0, by8 ch1, by8 ch2, by8 ch3]) :
    Ctr l Z mn23 jdk_43_method_47_code 3 (some (.object "java/lang/String")) [] ⟨3, 2, 6, 57⟩ #[(.ref t), (.int (2 : Int32)), (.int (2 : Int32))] h0 (SQd Z h0 2 [by8 ch2, by8 ch3]) := by
  refine Ctr.of (plainFor_of_name pn_5) ?_
  intro p e s m below meth c s₁ hx H hml hret hown hnm hZ hlk X0 e0
  refine Goes.cast (show entryFrame m _ _ = mkF m 0 #[.val (.ref t), .val (.int (2 : Int32)), .val (.int (2 : Int32))] [] from rfl) ?_
  refine gLoadIN 1 X0 hx (H d19_0) rfl rfl ?_
  refine gIfNeT X0 hx (H d19_1) (pc' := 7) (by decide) (by decide) (pn := 4) rfl (fun (c1 : ¬ (2 : Int) = (0 : Int)) => ?_) (fun (c1 : (2 : Int) = (0 : Int)) => ?_)
  · refine gNew X0 hx hZ hown (ow hw 103 rfl) (ow hw 9 rfl) (ow hw 10 rfl) e0 (H d19_7) (pc' := 10) rfl (by decide) (by decide) (fun T1 h1 b1 X1 e1 g1 E1 A1 D1 => ?_)
    have ne_t_b1 : t ≠ b1 := Nat.ne_of_lt (Nat.lt_of_lt_of_eq A.lt g1.symm)
    have f1_0 := A.ext E1
    have sz_b1 : h0.size ≤ b1 := Nat.le_trans (Nat.le_refl _) (Nat.le_of_eq g1.symm)
    have zs1 : h0.size ≤ h1.size := Nat.le_trans (Nat.le_refl _) E1.1
    have K1 : Keep h0 h1 [] := (Keep.refl h0 []).ext E1
    have F1_value : Fld Z h1 b1 "java/lang/String" "value" "[B" .null := D1 (Or.inr (ow hw 24 rfl)) (ty := (.array .byte)) (by decide)
    have F1_coder : Fld Z h1 b1 "java/lang/String" "coder" "B" (.int (0 : Int32)) := D1 (Or.inr (ow hw 25 rfl)) (ty := .byte) (by decide)
    refine gDup 11 X1 hx (H d19_10) rfl rfl ?_
    refine gLoadAN 12 X1 hx (H d19_11) rfl rfl rfl ?_
    refine gLoadIN 13 X1 hx (H d19_12) rfl rfl ?_
    refine gLoadIN 14 X1 hx (H d19_13) rfl rfl ?_
    refine gLoadIN 15 X1 hx (H d19_14) rfl rfl ?_
    refine gIadd 16 X1 hx (H d19_15) rfl ?_
    show Goes p e below _ T1 (mkF m 16 #[.val (.ref t), .val (.int (2 : Int32)), .val (.int (2 : Int32))] [(.int (4 : Int32)), (.int (2 : Int32)), (.ref t), (.ref b1), (.ref b1)])
    refine gCallS X1 hx hZ (y := mn29) hown e1 (by rw [hml]; rfl) (ow hw 104 rfl) (ow hw 105 rfl) (ow hw 106 rfl) (ow hw 107 rfl) (by decide) (argsL := [(.ref t), (.int (2 : Int32)), (.int (4 : Int32))]) (st := [(.ref b1), (.ref b1)]) (c_cor_4_2_4 l Z a0 hw t ck ch0 ch1 ch2 ch3 h1 f1_0) (lenOf pd_23 rfl) (H d19_16) (pc' := 19) rfl rfl (by decide) (W := 2) (Nat.le_of_eq rfl) (by decide) (by decide) (by decide) ?_
    intro T2 v2 L2 X2 hQ2
    obtain ⟨q2, ctq2, rfl, gq2, Nq2, Kq2, Aq2⟩ := hQ2
    have N2 := Fr.app (Fr.nil h0.size) (fun y hy => Nat.le_trans zs1 (Nq2 y hy))
    have K2 : Keep h0 T2.heap [] := K1.trans Kq2 all0
    have f2_0 := f1_0.keep Kq2 nin0
    have f2_1 := A1.keep Kq2
    have f2_2 := F1_value.keep Kq2 nin0
    have f2_3 := F1_coder.keep Kq2 nin0
    have zs2 := Nat.le_trans zs1 Kq2.1
    have nq2 : q2 ≠ b1 := Ne.symm (Nat.ne_of_lt (Nat.lt_of_lt_of_le A1.lt gq2))
    refine gIconst 20 X2 hx (v := (0 : Int32)) (H d19_19) rfl rfl ?_
    refine gCallI X2 hx hZ (y := mn7) rfl hown rfl (by rw [hml]; rfl) (ow hw 119 rfl) (ow hw 120 rfl) (ow hw 10 rfl) (ow hw 121 rfl) (by decide) (argsL := [(.ref q2), (.int (0 : Int32))]) (st := [(.ref b1)]) (c_sinitB l Z a0 hw b1 q2 h0.size T2.heap sz_b1 f2_1 f2_3 f2_2) (lenOf pd_18 rfl) (H d19_20) (pc' := 23) rfl rfl (by decide) (W := 1) (Nat.le_of_eq rfl) (by decide) (by decide) (by decide) ?_
    intro T3 v3 L3 X3 hQ3
    obtain ⟨rfl, Nq3, Kq3, Eq3, Cq3, Vq3⟩ := hQ3
    have N3 := Fr.app N2 Nq3
    have K3 : Keep h0 T3.heap [] := K2.trans Kq3 (allS (Or.inr sz_b1) all0)
    have Ak3 := Aq2.keep Kq3 (ninS nq2 nin0)
    exact gRetA X3 hx hlk hret rfl rfl (H d19_23) (by decide) (by decide) (⟨b1, q2, ctq2, rfl, N3, K3, Eq3, Cq3, Vq3, Ak3⟩)
  · exact absurd c1 (by decide)
theorem c_sub_4_2_4 (l : Launch) (Z : State) (a0 : Array Value) (hw : ∀ d ∈ tables_1, d.before a0 Z = true) (a t : Addr) (ck : ClassId) (ch0 ch1 ch2 ch3 : Int32) (h0 : Heap) (hSio : Sio Z h0) (hCpt : Cpt Z h0) (E : sE Z h0 a) (C : sC Z h0 a) (V : sV Z h0 a t) (A : sA Z h0 t ck 4 [by8 ch0, by8 ch1, by8 ch2, by8 ch3]) (hch0 : rg ch0) (hch1 : rg ch1) (hch2 : rg ch2) (hch3 : rg ch3) :
    Ctr l Z mn19 jdk_42_method_92_code 5 (some (.object "java/lang/String")) [] ⟨4, 2, 6, 71⟩ #[(.ref a), (.int (2 : Int32)), (.int (4 : Int32))] h0 (SQd Z h0 2 [by8 ch2, by8 ch3]) := by
  refine Ctr.of (plainFor_of_name pn_4) ?_
  intro p e s m below meth c s₁ hx H hml hret hown hnm hZ hlk X0 e0
  refine Goes.cast (show entryFrame m _ _ = mkF m 0 #[.val (.ref a), .val (.int (2 : Int32)), .val (.int (4 : Int32)), .unset, .unset] [] from rfl) ?_
  refine gLoadAN 1 X0 hx (H d16_0) rfl rfl rfl ?_
  refine gCallVJ X0 hx hZ (y := mn17) hown e0 (by rw [hml]; rfl) E (ow hw 39 rfl) (ow hw 40 rfl) (ow hw 42 rfl) (ow hw 41 rfl) (ow hw 10 rfl) (ow hw 43 rfl) (by decide) (argsL := []) (st := []) (c_length_4 l Z a0 hw a t ck ch0 ch1 ch2 ch3 h0 hCpt E C V A hch0 hch1 hch2 hch3) (lenOf pd_1 rfl) (H d16_1) (pc' := 4) rfl rfl rfl rfl (by decide) (W := 0) (Nat.le_of_eq rfl) (by decide) (by decide) (by decide) ?_
  intro T1 X1 e1
  refine gStoreIN 5 X1 hx (H d16_4) (l' := #[.val (.ref a), .val (.int (2 : Int32)), .val (.int (4 : Int32)), .val (.int (4 : Int32)), .unset]) rfl rfl ?_
  refine gLoadIN 6 X1 hx (H d16_5) rfl rfl ?_
  refine gLoadIN 7 X1 hx (H d16_6) rfl rfl ?_
  refine gLoadIN 8 X1 hx (H d16_7) rfl rfl ?_
  refine gCallS X1 hx hZ (y := mn11) hown e1 (by rw [hml]; rfl) (ow hw 81 rfl) (ow hw 82 rfl) (ow hw 10 rfl) (ow hw 83 rfl) (by decide) (argsL := [(.int (2 : Int32)), (.int (4 : Int32)), (.int (4 : Int32))]) (st := []) (c_chkft l Z a0 hw (2 : Int32) (4 : Int32) (4 : Int32) h0 (by decide) (by decide) (by decide) hSio) (lenOf pd_13 rfl) (H d16_8) (pc' := 11) rfl rfl (by decide) (W := 0) (Nat.le_of_eq rfl) (by decide) (by decide) (by decide) ?_
  intro T2 v2 L2 X2 hQ2
  obtain ⟨rfl, eq2, rfl⟩ := hQ2
  rw [List.append_nil] at X2
  refine gLoadIN 12 X2 hx (H d16_11) rfl rfl ?_
  refine gIfNeT X2 hx (H d16_12) (pc' := 22) (by decide) (by decide) (pn := 15) rfl (fun (c12 : ¬ (2 : Int) = (0 : Int)) => ?_) (fun (c12 : (2 : Int) = (0 : Int)) => ?_)
  · refine gLoadIN 23 X2 hx (H d16_22) rfl rfl ?_
    refine gLoadIN 24 X2 hx (H d16_23) rfl rfl ?_
    refine gIsub 25 X2 hx (H d16_24) rfl ?_
    show Goes p e below _ T2 (mkF m 25 #[.val (.ref a), .val (.int (2 : Int32)), .val (.int (4 : Int32)), .val (.int (4 : Int32)), .unset] [(.int (2 : Int32))])
    refine gStoreI 27 X2 hx (H d16_25) (l' := #[.val (.ref a), .val (.int (2 : Int32)), .val (.int (4 : Int32)), .val (.int (4 : Int32)), .val (.int (2 : Int32))]) rfl rfl ?_
    refine gLoadAN 28 X2 hx (H d16_27) rfl rfl rfl ?_
    refine gCallVJ X2 hx hZ (y := mn14) hown eq2 (by rw [hml]; rfl) E (ow hw 55 rfl) (ow hw 56 rfl) (ow hw 58 rfl) (ow hw 57 rfl) (ow hw 10 rfl) (ow hw 59 rfl) (by decide) (argsL := []) (st := []) (c_isLatin1 l Z a0 hw a h0 hCpt C) (lenOf pd_3 rfl) (H d16_28) (pc' := 31) rfl rfl rfl rfl (by decide) (W := 0) (Nat.le_of_eq rfl) (by decide) (by decide) (by decide) ?_
    intro T3 X3 e3
    refine gIfEqT X3 hx (H d16_31) (pc' := 47) (by decide) (by decide) (pn := 34) rfl (fun (c31 : (1 : Int) = (0 : Int)) => ?_) (fun (c31 : ¬ (1 : Int) = (0 : Int)) => ?_)
    · exact absurd c31 (by decide)
    · refine gLoadAN 35 X3 hx (H d16_34) rfl rfl rfl ?_
      refine gGetF X3 hx hZ hown (ow hw 28 rfl) Via.refl e3 V (H d16_35) (pc' := 38) rfl (fun T4 X4 e4 => ?_)
      refine gLoadIN 39 X4 hx (H d16_38) rfl rfl ?_
      refine gLoadI 41 X4 hx (H d16_39) rfl rfl ?_
      refine gCallS X4 hx hZ (y := mn23) hown e4 (by rw [hml]; rfl) (ow hw 100 rfl) (ow hw 101 rfl) (ow hw 62 rfl) (ow hw 102 rfl) (by decide) (argsL := [(.ref t), (.int (2 : Int32)), (.int (2 : Int32))]) (st := []) (c_newString_4_2_2 l Z a0 hw t ck ch0 ch1 ch2 ch3 h0 A) (lenOf pd_22 rfl) (H d16_41) (pc' := 44) rfl rfl (by decide) (W := 0) (Nat.le_of_eq rfl) (by decide) (by decide) (by decide) ?_
      intro T5 v5 L5 X5 hQ5
      obtain ⟨r5, t5, ct5, rfl, Nq5, Kq5, Eq5, Cq5, Vq5, Aq5⟩ := hQ5
      have N5 := Fr.app (Fr.nil h0.size) (fun y hy => Nat.le_trans (Nat.le_refl _) (Nq5 y hy))
      have f5_0 := E.keep Kq5
      have f5_1 := C.keep Kq5 nin0
      have f5_2 := V.keep Kq5 nin0
      have f5_3 := A.keep Kq5 nin0
      have f5_4 := own_cpt_keep hCpt Kq5 ns0
      have zs5 := Nat.le_trans (Nat.le_refl _) Kq5.1
      have K5 : Keep h0 T5.heap [] := (Keep.refl h0 []).trans Kq5 all0
      refine gGoto X5 hx (H d16_44) (pc' := 57) (by decide) (by decide) ?_
      exact gRetA X5 hx hlk hret rfl rfl (H d16_57) (by decide) (by decide) (⟨r5, t5, ct5, rfl, N5, K5, Eq5, Cq5, Vq5, Aq5⟩)
  · exact absurd c12 (by decide)
theorem c_sub_4_2_4o (l : Launch) (Z : State) (a0 : Array Value) (hw : ∀ d ∈ tables_1, d.before a0 Z = true) (a t : Addr) (ck : ClassId) (ch0 ch1 ch2 ch3 : Int32) (h0 : Heap) (hSio : Sio Z h0) (hCpt : Cpt Z h0) (E : sE Z h0 a) (C : sC Z h0 a) (V : sV Z h0 a t) (A : sA Z h0 t ck 4 [by8 ch0, by8 ch1, by8 ch2, by8 ch3]) (hch0 : rg ch0) (hch1 : rg ch1) (hch2 : rg ch2) (hch3 : rg ch3) :
    Ctr l Z mn18 jdk_42_method_91_code 2 (some (.object "java/lang/String")) [] ⟨5, 2, 6, 91⟩ #[(.ref a), (.int (2 : Int32))] h0 (SQd Z h0 2 [by8 ch2, by8 ch3]) := by
  refine Ctr.of (plainFor_of_name pn_4) ?_
  intro p e s m below meth c s₁ hx H hml hret hown hnm hZ hlk X0 e0
  refine Goes.cast (show entryFrame m _ _ = mkF m 0 #[.val (.ref a), .val (.int (2 : Int32))] [] from rfl) ?_
  refine gLoadAN 1 X0 hx (H d15_0) rfl rfl rfl ?_
  refine gLoadIN 2 X0 hx (H d15_1) rfl rfl ?_
  refine gLoadAN 3 X0 hx (H d15_2) rfl rfl rfl ?_
  refine gCallVJ X0 hx hZ (y := mn17) hown e0 (by rw [hml]; rfl) E (ow hw 39 rfl) (ow hw 40 rfl) (ow hw 42 rfl) (ow hw 41 rfl) (ow hw 10 rfl) (ow hw 43 rfl) (by decide) (argsL := []) (st := [(.int (2 : Int32)), (.ref a)]) (c_length_4 l Z a0 hw a t ck ch0 ch1 ch2 ch3 h0 hCpt E C V A hch0 hch1 hch2 hch3) (lenOf pd_1 rfl) (H d15_3) (pc' := 6) rfl rfl rfl rfl (by decide) (W := 2) (Nat.le_of_eq rfl) (by decide) (by decide) (by decide) ?_
  intro T1 X1 e1
  refine gCallV X1 hx hZ (y := mn19) hown e1 (by rw [hml]; rfl) E (ow hw 76 rfl) (ow hw 77 rfl) (ow hw 79 rfl) (ow hw 78 rfl) (ow hw 10 rfl) (ow hw 80 rfl) (by decide) (argsL := [(.int (2 : Int32)), (.int (4 : Int32))]) (st := []) (c_sub_4_2_4 l Z a0 hw a t ck ch0 ch1 ch2 ch3 h0 hSio hCpt E C V A hch0 hch1 hch2 hch3) (lenOf pd_11 rfl) (H d15_6) (pc' := 9) rfl rfl (by decide) (W := 0) (Nat.le_of_eq rfl) (by decide) (by decide) (by decide) ?_
  intro T2 v2 L2 X2 hQ2
  obtain ⟨r2, t2, ct2, rfl, Nq2, Kq2, Eq2, Cq2, Vq2, Aq2⟩ := hQ2
  have N2 := Fr.app (Fr.nil h0.size) (fun y hy => Nat.le_trans (Nat.le_refl _) (Nq2 y hy))
  have f2_0 := E.keep Kq2
  have f2_1 := C.keep Kq2 nin0
  have f2_2 := V.keep Kq2 nin0
  have f2_3 := A.keep Kq2 nin0
  have f2_4 := own_cpt_keep hCpt Kq2 ns0
  have zs2 := Nat.le_trans (Nat.le_refl _) Kq2.1
  have K2 : Keep h0 T2.heap [] := (Keep.refl h0 []).trans Kq2 all0
  exact gRetA X2 hx hlk hret rfl rfl (H d15_9) (by decide) (by decide) (⟨r2, t2, ct2, rfl, N2, K2, Eq2, Cq2, Vq2, Aq2⟩)
theorem c_nm_4_1 (l : Launch) (Z : State) (a0 : Array Value) (hw : ∀ d ∈ tables_1, d.before a0 Z = true) (a t : Addr) (ck : ClassId) (ch0 ch1 ch2 ch3 : Int32) (h0 : Heap) (hSio : Sio Z h0) (hCpt : Cpt Z h0) (E : sE Z h0 a) (C : sC Z h0 a) (V : sV Z h0 a t) (A : sA Z h0 t ck 4 [by8 ch0, by8 ch1, by8 ch2, by8 ch3]) (hch0 : rg ch0) (hch1 : rg ch1) (hch2 : rg ch2) (hch3 : rg ch3) (d2 : ¬ ch2.toInt = 47) (d3 : ¬ ch3.toInt = 47) (dq : ch1.toInt = 47) :
    Ctr l Z mn0 prog_18_method_7_code 1 (some (.object "java/lang/String")) [] ⟨6, 2, 6, 104⟩ #[(.ref a)] h0 (SQd Z h0 2 [by8 ch2, by8 ch3]) := by
  refine Ctr.of (plainFor_of_name pn_0) ?_
  intro p e s m below meth c s₁ hx H hml hret hown hnm hZ hlk X0 e0
  refine Goes.cast (show entryFrame m _ _ = mkF m 0 #[.val (.ref a)] [] from rfl) ?_
  refine gLoadAN 1 X0 hx (H d31_0) rfl rfl rfl ?_
  refine gLoadAN 2 X0 hx (H d31_1) rfl rfl rfl ?_
  refine gBipush 4 X0 hx (v := (47 : Int32)) (H d31_2) rfl rfl ?_
  refine gCallVJ X0 hx hZ (y := mn15) hown e0 (by rw [hml]; rfl) E (ow hw 34 rfl) (ow hw 35 rfl) (ow hw 37 rfl) (ow hw 36 rfl) (ow hw 10 rfl) (ow hw 38 rfl) (by decide) (argsL := [(.int (47 : Int32))]) (st := [(.ref a)]) (c_lastIndexOf_4 l Z a0 hw a t ck ch0 ch1 ch2 ch3 h0 hCpt E C V A hch0 hch1 hch2 hch3) (lenOf pd_5 rfl) (H d31_4) (pc' := 7) rfl rfl rfl rfl (by decide) (W := 1) (Nat.le_of_eq rfl) (by decide) (by decide) (by decide) ?_
  intro T1 X1 e1
  rw [show lx4 ch0 ch1 ch2 ch3 = 1 from by rw [lx4, if_neg d3, if_neg d2, if_pos dq]]
  refine gIconst 8 X1 hx (v := (1 : Int32)) (H d31_7) rfl rfl ?_
  refine gIadd 9 X1 hx (H d31_8) rfl ?_
  show Goes p e below _ T1 (mkF m 9 #[.val (.ref a)] [(.int (2 : Int32)), (.ref a)])
  refine gCallV X1 hx hZ (y := mn18) hown e1 (by rw [hml]; rfl) E (ow hw 71 rfl) (ow hw 72 rfl) (ow hw 74 rfl) (ow hw 73 rfl) (ow hw 10 rfl) (ow hw 75 rfl) (by decide) (argsL := [(.int (2 : Int32))]) (st := []) (c_sub_4_2_4o l Z a0 hw a t ck ch0 ch1 ch2 ch3 h0 hSio hCpt E C V A hch0 hch1 hch2 hch3) (lenOf pd_6 rfl) (H d31_9) (pc' := 12) rfl rfl (by decide) (W := 0) (Nat.le_of_eq rfl) (by decide) (by decide) (by decide) ?_
  intro T2 v2 L2 X2 hQ2
  obtain ⟨r2, t2, ct2, rfl, Nq2, Kq2, Eq2, Cq2, Vq2, Aq2⟩ := hQ2
  have N2 := Fr.app (Fr.nil h0.size) (fun y hy => Nat.le_trans (Nat.le_refl _) (Nq2 y hy))
  have f2_0 := E.keep Kq2
  have f2_1 := C.keep Kq2 nin0
  have f2_2 := V.keep Kq2 nin0
  have f2_3 := A.keep Kq2 nin0
  have f2_4 := own_cpt_keep hCpt Kq2 ns0
  have zs2 := Nat.le_trans (Nat.le_refl _) Kq2.1
  have K2 : Keep h0 T2.heap [] := (Keep.refl h0 []).trans Kq2 all0
  exact gRetA X2 hx hlk hret rfl rfl (H d31_12) (by decide) (by decide) (⟨r2, t2, ct2, rfl, N2, K2, Eq2, Cq2, Vq2, Aq2⟩)
theorem c_clen_3_4 (l : Launch) (Z : State) (a0 : Array Value) (hw : ∀ d ∈ tables_1, d.before a0 Z = true)  (h0 : Heap)  :
    Ctr l Z mn28 jdk_65_method_131_code 2 none [] ⟨0, 0, 0, 0⟩ #[(.int (3 : Int32)), (.int (4 : Int32))] h0 (fun v h L => v = none ∧ h = h0 ∧ L = []) := by
  refine Ctr.of (plainFor_of_name pn_7) ?_
  intro p e s m below meth c s₁ hx H hml hret hown hnm hZ hlk X0 e0
  refine Goes.cast (show entryFrame m _ _ = mkF m 0 #[.val (.int (3 : Int32)), .val (.int (4 : Int32))] [] from rfl) ?_
  refine gLoadIN 1 X0 hx (H d24_0) rfl rfl ?_
  refine gLoadIN 2 X0 hx (H d24_1) rfl rfl ?_
  refine gIcmpGe X0 hx (H d24_2) (pc' := 37) (by decide) (by decide) (pn := 5) rfl (fun (c2 : (3 : Int) ≤ (4 : Int)) => ?_) (fun (c2 : (4 : Int) < (3 : Int)) => ?_)
  · exact gRetV X0 hx hlk hret (H d24_37) (by decide) (by decide) (⟨rfl, e0, rfl⟩)
  · exact absurd c2 (by decide)
theorem c_cor_4_3_4b (l : Launch) (Z : State) (a0 : Array Value) (hw : ∀ d ∈ tables_1, d.before a0 Z = true) (t : Addr) (ck : ClassId) (ch0 ch1 ch2 ch3 : Int32) (h0 : Heap) (A : sA Z h0 t ck 4 [by8 ch0, by8 ch1, by8 ch2, by8 ch3]) :
    Ctr l Z mn30 jdk_65_method_133_code 5 (some (.array .byte)) [] ⟨1, 1, 1, 24⟩ #[(.ref t), (.int (3 : Int32)), (.int (4 : Int32))] h0 (fun v h L => ∃ (b : Addr) (ct : ClassId), v = some (.ref b) ∧ h0.size ≤ b ∧ Fr h0.size L ∧ Keep h0 h [] ∧ sA Z h b ct 1 [by8 ch3]) := by
  refine Ctr.of (plainFor_of_name pn_7) ?_
  intro p e s m below meth c s₁ hx H hml hret hown hnm hZ hlk X0 e0
  refine Goes.cast (show entryFrame m _ _ = mkF m 0 #[.val (.ref t), .val (.int (3 : Int32)), .val (.int (4 : Int32)), .unset, .unset] [] from rfl) ?_
  refine gLoadIN 1 X0 hx (H d26_0) rfl rfl ?_
  refine gLoadIN 2 X0 hx (H d26_1) rfl rfl ?_
  refine gCallS X0 hx hZ (y := mn28) hown e0 (by rw [hml]; rfl) (ow hw 111 rfl) (ow hw 112 rfl) (ow hw 106 rfl) (ow hw 113 rfl) (by decide) (argsL := [(.int (3 : Int32)), (.int (4 : Int32))]) (st := []) (c_clen_3_4 l Z a0 hw h0) (lenOf pd_12 rfl) (H d26_2) (pc' := 5) rfl rfl (by decide) (W := 0) (Nat.le_of_eq rfl) (by decide) (by decide) (by decide) ?_
  intro T1 v1 L1 X1 hQ1
  obtain ⟨rfl, eq1, rfl⟩ := hQ1
  rw [List.append_nil] at X1
  refine gLoadIN 6 X1 hx (H d26_5) rfl rfl ?_
  refine gLoadIN 7 X1 hx (H d26_6) rfl rfl ?_
  refine gIsub 8 X1 hx (H d26_7) rfl ?_
  show Goes p e below _ T1 (mkF m 8 #[.val (.ref t), .val (.int (3 : Int32)), .val (.int (4 : Int32)), .unset, .unset] [(.int (1 : Int32))])
  refine gStoreIN 9 X1 hx (H d26_8) (l' := #[.val (.ref t), .val (.int (3 : Int32)), .val (.int (4 : Int32)), .val (.int (1 : Int32)), .unset]) rfl rfl ?_
  refine gLoadIN 10 X1 hx (H d26_9) rfl rfl ?_
  refine gNewP X1 hx hZ (ow hw 23 rfl) eq1 (n := (1 : Int32)) (H d26_10) (by decide) (cap := 1) (by decide) (by decide) (by decide) (by decide) 1 (pc' := 12) rfl (fun T2 h2 b2 ck2 X2 e2 g2 E2 A2 => ?_)
  have ne_t_b2 : t ≠ b2 := Nat.ne_of_lt (Nat.lt_of_lt_of_eq A.lt g2.symm)
  have f2_0 := A.ext E2
  have sz_b2 : h0.size ≤ b2 := Nat.le_trans (Nat.le_refl _) (Nat.le_of_eq g2.symm)
  have zs2 : h0.size ≤ h2.size := Nat.le_trans (Nat.le_refl _) E2.1
  have K2 : Keep h0 h2 [] := (Keep.refl h0 []).ext E2
  have V2 : Arv Z h2 b2 ck2 .byte (1 : Int32) [(.int (0 : Int32))] (.int (0 : Int32)) := A2
  refine gStoreA 14 X2 hx (H d26_12) (l' := #[.val (.ref t), .val (.int (3 : Int32)), .val (.int (4 : Int32)), .val (.int (1 : Int32)), .val (.ref b2)]) rfl rfl rfl ?_
  refine gLoadAN 15 X2 hx (H d26_14) rfl rfl rfl ?_
  refine gLoadIN 16 X2 hx (H d26_15) rfl rfl ?_
  refine gLoadA 18 X2 hx (H d26_16) rfl rfl rfl ?_
  refine gIconst 19 X2 hx (v := (0 : Int32)) (H d26_18) rfl rfl ?_
  refine gLoadAN 20 X2 hx (H d26_19) rfl rfl rfl ?_
  refine gArrLen X2 hx hZ e2 f2_0 (H d26_20) (pc' := 21) rfl ?_
  refine gLoadIN 22 X2 hx (H d26_21) rfl rfl ?_
  refine gIsub 23 X2 hx (H d26_22) rfl ?_
  show Goes p e below _ T2 (mkF m 23 #[.val (.ref t), .val (.int (3 : Int32)), .val (.int (4 : Int32)), .val (.int (1 : Int32)), .val (.ref b2)] [(.int (1 : Int32)), (.int (0 : Int32)), (.ref b2), (.int (3 : Int32)), (.ref t)])
  refine gLoadIN 24 X2 hx (H d26_23) rfl rfl ?_
  refine gCallSJ X2 hx hZ (y := mn5) hown e2 (by rw [hml]; rfl) (ow hw 114 rfl) (ow hw 68 rfl) (ow hw 69 rfl) (ow hw 70 rfl) (by decide) (argsL := [(.int (1 : Int32)), (.int (1 : Int32))]) (st := [(.int (0 : Int32)), (.ref b2), (.int (3 : Int32)), (.ref t)]) (c_min_1_1 l Z a0 hw h2) (lenOf pd_10 rfl) (H d26_24) (pc' := 27) rfl rfl rfl rfl (by decide) (W := 4) (Nat.le_of_eq rfl) (by decide) (by decide) (by decide) ?_
  intro T3 X3 e3
  refine gArrCopy X3 hx hZ hown (ow hw 115 rfl) (ow hw 118 rfl) (ow hw 116 rfl) (ow hw 117 rfl) e3 (dv := (.int 0)) (dd := (.int 0)) f2_0 V2 rfl (by decide) (by decide) (by decide) (by decide) (by decide) (by decide) (Fr.nil h0.size) sz_b2 (by rw [hml]; rfl) (H d26_27) (pc' := 30) rfl (by decide) (W := 0) (Nat.le_of_eq rfl) (by decide) (fun T4 h4 L4 X4 e4 N4 K4 A4 => ?_)
  have KK : Keep h0 h4 [] := K2.trans K4 (allS (Or.inr sz_b2) all0)
  have VV : Arv Z h4 b2 ck2 .byte 1 [by8 ch3] (.int 0) := A4
  refine gLoadA 32 X4 hx (H d26_30) rfl rfl rfl ?_
  exact gRetA X4 hx hlk hret rfl rfl (H d26_32) (by decide) (by decide) (⟨_, _, rfl, sz_b2, N4, by rw [e4]; exact KK, by rw [e4]; exact VV⟩)
theorem c_cor_4_3_4 (l : Launch) (Z : State) (a0 : Array Value) (hw : ∀ d ∈ tables_1, d.before a0 Z = true) (t : Addr) (ck : ClassId) (ch0 ch1 ch2 ch3 : Int32) (h0 : Heap) (A : sA Z h0 t ck 4 [by8 ch0, by8 ch1, by8 ch2, by8 ch3]) :
    Ctr l Z mn29 jdk_65_method_132_code 3 (some (.array .byte)) [] ⟨2, 1, 1, 40⟩ #[(.ref t), (.int (3 : Int32)), (.int (4 : Int32))] h0 (fun v h L => ∃ (b : Addr) (ct : ClassId), v = some (.ref b) ∧ h0.size ≤ b ∧ Fr h0.size L ∧ Keep h0 h [] ∧ sA Z h b ct 1 [by8 ch3]) := by
  refine Ctr.of (plainFor_of_name pn_7) ?_
  intro p e s m below meth c s₁ hx H hml hret hown hnm hZ hlk X0 e0
  refine Goes.cast (show entryFrame m _ _ = mkF m 0 #[.val (.ref t), .val (.int (3 : Int32)), .val (.int (4 : Int32))] [] from rfl) ?_
  refine gLoadIN 1 X0 hx (H d25_0) rfl rfl ?_
  refine gIfNeT X0 hx (H d25_1) (pc' := 10) (by decide) (by decide) (pn := 4) rfl (fun (c1 : ¬ (3 : Int) = (0 : Int)) => ?_) (fun (c1 : (3 : Int) = (0 : Int)) => ?_)
  · refine gLoadAN 11 X0 hx (H d25_10) rfl rfl rfl ?_
    refine gLoadIN 12 X0 hx (H d25_11) rfl rfl ?_
    refine gLoadIN 13 X0 hx (H d25_12) rfl rfl ?_
    refine gCallS X0 hx hZ (y := mn30) hown e0 (by rw [hml]; rfl) (ow hw 108 rfl) (ow hw 109 rfl) (ow hw 106 rfl) (ow hw 110 rfl) (by decide) (argsL := [(.ref t), (.int (3 : Int32)), (.int (4 : Int32))]) (st := []) (c_cor_4_3_4b l Z a0 hw t ck ch0 ch1 ch2 ch3 h0 A) (lenOf pd_23 rfl) (H d25_13) (pc' := 16) rfl rfl (by decide) (W := 0) (Nat.le_of_eq rfl) (by decide) (by decide) (by decide) ?_
    intro T1 v1 L1 X1 hQ1
    obtain ⟨b1, ct1, rfl, g1, g2, g3, g4⟩ := hQ1
    exact gRetA X1 hx hlk hret rfl rfl (H d25_16) (by decide) (by decide) (⟨_, _, rfl, g1, g2, g3, g4⟩)
  · exact absurd c1 (by decide)
theorem c_newString_4_3_1 (l : Launch) (Z : State) (a0 : Array Value) (hw : ∀ d ∈ tables_1, d.before a0 Z = true) (t : Addr) (ck : ClassId) (ch0 ch1 ch2 ch3 : Int32) (h0 : Heap) (A : sA Z h0 t ck 4 [by8 ch0, by8 ch1, by8 ch2, by8 ch3]) :
    Ctr l Z mn23 jdk_43_method_47_code 3 (some (.object "java/lang/String")) [] ⟨3, 2, 5, 57⟩ #[(.ref t), (.int (3 : Int32)), (.int (1 : Int32))] h0 (SQd Z h0 1 [by8 ch3]) := by
  refine Ctr.of (plainFor_of_name pn_5) ?_
  intro p e s m below meth c s₁ hx H hml hret hown hnm hZ hlk X0 e0
  refine Goes.cast (show entryFrame m _ _ = mkF m 0 #[.val (.ref t), .val (.int (3 : Int32)), .val (.int (1 : Int32))] [] from rfl) ?_
  refine gLoadIN 1 X0 hx (H d19_0) rfl rfl ?_
  refine gIfNeT X0 hx (H d19_1) (pc' := 7) (by decide) (by decide) (pn := 4) rfl (fun (c1 : ¬ (1 : Int) = (0 : Int)) => ?_) (fun (c1 : (1 : Int) = (0 : Int)) => ?_)
  · refine gNew X0 hx hZ hown (ow hw 103 rfl) (ow hw 9 rfl) (ow hw 10 rfl) e0 (H d19_7) (pc' := 10) rfl (by decide) (by decide) (fun T1 h1 b1 X1 e1 g1 E1 A1 D1 => ?_)
    have ne_t_b1 : t ≠ b1 := Nat.ne_of_lt (Nat.lt_of_lt_of_eq A.lt g1.symm)
    have f1_0 := A.ext E1
    have sz_b1 : h0.size ≤ b1 := Nat.le_trans (Nat.le_refl _) (Nat.le_of_eq g1.symm)
    have zs1 : h0.size ≤ h1.size := Nat.le_trans (Nat.le_refl _) E1.1
    have K1 : Keep h0 h1 [] := (Keep.refl h0 []).ext E1
    have F1_value : Fld Z h1 b1 "java/lang/String" "value" "[B" .null := D1 (Or.inr (ow hw 24 rfl)) (ty := (.array .byte)) (by decide)
    have F1_coder : Fld Z h1 b1 "java/lang/String" "coder" "B" (.int (0 : Int32)) := D1 (Or.inr (ow hw 25 rfl)) (ty := .byte) (by decide)
    refine gDup 11 X1 hx (H d19_10) rfl rfl ?_
    refine gLoadAN 12 X1 hx (H d19_11) rfl rfl rfl ?_
    refine gLoadIN 13 X1 hx (H d19_12) rfl rfl ?_
    refine gLoadIN 14 X1 hx (H d19_13) rfl rfl ?_
    refine gLoadIN 15 X1 hx (H d19_14) rfl rfl ?_
    refine gIadd 16 X1 hx (H d19_15) rfl ?_
    show Goes p e below _ T1 (mkF m 16 #[.val (.ref t), .val (.int (3 : Int32)), .val (.int (1 : Int32))] [(.int (4 : Int32)), (.int (3 : Int32)), (.ref t), (.ref b1), (.ref b1)])
    refine gCallS X1 hx hZ (y := mn29) hown e1 (by rw [hml]; rfl) (ow hw 104 rfl) (ow hw 105 rfl) (ow hw 106 rfl) (ow hw 107 rfl) (by decide) (argsL := [(.ref t), (.int (3 : Int32)), (.int (4 : Int32))]) (st := [(.ref b1), (.ref b1)]) (c_cor_4_3_4 l Z a0 hw t ck ch0 ch1 ch2 ch3 h1 f1_0) (lenOf pd_23 rfl) (H d19_16) (pc' := 19) rfl rfl (by decide) (W := 2) (Nat.le_of_eq rfl) (by decide) (by decide) (by decide) ?_
    intro T2 v2 L2 X2 hQ2
    obtain ⟨q2, ctq2, rfl, gq2, Nq2, Kq2, Aq2⟩ := hQ2
    have N2 := Fr.app (Fr.nil h0.size) (fun y hy => Nat.le_trans zs1 (Nq2 y hy))
    have K2 : Keep h0 T2.heap [] := K1.trans Kq2 all0
    have f2_0 := f1_0.keep Kq2 nin0
    have f2_1 := A1.keep Kq2
    have f2_2 := F1_value.keep Kq2 nin0
    have f2_3 := F1_coder.keep Kq2 nin0
    have zs2 := Nat.le_trans zs1 Kq2.1
    have nq2 : q2 ≠ b1 := Ne.symm (Nat.ne_of_lt (Nat.lt_of_lt_of_le A1.lt gq2))
    refine gIconst 20 X2 hx (v := (0 : Int32)) (H d19_19) rfl rfl ?_
    refine gCallI X2 hx hZ (y := mn7) rfl hown rfl (by rw [hml]; rfl) (ow hw 119 rfl) (ow hw 120 rfl) (ow hw 10 rfl) (ow hw 121 rfl) (by decide) (argsL := [(.ref q2), (.int (0 : Int32))]) (st := [(.ref b1)]) (c_sinitB l Z a0 hw b1 q2 h0.size T2.heap sz_b1 f2_1 f2_3 f2_2) (lenOf pd_18 rfl) (H d19_20) (pc' := 23) rfl rfl (by decide) (W := 1) (Nat.le_of_eq rfl) (by decide) (by decide) (by decide) ?_
    intro T3 v3 L3 X3 hQ3
    obtain ⟨rfl, Nq3, Kq3, Eq3, Cq3, Vq3⟩ := hQ3
    have N3 := Fr.app N2 Nq3
    have K3 : Keep h0 T3.heap [] := K2.trans Kq3 (allS (Or.inr sz_b1) all0)
    have Ak3 := Aq2.keep Kq3 (ninS nq2 nin0)
    exact gRetA X3 hx hlk hret rfl rfl (H d19_23) (by decide) (by decide) (⟨b1, q2, ctq2, rfl, N3, K3, Eq3, Cq3, Vq3, Ak3⟩)
  · exact absurd c1 (by decide)
theorem c_sub_4_3_4 (l : Launch) (Z : State) (a0 : Array Value) (hw : ∀ d ∈ tables_1, d.before a0 Z = true) (a t : Addr) (ck : ClassId) (ch0 ch1 ch2 ch3 : Int32) (h0 : Heap) (hSio : Sio Z h0) (hCpt : Cpt Z h0) (E : sE Z h0 a) (C : sC Z h0 a) (V : sV Z h0 a t) (A : sA Z h0 t ck 4 [by8 ch0, by8 ch1, by8 ch2, by8 ch3]) (hch0 : rg ch0) (hch1 : rg ch1) (hch2 : rg ch2) (hch3 : rg ch3) :
    Ctr l Z mn19 jdk_42_method_92_code 5 (some (.object "java/lang/String")) [] ⟨4, 2, 5, 71⟩ #[(.ref a), (.int (3 : Int32)), (.int (4 : Int32))] h0 (SQd Z h0 1 [by8 ch3]) := by
  refine Ctr.of (plainFor_of_name pn_4) ?_
  intro p e s m below meth c s₁ hx H hml hret hown hnm hZ hlk X0 e0
  refine Goes.cast (show entryFrame m _ _ = mkF m 0 #[.val (.ref a), .val (.int (3 : Int32)), .val (.int (4 : Int32)), .unset, .unset] [] from rfl) ?_
  refine gLoadAN 1 X0 hx (H d16_0) rfl rfl rfl ?_
  refine gCallVJ X0 hx hZ (y := mn17) hown e0 (by rw [hml]; rfl) E (ow hw 39 rfl) (ow hw 40 rfl) (ow hw 42 rfl) (ow hw 41 rfl) (ow hw 10 rfl) (ow hw 43 rfl) (by decide) (argsL := []) (st := []) (c_length_4 l Z a0 hw a t ck ch0 ch1 ch2 ch3 h0 hCpt E C V A hch0 hch1 hch2 hch3) (lenOf pd_1 rfl) (H d16_1) (pc' := 4) rfl rfl rfl rfl (by decide) (W := 0) (Nat.le_of_eq rfl) (by decide) (by decide) (by decide) ?_
  intro T1 X1 e1
  refine gStoreIN 5 X1 hx (H d16_4) (l' := #[.val (.ref a), .val (.int (3 : Int32)), .val (.int (4 : Int32)), .val (.int (4 : Int32)), .unset]) rfl rfl ?_
  refine gLoadIN 6 X1 hx (H d16_5) rfl rfl ?_
  refine gLoadIN 7 X1 hx (H d16_6) rfl rfl ?_
  refine gLoadIN 8 X1 hx (H d16_7) rfl rfl ?_
  refine gCallS X1 hx hZ (y := mn11) hown e1 (by rw [hml]; rfl) (ow hw 81 rfl) (ow hw 82 rfl) (ow hw 10 rfl) (ow hw 83 rfl) (by decide) (argsL := [(.int (3 : Int32)), (.int (4 : Int32)), (.int (4 : Int32))]) (st := []) (c_chkft l Z a0 hw (3 : Int32) (4 : Int32) (4 : Int32) h0 (by decide) (by decide) (by decide) hSio) (lenOf pd_13 rfl) (H d16_8) (pc' := 11) rfl rfl (by decide) (W := 0) (Nat.le_of_eq rfl) (by decide) (by decide) (by decide) ?_
  intro T2 v2 L2 X2 hQ2
  obtain ⟨rfl, eq2, rfl⟩ := hQ2
  rw [List.append_nil] at X2
  refine gLoadIN 12 X2 hx (H d16_11) rfl rfl ?_
  refine gIfNeT X2 hx (H d16_12) (pc' := 22) (by decide) (by decide) (pn := 15) rfl (fun (c12 : ¬ (3 : Int) = (0 : Int)) => ?_) (fun (c12 : (3 : Int) = (0 : Int)) => ?_)
  · refine gLoadIN 23 X2 hx (H d16_22) rfl rfl ?_
    refine gLoadIN 24 X2 hx (H d16_23) rfl rfl ?_
    refine gIsub 25 X2 hx (H d16_24) rfl ?_
    show Goes p e below _ T2 (mkF m 25 #[.val (.ref a), .val (.int (3 : Int32)), .val (.int (4 : Int32)), .val (.int (4 : Int32)), .unset] [(.int (1 : Int32))])
    refine gStoreI 27 X2 hx (H d16_25) (l' := #[.val (.ref a), .val (.int (3 : Int32)), .val (.int (4 : Int32)), .val (.int (4 : Int32)), .val (.int (1 : Int32))]) rfl rfl ?_
    refine gLoadAN 28 X2 hx (H d16_27) rfl rfl rfl ?_
    refine gCallVJ X2 hx hZ (y := mn14) hown eq2 (by rw [hml]; rfl) E (ow hw 55 rfl) (ow hw 56 rfl) (ow hw 58 rfl) (ow hw 57 rfl) (ow hw 10 rfl) (ow hw 59 rfl) (by decide) (argsL := []) (st := []) (c_isLatin1 l Z a0 hw a h0 hCpt C) (lenOf pd_3 rfl) (H d16_28) (pc' := 31) rfl rfl rfl rfl (by decide) (W := 0) (Nat.le_of_eq rfl) (by decide) (by decide) (by decide) ?_
    intro T3 X3 e3
    refine gIfEqT X3 hx (H d16_31) (pc' := 47) (by decide) (by decide) (pn := 34) rfl (fun (c31 : (1 : Int) = (0 : Int)) => ?_) (fun (c31 : ¬ (1 : Int) = (0 : Int)) => ?_)
    · exact absurd c31 (by decide)
    · refine gLoadAN 35 X3 hx (H d16_34) rfl rfl rfl ?_
      refine gGetF X3 hx hZ hown (ow hw 28 rfl) Via.refl e3 V (H d16_35) (pc' := 38) rfl (fun T4 X4 e4 => ?_)
      refine gLoadIN 39 X4 hx (H d16_38) rfl rfl ?_
      refine gLoadI 41 X4 hx (H d16_39) rfl rfl ?_
      refine gCallS X4 hx hZ (y := mn23) hown e4 (by rw [hml]; rfl) (ow hw 100 rfl) (ow hw 101 rfl) (ow hw 62 rfl) (ow hw 102 rfl) (by decide) (argsL := [(.ref t), (.int (3 : Int32)), (.int (1 : Int32))]) (st := []) (c_newString_4_3_1 l Z a0 hw t ck ch0 ch1 ch2 ch3 h0 A) (lenOf pd_22 rfl) (H d16_41) (pc' := 44) rfl rfl (by decide) (W := 0) (Nat.le_of_eq rfl) (by decide) (by decide) (by decide) ?_
      intro T5 v5 L5 X5 hQ5
      obtain ⟨r5, t5, ct5, rfl, Nq5, Kq5, Eq5, Cq5, Vq5, Aq5⟩ := hQ5
      have N5 := Fr.app (Fr.nil h0.size) (fun y hy => Nat.le_trans (Nat.le_refl _) (Nq5 y hy))
      have f5_0 := E.keep Kq5
      have f5_1 := C.keep Kq5 nin0
      have f5_2 := V.keep Kq5 nin0
      have f5_3 := A.keep Kq5 nin0
      have f5_4 := own_cpt_keep hCpt Kq5 ns0
      have zs5 := Nat.le_trans (Nat.le_refl _) Kq5.1
      have K5 : Keep h0 T5.heap [] := (Keep.refl h0 []).trans Kq5 all0
      refine gGoto X5 hx (H d16_44) (pc' := 57) (by decide) (by decide) ?_
      exact gRetA X5 hx hlk hret rfl rfl (H d16_57) (by decide) (by decide) (⟨r5, t5, ct5, rfl, N5, K5, Eq5, Cq5, Vq5, Aq5⟩)
  · exact absurd c12 (by decide)
theorem c_sub_4_3_4o (l : Launch) (Z : State) (a0 : Array Value) (hw : ∀ d ∈ tables_1, d.before a0 Z = true) (a t : Addr) (ck : ClassId) (ch0 ch1 ch2 ch3 : Int32) (h0 : Heap) (hSio : Sio Z h0) (hCpt : Cpt Z h0) (E : sE Z h0 a) (C : sC Z h0 a) (V : sV Z h0 a t) (A : sA Z h0 t ck 4 [by8 ch0, by8 ch1, by8 ch2, by8 ch3]) (hch0 : rg ch0) (hch1 : rg ch1) (hch2 : rg ch2) (hch3 : rg ch3) :
    Ctr l Z mn18 jdk_42_method_91_code 2 (some (.object "java/lang/String")) [] ⟨5, 2, 5, 91⟩ #[(.ref a), (.int (3 : Int32))] h0 (SQd Z h0 1 [by8 ch3]) := by
  refine Ctr.of (plainFor_of_name pn_4) ?_
  intro p e s m below meth c s₁ hx H hml hret hown hnm hZ hlk X0 e0
  refine Goes.cast (show entryFrame m _ _ = mkF m 0 #[.val (.ref a), .val (.int (3 : Int32))] [] from rfl) ?_
  refine gLoadAN 1 X0 hx (H d15_0) rfl rfl rfl ?_
  refine gLoadIN 2 X0 hx (H d15_1) rfl rfl ?_
  refine gLoadAN 3 X0 hx (H d15_2) rfl rfl rfl ?_
  refine gCallVJ X0 hx hZ (y := mn17) hown e0 (by rw [hml]; rfl) E (ow hw 39 rfl) (ow hw 40 rfl) (ow hw 42 rfl) (ow hw 41 rfl) (ow hw 10 rfl) (ow hw 43 rfl) (by decide) (argsL := []) (st := [(.int (3 : Int32)), (.ref a)]) (c_length_4 l Z a0 hw a t ck ch0 ch1 ch2 ch3 h0 hCpt E C V A hch0 hch1 hch2 hch3) (lenOf pd_1 rfl) (H d15_3) (pc' := 6) rfl rfl rfl rfl (by decide) (W := 2) (Nat.le_of_eq rfl) (by decide) (by decide) (by decide) ?_
  intro T1 X1 e1
  refine gCallV X1 hx hZ (y := mn19) hown e1 (by rw [hml]; rfl) E (ow hw 76 rfl) (ow hw 77 rfl) (ow hw 79 rfl) (ow hw 78 rfl) (ow hw 10 rfl) (ow hw 80 rfl) (by decide) (argsL := [(.int (3 : Int32)), (.int (4 : Int32))]) (st := []) (c_sub_4_3_4 l Z a0 hw a t ck ch0 ch1 ch2 ch3 h0 hSio hCpt E C V A hch0 hch1 hch2 hch3) (lenOf pd_11 rfl) (H d15_6) (pc' := 9) rfl rfl (by decide) (W := 0) (Nat.le_of_eq rfl) (by decide) (by decide) (by decide) ?_
  intro T2 v2 L2 X2 hQ2
  obtain ⟨r2, t2, ct2, rfl, Nq2, Kq2, Eq2, Cq2, Vq2, Aq2⟩ := hQ2
  have N2 := Fr.app (Fr.nil h0.size) (fun y hy => Nat.le_trans (Nat.le_refl _) (Nq2 y hy))
  have f2_0 := E.keep Kq2
  have f2_1 := C.keep Kq2 nin0
  have f2_2 := V.keep Kq2 nin0
  have f2_3 := A.keep Kq2 nin0
  have f2_4 := own_cpt_keep hCpt Kq2 ns0
  have zs2 := Nat.le_trans (Nat.le_refl _) Kq2.1
  have K2 : Keep h0 T2.heap [] := (Keep.refl h0 []).trans Kq2 all0
  exact gRetA X2 hx hlk hret rfl rfl (H d15_9) (by decide) (by decide) (⟨r2, t2, ct2, rfl, N2, K2, Eq2, Cq2, Vq2, Aq2⟩)
theorem c_nm_4_2 (l : Launch) (Z : State) (a0 : Array Value) (hw : ∀ d ∈ tables_1, d.before a0 Z = true) (a t : Addr) (ck : ClassId) (ch0 ch1 ch2 ch3 : Int32) (h0 : Heap) (hSio : Sio Z h0) (hCpt : Cpt Z h0) (E : sE Z h0 a) (C : sC Z h0 a) (V : sV Z h0 a t) (A : sA Z h0 t ck 4 [by8 ch0, by8 ch1, by8 ch2, by8 ch3]) (hch0 : rg ch0) (hch1 : rg ch1) (hch2 : rg ch2) (hch3 : rg ch3) (d3 : ¬ ch3.toInt = 47) (dq : ch2.toInt = 47) :
    Ctr l Z mn0 prog_18_method_7_code 1 (some (.object "java/lang/String")) [] ⟨6, 2, 5, 104⟩ #[(.ref a)] h0 (SQd Z h0 1 [by8 ch3]) := by
  refine Ctr.of (plainFor_of_name pn_0) ?_
  intro p e s m below meth c s₁ hx H hml hret hown hnm hZ hlk X0 e0
  refine Goes.cast (show entryFrame m _ _ = mkF m 0 #[.val (.ref a)] [] from rfl) ?_
  refine gLoadAN 1 X0 hx (H d31_0) rfl rfl rfl ?_
  refine gLoadAN 2 X0 hx (H d31_1) rfl rfl rfl ?_
  refine gBipush 4 X0 hx (v := (47 : Int32)) (H d31_2) rfl rfl ?_
  refine gCallVJ X0 hx hZ (y := mn15) hown e0 (by rw [hml]; rfl) E (ow hw 34 rfl) (ow hw 35 rfl) (ow hw 37 rfl) (ow hw 36 rfl) (ow hw 10 rfl) (ow hw 38 rfl) (by decide) (argsL := [(.int (47 : Int32))]) (st := [(.ref a)]) (c_lastIndexOf_4 l Z a0 hw a t ck ch0 ch1 ch2 ch3 h0 hCpt E C V A hch0 hch1 hch2 hch3) (lenOf pd_5 rfl) (H d31_4) (pc' := 7) rfl rfl rfl rfl (by decide) (W := 1) (Nat.le_of_eq rfl) (by decide) (by decide) (by decide) ?_
  intro T1 X1 e1
  rw [show lx4 ch0 ch1 ch2 ch3 = 2 from by rw [lx4, if_neg d3, if_pos dq]]
  refine gIconst 8 X1 hx (v := (1 : Int32)) (H d31_7) rfl rfl ?_
  refine gIadd 9 X1 hx (H d31_8) rfl ?_
  show Goes p e below _ T1 (mkF m 9 #[.val (.ref a)] [(.int (3 : Int32)), (.ref a)])
  refine gCallV X1 hx hZ (y := mn18) hown e1 (by rw [hml]; rfl) E (ow hw 71 rfl) (ow hw 72 rfl) (ow hw 74 rfl) (ow hw 73 rfl) (ow hw 10 rfl) (ow hw 75 rfl) (by decide) (argsL := [(.int (3 : Int32))]) (st := []) (c_sub_4_3_4o l Z a0 hw a t ck ch0 ch1 ch2 ch3 h0 hSio hCpt E C V A hch0 hch1 hch2 hch3) (lenOf pd_6 rfl) (H d31_9) (pc' := 12) rfl rfl (by decide) (W := 0) (Nat.le_of_eq rfl) (by decide) (by decide) (by decide) ?_
  intro T2 v2 L2 X2 hQ2
  obtain ⟨r2, t2, ct2, rfl, Nq2, Kq2, Eq2, Cq2, Vq2, Aq2⟩ := hQ2
  have N2 := Fr.app (Fr.nil h0.size) (fun y hy => Nat.le_trans (Nat.le_refl _) (Nq2 y hy))
  have f2_0 := E.keep Kq2
  have f2_1 := C.keep Kq2 nin0
  have f2_2 := V.keep Kq2 nin0
  have f2_3 := A.keep Kq2 nin0
  have f2_4 := own_cpt_keep hCpt Kq2 ns0
  have zs2 := Nat.le_trans (Nat.le_refl _) Kq2.1
  have K2 : Keep h0 T2.heap [] := (Keep.refl h0 []).trans Kq2 all0
  exact gRetA X2 hx hlk hret rfl rfl (H d31_12) (by decide) (by decide) (⟨r2, t2, ct2, rfl, N2, K2, Eq2, Cq2, Vq2, Aq2⟩)
theorem c_newString_4_4_0 (l : Launch) (Z : State) (a0 : Array Value) (hw : ∀ d ∈ tables_1, d.before a0 Z = true) (t : Addr) (ck : ClassId) (ch0 ch1 ch2 ch3 : Int32) (h0 : Heap) (hEL : EW Z a0 [("java/lang/String", 7), ("java/lang/StringLatin1", 151)]) :
    CtrH l Z [("java/lang/String", 7), ("java/lang/StringLatin1", 151)] [] mn23 jdk_43_method_47_code 3 (some (.object "java/lang/String")) [] ⟨0, 2, 4, 0⟩ #[(.ref t), (.int (4 : Int32)), (.int (0 : Int32))] h0 (SQd Z h0 0 []) := by
  refine CtrH.of (plainFor_of_name pn_5) ?_
  intro p e s m below meth c s₁ hx H hml hret hown hnm hZ hlk X0 e0 hS H0 hSafe
  have wS : ∀ a ∈ Bundle.stringAtoms, a.before a0 Z = true := by
    intro d hd
    simp only [Bundle.stringAtoms, Bundle.sN, List.mem_cons, List.not_mem_nil, or_false] at hd
    rcases hd with rfl | rfl | rfl | rfl | rfl | rfl | rfl
    · exact (ow hw 10 rfl)
    · exact (ow hw 9 rfl)
    · exact (ow hw 23 rfl)
    · exact (ow hw 24 rfl)
    · exact (ow hw 25 rfl)
    · exact (ow hw 26 rfl)
    · exact (ow hw 27 rfl)
  refine Goes.cast (show entryFrame m _ _ = mkF m 0 #[.val (.ref t), .val (.int (4 : Int32)), .val (.int (0 : Int32))] [] from rfl) ?_
  refine gLoadIN 1 X0 hx (H d19_0) rfl rfl ?_
  refine gIfNeT X0 hx (H d19_1) (pc' := 7) (by decide) (by decide) (pn := 4) rfl (fun (c1 : ¬ (0 : Int) = (0 : Int)) => ?_) (fun (c1 : (0 : Int) = (0 : Int)) => ?_)
  · exact absurd c1 (by decide)
  · refine gLdcC X0 hx hZ hown (ow hw 139 rfl) wS e0 hS (Nat.zero_le _) hEL (by simp) H0 (vs := []) (z := 0) ⟨by decide, by decide⟩ (by decide) (by decide) (H d19_4) (pc' := 6) rfl (n := 0) (by decide) (by decide) (by decide) (by decide) (fun a1 T1 h1 k1 b1 ck1 X1 e1 E1 hS hk1 hZ hown C1 H1 Ex1 Fc1 Fv1 A1 sf1 => ?_)
    have zs1 : h0.size ≤ h1.size := Nat.le_trans (Nat.le_refl _) E1.1
    have K1 : Keep h0 h1 [] := (Keep.refl h0 []).ext E1
    exact gRetHA X1 hx hlk hret rfl rfl (H d19_6) e1 hS hk1 hZ hEL H1 (by decide) (by decide) (⟨a1, b1, ck1, rfl, (Fr.nil h0.size), by rw [e1]; exact K1, by rw [e1]; exact Ex1, by rw [e1]; exact Fc1, by rw [e1]; exact Fv1, by rw [e1]; exact A1⟩)
theorem c_sub_4_4_4 (l : Launch) (Z : State) (a0 : Array Value) (hw : ∀ d ∈ tables_1, d.before a0 Z = true) (a t : Addr) (ck : ClassId) (ch0 ch1 ch2 ch3 : Int32) (h0 : Heap) (hEL : EW Z a0 [("java/lang/String", 7), ("java/lang/StringLatin1", 151)]) (hSio : Sio Z h0) (hCpt : Cpt Z h0) (E : sE Z h0 a) (C : sC Z h0 a) (V : sV Z h0 a t) (A : sA Z h0 t ck 4 [by8 ch0, by8 ch1, by8 ch2, by8 ch3]) (hch0 : rg ch0) (hch1 : rg ch1) (hch2 : rg ch2) (hch3 : rg ch3) :
    CtrH l Z [("java/lang/String", 7), ("java/lang/StringLatin1", 151)] [] mn19 jdk_42_method_92_code 5 (some (.object "java/lang/String")) [] ⟨2, 2, 4, 30⟩ #[(.ref a), (.int (4 : Int32)), (.int (4 : Int32))] h0 (SQd Z h0 0 []) := by
  refine CtrH.of (plainFor_of_name pn_4) ?_
  intro p e s m below meth c s₁ hx H hml hret hown hnm hZ hlk X0 e0 hS H0 hSafe
  refine Goes.cast (show entryFrame m _ _ = mkF m 0 #[.val (.ref a), .val (.int (4 : Int32)), .val (.int (4 : Int32)), .unset, .unset] [] from rfl) ?_
  refine gLoadAN 1 X0 hx (H d16_0) rfl rfl rfl ?_
  refine gCallVJ X0 hx hZ (y := mn17) hown e0 (by rw [hml]; rfl) E (ow hw 39 rfl) (ow hw 40 rfl) (ow hw 42 rfl) (ow hw 41 rfl) (ow hw 10 rfl) (ow hw 43 rfl) (by decide) (argsL := []) (st := []) (c_length_4 l Z a0 hw a t ck ch0 ch1 ch2 ch3 h0 hCpt E C V A hch0 hch1 hch2 hch3) (lenOf pd_1 rfl) (H d16_1) (pc' := 4) rfl rfl rfl rfl (by decide) (W := 0) (Nat.le_of_eq rfl) (by decide) (by decide) (by decide) ?_
  intro T1 X1 e1
  refine gStoreIN 5 X1 hx (H d16_4) (l' := #[.val (.ref a), .val (.int (4 : Int32)), .val (.int (4 : Int32)), .val (.int (4 : Int32)), .unset]) rfl rfl ?_
  refine gLoadIN 6 X1 hx (H d16_5) rfl rfl ?_
  refine gLoadIN 7 X1 hx (H d16_6) rfl rfl ?_
  refine gLoadIN 8 X1 hx (H d16_7) rfl rfl ?_
  refine gCallS X1 hx hZ (y := mn11) hown e1 (by rw [hml]; rfl) (ow hw 81 rfl) (ow hw 82 rfl) (ow hw 10 rfl) (ow hw 83 rfl) (by decide) (argsL := [(.int (4 : Int32)), (.int (4 : Int32)), (.int (4 : Int32))]) (st := []) (c_chkft l Z a0 hw (4 : Int32) (4 : Int32) (4 : Int32) h0 (by decide) (by decide) (by decide) hSio) (lenOf pd_13 rfl) (H d16_8) (pc' := 11) rfl rfl (by decide) (W := 0) (Nat.le_of_eq rfl) (by decide) (by decide) (by decide) ?_
  intro T2 v2 L2 X2 hQ2
  obtain ⟨rfl, eq2, rfl⟩ := hQ2
  rw [List.append_nil] at X2
  refine gLoadIN 12 X2 hx (H d16_11) rfl rfl ?_
  refine gIfNeT X2 hx (H d16_12) (pc' := 22) (by decide) (by decide) (pn := 15) rfl (fun (c12 : ¬ (4 : Int) = (0 : Int)) => ?_) (fun (c12 : (4 : Int) = (0 : Int)) => ?_)
  · refine gLoadIN 23 X2 hx (H d16_22) rfl rfl ?_
    refine gLoadIN 24 X2 hx (H d16_23) rfl rfl ?_
    refine gIsub 25 X2 hx (H d16_24) rfl ?_
    show Goes p e below _ T2 (mkF m 25 #[.val (.ref a), .val (.int (4 : Int32)), .val (.int (4 : Int32)), .val (.int (4 : Int32)), .unset] [(.int (0 : Int32))])
    refine gStoreI 27 X2 hx (H d16_25) (l' := #[.val (.ref a), .val (.int (4 : Int32)), .val (.int (4 : Int32)), .val (.int (4 : Int32)), .val (.int (0 : Int32))]) rfl rfl ?_
    refine gLoadAN 28 X2 hx (H d16_27) rfl rfl rfl ?_
    refine gCallVJ X2 hx hZ (y := mn14) hown eq2 (by rw [hml]; rfl) E (ow hw 55 rfl) (ow hw 56 rfl) (ow hw 58 rfl) (ow hw 57 rfl) (ow hw 10 rfl) (ow hw 59 rfl) (by decide) (argsL := []) (st := []) (c_isLatin1 l Z a0 hw a h0 hCpt C) (lenOf pd_3 rfl) (H d16_28) (pc' := 31) rfl rfl rfl rfl (by decide) (W := 0) (Nat.le_of_eq rfl) (by decide) (by decide) (by decide) ?_
    intro T3 X3 e3
    refine gIfEqT X3 hx (H d16_31) (pc' := 47) (by decide) (by decide) (pn := 34) rfl (fun (c31 : (1 : Int) = (0 : Int)) => ?_) (fun (c31 : ¬ (1 : Int) = (0 : Int)) => ?_)
    · exact absurd c31 (by decide)
    · refine gLoadAN 35 X3 hx (H d16_34) rfl rfl rfl ?_
      refine gGetF X3 hx hZ hown (ow hw 28 rfl) Via.refl e3 V (H d16_35) (pc' := 38) rfl (fun T4 X4 e4 => ?_)
      refine gLoadIN 39 X4 hx (H d16_38) rfl rfl ?_
      refine gLoadI 41 X4 hx (H d16_39) rfl rfl ?_
      refine gCallSH X4 hx hZ (y := mn23) hown e4 (by rw [hml]; rfl) hS (Nat.zero_le _) hEL H0 (ow hw 100 rfl) (ow hw 101 rfl) (ow hw 62 rfl) (ow hw 102 rfl) (by decide) sl0 (argsL := [(.ref t), (.int (4 : Int32)), (.int (0 : Int32))]) (st := []) (c_newString_4_4_0 l Z a0 hw t ck ch0 ch1 ch2 ch3 h0 hEL) (lenOf pd_22 rfl) (H d16_41) (pc' := 44) rfl rfl (by decide) (W := 0) (Nat.le_of_eq rfl) (by decide) (by decide) (by decide) ?_
      intro T5 v5 L5 X5 hS hZ hown C5 H5 hQ5
      obtain ⟨r5, t5, ct5, rfl, Nq5, Kq5, Eq5, Cq5, Vq5, Aq5⟩ := hQ5
      have N5 := Fr.app (Fr.nil h0.size) (fun y hy => Nat.le_trans (Nat.le_refl _) (Nq5 y hy))
      have f5_0 := E.keep Kq5
      have f5_1 := C.keep Kq5 nin0
      have f5_2 := V.keep Kq5 nin0
      have f5_3 := A.keep Kq5 nin0
      have f5_4 := own_cpt_keep hCpt Kq5 ns0
      have zs5 := Nat.le_trans (Nat.le_refl _) Kq5.1
      have K5 : Keep h0 T5.heap [] := (Keep.refl h0 []).trans Kq5 all0
      refine gGoto X5 hx (H d16_44) (pc' := 57) (by decide) (by decide) ?_
      exact gRetHA X5 hx hlk hret rfl rfl (H d16_57) rfl hS (Nat.le_refl _) hZ hEL H5 (by decide) (by decide) (⟨r5, t5, ct5, rfl, N5, K5, Eq5, Cq5, Vq5, Aq5⟩)
  · exact absurd c12 (by decide)
theorem c_sub_4_4_4o (l : Launch) (Z : State) (a0 : Array Value) (hw : ∀ d ∈ tables_1, d.before a0 Z = true) (a t : Addr) (ck : ClassId) (ch0 ch1 ch2 ch3 : Int32) (h0 : Heap) (hEL : EW Z a0 [("java/lang/String", 7), ("java/lang/StringLatin1", 151)]) (hSio : Sio Z h0) (hCpt : Cpt Z h0) (E : sE Z h0 a) (C : sC Z h0 a) (V : sV Z h0 a t) (A : sA Z h0 t ck 4 [by8 ch0, by8 ch1, by8 ch2, by8 ch3]) (hch0 : rg ch0) (hch1 : rg ch1) (hch2 : rg ch2) (hch3 : rg ch3) :
    CtrH l Z [("java/lang/String", 7), ("java/lang/StringLatin1", 151)] [] mn18 jdk_42_method_91_code 2 (some (.object "java/lang/String")) [] ⟨3, 2, 4, 50⟩ #[(.ref a), (.int (4 : Int32))] h0 (SQd Z h0 0 []) := by
  refine CtrH.of (plainFor_of_name pn_4) ?_
  intro p e s m below meth c s₁ hx H hml hret hown hnm hZ hlk X0 e0 hS H0 hSafe
  refine Goes.cast (show entryFrame m _ _ = mkF m 0 #[.val (.ref a), .val (.int (4 : Int32))] [] from rfl) ?_
  refine gLoadAN 1 X0 hx (H d15_0) rfl rfl rfl ?_
  refine gLoadIN 2 X0 hx (H d15_1) rfl rfl ?_
  refine gLoadAN 3 X0 hx (H d15_2) rfl rfl rfl ?_
  refine gCallVJ X0 hx hZ (y := mn17) hown e0 (by rw [hml]; rfl) E (ow hw 39 rfl) (ow hw 40 rfl) (ow hw 42 rfl) (ow hw 41 rfl) (ow hw 10 rfl) (ow hw 43 rfl) (by decide) (argsL := []) (st := [(.int (4 : Int32)), (.ref a)]) (c_length_4 l Z a0 hw a t ck ch0 ch1 ch2 ch3 h0 hCpt E C V A hch0 hch1 hch2 hch3) (lenOf pd_1 rfl) (H d15_3) (pc' := 6) rfl rfl rfl rfl (by decide) (W := 2) (Nat.le_of_eq rfl) (by decide) (by decide) (by decide) ?_
  intro T1 X1 e1
  refine gCallVH X1 hx hZ (y := mn19) hown e1 (by rw [hml]; rfl) hS (Nat.zero_le _) hEL H0 E (ow hw 76 rfl) (ow hw 77 rfl) (ow hw 79 rfl) (ow hw 78 rfl) (ow hw 10 rfl) (ow hw 80 rfl) (by decide) sl0 (argsL := [(.int (4 : Int32)), (.int (4 : Int32))]) (st := []) (c_sub_4_4_4 l Z a0 hw a t ck ch0 ch1 ch2 ch3 h0 hEL hSio hCpt E C V A hch0 hch1 hch2 hch3) (lenOf pd_11 rfl) (H d15_6) (pc' := 9) rfl rfl (by decide) (W := 0) (Nat.le_of_eq rfl) (by decide) (by decide) (by decide) ?_
  intro T2 v2 L2 X2 hS hZ hown C2 H2 hQ2
  obtain ⟨r2, t2, ct2, rfl, Nq2, Kq2, Eq2, Cq2, Vq2, Aq2⟩ := hQ2
  have N2 := Fr.app (Fr.nil h0.size) (fun y hy => Nat.le_trans (Nat.le_refl _) (Nq2 y hy))
  have f2_0 := E.keep Kq2
  have f2_1 := C.keep Kq2 nin0
  have f2_2 := V.keep Kq2 nin0
  have f2_3 := A.keep Kq2 nin0
  have f2_4 := own_cpt_keep hCpt Kq2 ns0
  have zs2 := Nat.le_trans (Nat.le_refl _) Kq2.1
  have K2 : Keep h0 T2.heap [] := (Keep.refl h0 []).trans Kq2 all0
  exact gRetHA X2 hx hlk hret rfl rfl (H d15_9) rfl hS (Nat.le_refl _) hZ hEL H2 (by decide) (by decide) (⟨r2, t2, ct2, rfl, N2, K2, Eq2, Cq2, Vq2, Aq2⟩)
theorem c_nm_4_3 (l : Launch) (Z : State) (a0 : Array Value) (hw : ∀ d ∈ tables_1, d.before a0 Z = true) (a t : Addr) (ck : ClassId) (ch0 ch1 ch2 ch3 : Int32) (h0 : Heap) (hEL : EW Z a0 [("java/lang/String", 7), ("java/lang/StringLatin1", 151)]) (hSio : Sio Z h0) (hCpt : Cpt Z h0) (E : sE Z h0 a) (C : sC Z h0 a) (V : sV Z h0 a t) (A : sA Z h0 t ck 4 [by8 ch0, by8 ch1, by8 ch2, by8 ch3]) (hch0 : rg ch0) (hch1 : rg ch1) (hch2 : rg ch2) (hch3 : rg ch3)  (dq : ch3.toInt = 47) :
    CtrH l Z [("java/lang/String", 7), ("java/lang/StringLatin1", 151)] [] mn0 prog_18_method_7_code 1 (some (.object "java/lang/String")) [] ⟨4, 2, 4, 73⟩ #[(.ref a)] h0 (SQd Z h0 0 []) := by
  refine CtrH.of (plainFor_of_name pn_0) ?_
  intro p e s m below meth c s₁ hx H hml hret hown hnm hZ hlk X0 e0 hS H0 hSafe
  refine Goes.cast (show entryFrame m _ _ = mkF m 0 #[.val (.ref a)] [] from rfl) ?_
  refine gLoadAN 1 X0 hx (H d31_0) rfl rfl rfl ?_
  refine gLoadAN 2 X0 hx (H d31_1) rfl rfl rfl ?_
  refine gBipush 4 X0 hx (v := (47 : Int32)) (H d31_2) rfl rfl ?_
  refine gCallVJ X0 hx hZ (y := mn15) hown e0 (by rw [hml]; rfl) E (ow hw 34 rfl) (ow hw 35 rfl) (ow hw 37 rfl) (ow hw 36 rfl) (ow hw 10 rfl) (ow hw 38 rfl) (by decide) (argsL := [(.int (47 : Int32))]) (st := [(.ref a)]) (c_lastIndexOf_4 l Z a0 hw a t ck ch0 ch1 ch2 ch3 h0 hCpt E C V A hch0 hch1 hch2 hch3) (lenOf pd_5 rfl) (H d31_4) (pc' := 7) rfl rfl rfl rfl (by decide) (W := 1) (Nat.le_of_eq rfl) (by decide) (by decide) (by decide) ?_
  intro T1 X1 e1
  rw [show lx4 ch0 ch1 ch2 ch3 = 3 from by rw [lx4, if_pos dq]]
  refine gIconst 8 X1 hx (v := (1 : Int32)) (H d31_7) rfl rfl ?_
  refine gIadd 9 X1 hx (H d31_8) rfl ?_
  show Goes p e below _ T1 (mkF m 9 #[.val (.ref a)] [(.int (4 : Int32)), (.ref a)])
  refine gCallVH X1 hx hZ (y := mn18) hown e1 (by rw [hml]; rfl) hS (Nat.zero_le _) hEL H0 E (ow hw 71 rfl) (ow hw 72 rfl) (ow hw 74 rfl) (ow hw 73 rfl) (ow hw 10 rfl) (ow hw 75 rfl) (by decide) sl0 (argsL := [(.int (4 : Int32))]) (st := []) (c_sub_4_4_4o l Z a0 hw a t ck ch0 ch1 ch2 ch3 h0 hEL hSio hCpt E C V A hch0 hch1 hch2 hch3) (lenOf pd_6 rfl) (H d31_9) (pc' := 12) rfl rfl (by decide) (W := 0) (Nat.le_of_eq rfl) (by decide) (by decide) (by decide) ?_
  intro T2 v2 L2 X2 hS hZ hown C2 H2 hQ2
  obtain ⟨r2, t2, ct2, rfl, Nq2, Kq2, Eq2, Cq2, Vq2, Aq2⟩ := hQ2
  have N2 := Fr.app (Fr.nil h0.size) (fun y hy => Nat.le_trans (Nat.le_refl _) (Nq2 y hy))
  have f2_0 := E.keep Kq2
  have f2_1 := C.keep Kq2 nin0
  have f2_2 := V.keep Kq2 nin0
  have f2_3 := A.keep Kq2 nin0
  have f2_4 := own_cpt_keep hCpt Kq2 ns0
  have zs2 := Nat.le_trans (Nat.le_refl _) Kq2.1
  have K2 : Keep h0 T2.heap [] := (Keep.refl h0 []).trans Kq2 all0
  exact gRetHA X2 hx hlk hret rfl rfl (H d31_12) rfl hS (Nat.le_refl _) hZ hEL H2 (by decide) (by decide) (⟨r2, t2, ct2, rfl, N2, K2, Eq2, Cq2, Vq2, Aq2⟩)
theorem d2_0 : decode jdk_41_method_11_code 0 = .ok (.iload_n 0, 1) := by decide +kernel
theorem d2_1 : decode jdk_41_method_11_code 1 = .ok (.ifCond .lt 8, 3) := by decide +kernel
theorem d2_4 : decode jdk_41_method_11_code 4 = .ok (.iload_n 0, 1) := by decide +kernel
theorem d2_5 : decode jdk_41_method_11_code 5 = .ok (.iload_n 1, 1) := by decide +kernel
theorem d2_6 : decode jdk_41_method_11_code 6 = .ok (.if_icmp .lt 10, 3) := by decide +kernel
theorem d2_16 : decode jdk_41_method_11_code 16 = .ok (.iload_n 0, 1) := by decide +kernel
theorem d2_17 : decode jdk_41_method_11_code 17 = .ok (.ireturn, 1) := by decide +kernel
abbrev mn32 : MethodName := ⟨"jdk/internal/util/Preconditions", "checkIndex", "(IILjava/util/function/BiFunction;)I"⟩
theorem ef_c_chkp (m : MethodId) (p0 : Int32) (p1 : Int32) (sf : Value) (hsf : sf.isRef = true) : entryFrame m #[(.int p0), (.int p1), sf] 3 = mkF m 0 #[.val (.int p0), .val (.int p1), .val sf] [] := by rcases ref_cases hsf with rfl | ⟨_, rfl⟩ <;> (first | (simp [entryFrame, mkF, argsToLocals, Value.category]; done) | rfl)
theorem c_chkp (l : Launch) (Z : State) (a0 : Array Value) (hw : ∀ d ∈ tables_1, d.before a0 Z = true) (p0 p1 : Int32) (sf : Value) (hsf : sf.isRef = true) (h0 : Heap) (h1 : 0 ≤ p0.toInt) (h2 : p0.toInt < p1.toInt) :
    Ctr l Z mn32 jdk_41_method_11_code 3 (some .int) [] ⟨0, 0, 0, 0⟩ #[(.int p0), (.int p1), sf] h0 (Just h0 (.int p0)) := by
  refine Ctr.of (plainFor_of_name pn_8) ?_
  intro p e s m below meth c s₁ hx H hml hret hown hnm hZ hlk X0 e0
  refine Goes.cast (ef_c_chkp m p0 p1 sf hsf) ?_
  refine gLoadIN 1 X0 hx (H d2_0) rfl rfl ?_
  refine gIfLt X0 hx (H d2_1) (pc' := 9) (by decide) (by decide) (pn := 4) rfl (fun (c1 : p0.toInt < (0 : Int)) => ?_) (fun (c1 : (0 : Int) ≤ p0.toInt) => ?_)
  · exact absurd c1 (by omega)
  · refine gLoadIN 5 X0 hx (H d2_4) rfl rfl ?_
    refine gLoadIN 6 X0 hx (H d2_5) rfl rfl ?_
    refine gIcmpLt X0 hx (H d2_6) (pc' := 16) (by decide) (by decide) (pn := 9) rfl (fun (c6 : p0.toInt < p1.toInt) => ?_) (fun (c6 : p1.toInt ≤ p0.toInt) => ?_)
    · refine gLoadIN 17 X0 hx (H d2_16) rfl rfl ?_
      exact gRetI X0 hx hlk hret (H d2_17) (by decide) (by decide) (⟨rfl, e0, rfl⟩)
    · exact absurd c6 (by omega)
theorem d8_0 : decode jdk_42_method_155_code 0 = .ok (.iload_n 0, 1) := by decide +kernel
theorem d8_1 : decode jdk_42_method_155_code 1 = .ok (.iload_n 1, 1) := by decide +kernel
theorem d8_2 : decode jdk_42_method_155_code 2 = .ok (.getstatic 1053, 3) := by decide +kernel
theorem d8_5 : decode jdk_42_method_155_code 5 = .ok (.invokestatic 1059, 3) := by decide +kernel
theorem pd_15 : parseMethodDescriptor "(IILjava/util/function/BiFunction;)I" = some ⟨[.int, .int, (.object "java/util/function/BiFunction")], some .int⟩ := by decide +kernel
theorem d8_8 : decode jdk_42_method_155_code 8 = .ok (.pop, 1) := by decide +kernel
theorem d8_9 : decode jdk_42_method_155_code 9 = .ok (.return_, 1) := by decide +kernel
abbrev mn12 : MethodName := ⟨"java/lang/String", "checkIndex", "(II)V"⟩
theorem c_chk (l : Launch) (Z : State) (a0 : Array Value) (hw : ∀ d ∈ tables_1, d.before a0 Z = true) (p0 p1 : Int32) (h0 : Heap) (h1 : 0 ≤ p0.toInt) (h2 : p0.toInt < p1.toInt) (hSio : Sio Z h0) :
    Ctr l Z mn12 jdk_42_method_155_code 2 none [] ⟨1, 0, 0, 14⟩ #[(.int p0), (.int p1)] h0 (fun v h L => v = none ∧ h = h0 ∧ L = []) := by
  refine Ctr.of (plainFor_of_name pn_4) ?_
  intro p e s m below meth c s₁ hx H hml hret hown hnm hZ hlk X0 e0
  refine Goes.cast (show entryFrame m _ _ = mkF m 0 #[.val (.int p0), .val (.int p1)] [] from rfl) ?_
  obtain ⟨sf, SF, hsf⟩ := hSio
  refine gLoadIN 1 X0 hx (H d8_0) rfl rfl ?_
  refine gLoadIN 2 X0 hx (H d8_1) rfl rfl ?_
  refine gGetS X0 hx hZ hown (ow hw 84 rfl) Via.refl e0 SF (H d8_2) (pc' := 5) rfl (fun T1 X1 e1 => ?_)
  refine gCallSJ X1 hx hZ (y := mn32) hown e1 (by rw [hml]; rfl) (ow hw 133 rfl) (ow hw 134 rfl) (ow hw 85 rfl) (ow hw 135 rfl) (by decide) (argsL := [(.int p0), (.int p1), sf]) (st := []) (c_chkp l Z a0 hw p0 p1 sf hsf h0 h1 h2) (lenOf pd_15 rfl) (H d8_5) (pc' := 8) rfl rfl rfl rfl (by decide) (W := 0) (Nat.le_of_eq rfl) (by decide) (by decide) (by decide) ?_
  intro T2 X2 e2
  refine gPop 9 X2 hx (H d8_8) rfl rfl ?_
  exact gRetV X2 hx hlk hret (H d8_9) (by decide) (by decide) (⟨rfl, e2, rfl⟩)
theorem d18_0 : decode jdk_43_method_2_code 0 = .ok (.iload_n 1, 1) := by decide +kernel
theorem d18_1 : decode jdk_43_method_2_code 1 = .ok (.aload_n 0, 1) := by decide +kernel
theorem d18_2 : decode jdk_43_method_2_code 2 = .ok (.arraylength, 1) := by decide +kernel
theorem d18_3 : decode jdk_43_method_2_code 3 = .ok (.invokestatic 9, 3) := by decide +kernel
theorem d18_6 : decode jdk_43_method_2_code 6 = .ok (.aload_n 0, 1) := by decide +kernel
theorem d18_7 : decode jdk_43_method_2_code 7 = .ok (.iload_n 1, 1) := by decide +kernel
theorem d18_8 : decode jdk_43_method_2_code 8 = .ok (.baload, 1) := by decide +kernel
theorem d18_9 : decode jdk_43_method_2_code 9 = .ok (.sipush 255, 3) := by decide +kernel
theorem d18_12 : decode jdk_43_method_2_code 12 = .ok (.iand, 1) := by decide +kernel
theorem d18_13 : decode jdk_43_method_2_code 13 = .ok (.i2c, 1) := by decide +kernel
theorem d18_14 : decode jdk_43_method_2_code 14 = .ok (.ireturn, 1) := by decide +kernel
abbrev mn21 : MethodName := ⟨"java/lang/StringLatin1", "charAt", "([BI)C"⟩
theorem c_charAt_0_1l (l : Launch) (Z : State) (a0 : Array Value) (hw : ∀ d ∈ tables_1, d.before a0 Z = true) (t : Addr) (ck : ClassId) (ch0 : Int32) (h0 : Heap) (hSio : Sio Z h0) (A : sA Z h0 t ck 1 [by8 ch0]) (hch0 : rg ch0) :
    Ctr l Z mn21 jdk_43_method_2_code 2 (some .char) [] ⟨2, 0, 0, 28⟩ #[(.ref t), (.int (0 : Int32))] h0 (Just h0 (.int ch0)) := by
  refine Ctr.of (plainFor_of_name pn_5) ?_
  intro p e s m below meth c s₁ hx H hml hret hown hnm hZ hlk X0 e0
  refine Goes.cast (show entryFrame m _ _ = mkF m 0 #[.val (.ref t), .val (.int (0 : Int32))] [] from rfl) ?_
  refine gLoadIN 1 X0 hx (H d18_0) rfl rfl ?_
  refine gLoadAN 2 X0 hx (H d18_1) rfl rfl rfl ?_
  refine gArrLen X0 hx hZ e0 A (H d18_2) (pc' := 3) rfl ?_
  refine gCallS X0 hx hZ (y := mn12) hown e0 (by rw [hml]; rfl) (ow hw 130 rfl) (ow hw 131 rfl) (ow hw 10 rfl) (ow hw 132 rfl) (by decide) (argsL := [(.int (0 : Int32)), (.int (1 : Int32))]) (st := []) (c_chk l Z a0 hw (0 : Int32) (1 : Int32) h0 (by decide) (by decide) hSio) (lenOf pd_12 rfl) (H d18_3) (pc' := 6) rfl rfl (by decide) (W := 0) (Nat.le_of_eq rfl) (by decide) (by decide) (by decide) ?_
  intro T1 v1 L1 X1 hQ1
  obtain ⟨rfl, eq1, rfl⟩ := hQ1
  rw [List.append_nil] at X1
  refine gLoadAN 7 X1 hx (H d18_6) rfl rfl rfl ?_
  refine gLoadIN 8 X1 hx (H d18_7) rfl rfl ?_
  refine gBaload X1 hx hZ eq1 A (j := (0 : Int32)) (v := (.int (ch0.toInt8.toInt32))) (by decide) (by decide) rfl (H d18_8) (pc' := 9) rfl ?_
  refine gSipush 12 X1 hx (v := (255 : Int32)) (H d18_9) rfl rfl ?_
  refine gIand 13 X1 hx (H d18_12) rfl ?_
  refine gI2c 14 X1 hx (H d18_13) rfl ?_
  rw [own_ch hch0]
  exact gRetN X1 hx hlk hret (by simp) (H d18_14) (w := ch0) (own_nc (own_c8 hch0)) (by decide) (by decide) (⟨rfl, eq1, rfl⟩)
theorem d12_0 : decode jdk_42_method_56_code 0 = .ok (.aload_n 0, 1) := by decide +kernel
theorem d12_1 : decode jdk_42_method_56_code 1 = .ok (.invokevirtual 492, 3) := by decide +kernel
theorem d12_4 : decode jdk_42_method_56_code 4 = .ok (.ifCond .eq 12, 3) := by decide +kernel
theorem d12_7 : decode jdk_42_method_56_code 7 = .ok (.aload_n 0, 1) := by decide +kernel
theorem d12_8 : decode jdk_42_method_56_code 8 = .ok (.getfield 9, 3) := by decide +kernel
theorem d12_11 : decode jdk_42_method_56_code 11 = .ok (.iload_n 1, 1) := by decide +kernel
theorem d12_12 : decode jdk_42_method_56_code 12 = .ok (.invokestatic 495, 3) := by decide +kernel
theorem pd_20 : parseMethodDescriptor "([BI)C" = some ⟨[(.array .byte), .int], some .char⟩ := by decide +kernel
theorem d12_15 : decode jdk_42_method_56_code 15 = .ok (.ireturn, 1) := by decide +kernel
abbrev mn10 : MethodName := ⟨"java/lang/String", "charAt", "(I)C"⟩
theorem c_charAt_0_1 (l : Launch) (Z : State) (a0 : Array Value) (hw : ∀ d ∈ tables_1, d.before a0 Z = true) (a t : Addr) (ck : ClassId) (ch0 : Int32) (h0 : Heap) (hSio : Sio Z h0) (hCpt : Cpt Z h0) (E : sE Z h0 a) (C : sC Z h0 a) (V : sV Z h0 a t) (A : sA Z h0 t ck 1 [by8 ch0]) (hch0 : rg ch0) :
    Ctr l Z mn10 jdk_42_method_56_code 2 (some .char) [] ⟨3, 0, 0, 41⟩ #[(.ref a), (.int (0 : Int32))] h0 (Just h0 (.int ch0)) := by
  refine Ctr.of (plainFor_of_name pn_4) ?_
  intro p e s m below meth c s₁ hx H hml hret hown hnm hZ hlk X0 e0
  refine Goes.cast (show entryFrame m _ _ = mkF m 0 #[.val (.ref a), .val (.int (0 : Int32))] [] from rfl) ?_
  refine gLoadAN 1 X0 hx (H d12_0) rfl rfl rfl ?_
  refine gCallVJ X0 hx hZ (y := mn14) hown e0 (by rw [hml]; rfl) E (ow hw 55 rfl) (ow hw 56 rfl) (ow hw 58 rfl) (ow hw 57 rfl) (ow hw 10 rfl) (ow hw 59 rfl) (by decide) (argsL := []) (st := []) (c_isLatin1 l Z a0 hw a h0 hCpt C) (lenOf pd_3 rfl) (H d12_1) (pc' := 4) rfl rfl rfl rfl (by decide) (W := 0) (Nat.le_of_eq rfl) (by decide) (by decide) (by decide) ?_
  intro T1 X1 e1
  refine gIfEqT X1 hx (H d12_4) (pc' := 16) (by decide) (by decide) (pn := 7) rfl (fun (c4 : (1 : Int) = (0 : Int)) => ?_) (fun (c4 : ¬ (1 : Int) = (0 : Int)) => ?_)
  · exact absurd c4 (by decide)
  · refine gLoadAN 8 X1 hx (H d12_7) rfl rfl rfl ?_
    refine gGetF X1 hx hZ hown (ow hw 28 rfl) Via.refl e1 V (H d12_8) (pc' := 11) rfl (fun T2 X2 e2 => ?_)
    refine gLoadIN 12 X2 hx (H d12_11) rfl rfl ?_
    refine gCallSJ X2 hx hZ (y := mn21) hown e2 (by rw [hml]; rfl) (ow hw 127 rfl) (ow hw 128 rfl) (ow hw 62 rfl) (ow hw 129 rfl) (by decide) (argsL := [(.ref t), (.int (0 : Int32))]) (st := []) (c_charAt_0_1l l Z a0 hw t ck ch0 h0 hSio A hch0) (lenOf pd_20 rfl) (H d12_12) (pc' := 15) rfl rfl rfl rfl (by decide) (W := 0) (Nat.le_of_eq rfl) (by decide) (by decide) (by decide) ?_
    intro T3 X3 e3
    exact gRetN X3 hx hlk hret (by simp) (H d12_15) (w := ch0) (own_nc (own_c8 hch0)) (by decide) (by decide) (⟨rfl, e3, rfl⟩)
theorem c_charAt_0_2l (l : Launch) (Z : State) (a0 : Array Value) (hw : ∀ d ∈ tables_1, d.before a0 Z = true) (t : Addr) (ck : ClassId) (ch0 ch1 : Int32) (h0 : Heap) (hSio : Sio Z h0) (A : sA Z h0 t ck 2 [by8 ch0, by8 ch1]) (hch0 : rg ch0) (hch1 : rg ch1) :
    Ctr l Z mn21 jdk_43_method_2_code 2 (some .char) [] ⟨2, 0, 0, 28⟩ #[(.ref t), (.int (0 : Int32))] h0 (Just h0 (.int ch0)) := by
  refine Ctr.of (plainFor_of_name pn_5) ?_
  intro p e s m below meth c s₁ hx H hml hret hown hnm hZ hlk X0 e0
  refine Goes.cast (show entryFrame m _ _ = mkF m 0 #[.val (.ref t), .val (.int (0 : Int32))] [] from rfl) ?_
  refine gLoadIN 1 X0 hx (H d18_0) rfl rfl ?_
  refine gLoadAN 2 X0 hx (H d18_1) rfl rfl rfl ?_
  refine gArrLen X0 hx hZ e0 A (H d18_2) (pc' := 3) rfl ?_
  refine gCallS X0 hx hZ (y := mn12) hown e0 (by rw [hml]; rfl) (ow hw 130 rfl) (ow hw 131 rfl) (ow hw 10 rfl) (ow hw 132 rfl) (by decide) (argsL := [(.int (0 : Int32)), (.int (2 : Int32))]) (st := []) (c_chk l Z a0 hw (0 : Int32) (2 : Int32) h0 (by decide) (by decide) hSio) (lenOf pd_12 rfl) (H d18_3) (pc' := 6) rfl rfl (by decide) (W := 0) (Nat.le_of_eq rfl) (by decide) (by decide) (by decide) ?_
  intro T1 v1 L1 X1 hQ1
  obtain ⟨rfl, eq1, rfl⟩ := hQ1
  rw [List.append_nil] at X1
  refine gLoadAN 7 X1 hx (H d18_6) rfl rfl rfl ?_
  refine gLoadIN 8 X1 hx (H d18_7) rfl rfl ?_
  refine gBaload X1 hx hZ eq1 A (j := (0 : Int32)) (v := (.int (ch0.toInt8.toInt32))) (by decide) (by decide) rfl (H d18_8) (pc' := 9) rfl ?_
  refine gSipush 12 X1 hx (v := (255 : Int32)) (H d18_9) rfl rfl ?_
  refine gIand 13 X1 hx (H d18_12) rfl ?_
  refine gI2c 14 X1 hx (H d18_13) rfl ?_
  rw [own_ch hch0]
  exact gRetN X1 hx hlk hret (by simp) (H d18_14) (w := ch0) (own_nc (own_c8 hch0)) (by decide) (by decide) (⟨rfl, eq1, rfl⟩)
theorem c_charAt_0_2 (l : Launch) (Z : State) (a0 : Array Value) (hw : ∀ d ∈ tables_1, d.before a0 Z = true) (a t : Addr) (ck : ClassId) (ch0 ch1 : Int32) (h0 : Heap) (hSio : Sio Z h0) (hCpt : Cpt Z h0) (E : sE Z h0 a) (C : sC Z h0 a) (V : sV Z h0 a t) (A : sA Z h0 t ck 2 [by8 ch0, by8 ch1]) (hch0 : rg ch0) (hch1 : rg ch1) :
    Ctr l Z mn10 jdk_42_method_56_code 2 (some .char) [] ⟨3, 0, 0, 41⟩ #[(.ref a), (.int (0 : Int32))] h0 (Just h0 (.int ch0)) := by
  refine Ctr.of (plainFor_of_name pn_4) ?_
  intro p e s m below meth c s₁ hx H hml hret hown hnm hZ hlk X0 e0
  refine Goes.cast (show entryFrame m _ _ = mkF m 0 #[.val (.ref a), .val (.int (0 : Int32))] [] from rfl) ?_
  refine gLoadAN 1 X0 hx (H d12_0) rfl rfl rfl ?_
  refine gCallVJ X0 hx hZ (y := mn14) hown e0 (by rw [hml]; rfl) E (ow hw 55 rfl) (ow hw 56 rfl) (ow hw 58 rfl) (ow hw 57 rfl) (ow hw 10 rfl) (ow hw 59 rfl) (by decide) (argsL := []) (st := []) (c_isLatin1 l Z a0 hw a h0 hCpt C) (lenOf pd_3 rfl) (H d12_1) (pc' := 4) rfl rfl rfl rfl (by decide) (W := 0) (Nat.le_of_eq rfl) (by decide) (by decide) (by decide) ?_
  intro T1 X1 e1
  refine gIfEqT X1 hx (H d12_4) (pc' := 16) (by decide) (by decide) (pn := 7) rfl (fun (c4 : (1 : Int) = (0 : Int)) => ?_) (fun (c4 : ¬ (1 : Int) = (0 : Int)) => ?_)
  · exact absurd c4 (by decide)
  · refine gLoadAN 8 X1 hx (H d12_7) rfl rfl rfl ?_
    refine gGetF X1 hx hZ hown (ow hw 28 rfl) Via.refl e1 V (H d12_8) (pc' := 11) rfl (fun T2 X2 e2 => ?_)
    refine gLoadIN 12 X2 hx (H d12_11) rfl rfl ?_
    refine gCallSJ X2 hx hZ (y := mn21) hown e2 (by rw [hml]; rfl) (ow hw 127 rfl) (ow hw 128 rfl) (ow hw 62 rfl) (ow hw 129 rfl) (by decide) (argsL := [(.ref t), (.int (0 : Int32))]) (st := []) (c_charAt_0_2l l Z a0 hw t ck ch0 ch1 h0 hSio A hch0 hch1) (lenOf pd_20 rfl) (H d12_12) (pc' := 15) rfl rfl rfl rfl (by decide) (W := 0) (Nat.le_of_eq rfl) (by decide) (by decide) (by decide) ?_
    intro T3 X3 e3
    exact gRetN X3 hx hlk hret (by simp) (H d12_15) (w := ch0) (own_nc (own_c8 hch0)) (by decide) (by decide) (⟨rfl, e3, rfl⟩)
theorem c_charAt_1_2l (l : Launch) (Z : State) (a0 : Array Value) (hw : ∀ d ∈ tables_1, d.before a0 Z = true) (t : Addr) (ck : ClassId) (ch0 ch1 : Int32) (h0 : Heap) (hSio : Sio Z h0) (A : sA Z h0 t ck 2 [by8 ch0, by8 ch1]) (hch0 : rg ch0) (hch1 : rg ch1) :
    Ctr l Z mn21 jdk_43_method_2_code 2 (some .char) [] ⟨2, 0, 0, 28⟩ #[(.ref t), (.int (1 : Int32))] h0 (Just h0 (.int ch1)) := by
  refine Ctr.of (plainFor_of_name pn_5) ?_
  intro p e s m below meth c s₁ hx H hml hret hown hnm hZ hlk X0 e0
  refine Goes.cast (show entryFrame m _ _ = mkF m 0 #[.val (.ref t), .val (.int (1 : Int32))] [] from rfl) ?_
  refine gLoadIN 1 X0 hx (H d18_0) rfl rfl ?_
  refine gLoadAN 2 X0 hx (H d18_1) rfl rfl rfl ?_
  refine gArrLen X0 hx hZ e0 A (H d18_2) (pc' := 3) rfl ?_
  refine gCallS X0 hx hZ (y := mn12) hown e0 (by rw [hml]; rfl) (ow hw 130 rfl) (ow hw 131 rfl) (ow hw 10 rfl) (ow hw 132 rfl) (by decide) (argsL := [(.int (1 : Int32)), (.int (2 : Int32))]) (st := []) (c_chk l Z a0 hw (1 : Int32) (2 : Int32) h0 (by decide) (by decide) hSio) (lenOf pd_12 rfl) (H d18_3) (pc' := 6) rfl rfl (by decide) (W := 0) (Nat.le_of_eq rfl) (by decide) (by decide) (by decide) ?_
  intro T1 v1 L1 X1 hQ1
  obtain ⟨rfl, eq1, rfl⟩ := hQ1
  rw [List.append_nil] at X1
  refine gLoadAN 7 X1 hx (H d18_6) rfl rfl rfl ?_
  refine gLoadIN 8 X1 hx (H d18_7) rfl rfl ?_
  refine gBaload X1 hx hZ eq1 A (j := (1 : Int32)) (v := (.int (ch1.toInt8.toInt32))) (by decide) (by decide) rfl (H d18_8) (pc' := 9) rfl ?_
  refine gSipush 12 X1 hx (v := (255 : Int32)) (H d18_9) rfl rfl ?_
  refine gIand 13 X1 hx (H d18_12) rfl ?_
  refine gI2c 14 X1 hx (H d18_13) rfl ?_
  rw [own_ch hch1]
  exact gRetN X1 hx hlk hret (by simp) (H d18_14) (w := ch1) (own_nc (own_c8 hch1)) (by decide) (by decide) (⟨rfl, eq1, rfl⟩)
theorem c_charAt_1_2 (l : Launch) (Z : State) (a0 : Array Value) (hw : ∀ d ∈ tables_1, d.before a0 Z = true) (a t : Addr) (ck : ClassId) (ch0 ch1 : Int32) (h0 : Heap) (hSio : Sio Z h0) (hCpt : Cpt Z h0) (E : sE Z h0 a) (C : sC Z h0 a) (V : sV Z h0 a t) (A : sA Z h0 t ck 2 [by8 ch0, by8 ch1]) (hch0 : rg ch0) (hch1 : rg ch1) :
    Ctr l Z mn10 jdk_42_method_56_code 2 (some .char) [] ⟨3, 0, 0, 41⟩ #[(.ref a), (.int (1 : Int32))] h0 (Just h0 (.int ch1)) := by
  refine Ctr.of (plainFor_of_name pn_4) ?_
  intro p e s m below meth c s₁ hx H hml hret hown hnm hZ hlk X0 e0
  refine Goes.cast (show entryFrame m _ _ = mkF m 0 #[.val (.ref a), .val (.int (1 : Int32))] [] from rfl) ?_
  refine gLoadAN 1 X0 hx (H d12_0) rfl rfl rfl ?_
  refine gCallVJ X0 hx hZ (y := mn14) hown e0 (by rw [hml]; rfl) E (ow hw 55 rfl) (ow hw 56 rfl) (ow hw 58 rfl) (ow hw 57 rfl) (ow hw 10 rfl) (ow hw 59 rfl) (by decide) (argsL := []) (st := []) (c_isLatin1 l Z a0 hw a h0 hCpt C) (lenOf pd_3 rfl) (H d12_1) (pc' := 4) rfl rfl rfl rfl (by decide) (W := 0) (Nat.le_of_eq rfl) (by decide) (by decide) (by decide) ?_
  intro T1 X1 e1
  refine gIfEqT X1 hx (H d12_4) (pc' := 16) (by decide) (by decide) (pn := 7) rfl (fun (c4 : (1 : Int) = (0 : Int)) => ?_) (fun (c4 : ¬ (1 : Int) = (0 : Int)) => ?_)
  · exact absurd c4 (by decide)
  · refine gLoadAN 8 X1 hx (H d12_7) rfl rfl rfl ?_
    refine gGetF X1 hx hZ hown (ow hw 28 rfl) Via.refl e1 V (H d12_8) (pc' := 11) rfl (fun T2 X2 e2 => ?_)
    refine gLoadIN 12 X2 hx (H d12_11) rfl rfl ?_
    refine gCallSJ X2 hx hZ (y := mn21) hown e2 (by rw [hml]; rfl) (ow hw 127 rfl) (ow hw 128 rfl) (ow hw 62 rfl) (ow hw 129 rfl) (by decide) (argsL := [(.ref t), (.int (1 : Int32))]) (st := []) (c_charAt_1_2l l Z a0 hw t ck ch0 ch1 h0 hSio A hch0 hch1) (lenOf pd_20 rfl) (H d12_12) (pc' := 15) rfl rfl rfl rfl (by decide) (W := 0) (Nat.le_of_eq rfl) (by decide) (by decide) (by decide) ?_
    intro T3 X3 e3
    exact gRetN X3 hx hlk hret (by simp) (H d12_15) (w := ch1) (own_nc (own_c8 hch1)) (by decide) (by decide) (⟨rfl, e3, rfl⟩)
theorem c_charAt_0_3l (l : Launch) (Z : State) (a0 : Array Value) (hw : ∀ d ∈ tables_1, d.before a0 Z = true) (t : Addr) (ck : ClassId) (ch0 ch1 ch2 : Int32) (h0 : Heap) (hSio : Sio Z h0) (A : sA Z h0 t ck 3 [by8 ch0, by8 ch1, by8 ch2]) (hch0 : rg ch0) (hch1 : rg ch1) (hch2 : rg ch2) :
    Ctr l Z mn21 jdk_43_method_2_code 2 (some .char) [] ⟨2, 0, 0, 28⟩ #[(.ref t), (.int (0 : Int32))] h0 (Just h0 (.int ch0)) := by
  refine Ctr.of (plainFor_of_name pn_5) ?_
  intro p e s m below meth c s₁ hx H hml hret hown hnm hZ hlk X0 e0
  refine Goes.cast (show entryFrame m _ _ = mkF m 0 #[.val (.ref t), .val (.int (0 : Int32))] [] from rfl) ?_
  refine gLoadIN 1 X0 hx (H d18_0) rfl rfl ?_
  refine gLoadAN 2 X0 hx (H d18_1) rfl rfl rfl ?_
  refine gArrLen X0 hx hZ e0 A (H d18_2) (pc' := 3) rfl ?_
  refine gCallS X0 hx hZ (y := mn12) hown e0 (by rw [hml]; rfl) (ow hw 130 rfl) (ow hw 131 rfl) (ow hw 10 rfl) (ow hw 132 rfl) (by decide) (argsL := [(.int (0 : Int32)), (.int (3 : Int32))]) (st := []) (c_chk l Z a0 hw (0 : Int32) (3 : Int32) h0 (by decide) (by decide) hSio) (lenOf pd_12 rfl) (H d18_3) (pc' := 6) rfl rfl (by decide) (W := 0) (Nat.le_of_eq rfl) (by decide) (by decide) (by decide) ?_
  intro T1 v1 L1 X1 hQ1
  obtain ⟨rfl, eq1, rfl⟩ := hQ1
  rw [List.append_nil] at X1
  refine gLoadAN 7 X1 hx (H d18_6) rfl rfl rfl ?_
  refine gLoadIN 8 X1 hx (H d18_7) rfl rfl ?_
  refine gBaload X1 hx hZ eq1 A (j := (0 : Int32)) (v := (.int (ch0.toInt8.toInt32))) (by decide) (by decide) rfl (H d18_8) (pc' := 9) rfl ?_
  refine gSipush 12 X1 hx (v := (255 : Int32)) (H d18_9) rfl rfl ?_
  refine gIand 13 X1 hx (H d18_12) rfl ?_
  refine gI2c 14 X1 hx (H d18_13) rfl ?_
  rw [own_ch hch0]
  exact gRetN X1 hx hlk hret (by simp) (H d18_14) (w := ch0) (own_nc (own_c8 hch0)) (by decide) (by decide) (⟨rfl, eq1, rfl⟩)
theorem c_charAt_0_3 (l : Launch) (Z : State) (a0 : Array Value) (hw : ∀ d ∈ tables_1, d.before a0 Z = true) (a t : Addr) (ck : ClassId) (ch0 ch1 ch2 : Int32) (h0 : Heap) (hSio : Sio Z h0) (hCpt : Cpt Z h0) (E : sE Z h0 a) (C : sC Z h0 a) (V : sV Z h0 a t) (A : sA Z h0 t ck 3 [by8 ch0, by8 ch1, by8 ch2]) (hch0 : rg ch0) (hch1 : rg ch1) (hch2 : rg ch2) :
    Ctr l Z mn10 jdk_42_method_56_code 2 (some .char) [] ⟨3, 0, 0, 41⟩ #[(.ref a), (.int (0 : Int32))] h0 (Just h0 (.int ch0)) := by
  refine Ctr.of (plainFor_of_name pn_4) ?_
  intro p e s m below meth c s₁ hx H hml hret hown hnm hZ hlk X0 e0
  refine Goes.cast (show entryFrame m _ _ = mkF m 0 #[.val (.ref a), .val (.int (0 : Int32))] [] from rfl) ?_
  refine gLoadAN 1 X0 hx (H d12_0) rfl rfl rfl ?_
  refine gCallVJ X0 hx hZ (y := mn14) hown e0 (by rw [hml]; rfl) E (ow hw 55 rfl) (ow hw 56 rfl) (ow hw 58 rfl) (ow hw 57 rfl) (ow hw 10 rfl) (ow hw 59 rfl) (by decide) (argsL := []) (st := []) (c_isLatin1 l Z a0 hw a h0 hCpt C) (lenOf pd_3 rfl) (H d12_1) (pc' := 4) rfl rfl rfl rfl (by decide) (W := 0) (Nat.le_of_eq rfl) (by decide) (by decide) (by decide) ?_
  intro T1 X1 e1
  refine gIfEqT X1 hx (H d12_4) (pc' := 16) (by decide) (by decide) (pn := 7) rfl (fun (c4 : (1 : Int) = (0 : Int)) => ?_) (fun (c4 : ¬ (1 : Int) = (0 : Int)) => ?_)
  · exact absurd c4 (by decide)
  · refine gLoadAN 8 X1 hx (H d12_7) rfl rfl rfl ?_
    refine gGetF X1 hx hZ hown (ow hw 28 rfl) Via.refl e1 V (H d12_8) (pc' := 11) rfl (fun T2 X2 e2 => ?_)
    refine gLoadIN 12 X2 hx (H d12_11) rfl rfl ?_
    refine gCallSJ X2 hx hZ (y := mn21) hown e2 (by rw [hml]; rfl) (ow hw 127 rfl) (ow hw 128 rfl) (ow hw 62 rfl) (ow hw 129 rfl) (by decide) (argsL := [(.ref t), (.int (0 : Int32))]) (st := []) (c_charAt_0_3l l Z a0 hw t ck ch0 ch1 ch2 h0 hSio A hch0 hch1 hch2) (lenOf pd_20 rfl) (H d12_12) (pc' := 15) rfl rfl rfl rfl (by decide) (W := 0) (Nat.le_of_eq rfl) (by decide) (by decide) (by decide) ?_
    intro T3 X3 e3
    exact gRetN X3 hx hlk hret (by simp) (H d12_15) (w := ch0) (own_nc (own_c8 hch0)) (by decide) (by decide) (⟨rfl, e3, rfl⟩)
theorem c_charAt_1_3l (l : Launch) (Z : State) (a0 : Array Value) (hw : ∀ d ∈ tables_1, d.before a0 Z = true) (t : Addr) (ck : ClassId) (ch0 ch1 ch2 : Int32) (h0 : Heap) (hSio : Sio Z h0) (A : sA Z h0 t ck 3 [by8 ch0, by8 ch1, by8 ch2]) (hch0 : rg ch0) (hch1 : rg ch1) (hch2 : rg ch2) :
    Ctr l Z mn21 jdk_43_method_2_code 2 (some .char) [] ⟨2, 0, 0, 28⟩ #[(.ref t), (.int (1 : Int32))] h0 (Just h0 (.int ch1)) := by
  refine Ctr.of (plainFor_of_name pn_5) ?_
  intro p e s m below meth c s₁ hx H hml hret hown hnm hZ hlk X0 e0
  refine Goes.cast (show entryFrame m _ _ = mkF m 0 #[.val (.ref t), .val (.int (1 : Int32))] [] from rfl) ?_
  refine gLoadIN 1 X0 hx (H d18_0) rfl rfl ?_
  refine gLoadAN 2 X0 hx (H d18_1) rfl rfl rfl ?_
  refine gArrLen X0 hx hZ e0 A (H d18_2) (pc' := 3) rfl ?_
  refine gCallS X0 hx hZ (y := mn12) hown e0 (by rw [hml]; rfl) (ow hw 130 rfl) (ow hw 131 rfl) (ow hw 10 rfl) (ow hw 132 rfl) (by decide) (argsL := [(.int (1 : Int32)), (.int (3 : Int32))]) (st := []) (c_chk l Z a0 hw (1 : Int32) (3 : Int32) h0 (by decide) (by decide) hSio) (lenOf pd_12 rfl) (H d18_3) (pc' := 6) rfl rfl (by decide) (W := 0) (Nat.le_of_eq rfl) (by decide) (by decide) (by decide) ?_
  intro T1 v1 L1 X1 hQ1
  obtain ⟨rfl, eq1, rfl⟩ := hQ1
  rw [List.append_nil] at X1
  refine gLoadAN 7 X1 hx (H d18_6) rfl rfl rfl ?_
  refine gLoadIN 8 X1 hx (H d18_7) rfl rfl ?_
  refine gBaload X1 hx hZ eq1 A (j := (1 : Int32)) (v := (.int (ch1.toInt8.toInt32))) (by decide) (by decide) rfl (H d18_8) (pc' := 9) rfl ?_
  refine gSipush 12 X1 hx (v := (255 : Int32)) (H d18_9) rfl rfl ?_
  refine gIand 13 X1 hx (H d18_12) rfl ?_
  refine gI2c 14 X1 hx (H d18_13) rfl ?_
  rw [own_ch hch1]
  exact gRetN X1 hx hlk hret (by simp) (H d18_14) (w := ch1) (own_nc (own_c8 hch1)) (by decide) (by decide) (⟨rfl, eq1, rfl⟩)
theorem c_charAt_1_3 (l : Launch) (Z : State) (a0 : Array Value) (hw : ∀ d ∈ tables_1, d.before a0 Z = true) (a t : Addr) (ck : ClassId) (ch0 ch1 ch2 : Int32) (h0 : Heap) (hSio : Sio Z h0) (hCpt : Cpt Z h0) (E : sE Z h0 a) (C : sC Z h0 a) (V : sV Z h0 a t) (A : sA Z h0 t ck 3 [by8 ch0, by8 ch1, by8 ch2]) (hch0 : rg ch0) (hch1 : rg ch1) (hch2 : rg ch2) :
    Ctr l Z mn10 jdk_42_method_56_code 2 (some .char) [] ⟨3, 0, 0, 41⟩ #[(.ref a), (.int (1 : Int32))] h0 (Just h0 (.int ch1)) := by
  refine Ctr.of (plainFor_of_name pn_4) ?_
  intro p e s m below meth c s₁ hx H hml hret hown hnm hZ hlk X0 e0
  refine Goes.cast (show entryFrame m _ _ = mkF m 0 #[.val (.ref a), .val (.int (1 : Int32))] [] from rfl) ?_
  refine gLoadAN 1 X0 hx (H d12_0) rfl rfl rfl ?_
  refine gCallVJ X0 hx hZ (y := mn14) hown e0 (by rw [hml]; rfl) E (ow hw 55 rfl) (ow hw 56 rfl) (ow hw 58 rfl) (ow hw 57 rfl) (ow hw 10 rfl) (ow hw 59 rfl) (by decide) (argsL := []) (st := []) (c_isLatin1 l Z a0 hw a h0 hCpt C) (lenOf pd_3 rfl) (H d12_1) (pc' := 4) rfl rfl rfl rfl (by decide) (W := 0) (Nat.le_of_eq rfl) (by decide) (by decide) (by decide) ?_
  intro T1 X1 e1
  refine gIfEqT X1 hx (H d12_4) (pc' := 16) (by decide) (by decide) (pn := 7) rfl (fun (c4 : (1 : Int) = (0 : Int)) => ?_) (fun (c4 : ¬ (1 : Int) = (0 : Int)) => ?_)
  · exact absurd c4 (by decide)
  · refine gLoadAN 8 X1 hx (H d12_7) rfl rfl rfl ?_
    refine gGetF X1 hx hZ hown (ow hw 28 rfl) Via.refl e1 V (H d12_8) (pc' := 11) rfl (fun T2 X2 e2 => ?_)
    refine gLoadIN 12 X2 hx (H d12_11) rfl rfl ?_
    refine gCallSJ X2 hx hZ (y := mn21) hown e2 (by rw [hml]; rfl) (ow hw 127 rfl) (ow hw 128 rfl) (ow hw 62 rfl) (ow hw 129 rfl) (by decide) (argsL := [(.ref t), (.int (1 : Int32))]) (st := []) (c_charAt_1_3l l Z a0 hw t ck ch0 ch1 ch2 h0 hSio A hch0 hch1 hch2) (lenOf pd_20 rfl) (H d12_12) (pc' := 15) rfl rfl rfl rfl (by decide) (W := 0) (Nat.le_of_eq rfl) (by decide) (by decide) (by decide) ?_
    intro T3 X3 e3
    exact gRetN X3 hx hlk hret (by simp) (H d12_15) (w := ch1) (own_nc (own_c8 hch1)) (by decide) (by decide) (⟨rfl, e3, rfl⟩)
theorem c_charAt_2_3l (l : Launch) (Z : State) (a0 : Array Value) (hw : ∀ d ∈ tables_1, d.before a0 Z = true) (t : Addr) (ck : ClassId) (ch0 ch1 ch2 : Int32) (h0 : Heap) (hSio : Sio Z h0) (A : sA Z h0 t ck 3 [by8 ch0, by8 ch1, by8 ch2]) (hch0 : rg ch0) (hch1 : rg ch1) (hch2 : rg ch2) :
    Ctr l Z mn21 jdk_43_method_2_code 2 (some .char) [] ⟨2, 0, 0, 28⟩ #[(.ref t), (.int (2 : Int32))] h0 (Just h0 (.int ch2)) := by
  refine Ctr.of (plainFor_of_name pn_5) ?_
  intro p e s m below meth c s₁ hx H hml hret hown hnm hZ hlk X0 e0
  refine Goes.cast (show entryFrame m _ _ = mkF m 0 #[.val (.ref t), .val (.int (2 : Int32))] [] from rfl) ?_
  refine gLoadIN 1 X0 hx (H d18_0) rfl rfl ?_
  refine gLoadAN 2 X0 hx (H d18_1) rfl rfl rfl ?_
  refine gArrLen X0 hx hZ e0 A (H d18_2) (pc' := 3) rfl ?_
  refine gCallS X0 hx hZ (y := mn12) hown e0 (by rw [hml]; rfl) (ow hw 130 rfl) (ow hw 131 rfl) (ow hw 10 rfl) (ow hw 132 rfl) (by decide) (argsL := [(.int (2 : Int32)), (.int (3 : Int32))]) (st := []) (c_chk l Z a0 hw (2 : Int32) (3 : Int32) h0 (by decide) (by decide) hSio) (lenOf pd_12 rfl) (H d18_3) (pc' := 6) rfl rfl (by decide) (W := 0) (Nat.le_of_eq rfl) (by decide) (by decide) (by decide) ?_
  intro T1 v1 L1 X1 hQ1
  obtain ⟨rfl, eq1, rfl⟩ := hQ1
  rw [List.append_nil] at X1
  refine gLoadAN 7 X1 hx (H d18_6) rfl rfl rfl ?_
  refine gLoadIN 8 X1 hx (H d18_7) rfl rfl ?_
  refine gBaload X1 hx hZ eq1 A (j := (2 : Int32)) (v := (.int (ch2.toInt8.toInt32))) (by decide) (by decide) rfl (H d18_8) (pc' := 9) rfl ?_
  refine gSipush 12 X1 hx (v := (255 : Int32)) (H d18_9) rfl rfl ?_
  refine gIand 13 X1 hx (H d18_12) rfl ?_
  refine gI2c 14 X1 hx (H d18_13) rfl ?_
  rw [own_ch hch2]
  exact gRetN X1 hx hlk hret (by simp) (H d18_14) (w := ch2) (own_nc (own_c8 hch2)) (by decide) (by decide) (⟨rfl, eq1, rfl⟩)
theorem c_charAt_2_3 (l : Launch) (Z : State) (a0 : Array Value) (hw : ∀ d ∈ tables_1, d.before a0 Z = true) (a t : Addr) (ck : ClassId) (ch0 ch1 ch2 : Int32) (h0 : Heap) (hSio : Sio Z h0) (hCpt : Cpt Z h0) (E : sE Z h0 a) (C : sC Z h0 a) (V : sV Z h0 a t) (A : sA Z h0 t ck 3 [by8 ch0, by8 ch1, by8 ch2]) (hch0 : rg ch0) (hch1 : rg ch1) (hch2 : rg ch2) :
    Ctr l Z mn10 jdk_42_method_56_code 2 (some .char) [] ⟨3, 0, 0, 41⟩ #[(.ref a), (.int (2 : Int32))] h0 (Just h0 (.int ch2)) := by
  refine Ctr.of (plainFor_of_name pn_4) ?_
  intro p e s m below meth c s₁ hx H hml hret hown hnm hZ hlk X0 e0
  refine Goes.cast (show entryFrame m _ _ = mkF m 0 #[.val (.ref a), .val (.int (2 : Int32))] [] from rfl) ?_
  refine gLoadAN 1 X0 hx (H d12_0) rfl rfl rfl ?_
  refine gCallVJ X0 hx hZ (y := mn14) hown e0 (by rw [hml]; rfl) E (ow hw 55 rfl) (ow hw 56 rfl) (ow hw 58 rfl) (ow hw 57 rfl) (ow hw 10 rfl) (ow hw 59 rfl) (by decide) (argsL := []) (st := []) (c_isLatin1 l Z a0 hw a h0 hCpt C) (lenOf pd_3 rfl) (H d12_1) (pc' := 4) rfl rfl rfl rfl (by decide) (W := 0) (Nat.le_of_eq rfl) (by decide) (by decide) (by decide) ?_
  intro T1 X1 e1
  refine gIfEqT X1 hx (H d12_4) (pc' := 16) (by decide) (by decide) (pn := 7) rfl (fun (c4 : (1 : Int) = (0 : Int)) => ?_) (fun (c4 : ¬ (1 : Int) = (0 : Int)) => ?_)
  · exact absurd c4 (by decide)
  · refine gLoadAN 8 X1 hx (H d12_7) rfl rfl rfl ?_
    refine gGetF X1 hx hZ hown (ow hw 28 rfl) Via.refl e1 V (H d12_8) (pc' := 11) rfl (fun T2 X2 e2 => ?_)
    refine gLoadIN 12 X2 hx (H d12_11) rfl rfl ?_
    refine gCallSJ X2 hx hZ (y := mn21) hown e2 (by rw [hml]; rfl) (ow hw 127 rfl) (ow hw 128 rfl) (ow hw 62 rfl) (ow hw 129 rfl) (by decide) (argsL := [(.ref t), (.int (2 : Int32))]) (st := []) (c_charAt_2_3l l Z a0 hw t ck ch0 ch1 ch2 h0 hSio A hch0 hch1 hch2) (lenOf pd_20 rfl) (H d12_12) (pc' := 15) rfl rfl rfl rfl (by decide) (W := 0) (Nat.le_of_eq rfl) (by decide) (by decide) (by decide) ?_
    intro T3 X3 e3
    exact gRetN X3 hx hlk hret (by simp) (H d12_15) (w := ch2) (own_nc (own_c8 hch2)) (by decide) (by decide) (⟨rfl, e3, rfl⟩)
theorem c_charAt_0_4l (l : Launch) (Z : State) (a0 : Array Value) (hw : ∀ d ∈ tables_1, d.before a0 Z = true) (t : Addr) (ck : ClassId) (ch0 ch1 ch2 ch3 : Int32) (h0 : Heap) (hSio : Sio Z h0) (A : sA Z h0 t ck 4 [by8 ch0, by8 ch1, by8 ch2, by8 ch3]) (hch0 : rg ch0) (hch1 : rg ch1) (hch2 : rg ch2) (hch3 : rg ch3) :
    Ctr l Z mn21 jdk_43_method_2_code 2 (some .char) [] ⟨2, 0, 0, 28⟩ #[(.ref t), (.int (0 : Int32))] h0 (Just h0 (.int ch0)) := by
  refine Ctr.of (plainFor_of_name pn_5) ?_
  intro p e s m below meth c s₁ hx H hml hret hown hnm hZ hlk X0 e0
  refine Goes.cast (show entryFrame m _ _ = mkF m 0 #[.val (.ref t), .val (.int (0 : Int32))] [] from rfl) ?_
  refine gLoadIN 1 X0 hx (H d18_0) rfl rfl ?_
  refine gLoadAN 2 X0 hx (H d18_1) rfl rfl rfl ?_
  refine gArrLen X0 hx hZ e0 A (H d18_2) (pc' := 3) rfl ?_
  refine gCallS X0 hx hZ (y := mn12) hown e0 (by rw [hml]; rfl) (ow hw 130 rfl) (ow hw 131 rfl) (ow hw 10 rfl) (ow hw 132 rfl) (by decide) (argsL := [(.int (0 : Int32)), (.int (4 : Int32))]) (st := []) (c_chk l Z a0 hw (0 : Int32) (4 : Int32) h0 (by decide) (by decide) hSio) (lenOf pd_12 rfl) (H d18_3) (pc' := 6) rfl rfl (by decide) (W := 0) (Nat.le_of_eq rfl) (by decide) (by decide) (by decide) ?_
  intro T1 v1 L1 X1 hQ1
  obtain ⟨rfl, eq1, rfl⟩ := hQ1
  rw [List.append_nil] at X1
  refine gLoadAN 7 X1 hx (H d18_6) rfl rfl rfl ?_
  refine gLoadIN 8 X1 hx (H d18_7) rfl rfl ?_
  refine gBaload X1 hx hZ eq1 A (j := (0 : Int32)) (v := (.int (ch0.toInt8.toInt32))) (by decide) (by decide) rfl (H d18_8) (pc' := 9) rfl ?_
  refine gSipush 12 X1 hx (v := (255 : Int32)) (H d18_9) rfl rfl ?_
  refine gIand 13 X1 hx (H d18_12) rfl ?_
  refine gI2c 14 X1 hx (H d18_13) rfl ?_
  rw [own_ch hch0]
  exact gRetN X1 hx hlk hret (by simp) (H d18_14) (w := ch0) (own_nc (own_c8 hch0)) (by decide) (by decide) (⟨rfl, eq1, rfl⟩)
theorem c_charAt_0_4 (l : Launch) (Z : State) (a0 : Array Value) (hw : ∀ d ∈ tables_1, d.before a0 Z = true) (a t : Addr) (ck : ClassId) (ch0 ch1 ch2 ch3 : Int32) (h0 : Heap) (hSio : Sio Z h0) (hCpt : Cpt Z h0) (E : sE Z h0 a) (C : sC Z h0 a) (V : sV Z h0 a t) (A : sA Z h0 t ck 4 [by8 ch0, by8 ch1, by8 ch2, by8 ch3]) (hch0 : rg ch0) (hch1 : rg ch1) (hch2 : rg ch2) (hch3 : rg ch3) :
    Ctr l Z mn10 jdk_42_method_56_code 2 (some .char) [] ⟨3, 0, 0, 41⟩ #[(.ref a), (.int (0 : Int32))] h0 (Just h0 (.int ch0)) := by
  refine Ctr.of (plainFor_of_name pn_4) ?_
  intro p e s m below meth c s₁ hx H hml hret hown hnm hZ hlk X0 e0
  refine Goes.cast (show entryFrame m _ _ = mkF m 0 #[.val (.ref a), .val (.int (0 : Int32))] [] from rfl) ?_
  refine gLoadAN 1 X0 hx (H d12_0) rfl rfl rfl ?_
  refine gCallVJ X0 hx hZ (y := mn14) hown e0 (by rw [hml]; rfl) E (ow hw 55 rfl) (ow hw 56 rfl) (ow hw 58 rfl) (ow hw 57 rfl) (ow hw 10 rfl) (ow hw 59 rfl) (by decide) (argsL := []) (st := []) (c_isLatin1 l Z a0 hw a h0 hCpt C) (lenOf pd_3 rfl) (H d12_1) (pc' := 4) rfl rfl rfl rfl (by decide) (W := 0) (Nat.le_of_eq rfl) (by decide) (by decide) (by decide) ?_
  intro T1 X1 e1
  refine gIfEqT X1 hx (H d12_4) (pc' := 16) (by decide) (by decide) (pn := 7) rfl (fun (c4 : (1 : Int) = (0 : Int)) => ?_) (fun (c4 : ¬ (1 : Int) = (0 : Int)) => ?_)
  · exact absurd c4 (by decide)
  · refine gLoadAN 8 X1 hx (H d12_7) rfl rfl rfl ?_
    refine gGetF X1 hx hZ hown (ow hw 28 rfl) Via.refl e1 V (H d12_8) (pc' := 11) rfl (fun T2 X2 e2 => ?_)
    refine gLoadIN 12 X2 hx (H d12_11) rfl rfl ?_
    refine gCallSJ X2 hx hZ (y := mn21) hown e2 (by rw [hml]; rfl) (ow hw 127 rfl) (ow hw 128 rfl) (ow hw 62 rfl) (ow hw 129 rfl) (by decide) (argsL := [(.ref t), (.int (0 : Int32))]) (st := []) (c_charAt_0_4l l Z a0 hw t ck ch0 ch1 ch2 ch3 h0 hSio A hch0 hch1 hch2 hch3) (lenOf pd_20 rfl) (H d12_12) (pc' := 15) rfl rfl rfl rfl (by decide) (W := 0) (Nat.le_of_eq rfl) (by decide) (by decide) (by decide) ?_
    intro T3 X3 e3
    exact gRetN X3 hx hlk hret (by simp) (H d12_15) (w := ch0) (own_nc (own_c8 hch0)) (by decide) (by decide) (⟨rfl, e3, rfl⟩)
theorem c_charAt_1_4l (l : Launch) (Z : State) (a0 : Array Value) (hw : ∀ d ∈ tables_1, d.before a0 Z = true) (t : Addr) (ck : ClassId) (ch0 ch1 ch2 ch3 : Int32) (h0 : Heap) (hSio : Sio Z h0) (A : sA Z h0 t ck 4 [by8 ch0, by8 ch1, by8 ch2, by8 ch3]) (hch0 : rg ch0) (hch1 : rg ch1) (hch2 : rg ch2) (hch3 : rg ch3) :
    Ctr l Z mn21 jdk_43_method_2_code 2 (some .char) [] ⟨2, 0, 0, 28⟩ #[(.ref t), (.int (1 : Int32))] h0 (Just h0 (.int ch1)) := by
  refine Ctr.of (plainFor_of_name pn_5) ?_
  intro p e s m below meth c s₁ hx H hml hret hown hnm hZ hlk X0 e0
  refine Goes.cast (show entryFrame m _ _ = mkF m 0 #[.val (.ref t), .val (.int (1 : Int32))] [] from rfl) ?_
  refine gLoadIN 1 X0 hx (H d18_0) rfl rfl ?_
  refine gLoadAN 2 X0 hx (H d18_1) rfl rfl rfl ?_
  refine gArrLen X0 hx hZ e0 A (H d18_2) (pc' := 3) rfl ?_
  refine gCallS X0 hx hZ (y := mn12) hown e0 (by rw [hml]; rfl) (ow hw 130 rfl) (ow hw 131 rfl) (ow hw 10 rfl) (ow hw 132 rfl) (by decide) (argsL := [(.int (1 : Int32)), (.int (4 : Int32))]) (st := []) (c_chk l Z a0 hw (1 : Int32) (4 : Int32) h0 (by decide) (by decide) hSio) (lenOf pd_12 rfl) (H d18_3) (pc' := 6) rfl rfl (by decide) (W := 0) (Nat.le_of_eq rfl) (by decide) (by decide) (by decide) ?_
  intro T1 v1 L1 X1 hQ1
  obtain ⟨rfl, eq1, rfl⟩ := hQ1
  rw [List.append_nil] at X1
  refine gLoadAN 7 X1 hx (H d18_6) rfl rfl rfl ?_
  refine gLoadIN 8 X1 hx (H d18_7) rfl rfl ?_
  refine gBaload X1 hx hZ eq1 A (j := (1 : Int32)) (v := (.int (ch1.toInt8.toInt32))) (by decide) (by decide) rfl (H d18_8) (pc' := 9) rfl ?_
  refine gSipush 12 X1 hx (v := (255 : Int32)) (H d18_9) rfl rfl ?_
  refine gIand 13 X1 hx (H d18_12) rfl ?_
  refine gI2c 14 X1 hx (H d18_13) rfl ?_
  rw [own_ch hch1]
  exact gRetN X1 hx hlk hret (by simp) (H d18_14) (w := ch1) (own_nc (own_c8 hch1)) (by decide) (by decide) (⟨rfl, eq1, rfl⟩)
theorem c_charAt_1_4 (l : Launch) (Z : State) (a0 : Array Value) (hw : ∀ d ∈ tables_1, d.before a0 Z = true) (a t : Addr) (ck : ClassId) (ch0 ch1 ch2 ch3 : Int32) (h0 : Heap) (hSio : Sio Z h0) (hCpt : Cpt Z h0) (E : sE Z h0 a) (C : sC Z h0 a) (V : sV Z h0 a t) (A : sA Z h0 t ck 4 [by8 ch0, by8 ch1, by8 ch2, by8 ch3]) (hch0 : rg ch0) (hch1 : rg ch1) (hch2 : rg ch2) (hch3 : rg ch3) :
    Ctr l Z mn10 jdk_42_method_56_code 2 (some .char) [] ⟨3, 0, 0, 41⟩ #[(.ref a), (.int (1 : Int32))] h0 (Just h0 (.int ch1)) := by
  refine Ctr.of (plainFor_of_name pn_4) ?_
  intro p e s m below meth c s₁ hx H hml hret hown hnm hZ hlk X0 e0
  refine Goes.cast (show entryFrame m _ _ = mkF m 0 #[.val (.ref a), .val (.int (1 : Int32))] [] from rfl) ?_
  refine gLoadAN 1 X0 hx (H d12_0) rfl rfl rfl ?_
  refine gCallVJ X0 hx hZ (y := mn14) hown e0 (by rw [hml]; rfl) E (ow hw 55 rfl) (ow hw 56 rfl) (ow hw 58 rfl) (ow hw 57 rfl) (ow hw 10 rfl) (ow hw 59 rfl) (by decide) (argsL := []) (st := []) (c_isLatin1 l Z a0 hw a h0 hCpt C) (lenOf pd_3 rfl) (H d12_1) (pc' := 4) rfl rfl rfl rfl (by decide) (W := 0) (Nat.le_of_eq rfl) (by decide) (by decide) (by decide) ?_
  intro T1 X1 e1
  refine gIfEqT X1 hx (H d12_4) (pc' := 16) (by decide) (by decide) (pn := 7) rfl (fun (c4 : (1 : Int) = (0 : Int)) => ?_) (fun (c4 : ¬ (1 : Int) = (0 : Int)) => ?_)
  · exact absurd c4 (by decide)
  · refine gLoadAN 8 X1 hx (H d12_7) rfl rfl rfl ?_
    refine gGetF X1 hx hZ hown (ow hw 28 rfl) Via.refl e1 V (H d12_8) (pc' := 11) rfl (fun T2 X2 e2 => ?_)
    refine gLoadIN 12 X2 hx (H d12_11) rfl rfl ?_
    refine gCallSJ X2 hx hZ (y := mn21) hown e2 (by rw [hml]; rfl) (ow hw 127 rfl) (ow hw 128 rfl) (ow hw 62 rfl) (ow hw 129 rfl) (by decide) (argsL := [(.ref t), (.int (1 : Int32))]) (st := []) (c_charAt_1_4l l Z a0 hw t ck ch0 ch1 ch2 ch3 h0 hSio A hch0 hch1 hch2 hch3) (lenOf pd_20 rfl) (H d12_12) (pc' := 15) rfl rfl rfl rfl (by decide) (W := 0) (Nat.le_of_eq rfl) (by decide) (by decide) (by decide) ?_
    intro T3 X3 e3
    exact gRetN X3 hx hlk hret (by simp) (H d12_15) (w := ch1) (own_nc (own_c8 hch1)) (by decide) (by decide) (⟨rfl, e3, rfl⟩)
theorem c_charAt_2_4l (l : Launch) (Z : State) (a0 : Array Value) (hw : ∀ d ∈ tables_1, d.before a0 Z = true) (t : Addr) (ck : ClassId) (ch0 ch1 ch2 ch3 : Int32) (h0 : Heap) (hSio : Sio Z h0) (A : sA Z h0 t ck 4 [by8 ch0, by8 ch1, by8 ch2, by8 ch3]) (hch0 : rg ch0) (hch1 : rg ch1) (hch2 : rg ch2) (hch3 : rg ch3) :
    Ctr l Z mn21 jdk_43_method_2_code 2 (some .char) [] ⟨2, 0, 0, 28⟩ #[(.ref t), (.int (2 : Int32))] h0 (Just h0 (.int ch2)) := by
  refine Ctr.of (plainFor_of_name pn_5) ?_
  intro p e s m below meth c s₁ hx H hml hret hown hnm hZ hlk X0 e0
  refine Goes.cast (show entryFrame m _ _ = mkF m 0 #[.val (.ref t), .val (.int (2 : Int32))] [] from rfl) ?_
  refine gLoadIN 1 X0 hx (H d18_0) rfl rfl ?_
  refine gLoadAN 2 X0 hx (H d18_1) rfl rfl rfl ?_
  refine gArrLen X0 hx hZ e0 A (H d18_2) (pc' := 3) rfl ?_
  refine gCallS X0 hx hZ (y := mn12) hown e0 (by rw [hml]; rfl) (ow hw 130 rfl) (ow hw 131 rfl) (ow hw 10 rfl) (ow hw 132 rfl) (by decide) (argsL := [(.int (2 : Int32)), (.int (4 : Int32))]) (st := []) (c_chk l Z a0 hw (2 : Int32) (4 : Int32) h0 (by decide) (by decide) hSio) (lenOf pd_12 rfl) (H d18_3) (pc' := 6) rfl rfl (by decide) (W := 0) (Nat.le_of_eq rfl) (by decide) (by decide) (by decide) ?_
  intro T1 v1 L1 X1 hQ1
  obtain ⟨rfl, eq1, rfl⟩ := hQ1
  rw [List.append_nil] at X1
  refine gLoadAN 7 X1 hx (H d18_6) rfl rfl rfl ?_
  refine gLoadIN 8 X1 hx (H d18_7) rfl rfl ?_
  refine gBaload X1 hx hZ eq1 A (j := (2 : Int32)) (v := (.int (ch2.toInt8.toInt32))) (by decide) (by decide) rfl (H d18_8) (pc' := 9) rfl ?_
  refine gSipush 12 X1 hx (v := (255 : Int32)) (H d18_9) rfl rfl ?_
  refine gIand 13 X1 hx (H d18_12) rfl ?_
  refine gI2c 14 X1 hx (H d18_13) rfl ?_
  rw [own_ch hch2]
  exact gRetN X1 hx hlk hret (by simp) (H d18_14) (w := ch2) (own_nc (own_c8 hch2)) (by decide) (by decide) (⟨rfl, eq1, rfl⟩)
theorem c_charAt_2_4 (l : Launch) (Z : State) (a0 : Array Value) (hw : ∀ d ∈ tables_1, d.before a0 Z = true) (a t : Addr) (ck : ClassId) (ch0 ch1 ch2 ch3 : Int32) (h0 : Heap) (hSio : Sio Z h0) (hCpt : Cpt Z h0) (E : sE Z h0 a) (C : sC Z h0 a) (V : sV Z h0 a t) (A : sA Z h0 t ck 4 [by8 ch0, by8 ch1, by8 ch2, by8 ch3]) (hch0 : rg ch0) (hch1 : rg ch1) (hch2 : rg ch2) (hch3 : rg ch3) :
    Ctr l Z mn10 jdk_42_method_56_code 2 (some .char) [] ⟨3, 0, 0, 41⟩ #[(.ref a), (.int (2 : Int32))] h0 (Just h0 (.int ch2)) := by
  refine Ctr.of (plainFor_of_name pn_4) ?_
  intro p e s m below meth c s₁ hx H hml hret hown hnm hZ hlk X0 e0
  refine Goes.cast (show entryFrame m _ _ = mkF m 0 #[.val (.ref a), .val (.int (2 : Int32))] [] from rfl) ?_
  refine gLoadAN 1 X0 hx (H d12_0) rfl rfl rfl ?_
  refine gCallVJ X0 hx hZ (y := mn14) hown e0 (by rw [hml]; rfl) E (ow hw 55 rfl) (ow hw 56 rfl) (ow hw 58 rfl) (ow hw 57 rfl) (ow hw 10 rfl) (ow hw 59 rfl) (by decide) (argsL := []) (st := []) (c_isLatin1 l Z a0 hw a h0 hCpt C) (lenOf pd_3 rfl) (H d12_1) (pc' := 4) rfl rfl rfl rfl (by decide) (W := 0) (Nat.le_of_eq rfl) (by decide) (by decide) (by decide) ?_
  intro T1 X1 e1
  refine gIfEqT X1 hx (H d12_4) (pc' := 16) (by decide) (by decide) (pn := 7) rfl (fun (c4 : (1 : Int) = (0 : Int)) => ?_) (fun (c4 : ¬ (1 : Int) = (0 : Int)) => ?_)
  · exact absurd c4 (by decide)
  · refine gLoadAN 8 X1 hx (H d12_7) rfl rfl rfl ?_
    refine gGetF X1 hx hZ hown (ow hw 28 rfl) Via.refl e1 V (H d12_8) (pc' := 11) rfl (fun T2 X2 e2 => ?_)
    refine gLoadIN 12 X2 hx (H d12_11) rfl rfl ?_
    refine gCallSJ X2 hx hZ (y := mn21) hown e2 (by rw [hml]; rfl) (ow hw 127 rfl) (ow hw 128 rfl) (ow hw 62 rfl) (ow hw 129 rfl) (by decide) (argsL := [(.ref t), (.int (2 : Int32))]) (st := []) (c_charAt_2_4l l Z a0 hw t ck ch0 ch1 ch2 ch3 h0 hSio A hch0 hch1 hch2 hch3) (lenOf pd_20 rfl) (H d12_12) (pc' := 15) rfl rfl rfl rfl (by decide) (W := 0) (Nat.le_of_eq rfl) (by decide) (by decide) (by decide) ?_
    intro T3 X3 e3
    exact gRetN X3 hx hlk hret (by simp) (H d12_15) (w := ch2) (own_nc (own_c8 hch2)) (by decide) (by decide) (⟨rfl, e3, rfl⟩)
theorem c_charAt_3_4l (l : Launch) (Z : State) (a0 : Array Value) (hw : ∀ d ∈ tables_1, d.before a0 Z = true) (t : Addr) (ck : ClassId) (ch0 ch1 ch2 ch3 : Int32) (h0 : Heap) (hSio : Sio Z h0) (A : sA Z h0 t ck 4 [by8 ch0, by8 ch1, by8 ch2, by8 ch3]) (hch0 : rg ch0) (hch1 : rg ch1) (hch2 : rg ch2) (hch3 : rg ch3) :
    Ctr l Z mn21 jdk_43_method_2_code 2 (some .char) [] ⟨2, 0, 0, 28⟩ #[(.ref t), (.int (3 : Int32))] h0 (Just h0 (.int ch3)) := by
  refine Ctr.of (plainFor_of_name pn_5) ?_
  intro p e s m below meth c s₁ hx H hml hret hown hnm hZ hlk X0 e0
  refine Goes.cast (show entryFrame m _ _ = mkF m 0 #[.val (.ref t), .val (.int (3 : Int32))] [] from rfl) ?_
  refine gLoadIN 1 X0 hx (H d18_0) rfl rfl ?_
  refine gLoadAN 2 X0 hx (H d18_1) rfl rfl rfl ?_
  refine gArrLen X0 hx hZ e0 A (H d18_2) (pc' := 3) rfl ?_
  refine gCallS X0 hx hZ (y := mn12) hown e0 (by rw [hml]; rfl) (ow hw 130 rfl) (ow hw 131 rfl) (ow hw 10 rfl) (ow hw 132 rfl) (by decide) (argsL := [(.int (3 : Int32)), (.int (4 : Int32))]) (st := []) (c_chk l Z a0 hw (3 : Int32) (4 : Int32) h0 (by decide) (by decide) hSio) (lenOf pd_12 rfl) (H d18_3) (pc' := 6) rfl rfl (by decide) (W := 0) (Nat.le_of_eq rfl) (by decide) (by decide) (by decide) ?_
  intro T1 v1 L1 X1 hQ1
  obtain ⟨rfl, eq1, rfl⟩ := hQ1
  rw [List.append_nil] at X1
  refine gLoadAN 7 X1 hx (H d18_6) rfl rfl rfl ?_
  refine gLoadIN 8 X1 hx (H d18_7) rfl rfl ?_
  refine gBaload X1 hx hZ eq1 A (j := (3 : Int32)) (v := (.int (ch3.toInt8.toInt32))) (by decide) (by decide) rfl (H d18_8) (pc' := 9) rfl ?_
  refine gSipush 12 X1 hx (v := (255 : Int32)) (H d18_9) rfl rfl ?_
  refine gIand 13 X1 hx (H d18_12) rfl ?_
  refine gI2c 14 X1 hx (H d18_13) rfl ?_
  rw [own_ch hch3]
  exact gRetN X1 hx hlk hret (by simp) (H d18_14) (w := ch3) (own_nc (own_c8 hch3)) (by decide) (by decide) (⟨rfl, eq1, rfl⟩)
theorem c_charAt_3_4 (l : Launch) (Z : State) (a0 : Array Value) (hw : ∀ d ∈ tables_1, d.before a0 Z = true) (a t : Addr) (ck : ClassId) (ch0 ch1 ch2 ch3 : Int32) (h0 : Heap) (hSio : Sio Z h0) (hCpt : Cpt Z h0) (E : sE Z h0 a) (C : sC Z h0 a) (V : sV Z h0 a t) (A : sA Z h0 t ck 4 [by8 ch0, by8 ch1, by8 ch2, by8 ch3]) (hch0 : rg ch0) (hch1 : rg ch1) (hch2 : rg ch2) (hch3 : rg ch3) :
    Ctr l Z mn10 jdk_42_method_56_code 2 (some .char) [] ⟨3, 0, 0, 41⟩ #[(.ref a), (.int (3 : Int32))] h0 (Just h0 (.int ch3)) := by
  refine Ctr.of (plainFor_of_name pn_4) ?_
  intro p e s m below meth c s₁ hx H hml hret hown hnm hZ hlk X0 e0
  refine Goes.cast (show entryFrame m _ _ = mkF m 0 #[.val (.ref a), .val (.int (3 : Int32))] [] from rfl) ?_
  refine gLoadAN 1 X0 hx (H d12_0) rfl rfl rfl ?_
  refine gCallVJ X0 hx hZ (y := mn14) hown e0 (by rw [hml]; rfl) E (ow hw 55 rfl) (ow hw 56 rfl) (ow hw 58 rfl) (ow hw 57 rfl) (ow hw 10 rfl) (ow hw 59 rfl) (by decide) (argsL := []) (st := []) (c_isLatin1 l Z a0 hw a h0 hCpt C) (lenOf pd_3 rfl) (H d12_1) (pc' := 4) rfl rfl rfl rfl (by decide) (W := 0) (Nat.le_of_eq rfl) (by decide) (by decide) (by decide) ?_
  intro T1 X1 e1
  refine gIfEqT X1 hx (H d12_4) (pc' := 16) (by decide) (by decide) (pn := 7) rfl (fun (c4 : (1 : Int) = (0 : Int)) => ?_) (fun (c4 : ¬ (1 : Int) = (0 : Int)) => ?_)
  · exact absurd c4 (by decide)
  · refine gLoadAN 8 X1 hx (H d12_7) rfl rfl rfl ?_
    refine gGetF X1 hx hZ hown (ow hw 28 rfl) Via.refl e1 V (H d12_8) (pc' := 11) rfl (fun T2 X2 e2 => ?_)
    refine gLoadIN 12 X2 hx (H d12_11) rfl rfl ?_
    refine gCallSJ X2 hx hZ (y := mn21) hown e2 (by rw [hml]; rfl) (ow hw 127 rfl) (ow hw 128 rfl) (ow hw 62 rfl) (ow hw 129 rfl) (by decide) (argsL := [(.ref t), (.int (3 : Int32))]) (st := []) (c_charAt_3_4l l Z a0 hw t ck ch0 ch1 ch2 ch3 h0 hSio A hch0 hch1 hch2 hch3) (lenOf pd_20 rfl) (H d12_12) (pc' := 15) rfl rfl rfl rfl (by decide) (W := 0) (Nat.le_of_eq rfl) (by decide) (by decide) (by decide) ?_
    intro T3 X3 e3
    exact gRetN X3 hx hlk hret (by simp) (H d12_15) (w := ch3) (own_nc (own_c8 hch3)) (by decide) (by decide) (⟨rfl, e3, rfl⟩)
theorem pd_4 : parseMethodDescriptor "(I)C" = some ⟨[.int], some .char⟩ := by decide +kernel
theorem pd_9 : parseMethodDescriptor "(ICCCC)Ljava/lang/String;" = some ⟨[.int, .char, .char, .char, .char], some (.object "java/lang/String")⟩ := by decide +kernel
theorem pd_17 : parseMethodDescriptor "(Ljava/lang/String;)Ljava/lang/String;" = some ⟨[(.object "java/lang/String")], some (.object "java/lang/String")⟩ := by decide +kernel
theorem pd_8 : parseMethodDescriptor "(ICCCC)C" = some ⟨[.int, .char, .char, .char, .char], some .char⟩ := by decide +kernel
theorem c_law (l : Launch) (Z : State) (a0 : Array Value) (hw : ∀ d ∈ tables_1, d.before a0 Z = true) (p0 p1 p2 p3 p4 : Int32) (h0 : Heap) (hEL : EW Z a0 [("java/lang/String", 7), ("java/lang/StringLatin1", 151)]) (hCpt : Cpt Z h0) (hSio : Sio Z h0) :
    CtrH l Z [("java/lang/String", 7), ("java/lang/StringLatin1", 151)] [] x code maxLocals ret tables_1 room_1 #[(.int p0), (.int p1), (.int p2), (.int p3), (.int p4)] h0 (Law1 h0) := by
  refine CtrH.of (plainFor_of_name pn_1) ?_
  intro p e s m below meth c s₁ hx H hml hret hown hnm hZ hlk X0 e0 hS H0 hSafe
  replace hml : c.maxLocals = 15 := hml
  refine Goes.cast (show entryFrame m _ _ = mkF m 0 #[.val (.int p0), .val (.int p1), .val (.int p2), .val (.int p3), .val (.int p4), .unset, .unset, .unset, .unset, .unset, .unset, .unset, .unset, .unset, .unset] [] from rfl) ?_
  refine gLoadIN 1 X0 hx (H at_0) rfl rfl ?_
  refine gLdc 3 X0 hx hZ hown (ow hw 0 rfl) (H at_1) rfl ?_
  refine gIand 4 X0 hx (H at_3) rfl ?_
  refine gIconst 5 X0 hx (v := (5 : Int32)) (H at_4) rfl rfl ?_
  refine gIrem 6 X0 hx (H at_5) (by decide) rfl ?_
  rcases own_rem p0 with hk | hk | hk | hk | hk <;> rw [hk]
  · refine gStoreI 8 X0 hx (H at_6) (l' := #[.val (.int p0), .val (.int p1), .val (.int p2), .val (.int p3), .val (.int p4), .val (.int (0 : Int32)), .unset, .unset, .unset, .unset, .unset, .unset, .unset, .unset, .unset]) rfl rfl ?_
    refine gLoadIN 9 X0 hx (H at_8) rfl rfl ?_
    refine gCallS X0 hx hZ (y := mn1) hown e0 (by rw [hml]; rfl) (ow hw 1 rfl) (ow hw 2 rfl) (ow hw 3 rfl) (ow hw 4 rfl) (by decide) (argsL := [(.int p1)]) (st := []) (c_ch l Z a0 hw p1 h0) (lenOf pd_4 rfl) (H at_9) (pc' := 12) rfl rfl (by decide) (W := 0) (Nat.le_of_eq rfl) (by decide) (by decide) (by decide) ?_
    intro T1 v1 L1 X1 hQ1
    obtain ⟨ch0, rfl, hch0, eq1, rfl⟩ := hQ1
    rw [List.append_nil] at X1
    refine gStoreI 14 X1 hx (H at_12) (l' := #[.val (.int p0), .val (.int p1), .val (.int p2), .val (.int p3), .val (.int p4), .val (.int (0 : Int32)), .val (.int ch0), .unset, .unset, .unset, .unset, .unset, .unset, .unset, .unset]) rfl rfl ?_
    refine gLoadIN 15 X1 hx (H at_14) rfl rfl ?_
    refine gCallS X1 hx hZ (y := mn1) hown eq1 (by rw [hml]; rfl) (ow hw 1 rfl) (ow hw 2 rfl) (ow hw 3 rfl) (ow hw 4 rfl) (by decide) (argsL := [(.int p2)]) (st := []) (c_ch l Z a0 hw p2 h0) (lenOf pd_4 rfl) (H at_15) (pc' := 18) rfl rfl (by decide) (W := 0) (Nat.le_of_eq rfl) (by decide) (by decide) (by decide) ?_
    intro T2 v2 L2 X2 hQ2
    obtain ⟨ch1, rfl, hch1, eq2, rfl⟩ := hQ2
    rw [List.append_nil] at X2
    refine gStoreI 20 X2 hx (H at_18) (l' := #[.val (.int p0), .val (.int p1), .val (.int p2), .val (.int p3), .val (.int p4), .val (.int (0 : Int32)), .val (.int ch0), .val (.int ch1), .unset, .unset, .unset, .unset, .unset, .unset, .unset]) rfl rfl ?_
    refine gLoadIN 21 X2 hx (H at_20) rfl rfl ?_
    refine gCallS X2 hx hZ (y := mn1) hown eq2 (by rw [hml]; rfl) (ow hw 1 rfl) (ow hw 2 rfl) (ow hw 3 rfl) (ow hw 4 rfl) (by decide) (argsL := [(.int p3)]) (st := []) (c_ch l Z a0 hw p3 h0) (lenOf pd_4 rfl) (H at_21) (pc' := 24) rfl rfl (by decide) (W := 0) (Nat.le_of_eq rfl) (by decide) (by decide) (by decide) ?_
    intro T3 v3 L3 X3 hQ3
    obtain ⟨ch2, rfl, hch2, eq3, rfl⟩ := hQ3
    rw [List.append_nil] at X3
    refine gStoreI 26 X3 hx (H at_24) (l' := #[.val (.int p0), .val (.int p1), .val (.int p2), .val (.int p3), .val (.int p4), .val (.int (0 : Int32)), .val (.int ch0), .val (.int ch1), .val (.int ch2), .unset, .unset, .unset, .unset, .unset, .unset]) rfl rfl ?_
    refine gLoadI 28 X3 hx (H at_26) rfl rfl ?_
    refine gCallS X3 hx hZ (y := mn1) hown eq3 (by rw [hml]; rfl) (ow hw 1 rfl) (ow hw 2 rfl) (ow hw 3 rfl) (ow hw 4 rfl) (by decide) (argsL := [(.int p4)]) (st := []) (c_ch l Z a0 hw p4 h0) (lenOf pd_4 rfl) (H at_28) (pc' := 31) rfl rfl (by decide) (W := 0) (Nat.le_of_eq rfl) (by decide) (by decide) (by decide) ?_
    intro T4 v4 L4 X4 hQ4
    obtain ⟨ch3, rfl, hch3, eq4, rfl⟩ := hQ4
    rw [List.append_nil] at X4
    refine gStoreI 33 X4 hx (H at_31) (l' := #[.val (.int p0), .val (.int p1), .val (.int p2), .val (.int p3), .val (.int p4), .val (.int (0 : Int32)), .val (.int ch0), .val (.int ch1), .val (.int ch2), .val (.int ch3), .unset, .unset, .unset, .unset, .unset]) rfl rfl ?_
    refine gLoadI 35 X4 hx (H at_33) rfl rfl ?_
    refine gLoadI 37 X4 hx (H at_35) rfl rfl ?_
    refine gLoadI 39 X4 hx (H at_37) rfl rfl ?_
    refine gLoadI 41 X4 hx (H at_39) rfl rfl ?_
    refine gLoadI 43 X4 hx (H at_41) rfl rfl ?_
    refine gCallSH X4 hx hZ (y := mn3) hown eq4 (by rw [hml]; rfl) hS (Nat.zero_le _) hEL H0 (ow hw 5 rfl) (ow hw 6 rfl) (ow hw 3 rfl) (ow hw 7 rfl) (by decide) sl0 (argsL := [(.int (0 : Int32)), (.int ch0), (.int ch1), (.int ch2), (.int ch3)]) (st := []) (c_mk_0 l Z a0 hw ch0 ch1 ch2 ch3 h0 hEL hCpt hch0 hch1 hch2 hch3) (lenOf pd_9 rfl) (H at_43) (pc' := 46) rfl rfl (by decide) (W := 0) (Nat.le_of_eq rfl) (by decide) (by decide) (by decide) ?_
    intro T5 v5 L5 X5 hS hZ hown C5 H5 hQ5
    obtain ⟨r5, t5, ct5, rfl, Nq5, Kq5, Eq5, Cq5, Vq5, Aq5⟩ := hQ5
    have N5 := Fr.app (Fr.nil h0.size) (fun y hy => Nat.le_trans (Nat.le_refl _) (Nq5 y hy))
    have f5_0 := own_cpt_keep hCpt Kq5 ns0
    have f5_1 := own_sio_keep hSio Kq5 ns0
    have zs5 := Nat.le_trans (Nat.le_refl _) Kq5.1
    refine gStoreA 48 X5 hx (H at_46) (l' := #[.val (.int p0), .val (.int p1), .val (.int p2), .val (.int p3), .val (.int p4), .val (.int (0 : Int32)), .val (.int ch0), .val (.int ch1), .val (.int ch2), .val (.int ch3), .val (.ref r5), .unset, .unset, .unset, .unset]) rfl rfl rfl ?_
    refine gLoadA 50 X5 hx (H at_48) rfl rfl rfl ?_
    refine gCallSJ X5 hx hZ (y := mn0) hown rfl (by rw [hml]; rfl) (ow hw 30 rfl) (ow hw 31 rfl) (ow hw 32 rfl) (ow hw 33 rfl) (by decide) (argsL := [(.ref r5)]) (st := []) (c_nm_0_m l Z a0 hw r5 t5 ct5  T5.heap f5_1 f5_0 Eq5 Cq5 Vq5 Aq5  ) (lenOf pd_17 rfl) (H at_50) (pc' := 53) rfl rfl rfl rfl (by decide) (W := 0) (Nat.le_of_eq rfl) (by decide) (by decide) (by decide) ?_
    intro T6 X6 e6
    refine gStoreA 55 X6 hx (H at_53) (l' := #[.val (.int p0), .val (.int p1), .val (.int p2), .val (.int p3), .val (.int p4), .val (.int (0 : Int32)), .val (.int ch0), .val (.int ch1), .val (.int ch2), .val (.int ch3), .val (.ref r5), .val (.ref r5), .unset, .unset, .unset]) rfl rfl rfl ?_
    refine gIconst 56 X6 hx (v := (-1 : Int32)) (H at_55) rfl rfl ?_
    refine gStoreI 58 X6 hx (H at_56) (l' := #[.val (.int p0), .val (.int p1), .val (.int p2), .val (.int p3), .val (.int p4), .val (.int (0 : Int32)), .val (.int ch0), .val (.int ch1), .val (.int ch2), .val (.int ch3), .val (.ref r5), .val (.ref r5), .val (.int (-1 : Int32)), .unset, .unset]) rfl rfl ?_
    refine gLoadI 60 X6 hx (H at_58) rfl rfl ?_
    refine gIfLe X6 hx (H at_60) (pc' := 73) (by decide) (by decide) (pn := 63) rfl (fun (c60 : (0 : Int) ≤ (0 : Int)) => ?_) (fun (c60 : (0 : Int) < (0 : Int)) => ?_)
    · refine gLoadI 75 X6 hx (H at_73) rfl rfl ?_
      refine gIconst 76 X6 hx (v := (1 : Int32)) (H at_75) rfl rfl ?_
      refine gIcmpLe X6 hx (H at_76) (pc' := 89) (by decide) (by decide) (pn := 79) rfl (fun (c76 : (0 : Int) ≤ (1 : Int)) => ?_) (fun (c76 : (1 : Int) < (0 : Int)) => ?_)
      · refine gLoadI 91 X6 hx (H at_89) rfl rfl ?_
        refine gIconst 92 X6 hx (v := (2 : Int32)) (H at_91) rfl rfl ?_
        refine gIcmpLe X6 hx (H at_92) (pc' := 105) (by decide) (by decide) (pn := 95) rfl (fun (c92 : (0 : Int) ≤ (2 : Int)) => ?_) (fun (c92 : (2 : Int) < (0 : Int)) => ?_)
        · refine gLoadI 107 X6 hx (H at_105) rfl rfl ?_
          refine gIconst 108 X6 hx (v := (3 : Int32)) (H at_107) rfl rfl ?_
          refine gIcmpLe X6 hx (H at_108) (pc' := 121) (by decide) (by decide) (pn := 111) rfl (fun (c108 : (0 : Int) ≤ (3 : Int)) => ?_) (fun (c108 : (3 : Int) < (0 : Int)) => ?_)
          · refine gLoadI 123 X6 hx (H at_121) rfl rfl ?_
            refine gLoadI 125 X6 hx (H at_123) rfl rfl ?_
            refine gIsub 126 X6 hx (H at_125) rfl ?_
            show Goes p e below _ T6 (mkF m 126 #[.val (.int p0), .val (.int p1), .val (.int p2), .val (.int p3), .val (.int p4), .val (.int (0 : Int32)), .val (.int ch0), .val (.int ch1), .val (.int ch2), .val (.int ch3), .val (.ref r5), .val (.ref r5), .val (.int (-1 : Int32)), .unset, .unset] [(.int (1 : Int32))])
            refine gIconst 127 X6 hx (v := (1 : Int32)) (H at_126) rfl rfl ?_
            refine gIsub 128 X6 hx (H at_127) rfl ?_
            show Goes p e below _ T6 (mkF m 128 #[.val (.int p0), .val (.int p1), .val (.int p2), .val (.int p3), .val (.int p4), .val (.int (0 : Int32)), .val (.int ch0), .val (.int ch1), .val (.int ch2), .val (.int ch3), .val (.ref r5), .val (.ref r5), .val (.int (-1 : Int32)), .unset, .unset] [(.int (0 : Int32))])
            refine gStoreI 130 X6 hx (H at_128) (l' := #[.val (.int p0), .val (.int p1), .val (.int p2), .val (.int p3), .val (.int p4), .val (.int (0 : Int32)), .val (.int ch0), .val (.int ch1), .val (.int ch2), .val (.int ch3), .val (.ref r5), .val (.ref r5), .val (.int (-1 : Int32)), .val (.int (0 : Int32)), .unset]) rfl rfl ?_
            refine gLoadA 132 X6 hx (H at_130) rfl rfl rfl ?_
            refine gCallVJ X6 hx hZ (y := mn17) hown e6 (by rw [hml]; rfl) Eq5 (ow hw 89 rfl) (ow hw 40 rfl) (ow hw 42 rfl) (ow hw 41 rfl) (ow hw 10 rfl) (ow hw 43 rfl) (by decide) (argsL := []) (st := []) (c_length_0 l Z a0 hw r5 t5 ct5  T5.heap f5_0 Eq5 Cq5 Vq5 Aq5 ) (lenOf pd_1 rfl) (H at_132) (pc' := 135) rfl rfl rfl rfl (by decide) (W := 0) (Nat.le_of_eq rfl) (by decide) (by decide) (by decide) ?_
            intro T7 X7 e7
            refine gLoadI 137 X7 hx (H at_135) rfl rfl ?_
            refine gIcmpEqT X7 hx (H at_137) (pc' := 142) (by decide) (by decide) (pn := 140) rfl (fun (c137 : (0 : Int) = (0 : Int)) => ?_) (fun (c137 : ¬ (0 : Int) = (0 : Int)) => ?_)
            · refine gIconst 143 X7 hx (v := (1 : Int32)) (H at_142) rfl rfl ?_
              refine gStoreI 145 X7 hx (H at_143) (l' := #[.val (.int p0), .val (.int p1), .val (.int p2), .val (.int p3), .val (.int p4), .val (.int (0 : Int32)), .val (.int ch0), .val (.int ch1), .val (.int ch2), .val (.int ch3), .val (.ref r5), .val (.ref r5), .val (.int (-1 : Int32)), .val (.int (0 : Int32)), .val (.int (1 : Int32))]) rfl rfl ?_
              refine gLoadI 147 X7 hx (H at_145) rfl rfl ?_
              refine gIfLe X7 hx (H at_147) (pc' := 177) (by decide) (by decide) (pn := 150) rfl (fun (c147 : (0 : Int) ≤ (0 : Int)) => ?_) (fun (c147 : (0 : Int) < (0 : Int)) => ?_)
              · refine gLoadI 179 X7 hx (H at_177) rfl rfl ?_
                refine gIconst 180 X7 hx (v := (1 : Int32)) (H at_179) rfl rfl ?_
                refine gIcmpLe X7 hx (H at_180) (pc' := 210) (by decide) (by decide) (pn := 183) rfl (fun (c180 : (0 : Int) ≤ (1 : Int)) => ?_) (fun (c180 : (1 : Int) < (0 : Int)) => ?_)
                · refine gLoadI 212 X7 hx (H at_210) rfl rfl ?_
                  refine gIconst 213 X7 hx (v := (2 : Int32)) (H at_212) rfl rfl ?_
                  refine gIcmpLe X7 hx (H at_213) (pc' := 243) (by decide) (by decide) (pn := 216) rfl (fun (c213 : (0 : Int) ≤ (2 : Int)) => ?_) (fun (c213 : (2 : Int) < (0 : Int)) => ?_)
                  · refine gLoadI 245 X7 hx (H at_243) rfl rfl ?_
                    refine gIconst 246 X7 hx (v := (3 : Int32)) (H at_245) rfl rfl ?_
                    refine gIcmpLe X7 hx (H at_246) (pc' := 276) (by decide) (by decide) (pn := 249) rfl (fun (c246 : (0 : Int) ≤ (3 : Int)) => ?_) (fun (c246 : (3 : Int) < (0 : Int)) => ?_)
                    · refine gLoadI 278 X7 hx (H at_276) rfl rfl ?_
                      exact gRetHN X7 hx hlk hret (by simp) (H at_278) (w := (1 : Int32)) rfl e7 hS (Nat.le_refl _) hZ hEL H5 (by decide) (by decide) (⟨rfl, N5⟩)
                    · exact absurd c246 (by decide)
                  · exact absurd c213 (by decide)
                · exact absurd c180 (by decide)
              · exact absurd c147 (by decide)
            · exact absurd c137 (by decide)
          · exact absurd c108 (by decide)
        · exact absurd c92 (by decide)
      · exact absurd c76 (by decide)
    · exact absurd c60 (by decide)
  · refine gStoreI 8 X0 hx (H at_6) (l' := #[.val (.int p0), .val (.int p1), .val (.int p2), .val (.int p3), .val (.int p4), .val (.int (1 : Int32)), .unset, .unset, .unset, .unset, .unset, .unset, .unset, .unset, .unset]) rfl rfl ?_
    refine gLoadIN 9 X0 hx (H at_8) rfl rfl ?_
    refine gCallS X0 hx hZ (y := mn1) hown e0 (by rw [hml]; rfl) (ow hw 1 rfl) (ow hw 2 rfl) (ow hw 3 rfl) (ow hw 4 rfl) (by decide) (argsL := [(.int p1)]) (st := []) (c_ch l Z a0 hw p1 h0) (lenOf pd_4 rfl) (H at_9) (pc' := 12) rfl rfl (by decide) (W := 0) (Nat.le_of_eq rfl) (by decide) (by decide) (by decide) ?_
    intro T8 v8 L8 X8 hQ8
    obtain ⟨ch0, rfl, hch0, eq8, rfl⟩ := hQ8
    rw [List.append_nil] at X8
    refine gStoreI 14 X8 hx (H at_12) (l' := #[.val (.int p0), .val (.int p1), .val (.int p2), .val (.int p3), .val (.int p4), .val (.int (1 : Int32)), .val (.int ch0), .unset, .unset, .unset, .unset, .unset, .unset, .unset, .unset]) rfl rfl ?_
    refine gLoadIN 15 X8 hx (H at_14) rfl rfl ?_
    refine gCallS X8 hx hZ (y := mn1) hown eq8 (by rw [hml]; rfl) (ow hw 1 rfl) (ow hw 2 rfl) (ow hw 3 rfl) (ow hw 4 rfl) (by decide) (argsL := [(.int p2)]) (st := []) (c_ch l Z a0 hw p2 h0) (lenOf pd_4 rfl) (H at_15) (pc' := 18) rfl rfl (by decide) (W := 0) (Nat.le_of_eq rfl) (by decide) (by decide) (by decide) ?_
    intro T9 v9 L9 X9 hQ9
    obtain ⟨ch1, rfl, hch1, eq9, rfl⟩ := hQ9
    rw [List.append_nil] at X9
    refine gStoreI 20 X9 hx (H at_18) (l' := #[.val (.int p0), .val (.int p1), .val (.int p2), .val (.int p3), .val (.int p4), .val (.int (1 : Int32)), .val (.int ch0), .val (.int ch1), .unset, .unset, .unset, .unset, .unset, .unset, .unset]) rfl rfl ?_
    refine gLoadIN 21 X9 hx (H at_20) rfl rfl ?_
    refine gCallS X9 hx hZ (y := mn1) hown eq9 (by rw [hml]; rfl) (ow hw 1 rfl) (ow hw 2 rfl) (ow hw 3 rfl) (ow hw 4 rfl) (by decide) (argsL := [(.int p3)]) (st := []) (c_ch l Z a0 hw p3 h0) (lenOf pd_4 rfl) (H at_21) (pc' := 24) rfl rfl (by decide) (W := 0) (Nat.le_of_eq rfl) (by decide) (by decide) (by decide) ?_
    intro T10 v10 L10 X10 hQ10
    obtain ⟨ch2, rfl, hch2, eq10, rfl⟩ := hQ10
    rw [List.append_nil] at X10
    refine gStoreI 26 X10 hx (H at_24) (l' := #[.val (.int p0), .val (.int p1), .val (.int p2), .val (.int p3), .val (.int p4), .val (.int (1 : Int32)), .val (.int ch0), .val (.int ch1), .val (.int ch2), .unset, .unset, .unset, .unset, .unset, .unset]) rfl rfl ?_
    refine gLoadI 28 X10 hx (H at_26) rfl rfl ?_
    refine gCallS X10 hx hZ (y := mn1) hown eq10 (by rw [hml]; rfl) (ow hw 1 rfl) (ow hw 2 rfl) (ow hw 3 rfl) (ow hw 4 rfl) (by decide) (argsL := [(.int p4)]) (st := []) (c_ch l Z a0 hw p4 h0) (lenOf pd_4 rfl) (H at_28) (pc' := 31) rfl rfl (by decide) (W := 0) (Nat.le_of_eq rfl) (by decide) (by decide) (by decide) ?_
    intro T11 v11 L11 X11 hQ11
    obtain ⟨ch3, rfl, hch3, eq11, rfl⟩ := hQ11
    rw [List.append_nil] at X11
    refine gStoreI 33 X11 hx (H at_31) (l' := #[.val (.int p0), .val (.int p1), .val (.int p2), .val (.int p3), .val (.int p4), .val (.int (1 : Int32)), .val (.int ch0), .val (.int ch1), .val (.int ch2), .val (.int ch3), .unset, .unset, .unset, .unset, .unset]) rfl rfl ?_
    refine gLoadI 35 X11 hx (H at_33) rfl rfl ?_
    refine gLoadI 37 X11 hx (H at_35) rfl rfl ?_
    refine gLoadI 39 X11 hx (H at_37) rfl rfl ?_
    refine gLoadI 41 X11 hx (H at_39) rfl rfl ?_
    refine gLoadI 43 X11 hx (H at_41) rfl rfl ?_
    refine gCallS X11 hx hZ (y := mn3) hown eq11 (by rw [hml]; rfl) (ow hw 5 rfl) (ow hw 6 rfl) (ow hw 3 rfl) (ow hw 7 rfl) (by decide) (argsL := [(.int (1 : Int32)), (.int ch0), (.int ch1), (.int ch2), (.int ch3)]) (st := []) (c_mk_1 l Z a0 hw ch0 ch1 ch2 ch3 h0 hCpt hch0 hch1 hch2 hch3) (lenOf pd_9 rfl) (H at_43) (pc' := 46) rfl rfl (by decide) (W := 0) (Nat.le_of_eq rfl) (by decide) (by decide) (by decide) ?_
    intro T12 v12 L12 X12 hQ12
    obtain ⟨r12, t12, ct12, rfl, Nq12, Kq12, Eq12, Cq12, Vq12, Aq12⟩ := hQ12
    have N12 := Fr.app (Fr.nil h0.size) (fun y hy => Nat.le_trans (Nat.le_refl _) (Nq12 y hy))
    have H12 := H0.trans (CHr.keep Kq12 sf0 H0.1)
    have hk12 := Nat.le_trans (Nat.zero_le _) Kq12.1
    have f12_0 := own_cpt_keep hCpt Kq12 ns0
    have f12_1 := own_sio_keep hSio Kq12 ns0
    have zs12 := Nat.le_trans (Nat.le_refl _) Kq12.1
    refine gStoreA 48 X12 hx (H at_46) (l' := #[.val (.int p0), .val (.int p1), .val (.int p2), .val (.int p3), .val (.int p4), .val (.int (1 : Int32)), .val (.int ch0), .val (.int ch1), .val (.int ch2), .val (.int ch3), .val (.ref r12), .unset, .unset, .unset, .unset]) rfl rfl rfl ?_
    by_cases d0 : ch0.toInt = 47
    · refine gLoadA 50 X12 hx (H at_48) rfl rfl rfl ?_
      refine gCallSH X12 hx hZ (y := mn0) hown rfl (by rw [hml]; rfl) hS hk12 hEL H12 (ow hw 30 rfl) (ow hw 31 rfl) (ow hw 32 rfl) (ow hw 33 rfl) (by decide) sl0 (argsL := [(.ref r12)]) (st := []) (c_nm_1_0 l Z a0 hw r12 t12 ct12 ch0 T12.heap hEL f12_1 f12_0 Eq12 Cq12 Vq12 Aq12 hch0  d0) (lenOf pd_17 rfl) (H at_50) (pc' := 53) rfl rfl (by decide) (W := 0) (Nat.le_of_eq rfl) (by decide) (by decide) (by decide) ?_
      intro T13 v13 L13 X13 hS hZ hown C13 H13 hQ13
      obtain ⟨r13, t13, ct13, rfl, Nq13, Kq13, Eq13, Cq13, Vq13, Aq13⟩ := hQ13
      have N13 := Fr.app N12 (fun y hy => Nat.le_trans zs12 (Nq13 y hy))
      have f13_0 := own_cpt_keep f12_0 Kq13 ns0
      have f13_1 := own_sio_keep f12_1 Kq13 ns0
      have f13_2 := Eq12.keep Kq13
      have f13_3 := Cq12.keep Kq13 nin0
      have f13_4 := Vq12.keep Kq13 nin0
      have f13_5 := Aq12.keep Kq13 nin0
      have zs13 := Nat.le_trans zs12 Kq13.1
      refine gStoreA 55 X13 hx (H at_53) (l' := #[.val (.int p0), .val (.int p1), .val (.int p2), .val (.int p3), .val (.int p4), .val (.int (1 : Int32)), .val (.int ch0), .val (.int ch1), .val (.int ch2), .val (.int ch3), .val (.ref r12), .val (.ref r13), .unset, .unset, .unset]) rfl rfl rfl ?_
      refine gIconst 56 X13 hx (v := (-1 : Int32)) (H at_55) rfl rfl ?_
      refine gStoreI 58 X13 hx (H at_56) (l' := #[.val (.int p0), .val (.int p1), .val (.int p2), .val (.int p3), .val (.int p4), .val (.int (1 : Int32)), .val (.int ch0), .val (.int ch1), .val (.int ch2), .val (.int ch3), .val (.ref r12), .val (.ref r13), .val (.int (-1 : Int32)), .unset, .unset]) rfl rfl ?_
      refine gLoadI 60 X13 hx (H at_58) rfl rfl ?_
      refine gIfLe X13 hx (H at_60) (pc' := 73) (by decide) (by decide) (pn := 63) rfl (fun (c60 : (1 : Int) ≤ (0 : Int)) => ?_) (fun (c60 : (0 : Int) < (1 : Int)) => ?_)
      · exact absurd c60 (by decide)
      · refine gLoadI 65 X13 hx (H at_63) rfl rfl ?_
        refine gBipush 67 X13 hx (v := (47 : Int32)) (H at_65) rfl rfl ?_
        refine gIcmpNeT X13 hx (H at_67) (pc' := 73) (by decide) (by decide) (pn := 70) rfl (fun (c67 : ¬ ch0.toInt = (47 : Int)) => ?_) (fun (c67 : ch0.toInt = (47 : Int)) => ?_)
        · exact absurd d0 c67
        · refine gIconst 71 X13 hx (v := (0 : Int32)) (H at_70) rfl rfl ?_
          refine gStoreI 73 X13 hx (H at_71) (l' := #[.val (.int p0), .val (.int p1), .val (.int p2), .val (.int p3), .val (.int p4), .val (.int (1 : Int32)), .val (.int ch0), .val (.int ch1), .val (.int ch2), .val (.int ch3), .val (.ref r12), .val (.ref r13), .val (.int (0 : Int32)), .unset, .unset]) rfl rfl ?_
          refine gLoadI 75 X13 hx (H at_73) rfl rfl ?_
          refine gIconst 76 X13 hx (v := (1 : Int32)) (H at_75) rfl rfl ?_
          refine gIcmpLe X13 hx (H at_76) (pc' := 89) (by decide) (by decide) (pn := 79) rfl (fun (c76 : (1 : Int) ≤ (1 : Int)) => ?_) (fun (c76 : (1 : Int) < (1 : Int)) => ?_)
          · refine gLoadI 91 X13 hx (H at_89) rfl rfl ?_
            refine gIconst 92 X13 hx (v := (2 : Int32)) (H at_91) rfl rfl ?_
            refine gIcmpLe X13 hx (H at_92) (pc' := 105) (by decide) (by decide) (pn := 95) rfl (fun (c92 : (1 : Int) ≤ (2 : Int)) => ?_) (fun (c92 : (2 : Int) < (1 : Int)) => ?_)
            · refine gLoadI 107 X13 hx (H at_105) rfl rfl ?_
              refine gIconst 108 X13 hx (v := (3 : Int32)) (H at_107) rfl rfl ?_
              refine gIcmpLe X13 hx (H at_108) (pc' := 121) (by decide) (by decide) (pn := 111) rfl (fun (c108 : (1 : Int) ≤ (3 : Int)) => ?_) (fun (c108 : (3 : Int) < (1 : Int)) => ?_)
              · refine gLoadI 123 X13 hx (H at_121) rfl rfl ?_
                refine gLoadI 125 X13 hx (H at_123) rfl rfl ?_
                refine gIsub 126 X13 hx (H at_125) rfl ?_
                show Goes p e below _ T13 (mkF m 126 #[.val (.int p0), .val (.int p1), .val (.int p2), .val (.int p3), .val (.int p4), .val (.int (1 : Int32)), .val (.int ch0), .val (.int ch1), .val (.int ch2), .val (.int ch3), .val (.ref r12), .val (.ref r13), .val (.int (0 : Int32)), .unset, .unset] [(.int (1 : Int32))])
                refine gIconst 127 X13 hx (v := (1 : Int32)) (H at_126) rfl rfl ?_
                refine gIsub 128 X13 hx (H at_127) rfl ?_
                show Goes p e below _ T13 (mkF m 128 #[.val (.int p0), .val (.int p1), .val (.int p2), .val (.int p3), .val (.int p4), .val (.int (1 : Int32)), .val (.int ch0), .val (.int ch1), .val (.int ch2), .val (.int ch3), .val (.ref r12), .val (.ref r13), .val (.int (0 : Int32)), .unset, .unset] [(.int (0 : Int32))])
                refine gStoreI 130 X13 hx (H at_128) (l' := #[.val (.int p0), .val (.int p1), .val (.int p2), .val (.int p3), .val (.int p4), .val (.int (1 : Int32)), .val (.int ch0), .val (.int ch1), .val (.int ch2), .val (.int ch3), .val (.ref r12), .val (.ref r13), .val (.int (0 : Int32)), .val (.int (0 : Int32)), .unset]) rfl rfl ?_
                refine gLoadA 132 X13 hx (H at_130) rfl rfl rfl ?_
                refine gCallVJ X13 hx hZ (y := mn17) hown rfl (by rw [hml]; rfl) Eq13 (ow hw 89 rfl) (ow hw 40 rfl) (ow hw 42 rfl) (ow hw 41 rfl) (ow hw 10 rfl) (ow hw 43 rfl) (by decide) (argsL := []) (st := []) (c_length_0 l Z a0 hw r13 t13 ct13  T13.heap f13_0 Eq13 Cq13 Vq13 Aq13 ) (lenOf pd_1 rfl) (H at_132) (pc' := 135) rfl rfl rfl rfl (by decide) (W := 0) (Nat.le_of_eq rfl) (by decide) (by decide) (by decide) ?_
                intro T14 X14 e14
                refine gLoadI 137 X14 hx (H at_135) rfl rfl ?_
                refine gIcmpEqT X14 hx (H at_137) (pc' := 142) (by decide) (by decide) (pn := 140) rfl (fun (c137 : (0 : Int) = (0 : Int)) => ?_) (fun (c137 : ¬ (0 : Int) = (0 : Int)) => ?_)
                · refine gIconst 143 X14 hx (v := (1 : Int32)) (H at_142) rfl rfl ?_
                  refine gStoreI 145 X14 hx (H at_143) (l' := #[.val (.int p0), .val (.int p1), .val (.int p2), .val (.int p3), .val (.int p4), .val (.int (1 : Int32)), .val (.int ch0), .val (.int ch1), .val (.int ch2), .val (.int ch3), .val (.ref r12), .val (.ref r13), .val (.int (0 : Int32)), .val (.int (0 : Int32)), .val (.int (1 : Int32))]) rfl rfl ?_
                  refine gLoadI 147 X14 hx (H at_145) rfl rfl ?_
                  refine gIfLe X14 hx (H at_147) (pc' := 177) (by decide) (by decide) (pn := 150) rfl (fun (c147 : (0 : Int) ≤ (0 : Int)) => ?_) (fun (c147 : (0 : Int) < (0 : Int)) => ?_)
                  · refine gLoadI 179 X14 hx (H at_177) rfl rfl ?_
                    refine gIconst 180 X14 hx (v := (1 : Int32)) (H at_179) rfl rfl ?_
                    refine gIcmpLe X14 hx (H at_180) (pc' := 210) (by decide) (by decide) (pn := 183) rfl (fun (c180 : (0 : Int) ≤ (1 : Int)) => ?_) (fun (c180 : (1 : Int) < (0 : Int)) => ?_)
                    · refine gLoadI 212 X14 hx (H at_210) rfl rfl ?_
                      refine gIconst 213 X14 hx (v := (2 : Int32)) (H at_212) rfl rfl ?_
                      refine gIcmpLe X14 hx (H at_213) (pc' := 243) (by decide) (by decide) (pn := 216) rfl (fun (c213 : (0 : Int) ≤ (2 : Int)) => ?_) (fun (c213 : (2 : Int) < (0 : Int)) => ?_)
                      · refine gLoadI 245 X14 hx (H at_243) rfl rfl ?_
                        refine gIconst 246 X14 hx (v := (3 : Int32)) (H at_245) rfl rfl ?_
                        refine gIcmpLe X14 hx (H at_246) (pc' := 276) (by decide) (by decide) (pn := 249) rfl (fun (c246 : (0 : Int) ≤ (3 : Int)) => ?_) (fun (c246 : (3 : Int) < (0 : Int)) => ?_)
                        · refine gLoadI 278 X14 hx (H at_276) rfl rfl ?_
                          exact gRetHN X14 hx hlk hret (by simp) (H at_278) (w := (1 : Int32)) rfl e14 hS (Nat.le_refl _) hZ hEL H13 (by decide) (by decide) (⟨rfl, N13⟩)
                        · exact absurd c246 (by decide)
                      · exact absurd c213 (by decide)
                    · exact absurd c180 (by decide)
                  · exact absurd c147 (by decide)
                · exact absurd c137 (by decide)
              · exact absurd c108 (by decide)
            · exact absurd c92 (by decide)
          · exact absurd c76 (by decide)
    · refine gLoadA 50 X12 hx (H at_48) rfl rfl rfl ?_
      refine gCallSJ X12 hx hZ (y := mn0) hown rfl (by rw [hml]; rfl) (ow hw 30 rfl) (ow hw 31 rfl) (ow hw 32 rfl) (ow hw 33 rfl) (by decide) (argsL := [(.ref r12)]) (st := []) (c_nm_1_m l Z a0 hw r12 t12 ct12 ch0 T12.heap f12_1 f12_0 Eq12 Cq12 Vq12 Aq12 hch0 d0) (lenOf pd_17 rfl) (H at_50) (pc' := 53) rfl rfl rfl rfl (by decide) (W := 0) (Nat.le_of_eq rfl) (by decide) (by decide) (by decide) ?_
      intro T15 X15 e15
      refine gStoreA 55 X15 hx (H at_53) (l' := #[.val (.int p0), .val (.int p1), .val (.int p2), .val (.int p3), .val (.int p4), .val (.int (1 : Int32)), .val (.int ch0), .val (.int ch1), .val (.int ch2), .val (.int ch3), .val (.ref r12), .val (.ref r12), .unset, .unset, .unset]) rfl rfl rfl ?_
      refine gIconst 56 X15 hx (v := (-1 : Int32)) (H at_55) rfl rfl ?_
      refine gStoreI 58 X15 hx (H at_56) (l' := #[.val (.int p0), .val (.int p1), .val (.int p2), .val (.int p3), .val (.int p4), .val (.int (1 : Int32)), .val (.int ch0), .val (.int ch1), .val (.int ch2), .val (.int ch3), .val (.ref r12), .val (.ref r12), .val (.int (-1 : Int32)), .unset, .unset]) rfl rfl ?_
      refine gLoadI 60 X15 hx (H at_58) rfl rfl ?_
      refine gIfLe X15 hx (H at_60) (pc' := 73) (by decide) (by decide) (pn := 63) rfl (fun (c60 : (1 : Int) ≤ (0 : Int)) => ?_) (fun (c60 : (0 : Int) < (1 : Int)) => ?_)
      · exact absurd c60 (by decide)
      · refine gLoadI 65 X15 hx (H at_63) rfl rfl ?_
        refine gBipush 67 X15 hx (v := (47 : Int32)) (H at_65) rfl rfl ?_
        refine gIcmpNeT X15 hx (H at_67) (pc' := 73) (by decide) (by decide) (pn := 70) rfl (fun (c67 : ¬ ch0.toInt = (47 : Int)) => ?_) (fun (c67 : ch0.toInt = (47 : Int)) => ?_)
        · refine gLoadI 75 X15 hx (H at_73) rfl rfl ?_
          refine gIconst 76 X15 hx (v := (1 : Int32)) (H at_75) rfl rfl ?_
          refine gIcmpLe X15 hx (H at_76) (pc' := 89) (by decide) (by decide) (pn := 79) rfl (fun (c76 : (1 : Int) ≤ (1 : Int)) => ?_) (fun (c76 : (1 : Int) < (1 : Int)) => ?_)
          · refine gLoadI 91 X15 hx (H at_89) rfl rfl ?_
            refine gIconst 92 X15 hx (v := (2 : Int32)) (H at_91) rfl rfl ?_
            refine gIcmpLe X15 hx (H at_92) (pc' := 105) (by decide) (by decide) (pn := 95) rfl (fun (c92 : (1 : Int) ≤ (2 : Int)) => ?_) (fun (c92 : (2 : Int) < (1 : Int)) => ?_)
            · refine gLoadI 107 X15 hx (H at_105) rfl rfl ?_
              refine gIconst 108 X15 hx (v := (3 : Int32)) (H at_107) rfl rfl ?_
              refine gIcmpLe X15 hx (H at_108) (pc' := 121) (by decide) (by decide) (pn := 111) rfl (fun (c108 : (1 : Int) ≤ (3 : Int)) => ?_) (fun (c108 : (3 : Int) < (1 : Int)) => ?_)
              · refine gLoadI 123 X15 hx (H at_121) rfl rfl ?_
                refine gLoadI 125 X15 hx (H at_123) rfl rfl ?_
                refine gIsub 126 X15 hx (H at_125) rfl ?_
                show Goes p e below _ T15 (mkF m 126 #[.val (.int p0), .val (.int p1), .val (.int p2), .val (.int p3), .val (.int p4), .val (.int (1 : Int32)), .val (.int ch0), .val (.int ch1), .val (.int ch2), .val (.int ch3), .val (.ref r12), .val (.ref r12), .val (.int (-1 : Int32)), .unset, .unset] [(.int (2 : Int32))])
                refine gIconst 127 X15 hx (v := (1 : Int32)) (H at_126) rfl rfl ?_
                refine gIsub 128 X15 hx (H at_127) rfl ?_
                show Goes p e below _ T15 (mkF m 128 #[.val (.int p0), .val (.int p1), .val (.int p2), .val (.int p3), .val (.int p4), .val (.int (1 : Int32)), .val (.int ch0), .val (.int ch1), .val (.int ch2), .val (.int ch3), .val (.ref r12), .val (.ref r12), .val (.int (-1 : Int32)), .unset, .unset] [(.int (1 : Int32))])
                refine gStoreI 130 X15 hx (H at_128) (l' := #[.val (.int p0), .val (.int p1), .val (.int p2), .val (.int p3), .val (.int p4), .val (.int (1 : Int32)), .val (.int ch0), .val (.int ch1), .val (.int ch2), .val (.int ch3), .val (.ref r12), .val (.ref r12), .val (.int (-1 : Int32)), .val (.int (1 : Int32)), .unset]) rfl rfl ?_
                refine gLoadA 132 X15 hx (H at_130) rfl rfl rfl ?_
                refine gCallVJ X15 hx hZ (y := mn17) hown e15 (by rw [hml]; rfl) Eq12 (ow hw 89 rfl) (ow hw 40 rfl) (ow hw 42 rfl) (ow hw 41 rfl) (ow hw 10 rfl) (ow hw 43 rfl) (by decide) (argsL := []) (st := []) (c_length_1 l Z a0 hw r12 t12 ct12 ch0 T12.heap f12_0 Eq12 Cq12 Vq12 Aq12 hch0) (lenOf pd_1 rfl) (H at_132) (pc' := 135) rfl rfl rfl rfl (by decide) (W := 0) (Nat.le_of_eq rfl) (by decide) (by decide) (by decide) ?_
                intro T16 X16 e16
                refine gLoadI 137 X16 hx (H at_135) rfl rfl ?_
                refine gIcmpEqT X16 hx (H at_137) (pc' := 142) (by decide) (by decide) (pn := 140) rfl (fun (c137 : (1 : Int) = (1 : Int)) => ?_) (fun (c137 : ¬ (1 : Int) = (1 : Int)) => ?_)
                · refine gIconst 143 X16 hx (v := (1 : Int32)) (H at_142) rfl rfl ?_
                  refine gStoreI 145 X16 hx (H at_143) (l' := #[.val (.int p0), .val (.int p1), .val (.int p2), .val (.int p3), .val (.int p4), .val (.int (1 : Int32)), .val (.int ch0), .val (.int ch1), .val (.int ch2), .val (.int ch3), .val (.ref r12), .val (.ref r12), .val (.int (-1 : Int32)), .val (.int (1 : Int32)), .val (.int (1 : Int32))]) rfl rfl ?_
                  refine gLoadI 147 X16 hx (H at_145) rfl rfl ?_
                  refine gIfLe X16 hx (H at_147) (pc' := 177) (by decide) (by decide) (pn := 150) rfl (fun (c147 : (1 : Int) ≤ (0 : Int)) => ?_) (fun (c147 : (0 : Int) < (1 : Int)) => ?_)
                  · exact absurd c147 (by decide)
                  · refine gLoadA 152 X16 hx (H at_150) rfl rfl rfl ?_
                    refine gIconst 153 X16 hx (v := (0 : Int32)) (H at_152) rfl rfl ?_
                    refine gCallVJ X16 hx hZ (y := mn10) hown e16 (by rw [hml]; rfl) Eq12 (ow hw 122 rfl) (ow hw 123 rfl) (ow hw 125 rfl) (ow hw 124 rfl) (ow hw 10 rfl) (ow hw 126 rfl) (by decide) (argsL := [(.int (0 : Int32))]) (st := []) (c_charAt_0_1 l Z a0 hw r12 t12 ct12 ch0 T12.heap f12_1 f12_0 Eq12 Cq12 Vq12 Aq12 hch0) (lenOf pd_4 rfl) (H at_153) (pc' := 156) rfl rfl rfl rfl (by decide) (W := 0) (Nat.le_of_eq rfl) (by decide) (by decide) (by decide) ?_
                    intro T17 X17 e17
                    refine gLoadI 158 X17 hx (H at_156) rfl rfl ?_
                    refine gIconst 159 X17 hx (v := (1 : Int32)) (H at_158) rfl rfl ?_
                    refine gIadd 160 X17 hx (H at_159) rfl ?_
                    show Goes p e below _ T17 (mkF m 160 #[.val (.int p0), .val (.int p1), .val (.int p2), .val (.int p3), .val (.int p4), .val (.int (1 : Int32)), .val (.int ch0), .val (.int ch1), .val (.int ch2), .val (.int ch3), .val (.ref r12), .val (.ref r12), .val (.int (-1 : Int32)), .val (.int (1 : Int32)), .val (.int (1 : Int32))] [(.int (0 : Int32)), (.int ch0)])
                    refine gLoadI 162 X17 hx (H at_160) rfl rfl ?_
                    refine gLoadI 164 X17 hx (H at_162) rfl rfl ?_
                    refine gLoadI 166 X17 hx (H at_164) rfl rfl ?_
                    refine gLoadI 168 X17 hx (H at_166) rfl rfl ?_
                    refine gCallSJ X17 hx hZ (y := mn4) hown e17 (by rw [hml]; rfl) (ow hw 136 rfl) (ow hw 137 rfl) (ow hw 3 rfl) (ow hw 138 rfl) (by decide) (argsL := [(.int (0 : Int32)), (.int ch0), (.int ch1), (.int ch2), (.int ch3)]) (st := [(.int ch0)]) (c_pick_0 l Z a0 hw ch0 ch1 ch2 ch3 _ hch0 hch1 hch2 hch3) (lenOf pd_8 rfl) (H at_168) (pc' := 171) rfl rfl rfl rfl (by decide) (W := 1) (Nat.le_of_eq rfl) (by decide) (by decide) (by decide) ?_
                    intro T18 X18 e18
                    refine gIcmpEq X18 hx (H at_171) (pc' := 177) (by decide) (by decide) (pn := 174) rfl (fun (c171 : ch0 = ch0) => ?_) (fun (c171 : ¬ ch0 = ch0) => ?_)
                    · refine gLoadI 179 X18 hx (H at_177) rfl rfl ?_
                      refine gIconst 180 X18 hx (v := (1 : Int32)) (H at_179) rfl rfl ?_
                      refine gIcmpLe X18 hx (H at_180) (pc' := 210) (by decide) (by decide) (pn := 183) rfl (fun (c180 : (1 : Int) ≤ (1 : Int)) => ?_) (fun (c180 : (1 : Int) < (1 : Int)) => ?_)
                      · refine gLoadI 212 X18 hx (H at_210) rfl rfl ?_
                        refine gIconst 213 X18 hx (v := (2 : Int32)) (H at_212) rfl rfl ?_
                        refine gIcmpLe X18 hx (H at_213) (pc' := 243) (by decide) (by decide) (pn := 216) rfl (fun (c213 : (1 : Int) ≤ (2 : Int)) => ?_) (fun (c213 : (2 : Int) < (1 : Int)) => ?_)
                        · refine gLoadI 245 X18 hx (H at_243) rfl rfl ?_
                          refine gIconst 246 X18 hx (v := (3 : Int32)) (H at_245) rfl rfl ?_
                          refine gIcmpLe X18 hx (H at_246) (pc' := 276) (by decide) (by decide) (pn := 249) rfl (fun (c246 : (1 : Int) ≤ (3 : Int)) => ?_) (fun (c246 : (3 : Int) < (1 : Int)) => ?_)
                          · refine gLoadI 278 X18 hx (H at_276) rfl rfl ?_
                            exact gRetHN X18 hx hlk hret (by simp) (H at_278) (w := (1 : Int32)) rfl e18 hS hk12 hZ hEL H12 (by decide) (by decide) (⟨rfl, N12⟩)
                          · exact absurd c246 (by decide)
                        · exact absurd c213 (by decide)
                      · exact absurd c180 (by decide)
                    · exact absurd rfl c171
                · exact absurd c137 (by decide)
              · exact absurd c108 (by decide)
            · exact absurd c92 (by decide)
          · exact absurd c76 (by decide)
        · exact absurd c67 d0
  · refine gStoreI 8 X0 hx (H at_6) (l' := #[.val (.int p0), .val (.int p1), .val (.int p2), .val (.int p3), .val (.int p4), .val (.int (2 : Int32)), .unset, .unset, .unset, .unset, .unset, .unset, .unset, .unset, .unset]) rfl rfl ?_
    refine gLoadIN 9 X0 hx (H at_8) rfl rfl ?_
    refine gCallS X0 hx hZ (y := mn1) hown e0 (by rw [hml]; rfl) (ow hw 1 rfl) (ow hw 2 rfl) (ow hw 3 rfl) (ow hw 4 rfl) (by decide) (argsL := [(.int p1)]) (st := []) (c_ch l Z a0 hw p1 h0) (lenOf pd_4 rfl) (H at_9) (pc' := 12) rfl rfl (by decide) (W := 0) (Nat.le_of_eq rfl) (by decide) (by decide) (by decide) ?_
    intro T19 v19 L19 X19 hQ19
    obtain ⟨ch0, rfl, hch0, eq19, rfl⟩ := hQ19
    rw [List.append_nil] at X19
    refine gStoreI 14 X19 hx (H at_12) (l' := #[.val (.int p0), .val (.int p1), .val (.int p2), .val (.int p3), .val (.int p4), .val (.int (2 : Int32)), .val (.int ch0), .unset, .unset, .unset, .unset, .unset, .unset, .unset, .unset]) rfl rfl ?_
    refine gLoadIN 15 X19 hx (H at_14) rfl rfl ?_
    refine gCallS X19 hx hZ (y := mn1) hown eq19 (by rw [hml]; rfl) (ow hw 1 rfl) (ow hw 2 rfl) (ow hw 3 rfl) (ow hw 4 rfl) (by decide) (argsL := [(.int p2)]) (st := []) (c_ch l Z a0 hw p2 h0) (lenOf pd_4 rfl) (H at_15) (pc' := 18) rfl rfl (by decide) (W := 0) (Nat.le_of_eq rfl) (by decide) (by decide) (by decide) ?_
    intro T20 v20 L20 X20 hQ20
    obtain ⟨ch1, rfl, hch1, eq20, rfl⟩ := hQ20
    rw [List.append_nil] at X20
    refine gStoreI 20 X20 hx (H at_18) (l' := #[.val (.int p0), .val (.int p1), .val (.int p2), .val (.int p3), .val (.int p4), .val (.int (2 : Int32)), .val (.int ch0), .val (.int ch1), .unset, .unset, .unset, .unset, .unset, .unset, .unset]) rfl rfl ?_
    refine gLoadIN 21 X20 hx (H at_20) rfl rfl ?_
    refine gCallS X20 hx hZ (y := mn1) hown eq20 (by rw [hml]; rfl) (ow hw 1 rfl) (ow hw 2 rfl) (ow hw 3 rfl) (ow hw 4 rfl) (by decide) (argsL := [(.int p3)]) (st := []) (c_ch l Z a0 hw p3 h0) (lenOf pd_4 rfl) (H at_21) (pc' := 24) rfl rfl (by decide) (W := 0) (Nat.le_of_eq rfl) (by decide) (by decide) (by decide) ?_
    intro T21 v21 L21 X21 hQ21
    obtain ⟨ch2, rfl, hch2, eq21, rfl⟩ := hQ21
    rw [List.append_nil] at X21
    refine gStoreI 26 X21 hx (H at_24) (l' := #[.val (.int p0), .val (.int p1), .val (.int p2), .val (.int p3), .val (.int p4), .val (.int (2 : Int32)), .val (.int ch0), .val (.int ch1), .val (.int ch2), .unset, .unset, .unset, .unset, .unset, .unset]) rfl rfl ?_
    refine gLoadI 28 X21 hx (H at_26) rfl rfl ?_
    refine gCallS X21 hx hZ (y := mn1) hown eq21 (by rw [hml]; rfl) (ow hw 1 rfl) (ow hw 2 rfl) (ow hw 3 rfl) (ow hw 4 rfl) (by decide) (argsL := [(.int p4)]) (st := []) (c_ch l Z a0 hw p4 h0) (lenOf pd_4 rfl) (H at_28) (pc' := 31) rfl rfl (by decide) (W := 0) (Nat.le_of_eq rfl) (by decide) (by decide) (by decide) ?_
    intro T22 v22 L22 X22 hQ22
    obtain ⟨ch3, rfl, hch3, eq22, rfl⟩ := hQ22
    rw [List.append_nil] at X22
    refine gStoreI 33 X22 hx (H at_31) (l' := #[.val (.int p0), .val (.int p1), .val (.int p2), .val (.int p3), .val (.int p4), .val (.int (2 : Int32)), .val (.int ch0), .val (.int ch1), .val (.int ch2), .val (.int ch3), .unset, .unset, .unset, .unset, .unset]) rfl rfl ?_
    refine gLoadI 35 X22 hx (H at_33) rfl rfl ?_
    refine gLoadI 37 X22 hx (H at_35) rfl rfl ?_
    refine gLoadI 39 X22 hx (H at_37) rfl rfl ?_
    refine gLoadI 41 X22 hx (H at_39) rfl rfl ?_
    refine gLoadI 43 X22 hx (H at_41) rfl rfl ?_
    refine gCallS X22 hx hZ (y := mn3) hown eq22 (by rw [hml]; rfl) (ow hw 5 rfl) (ow hw 6 rfl) (ow hw 3 rfl) (ow hw 7 rfl) (by decide) (argsL := [(.int (2 : Int32)), (.int ch0), (.int ch1), (.int ch2), (.int ch3)]) (st := []) (c_mk_2 l Z a0 hw ch0 ch1 ch2 ch3 h0 hCpt hch0 hch1 hch2 hch3) (lenOf pd_9 rfl) (H at_43) (pc' := 46) rfl rfl (by decide) (W := 0) (Nat.le_of_eq rfl) (by decide) (by decide) (by decide) ?_
    intro T23 v23 L23 X23 hQ23
    obtain ⟨r23, t23, ct23, rfl, Nq23, Kq23, Eq23, Cq23, Vq23, Aq23⟩ := hQ23
    have N23 := Fr.app (Fr.nil h0.size) (fun y hy => Nat.le_trans (Nat.le_refl _) (Nq23 y hy))
    have H23 := H0.trans (CHr.keep Kq23 sf0 H0.1)
    have hk23 := Nat.le_trans (Nat.zero_le _) Kq23.1
    have f23_0 := own_cpt_keep hCpt Kq23 ns0
    have f23_1 := own_sio_keep hSio Kq23 ns0
    have zs23 := Nat.le_trans (Nat.le_refl _) Kq23.1
    refine gStoreA 48 X23 hx (H at_46) (l' := #[.val (.int p0), .val (.int p1), .val (.int p2), .val (.int p3), .val (.int p4), .val (.int (2 : Int32)), .val (.int ch0), .val (.int ch1), .val (.int ch2), .val (.int ch3), .val (.ref r23), .unset, .unset, .unset, .unset]) rfl rfl rfl ?_
    by_cases d1 : ch1.toInt = 47
    · refine gLoadA 50 X23 hx (H at_48) rfl rfl rfl ?_
      refine gCallSH X23 hx hZ (y := mn0) hown rfl (by rw [hml]; rfl) hS hk23 hEL H23 (ow hw 30 rfl) (ow hw 31 rfl) (ow hw 32 rfl) (ow hw 33 rfl) (by decide) sl0 (argsL := [(.ref r23)]) (st := []) (c_nm_2_1 l Z a0 hw r23 t23 ct23 ch0 ch1 T23.heap hEL f23_1 f23_0 Eq23 Cq23 Vq23 Aq23 hch0 hch1  d1) (lenOf pd_17 rfl) (H at_50) (pc' := 53) rfl rfl (by decide) (W := 0) (Nat.le_of_eq rfl) (by decide) (by decide) (by decide) ?_
      intro T24 v24 L24 X24 hS hZ hown C24 H24 hQ24
      obtain ⟨r24, t24, ct24, rfl, Nq24, Kq24, Eq24, Cq24, Vq24, Aq24⟩ := hQ24
      have N24 := Fr.app N23 (fun y hy => Nat.le_trans zs23 (Nq24 y hy))
      have f24_0 := own_cpt_keep f23_0 Kq24 ns0
      have f24_1 := own_sio_keep f23_1 Kq24 ns0
      have f24_2 := Eq23.keep Kq24
      have f24_3 := Cq23.keep Kq24 nin0
      have f24_4 := Vq23.keep Kq24 nin0
      have f24_5 := Aq23.keep Kq24 nin0
      have zs24 := Nat.le_trans zs23 Kq24.1
      refine gStoreA 55 X24 hx (H at_53) (l' := #[.val (.int p0), .val (.int p1), .val (.int p2), .val (.int p3), .val (.int p4), .val (.int (2 : Int32)), .val (.int ch0), .val (.int ch1), .val (.int ch2), .val (.int ch3), .val (.ref r23), .val (.ref r24), .unset, .unset, .unset]) rfl rfl rfl ?_
      refine gIconst 56 X24 hx (v := (-1 : Int32)) (H at_55) rfl rfl ?_
      refine gStoreI 58 X24 hx (H at_56) (l' := #[.val (.int p0), .val (.int p1), .val (.int p2), .val (.int p3), .val (.int p4), .val (.int (2 : Int32)), .val (.int ch0), .val (.int ch1), .val (.int ch2), .val (.int ch3), .val (.ref r23), .val (.ref r24), .val (.int (-1 : Int32)), .unset, .unset]) rfl rfl ?_
      have J : ∀ pv : Int32, Goes p e below (FinH Z [("java/lang/String", 7), ("java/lang/StringLatin1", 151)] s room_1.cells room_1.slots (Law1 h0)) T24 (mkF m 73 #[.val (.int p0), .val (.int p1), .val (.int p2), .val (.int p3), .val (.int p4), .val (.int (2 : Int32)), .val (.int ch0), .val (.int ch1), .val (.int ch2), .val (.int ch3), .val (.ref r23), .val (.ref r24), .val (.int pv), .unset, .unset] []) := by
        intro pv
        refine gLoadI 75 X24 hx (H at_73) rfl rfl ?_
        refine gIconst 76 X24 hx (v := (1 : Int32)) (H at_75) rfl rfl ?_
        refine gIcmpLe X24 hx (H at_76) (pc' := 89) (by decide) (by decide) (pn := 79) rfl (fun (c76 : (2 : Int) ≤ (1 : Int)) => ?_) (fun (c76 : (1 : Int) < (2 : Int)) => ?_)
        · exact absurd c76 (by decide)
        · refine gLoadI 81 X24 hx (H at_79) rfl rfl ?_
          refine gBipush 83 X24 hx (v := (47 : Int32)) (H at_81) rfl rfl ?_
          refine gIcmpNeT X24 hx (H at_83) (pc' := 89) (by decide) (by decide) (pn := 86) rfl (fun (c83 : ¬ ch1.toInt = (47 : Int)) => ?_) (fun (c83 : ch1.toInt = (47 : Int)) => ?_)
          · exact absurd d1 c83
          · refine gIconst 87 X24 hx (v := (1 : Int32)) (H at_86) rfl rfl ?_
            refine gStoreI 89 X24 hx (H at_87) (l' := #[.val (.int p0), .val (.int p1), .val (.int p2), .val (.int p3), .val (.int p4), .val (.int (2 : Int32)), .val (.int ch0), .val (.int ch1), .val (.int ch2), .val (.int ch3), .val (.ref r23), .val (.ref r24), .val (.int (1 : Int32)), .unset, .unset]) rfl rfl ?_
            refine gLoadI 91 X24 hx (H at_89) rfl rfl ?_
            refine gIconst 92 X24 hx (v := (2 : Int32)) (H at_91) rfl rfl ?_
            refine gIcmpLe X24 hx (H at_92) (pc' := 105) (by decide) (by decide) (pn := 95) rfl (fun (c92 : (2 : Int) ≤ (2 : Int)) => ?_) (fun (c92 : (2 : Int) < (2 : Int)) => ?_)
            · refine gLoadI 107 X24 hx (H at_105) rfl rfl ?_
              refine gIconst 108 X24 hx (v := (3 : Int32)) (H at_107) rfl rfl ?_
              refine gIcmpLe X24 hx (H at_108) (pc' := 121) (by decide) (by decide) (pn := 111) rfl (fun (c108 : (2 : Int) ≤ (3 : Int)) => ?_) (fun (c108 : (3 : Int) < (2 : Int)) => ?_)
              · refine gLoadI 123 X24 hx (H at_121) rfl rfl ?_
                refine gLoadI 125 X24 hx (H at_123) rfl rfl ?_
                refine gIsub 126 X24 hx (H at_125) rfl ?_
                show Goes p e below _ T24 (mkF m 126 #[.val (.int p0), .val (.int p1), .val (.int p2), .val (.int p3), .val (.int p4), .val (.int (2 : Int32)), .val (.int ch0), .val (.int ch1), .val (.int ch2), .val (.int ch3), .val (.ref r23), .val (.ref r24), .val (.int (1 : Int32)), .unset, .unset] [(.int (1 : Int32))])
                refine gIconst 127 X24 hx (v := (1 : Int32)) (H at_126) rfl rfl ?_
                refine gIsub 128 X24 hx (H at_127) rfl ?_
                show Goes p e below _ T24 (mkF m 128 #[.val (.int p0), .val (.int p1), .val (.int p2), .val (.int p3), .val (.int p4), .val (.int (2 : Int32)), .val (.int ch0), .val (.int ch1), .val (.int ch2), .val (.int ch3), .val (.ref r23), .val (.ref r24), .val (.int (1 : Int32)), .unset, .unset] [(.int (0 : Int32))])
                refine gStoreI 130 X24 hx (H at_128) (l' := #[.val (.int p0), .val (.int p1), .val (.int p2), .val (.int p3), .val (.int p4), .val (.int (2 : Int32)), .val (.int ch0), .val (.int ch1), .val (.int ch2), .val (.int ch3), .val (.ref r23), .val (.ref r24), .val (.int (1 : Int32)), .val (.int (0 : Int32)), .unset]) rfl rfl ?_
                refine gLoadA 132 X24 hx (H at_130) rfl rfl rfl ?_
                refine gCallVJ X24 hx hZ (y := mn17) hown rfl (by rw [hml]; rfl) Eq24 (ow hw 89 rfl) (ow hw 40 rfl) (ow hw 42 rfl) (ow hw 41 rfl) (ow hw 10 rfl) (ow hw 43 rfl) (by decide) (argsL := []) (st := []) (c_length_0 l Z a0 hw r24 t24 ct24  T24.heap f24_0 Eq24 Cq24 Vq24 Aq24 ) (lenOf pd_1 rfl) (H at_132) (pc' := 135) rfl rfl rfl rfl (by decide) (W := 0) (Nat.le_of_eq rfl) (by decide) (by decide) (by decide) ?_
                intro T25 X25 e25
                refine gLoadI 137 X25 hx (H at_135) rfl rfl ?_
                refine gIcmpEqT X25 hx (H at_137) (pc' := 142) (by decide) (by decide) (pn := 140) rfl (fun (c137 : (0 : Int) = (0 : Int)) => ?_) (fun (c137 : ¬ (0 : Int) = (0 : Int)) => ?_)
                · refine gIconst 143 X25 hx (v := (1 : Int32)) (H at_142) rfl rfl ?_
                  refine gStoreI 145 X25 hx (H at_143) (l' := #[.val (.int p0), .val (.int p1), .val (.int p2), .val (.int p3), .val (.int p4), .val (.int (2 : Int32)), .val (.int ch0), .val (.int ch1), .val (.int ch2), .val (.int ch3), .val (.ref r23), .val (.ref r24), .val (.int (1 : Int32)), .val (.int (0 : Int32)), .val (.int (1 : Int32))]) rfl rfl ?_
                  refine gLoadI 147 X25 hx (H at_145) rfl rfl ?_
                  refine gIfLe X25 hx (H at_147) (pc' := 177) (by decide) (by decide) (pn := 150) rfl (fun (c147 : (0 : Int) ≤ (0 : Int)) => ?_) (fun (c147 : (0 : Int) < (0 : Int)) => ?_)
                  · refine gLoadI 179 X25 hx (H at_177) rfl rfl ?_
                    refine gIconst 180 X25 hx (v := (1 : Int32)) (H at_179) rfl rfl ?_
                    refine gIcmpLe X25 hx (H at_180) (pc' := 210) (by decide) (by decide) (pn := 183) rfl (fun (c180 : (0 : Int) ≤ (1 : Int)) => ?_) (fun (c180 : (1 : Int) < (0 : Int)) => ?_)
                    · refine gLoadI 212 X25 hx (H at_210) rfl rfl ?_
                      refine gIconst 213 X25 hx (v := (2 : Int32)) (H at_212) rfl rfl ?_
                      refine gIcmpLe X25 hx (H at_213) (pc' := 243) (by decide) (by decide) (pn := 216) rfl (fun (c213 : (0 : Int) ≤ (2 : Int)) => ?_) (fun (c213 : (2 : Int) < (0 : Int)) => ?_)
                      · refine gLoadI 245 X25 hx (H at_243) rfl rfl ?_
                        refine gIconst 246 X25 hx (v := (3 : Int32)) (H at_245) rfl rfl ?_
                        refine gIcmpLe X25 hx (H at_246) (pc' := 276) (by decide) (by decide) (pn := 249) rfl (fun (c246 : (0 : Int) ≤ (3 : Int)) => ?_) (fun (c246 : (3 : Int) < (0 : Int)) => ?_)
                        · refine gLoadI 278 X25 hx (H at_276) rfl rfl ?_
                          exact gRetHN X25 hx hlk hret (by simp) (H at_278) (w := (1 : Int32)) rfl e25 hS (Nat.le_refl _) hZ hEL H24 (by decide) (by decide) (⟨rfl, N24⟩)
                        · exact absurd c246 (by decide)
                      · exact absurd c213 (by decide)
                    · exact absurd c180 (by decide)
                  · exact absurd c147 (by decide)
                · exact absurd c137 (by decide)
              · exact absurd c108 (by decide)
            · exact absurd c92 (by decide)
      refine gLoadI 60 X24 hx (H at_58) rfl rfl ?_
      refine gIfLe X24 hx (H at_60) (pc' := 73) (by decide) (by decide) (pn := 63) rfl (fun (c60 : (2 : Int) ≤ (0 : Int)) => ?_) (fun (c60 : (0 : Int) < (2 : Int)) => ?_)
      · exact absurd c60 (by decide)
      · refine gLoadI 65 X24 hx (H at_63) rfl rfl ?_
        refine gBipush 67 X24 hx (v := (47 : Int32)) (H at_65) rfl rfl ?_
        refine gIcmpNeT X24 hx (H at_67) (pc' := 73) (by decide) (by decide) (pn := 70) rfl (fun (c67 : ¬ ch0.toInt = (47 : Int)) => ?_) (fun (c67 : ch0.toInt = (47 : Int)) => ?_)
        · exact J _
        · refine gIconst 71 X24 hx (v := (0 : Int32)) (H at_70) rfl rfl ?_
          refine gStoreI 73 X24 hx (H at_71) (l' := #[.val (.int p0), .val (.int p1), .val (.int p2), .val (.int p3), .val (.int p4), .val (.int (2 : Int32)), .val (.int ch0), .val (.int ch1), .val (.int ch2), .val (.int ch3), .val (.ref r23), .val (.ref r24), .val (.int (0 : Int32)), .unset, .unset]) rfl rfl ?_
          exact J _
    · by_cases d0 : ch0.toInt = 47
      · refine gLoadA 50 X23 hx (H at_48) rfl rfl rfl ?_
        refine gCallS X23 hx hZ (y := mn0) hown rfl (by rw [hml]; rfl) (ow hw 30 rfl) (ow hw 31 rfl) (ow hw 32 rfl) (ow hw 33 rfl) (by decide) (argsL := [(.ref r23)]) (st := []) (c_nm_2_0 l Z a0 hw r23 t23 ct23 ch0 ch1 T23.heap f23_1 f23_0 Eq23 Cq23 Vq23 Aq23 hch0 hch1 d1 d0) (lenOf pd_17 rfl) (H at_50) (pc' := 53) rfl rfl (by decide) (W := 0) (Nat.le_of_eq rfl) (by decide) (by decide) (by decide) ?_
        intro T26 v26 L26 X26 hQ26
        obtain ⟨r26, t26, ct26, rfl, Nq26, Kq26, Eq26, Cq26, Vq26, Aq26⟩ := hQ26
        have N26 := Fr.app N23 (fun y hy => Nat.le_trans zs23 (Nq26 y hy))
        have H26 := H23.trans (CHr.keep Kq26 sf0 H23.1)
        have hk26 := Nat.le_trans hk23 Kq26.1
        have f26_0 := own_cpt_keep f23_0 Kq26 ns0
        have f26_1 := own_sio_keep f23_1 Kq26 ns0
        have f26_2 := Eq23.keep Kq26
        have f26_3 := Cq23.keep Kq26 nin0
        have f26_4 := Vq23.keep Kq26 nin0
        have f26_5 := Aq23.keep Kq26 nin0
        have zs26 := Nat.le_trans zs23 Kq26.1
        refine gStoreA 55 X26 hx (H at_53) (l' := #[.val (.int p0), .val (.int p1), .val (.int p2), .val (.int p3), .val (.int p4), .val (.int (2 : Int32)), .val (.int ch0), .val (.int ch1), .val (.int ch2), .val (.int ch3), .val (.ref r23), .val (.ref r26), .unset, .unset, .unset]) rfl rfl rfl ?_
        refine gIconst 56 X26 hx (v := (-1 : Int32)) (H at_55) rfl rfl ?_
        refine gStoreI 58 X26 hx (H at_56) (l' := #[.val (.int p0), .val (.int p1), .val (.int p2), .val (.int p3), .val (.int p4), .val (.int (2 : Int32)), .val (.int ch0), .val (.int ch1), .val (.int ch2), .val (.int ch3), .val (.ref r23), .val (.ref r26), .val (.int (-1 : Int32)), .unset, .unset]) rfl rfl ?_
        refine gLoadI 60 X26 hx (H at_58) rfl rfl ?_
        refine gIfLe X26 hx (H at_60) (pc' := 73) (by decide) (by decide) (pn := 63) rfl (fun (c60 : (2 : Int) ≤ (0 : Int)) => ?_) (fun (c60 : (0 : Int) < (2 : Int)) => ?_)
        · exact absurd c60 (by decide)
        · refine gLoadI 65 X26 hx (H at_63) rfl rfl ?_
          refine gBipush 67 X26 hx (v := (47 : Int32)) (H at_65) rfl rfl ?_
          refine gIcmpNeT X26 hx (H at_67) (pc' := 73) (by decide) (by decide) (pn := 70) rfl (fun (c67 : ¬ ch0.toInt = (47 : Int)) => ?_) (fun (c67 : ch0.toInt = (47 : Int)) => ?_)
          · exact absurd d0 c67
          · refine gIconst 71 X26 hx (v := (0 : Int32)) (H at_70) rfl rfl ?_
            refine gStoreI 73 X26 hx (H at_71) (l' := #[.val (.int p0), .val (.int p1), .val (.int p2), .val (.int p3), .val (.int p4), .val (.int (2 : Int32)), .val (.int ch0), .val (.int ch1), .val (.int ch2), .val (.int ch3), .val (.ref r23), .val (.ref r26), .val (.int (0 : Int32)), .unset, .unset]) rfl rfl ?_
            refine gLoadI 75 X26 hx (H at_73) rfl rfl ?_
            refine gIconst 76 X26 hx (v := (1 : Int32)) (H at_75) rfl rfl ?_
            refine gIcmpLe X26 hx (H at_76) (pc' := 89) (by decide) (by decide) (pn := 79) rfl (fun (c76 : (2 : Int) ≤ (1 : Int)) => ?_) (fun (c76 : (1 : Int) < (2 : Int)) => ?_)
            · exact absurd c76 (by decide)
            · refine gLoadI 81 X26 hx (H at_79) rfl rfl ?_
              refine gBipush 83 X26 hx (v := (47 : Int32)) (H at_81) rfl rfl ?_
              refine gIcmpNeT X26 hx (H at_83) (pc' := 89) (by decide) (by decide) (pn := 86) rfl (fun (c83 : ¬ ch1.toInt = (47 : Int)) => ?_) (fun (c83 : ch1.toInt = (47 : Int)) => ?_)
              · refine gLoadI 91 X26 hx (H at_89) rfl rfl ?_
                refine gIconst 92 X26 hx (v := (2 : Int32)) (H at_91) rfl rfl ?_
                refine gIcmpLe X26 hx (H at_92) (pc' := 105) (by decide) (by decide) (pn := 95) rfl (fun (c92 : (2 : Int) ≤ (2 : Int)) => ?_) (fun (c92 : (2 : Int) < (2 : Int)) => ?_)
                · refine gLoadI 107 X26 hx (H at_105) rfl rfl ?_
                  refine gIconst 108 X26 hx (v := (3 : Int32)) (H at_107) rfl rfl ?_
                  refine gIcmpLe X26 hx (H at_108) (pc' := 121) (by decide) (by decide) (pn := 111) rfl (fun (c108 : (2 : Int) ≤ (3 : Int)) => ?_) (fun (c108 : (3 : Int) < (2 : Int)) => ?_)
                  · refine gLoadI 123 X26 hx (H at_121) rfl rfl ?_
                    refine gLoadI 125 X26 hx (H at_123) rfl rfl ?_
                    refine gIsub 126 X26 hx (H at_125) rfl ?_
                    show Goes p e below _ T26 (mkF m 126 #[.val (.int p0), .val (.int p1), .val (.int p2), .val (.int p3), .val (.int p4), .val (.int (2 : Int32)), .val (.int ch0), .val (.int ch1), .val (.int ch2), .val (.int ch3), .val (.ref r23), .val (.ref r26), .val (.int (0 : Int32)), .unset, .unset] [(.int (2 : Int32))])
                    refine gIconst 127 X26 hx (v := (1 : Int32)) (H at_126) rfl rfl ?_
                    refine gIsub 128 X26 hx (H at_127) rfl ?_
                    show Goes p e below _ T26 (mkF m 128 #[.val (.int p0), .val (.int p1), .val (.int p2), .val (.int p3), .val (.int p4), .val (.int (2 : Int32)), .val (.int ch0), .val (.int ch1), .val (.int ch2), .val (.int ch3), .val (.ref r23), .val (.ref r26), .val (.int (0 : Int32)), .unset, .unset] [(.int (1 : Int32))])
                    refine gStoreI 130 X26 hx (H at_128) (l' := #[.val (.int p0), .val (.int p1), .val (.int p2), .val (.int p3), .val (.int p4), .val (.int (2 : Int32)), .val (.int ch0), .val (.int ch1), .val (.int ch2), .val (.int ch3), .val (.ref r23), .val (.ref r26), .val (.int (0 : Int32)), .val (.int (1 : Int32)), .unset]) rfl rfl ?_
                    refine gLoadA 132 X26 hx (H at_130) rfl rfl rfl ?_
                    refine gCallVJ X26 hx hZ (y := mn17) hown rfl (by rw [hml]; rfl) Eq26 (ow hw 89 rfl) (ow hw 40 rfl) (ow hw 42 rfl) (ow hw 41 rfl) (ow hw 10 rfl) (ow hw 43 rfl) (by decide) (argsL := []) (st := []) (c_length_1 l Z a0 hw r26 t26 ct26 ch1 T26.heap f26_0 Eq26 Cq26 Vq26 Aq26 hch1) (lenOf pd_1 rfl) (H at_132) (pc' := 135) rfl rfl rfl rfl (by decide) (W := 0) (Nat.le_of_eq rfl) (by decide) (by decide) (by decide) ?_
                    intro T27 X27 e27
                    refine gLoadI 137 X27 hx (H at_135) rfl rfl ?_
                    refine gIcmpEqT X27 hx (H at_137) (pc' := 142) (by decide) (by decide) (pn := 140) rfl (fun (c137 : (1 : Int) = (1 : Int)) => ?_) (fun (c137 : ¬ (1 : Int) = (1 : Int)) => ?_)
                    · refine gIconst 143 X27 hx (v := (1 : Int32)) (H at_142) rfl rfl ?_
                      refine gStoreI 145 X27 hx (H at_143) (l' := #[.val (.int p0), .val (.int p1), .val (.int p2), .val (.int p3), .val (.int p4), .val (.int (2 : Int32)), .val (.int ch0), .val (.int ch1), .val (.int ch2), .val (.int ch3), .val (.ref r23), .val (.ref r26), .val (.int (0 : Int32)), .val (.int (1 : Int32)), .val (.int (1 : Int32))]) rfl rfl ?_
                      refine gLoadI 147 X27 hx (H at_145) rfl rfl ?_
                      refine gIfLe X27 hx (H at_147) (pc' := 177) (by decide) (by decide) (pn := 150) rfl (fun (c147 : (1 : Int) ≤ (0 : Int)) => ?_) (fun (c147 : (0 : Int) < (1 : Int)) => ?_)
                      · exact absurd c147 (by decide)
                      · refine gLoadA 152 X27 hx (H at_150) rfl rfl rfl ?_
                        refine gIconst 153 X27 hx (v := (0 : Int32)) (H at_152) rfl rfl ?_
                        refine gCallVJ X27 hx hZ (y := mn10) hown e27 (by rw [hml]; rfl) Eq26 (ow hw 122 rfl) (ow hw 123 rfl) (ow hw 125 rfl) (ow hw 124 rfl) (ow hw 10 rfl) (ow hw 126 rfl) (by decide) (argsL := [(.int (0 : Int32))]) (st := []) (c_charAt_0_1 l Z a0 hw r26 t26 ct26 ch1 T26.heap f26_1 f26_0 Eq26 Cq26 Vq26 Aq26 hch1) (lenOf pd_4 rfl) (H at_153) (pc' := 156) rfl rfl rfl rfl (by decide) (W := 0) (Nat.le_of_eq rfl) (by decide) (by decide) (by decide) ?_
                        intro T28 X28 e28
                        refine gLoadI 158 X28 hx (H at_156) rfl rfl ?_
                        refine gIconst 159 X28 hx (v := (1 : Int32)) (H at_158) rfl rfl ?_
                        refine gIadd 160 X28 hx (H at_159) rfl ?_
                        show Goes p e below _ T28 (mkF m 160 #[.val (.int p0), .val (.int p1), .val (.int p2), .val (.int p3), .val (.int p4), .val (.int (2 : Int32)), .val (.int ch0), .val (.int ch1), .val (.int ch2), .val (.int ch3), .val (.ref r23), .val (.ref r26), .val (.int (0 : Int32)), .val (.int (1 : Int32)), .val (.int (1 : Int32))] [(.int (1 : Int32)), (.int ch1)])
                        refine gLoadI 162 X28 hx (H at_160) rfl rfl ?_
                        refine gLoadI 164 X28 hx (H at_162) rfl rfl ?_
                        refine gLoadI 166 X28 hx (H at_164) rfl rfl ?_
                        refine gLoadI 168 X28 hx (H at_166) rfl rfl ?_
                        refine gCallSJ X28 hx hZ (y := mn4) hown e28 (by rw [hml]; rfl) (ow hw 136 rfl) (ow hw 137 rfl) (ow hw 3 rfl) (ow hw 138 rfl) (by decide) (argsL := [(.int (1 : Int32)), (.int ch0), (.int ch1), (.int ch2), (.int ch3)]) (st := [(.int ch1)]) (c_pick_1 l Z a0 hw ch0 ch1 ch2 ch3 _ hch0 hch1 hch2 hch3) (lenOf pd_8 rfl) (H at_168) (pc' := 171) rfl rfl rfl rfl (by decide) (W := 1) (Nat.le_of_eq rfl) (by decide) (by decide) (by decide) ?_
                        intro T29 X29 e29
                        refine gIcmpEq X29 hx (H at_171) (pc' := 177) (by decide) (by decide) (pn := 174) rfl (fun (c171 : ch1 = ch1) => ?_) (fun (c171 : ¬ ch1 = ch1) => ?_)
                        · refine gLoadI 179 X29 hx (H at_177) rfl rfl ?_
                          refine gIconst 180 X29 hx (v := (1 : Int32)) (H at_179) rfl rfl ?_
                          refine gIcmpLe X29 hx (H at_180) (pc' := 210) (by decide) (by decide) (pn := 183) rfl (fun (c180 : (1 : Int) ≤ (1 : Int)) => ?_) (fun (c180 : (1 : Int) < (1 : Int)) => ?_)
                          · refine gLoadI 212 X29 hx (H at_210) rfl rfl ?_
                            refine gIconst 213 X29 hx (v := (2 : Int32)) (H at_212) rfl rfl ?_
                            refine gIcmpLe X29 hx (H at_213) (pc' := 243) (by decide) (by decide) (pn := 216) rfl (fun (c213 : (1 : Int) ≤ (2 : Int)) => ?_) (fun (c213 : (2 : Int) < (1 : Int)) => ?_)
                            · refine gLoadI 245 X29 hx (H at_243) rfl rfl ?_
                              refine gIconst 246 X29 hx (v := (3 : Int32)) (H at_245) rfl rfl ?_
                              refine gIcmpLe X29 hx (H at_246) (pc' := 276) (by decide) (by decide) (pn := 249) rfl (fun (c246 : (1 : Int) ≤ (3 : Int)) => ?_) (fun (c246 : (3 : Int) < (1 : Int)) => ?_)
                              · refine gLoadI 278 X29 hx (H at_276) rfl rfl ?_
                                exact gRetHN X29 hx hlk hret (by simp) (H at_278) (w := (1 : Int32)) rfl e29 hS hk26 hZ hEL H26 (by decide) (by decide) (⟨rfl, N26⟩)
                              · exact absurd c246 (by decide)
                            · exact absurd c213 (by decide)
                          · exact absurd c180 (by decide)
                        · exact absurd rfl c171
                    · exact absurd c137 (by decide)
                  · exact absurd c108 (by decide)
                · exact absurd c92 (by decide)
              · exact absurd c83 d1
      · refine gLoadA 50 X23 hx (H at_48) rfl rfl rfl ?_
        refine gCallSJ X23 hx hZ (y := mn0) hown rfl (by rw [hml]; rfl) (ow hw 30 rfl) (ow hw 31 rfl) (ow hw 32 rfl) (ow hw 33 rfl) (by decide) (argsL := [(.ref r23)]) (st := []) (c_nm_2_m l Z a0 hw r23 t23 ct23 ch0 ch1 T23.heap f23_1 f23_0 Eq23 Cq23 Vq23 Aq23 hch0 hch1 d0 d1) (lenOf pd_17 rfl) (H at_50) (pc' := 53) rfl rfl rfl rfl (by decide) (W := 0) (Nat.le_of_eq rfl) (by decide) (by decide) (by decide) ?_
        intro T30 X30 e30
        refine gStoreA 55 X30 hx (H at_53) (l' := #[.val (.int p0), .val (.int p1), .val (.int p2), .val (.int p3), .val (.int p4), .val (.int (2 : Int32)), .val (.int ch0), .val (.int ch1), .val (.int ch2), .val (.int ch3), .val (.ref r23), .val (.ref r23), .unset, .unset, .unset]) rfl rfl rfl ?_
        refine gIconst 56 X30 hx (v := (-1 : Int32)) (H at_55) rfl rfl ?_
        refine gStoreI 58 X30 hx (H at_56) (l' := #[.val (.int p0), .val (.int p1), .val (.int p2), .val (.int p3), .val (.int p4), .val (.int (2 : Int32)), .val (.int ch0), .val (.int ch1), .val (.int ch2), .val (.int ch3), .val (.ref r23), .val (.ref r23), .val (.int (-1 : Int32)), .unset, .unset]) rfl rfl ?_
        refine gLoadI 60 X30 hx (H at_58) rfl rfl ?_
        refine gIfLe X30 hx (H at_60) (pc' := 73) (by decide) (by decide) (pn := 63) rfl (fun (c60 : (2 : Int) ≤ (0 : Int)) => ?_) (fun (c60 : (0 : Int) < (2 : Int)) => ?_)
        · exact absurd c60 (by decide)
        · refine gLoadI 65 X30 hx (H at_63) rfl rfl ?_
          refine gBipush 67 X30 hx (v := (47 : Int32)) (H at_65) rfl rfl ?_
          refine gIcmpNeT X30 hx (H at_67) (pc' := 73) (by decide) (by decide) (pn := 70) rfl (fun (c67 : ¬ ch0.toInt = (47 : Int)) => ?_) (fun (c67 : ch0.toInt = (47 : Int)) => ?_)
          · refine gLoadI 75 X30 hx (H at_73) rfl rfl ?_
            refine gIconst 76 X30 hx (v := (1 : Int32)) (H at_75) rfl rfl ?_
            refine gIcmpLe X30 hx (H at_76) (pc' := 89) (by decide) (by decide) (pn := 79) rfl (fun (c76 : (2 : Int) ≤ (1 : Int)) => ?_) (fun (c76 : (1 : Int) < (2 : Int)) => ?_)
            · exact absurd c76 (by decide)
            · refine gLoadI 81 X30 hx (H at_79) rfl rfl ?_
              refine gBipush 83 X30 hx (v := (47 : Int32)) (H at_81) rfl rfl ?_
              refine gIcmpNeT X30 hx (H at_83) (pc' := 89) (by decide) (by decide) (pn := 86) rfl (fun (c83 : ¬ ch1.toInt = (47 : Int)) => ?_) (fun (c83 : ch1.toInt = (47 : Int)) => ?_)
              · refine gLoadI 91 X30 hx (H at_89) rfl rfl ?_
                refine gIconst 92 X30 hx (v := (2 : Int32)) (H at_91) rfl rfl ?_
                refine gIcmpLe X30 hx (H at_92) (pc' := 105) (by decide) (by decide) (pn := 95) rfl (fun (c92 : (2 : Int) ≤ (2 : Int)) => ?_) (fun (c92 : (2 : Int) < (2 : Int)) => ?_)
                · refine gLoadI 107 X30 hx (H at_105) rfl rfl ?_
                  refine gIconst 108 X30 hx (v := (3 : Int32)) (H at_107) rfl rfl ?_
                  refine gIcmpLe X30 hx (H at_108) (pc' := 121) (by decide) (by decide) (pn := 111) rfl (fun (c108 : (2 : Int) ≤ (3 : Int)) => ?_) (fun (c108 : (3 : Int) < (2 : Int)) => ?_)
                  · refine gLoadI 123 X30 hx (H at_121) rfl rfl ?_
                    refine gLoadI 125 X30 hx (H at_123) rfl rfl ?_
                    refine gIsub 126 X30 hx (H at_125) rfl ?_
                    show Goes p e below _ T30 (mkF m 126 #[.val (.int p0), .val (.int p1), .val (.int p2), .val (.int p3), .val (.int p4), .val (.int (2 : Int32)), .val (.int ch0), .val (.int ch1), .val (.int ch2), .val (.int ch3), .val (.ref r23), .val (.ref r23), .val (.int (-1 : Int32)), .unset, .unset] [(.int (3 : Int32))])
                    refine gIconst 127 X30 hx (v := (1 : Int32)) (H at_126) rfl rfl ?_
                    refine gIsub 128 X30 hx (H at_127) rfl ?_
                    show Goes p e below _ T30 (mkF m 128 #[.val (.int p0), .val (.int p1), .val (.int p2), .val (.int p3), .val (.int p4), .val (.int (2 : Int32)), .val (.int ch0), .val (.int ch1), .val (.int ch2), .val (.int ch3), .val (.ref r23), .val (.ref r23), .val (.int (-1 : Int32)), .unset, .unset] [(.int (2 : Int32))])
                    refine gStoreI 130 X30 hx (H at_128) (l' := #[.val (.int p0), .val (.int p1), .val (.int p2), .val (.int p3), .val (.int p4), .val (.int (2 : Int32)), .val (.int ch0), .val (.int ch1), .val (.int ch2), .val (.int ch3), .val (.ref r23), .val (.ref r23), .val (.int (-1 : Int32)), .val (.int (2 : Int32)), .unset]) rfl rfl ?_
                    refine gLoadA 132 X30 hx (H at_130) rfl rfl rfl ?_
                    refine gCallVJ X30 hx hZ (y := mn17) hown e30 (by rw [hml]; rfl) Eq23 (ow hw 89 rfl) (ow hw 40 rfl) (ow hw 42 rfl) (ow hw 41 rfl) (ow hw 10 rfl) (ow hw 43 rfl) (by decide) (argsL := []) (st := []) (c_length_2 l Z a0 hw r23 t23 ct23 ch0 ch1 T23.heap f23_0 Eq23 Cq23 Vq23 Aq23 hch0 hch1) (lenOf pd_1 rfl) (H at_132) (pc' := 135) rfl rfl rfl rfl (by decide) (W := 0) (Nat.le_of_eq rfl) (by decide) (by decide) (by decide) ?_
                    intro T31 X31 e31
                    refine gLoadI 137 X31 hx (H at_135) rfl rfl ?_
                    refine gIcmpEqT X31 hx (H at_137) (pc' := 142) (by decide) (by decide) (pn := 140) rfl (fun (c137 : (2 : Int) = (2 : Int)) => ?_) (fun (c137 : ¬ (2 : Int) = (2 : Int)) => ?_)
                    · refine gIconst 143 X31 hx (v := (1 : Int32)) (H at_142) rfl rfl ?_
                      refine gStoreI 145 X31 hx (H at_143) (l' := #[.val (.int p0), .val (.int p1), .val (.int p2), .val (.int p3), .val (.int p4), .val (.int (2 : Int32)), .val (.int ch0), .val (.int ch1), .val (.int ch2), .val (.int ch3), .val (.ref r23), .val (.ref r23), .val (.int (-1 : Int32)), .val (.int (2 : Int32)), .val (.int (1 : Int32))]) rfl rfl ?_
                      refine gLoadI 147 X31 hx (H at_145) rfl rfl ?_
                      refine gIfLe X31 hx (H at_147) (pc' := 177) (by decide) (by decide) (pn := 150) rfl (fun (c147 : (2 : Int) ≤ (0 : Int)) => ?_) (fun (c147 : (0 : Int) < (2 : Int)) => ?_)
                      · exact absurd c147 (by decide)
                      · refine gLoadA 152 X31 hx (H at_150) rfl rfl rfl ?_
                        refine gIconst 153 X31 hx (v := (0 : Int32)) (H at_152) rfl rfl ?_
                        refine gCallVJ X31 hx hZ (y := mn10) hown e31 (by rw [hml]; rfl) Eq23 (ow hw 122 rfl) (ow hw 123 rfl) (ow hw 125 rfl) (ow hw 124 rfl) (ow hw 10 rfl) (ow hw 126 rfl) (by decide) (argsL := [(.int (0 : Int32))]) (st := []) (c_charAt_0_2 l Z a0 hw r23 t23 ct23 ch0 ch1 T23.heap f23_1 f23_0 Eq23 Cq23 Vq23 Aq23 hch0 hch1) (lenOf pd_4 rfl) (H at_153) (pc' := 156) rfl rfl rfl rfl (by decide) (W := 0) (Nat.le_of_eq rfl) (by decide) (by decide) (by decide) ?_
                        intro T32 X32 e32
                        refine gLoadI 158 X32 hx (H at_156) rfl rfl ?_
                        refine gIconst 159 X32 hx (v := (1 : Int32)) (H at_158) rfl rfl ?_
                        refine gIadd 160 X32 hx (H at_159) rfl ?_
                        show Goes p e below _ T32 (mkF m 160 #[.val (.int p0), .val (.int p1), .val (.int p2), .val (.int p3), .val (.int p4), .val (.int (2 : Int32)), .val (.int ch0), .val (.int ch1), .val (.int ch2), .val (.int ch3), .val (.ref r23), .val (.ref r23), .val (.int (-1 : Int32)), .val (.int (2 : Int32)), .val (.int (1 : Int32))] [(.int (0 : Int32)), (.int ch0)])
                        refine gLoadI 162 X32 hx (H at_160) rfl rfl ?_
                        refine gLoadI 164 X32 hx (H at_162) rfl rfl ?_
                        refine gLoadI 166 X32 hx (H at_164) rfl rfl ?_
                        refine gLoadI 168 X32 hx (H at_166) rfl rfl ?_
                        refine gCallSJ X32 hx hZ (y := mn4) hown e32 (by rw [hml]; rfl) (ow hw 136 rfl) (ow hw 137 rfl) (ow hw 3 rfl) (ow hw 138 rfl) (by decide) (argsL := [(.int (0 : Int32)), (.int ch0), (.int ch1), (.int ch2), (.int ch3)]) (st := [(.int ch0)]) (c_pick_0 l Z a0 hw ch0 ch1 ch2 ch3 _ hch0 hch1 hch2 hch3) (lenOf pd_8 rfl) (H at_168) (pc' := 171) rfl rfl rfl rfl (by decide) (W := 1) (Nat.le_of_eq rfl) (by decide) (by decide) (by decide) ?_
                        intro T33 X33 e33
                        refine gIcmpEq X33 hx (H at_171) (pc' := 177) (by decide) (by decide) (pn := 174) rfl (fun (c171 : ch0 = ch0) => ?_) (fun (c171 : ¬ ch0 = ch0) => ?_)
                        · refine gLoadI 179 X33 hx (H at_177) rfl rfl ?_
                          refine gIconst 180 X33 hx (v := (1 : Int32)) (H at_179) rfl rfl ?_
                          refine gIcmpLe X33 hx (H at_180) (pc' := 210) (by decide) (by decide) (pn := 183) rfl (fun (c180 : (2 : Int) ≤ (1 : Int)) => ?_) (fun (c180 : (1 : Int) < (2 : Int)) => ?_)
                          · exact absurd c180 (by decide)
                          · refine gLoadA 185 X33 hx (H at_183) rfl rfl rfl ?_
                            refine gIconst 186 X33 hx (v := (1 : Int32)) (H at_185) rfl rfl ?_
                            refine gCallVJ X33 hx hZ (y := mn10) hown e33 (by rw [hml]; rfl) Eq23 (ow hw 122 rfl) (ow hw 123 rfl) (ow hw 125 rfl) (ow hw 124 rfl) (ow hw 10 rfl) (ow hw 126 rfl) (by decide) (argsL := [(.int (1 : Int32))]) (st := []) (c_charAt_1_2 l Z a0 hw r23 t23 ct23 ch0 ch1 T23.heap f23_1 f23_0 Eq23 Cq23 Vq23 Aq23 hch0 hch1) (lenOf pd_4 rfl) (H at_186) (pc' := 189) rfl rfl rfl rfl (by decide) (W := 0) (Nat.le_of_eq rfl) (by decide) (by decide) (by decide) ?_
                            intro T34 X34 e34
                            refine gLoadI 191 X34 hx (H at_189) rfl rfl ?_
                            refine gIconst 192 X34 hx (v := (2 : Int32)) (H at_191) rfl rfl ?_
                            refine gIadd 193 X34 hx (H at_192) rfl ?_
                            show Goes p e below _ T34 (mkF m 193 #[.val (.int p0), .val (.int p1), .val (.int p2), .val (.int p3), .val (.int p4), .val (.int (2 : Int32)), .val (.int ch0), .val (.int ch1), .val (.int ch2), .val (.int ch3), .val (.ref r23), .val (.ref r23), .val (.int (-1 : Int32)), .val (.int (2 : Int32)), .val (.int (1 : Int32))] [(.int (1 : Int32)), (.int ch1)])
                            refine gLoadI 195 X34 hx (H at_193) rfl rfl ?_
                            refine gLoadI 197 X34 hx (H at_195) rfl rfl ?_
                            refine gLoadI 199 X34 hx (H at_197) rfl rfl ?_
                            refine gLoadI 201 X34 hx (H at_199) rfl rfl ?_
                            refine gCallSJ X34 hx hZ (y := mn4) hown e34 (by rw [hml]; rfl) (ow hw 136 rfl) (ow hw 137 rfl) (ow hw 3 rfl) (ow hw 138 rfl) (by decide) (argsL := [(.int (1 : Int32)), (.int ch0), (.int ch1), (.int ch2), (.int ch3)]) (st := [(.int ch1)]) (c_pick_1 l Z a0 hw ch0 ch1 ch2 ch3 _ hch0 hch1 hch2 hch3) (lenOf pd_8 rfl) (H at_201) (pc' := 204) rfl rfl rfl rfl (by decide) (W := 1) (Nat.le_of_eq rfl) (by decide) (by decide) (by decide) ?_
                            intro T35 X35 e35
                            refine gIcmpEq X35 hx (H at_204) (pc' := 210) (by decide) (by decide) (pn := 207) rfl (fun (c204 : ch1 = ch1) => ?_) (fun (c204 : ¬ ch1 = ch1) => ?_)
                            · refine gLoadI 212 X35 hx (H at_210) rfl rfl ?_
                              refine gIconst 213 X35 hx (v := (2 : Int32)) (H at_212) rfl rfl ?_
                              refine gIcmpLe X35 hx (H at_213) (pc' := 243) (by decide) (by decide) (pn := 216) rfl (fun (c213 : (2 : Int) ≤ (2 : Int)) => ?_) (fun (c213 : (2 : Int) < (2 : Int)) => ?_)
                              · refine gLoadI 245 X35 hx (H at_243) rfl rfl ?_
                                refine gIconst 246 X35 hx (v := (3 : Int32)) (H at_245) rfl rfl ?_
                                refine gIcmpLe X35 hx (H at_246) (pc' := 276) (by decide) (by decide) (pn := 249) rfl (fun (c246 : (2 : Int) ≤ (3 : Int)) => ?_) (fun (c246 : (3 : Int) < (2 : Int)) => ?_)
                                · refine gLoadI 278 X35 hx (H at_276) rfl rfl ?_
                                  exact gRetHN X35 hx hlk hret (by simp) (H at_278) (w := (1 : Int32)) rfl e35 hS hk23 hZ hEL H23 (by decide) (by decide) (⟨rfl, N23⟩)
                                · exact absurd c246 (by decide)
                              · exact absurd c213 (by decide)
                            · exact absurd rfl c204
                        · exact absurd rfl c171
                    · exact absurd c137 (by decide)
                  · exact absurd c108 (by decide)
                · exact absurd c92 (by decide)
              · exact absurd c83 d1
          · exact absurd c67 d0
  · refine gStoreI 8 X0 hx (H at_6) (l' := #[.val (.int p0), .val (.int p1), .val (.int p2), .val (.int p3), .val (.int p4), .val (.int (3 : Int32)), .unset, .unset, .unset, .unset, .unset, .unset, .unset, .unset, .unset]) rfl rfl ?_
    refine gLoadIN 9 X0 hx (H at_8) rfl rfl ?_
    refine gCallS X0 hx hZ (y := mn1) hown e0 (by rw [hml]; rfl) (ow hw 1 rfl) (ow hw 2 rfl) (ow hw 3 rfl) (ow hw 4 rfl) (by decide) (argsL := [(.int p1)]) (st := []) (c_ch l Z a0 hw p1 h0) (lenOf pd_4 rfl) (H at_9) (pc' := 12) rfl rfl (by decide) (W := 0) (Nat.le_of_eq rfl) (by decide) (by decide) (by decide) ?_
    intro T36 v36 L36 X36 hQ36
    obtain ⟨ch0, rfl, hch0, eq36, rfl⟩ := hQ36
    rw [List.append_nil] at X36
    refine gStoreI 14 X36 hx (H at_12) (l' := #[.val (.int p0), .val (.int p1), .val (.int p2), .val (.int p3), .val (.int p4), .val (.int (3 : Int32)), .val (.int ch0), .unset, .unset, .unset, .unset, .unset, .unset, .unset, .unset]) rfl rfl ?_
    refine gLoadIN 15 X36 hx (H at_14) rfl rfl ?_
    refine gCallS X36 hx hZ (y := mn1) hown eq36 (by rw [hml]; rfl) (ow hw 1 rfl) (ow hw 2 rfl) (ow hw 3 rfl) (ow hw 4 rfl) (by decide) (argsL := [(.int p2)]) (st := []) (c_ch l Z a0 hw p2 h0) (lenOf pd_4 rfl) (H at_15) (pc' := 18) rfl rfl (by decide) (W := 0) (Nat.le_of_eq rfl) (by decide) (by decide) (by decide) ?_
    intro T37 v37 L37 X37 hQ37
    obtain ⟨ch1, rfl, hch1, eq37, rfl⟩ := hQ37
    rw [List.append_nil] at X37
    refine gStoreI 20 X37 hx (H at_18) (l' := #[.val (.int p0), .val (.int p1), .val (.int p2), .val (.int p3), .val (.int p4), .val (.int (3 : Int32)), .val (.int ch0), .val (.int ch1), .unset, .unset, .unset, .unset, .unset, .unset, .unset]) rfl rfl ?_
    refine gLoadIN 21 X37 hx (H at_20) rfl rfl ?_
    refine gCallS X37 hx hZ (y := mn1) hown eq37 (by rw [hml]; rfl) (ow hw 1 rfl) (ow hw 2 rfl) (ow hw 3 rfl) (ow hw 4 rfl) (by decide) (argsL := [(.int p3)]) (st := []) (c_ch l Z a0 hw p3 h0) (lenOf pd_4 rfl) (H at_21) (pc' := 24) rfl rfl (by decide) (W := 0) (Nat.le_of_eq rfl) (by decide) (by decide) (by decide) ?_
    intro T38 v38 L38 X38 hQ38
    obtain ⟨ch2, rfl, hch2, eq38, rfl⟩ := hQ38
    rw [List.append_nil] at X38
    refine gStoreI 26 X38 hx (H at_24) (l' := #[.val (.int p0), .val (.int p1), .val (.int p2), .val (.int p3), .val (.int p4), .val (.int (3 : Int32)), .val (.int ch0), .val (.int ch1), .val (.int ch2), .unset, .unset, .unset, .unset, .unset, .unset]) rfl rfl ?_
    refine gLoadI 28 X38 hx (H at_26) rfl rfl ?_
    refine gCallS X38 hx hZ (y := mn1) hown eq38 (by rw [hml]; rfl) (ow hw 1 rfl) (ow hw 2 rfl) (ow hw 3 rfl) (ow hw 4 rfl) (by decide) (argsL := [(.int p4)]) (st := []) (c_ch l Z a0 hw p4 h0) (lenOf pd_4 rfl) (H at_28) (pc' := 31) rfl rfl (by decide) (W := 0) (Nat.le_of_eq rfl) (by decide) (by decide) (by decide) ?_
    intro T39 v39 L39 X39 hQ39
    obtain ⟨ch3, rfl, hch3, eq39, rfl⟩ := hQ39
    rw [List.append_nil] at X39
    refine gStoreI 33 X39 hx (H at_31) (l' := #[.val (.int p0), .val (.int p1), .val (.int p2), .val (.int p3), .val (.int p4), .val (.int (3 : Int32)), .val (.int ch0), .val (.int ch1), .val (.int ch2), .val (.int ch3), .unset, .unset, .unset, .unset, .unset]) rfl rfl ?_
    refine gLoadI 35 X39 hx (H at_33) rfl rfl ?_
    refine gLoadI 37 X39 hx (H at_35) rfl rfl ?_
    refine gLoadI 39 X39 hx (H at_37) rfl rfl ?_
    refine gLoadI 41 X39 hx (H at_39) rfl rfl ?_
    refine gLoadI 43 X39 hx (H at_41) rfl rfl ?_
    refine gCallS X39 hx hZ (y := mn3) hown eq39 (by rw [hml]; rfl) (ow hw 5 rfl) (ow hw 6 rfl) (ow hw 3 rfl) (ow hw 7 rfl) (by decide) (argsL := [(.int (3 : Int32)), (.int ch0), (.int ch1), (.int ch2), (.int ch3)]) (st := []) (c_mk_3 l Z a0 hw ch0 ch1 ch2 ch3 h0 hCpt hch0 hch1 hch2 hch3) (lenOf pd_9 rfl) (H at_43) (pc' := 46) rfl rfl (by decide) (W := 0) (Nat.le_of_eq rfl) (by decide) (by decide) (by decide) ?_
    intro T40 v40 L40 X40 hQ40
    obtain ⟨r40, t40, ct40, rfl, Nq40, Kq40, Eq40, Cq40, Vq40, Aq40⟩ := hQ40
    have N40 := Fr.app (Fr.nil h0.size) (fun y hy => Nat.le_trans (Nat.le_refl _) (Nq40 y hy))
    have H40 := H0.trans (CHr.keep Kq40 sf0 H0.1)
    have hk40 := Nat.le_trans (Nat.zero_le _) Kq40.1
    have f40_0 := own_cpt_keep hCpt Kq40 ns0
    have f40_1 := own_sio_keep hSio Kq40 ns0
    have zs40 := Nat.le_trans (Nat.le_refl _) Kq40.1
    refine gStoreA 48 X40 hx (H at_46) (l' := #[.val (.int p0), .val (.int p1), .val (.int p2), .val (.int p3), .val (.int p4), .val (.int (3 : Int32)), .val (.int ch0), .val (.int ch1), .val (.int ch2), .val (.int ch3), .val (.ref r40), .unset, .unset, .unset, .unset]) rfl rfl rfl ?_
    by_cases d2 : ch2.toInt = 47
    · refine gLoadA 50 X40 hx (H at_48) rfl rfl rfl ?_
      refine gCallSH X40 hx hZ (y := mn0) hown rfl (by rw [hml]; rfl) hS hk40 hEL H40 (ow hw 30 rfl) (ow hw 31 rfl) (ow hw 32 rfl) (ow hw 33 rfl) (by decide) sl0 (argsL := [(.ref r40)]) (st := []) (c_nm_3_2 l Z a0 hw r40 t40 ct40 ch0 ch1 ch2 T40.heap hEL f40_1 f40_0 Eq40 Cq40 Vq40 Aq40 hch0 hch1 hch2  d2) (lenOf pd_17 rfl) (H at_50) (pc' := 53) rfl rfl (by decide) (W := 0) (Nat.le_of_eq rfl) (by decide) (by decide) (by decide) ?_
      intro T41 v41 L41 X41 hS hZ hown C41 H41 hQ41
      obtain ⟨r41, t41, ct41, rfl, Nq41, Kq41, Eq41, Cq41, Vq41, Aq41⟩ := hQ41
      have N41 := Fr.app N40 (fun y hy => Nat.le_trans zs40 (Nq41 y hy))
      have f41_0 := own_cpt_keep f40_0 Kq41 ns0
      have f41_1 := own_sio_keep f40_1 Kq41 ns0
      have f41_2 := Eq40.keep Kq41
      have f41_3 := Cq40.keep Kq41 nin0
      have f41_4 := Vq40.keep Kq41 nin0
      have f41_5 := Aq40.keep Kq41 nin0
      have zs41 := Nat.le_trans zs40 Kq41.1
      refine gStoreA 55 X41 hx (H at_53) (l' := #[.val (.int p0), .val (.int p1), .val (.int p2), .val (.int p3), .val (.int p4), .val (.int (3 : Int32)), .val (.int ch0), .val (.int ch1), .val (.int ch2), .val (.int ch3), .val (.ref r40), .val (.ref r41), .unset, .unset, .unset]) rfl rfl rfl ?_
      refine gIconst 56 X41 hx (v := (-1 : Int32)) (H at_55) rfl rfl ?_
      refine gStoreI 58 X41 hx (H at_56) (l' := #[.val (.int p0), .val (.int p1), .val (.int p2), .val (.int p3), .val (.int p4), .val (.int (3 : Int32)), .val (.int ch0), .val (.int ch1), .val (.int ch2), .val (.int ch3), .val (.ref r40), .val (.ref r41), .val (.int (-1 : Int32)), .unset, .unset]) rfl rfl ?_
      have J : ∀ pv : Int32, Goes p e below (FinH Z [("java/lang/String", 7), ("java/lang/StringLatin1", 151)] s room_1.cells room_1.slots (Law1 h0)) T41 (mkF m 89 #[.val (.int p0), .val (.int p1), .val (.int p2), .val (.int p3), .val (.int p4), .val (.int (3 : Int32)), .val (.int ch0), .val (.int ch1), .val (.int ch2), .val (.int ch3), .val (.ref r40), .val (.ref r41), .val (.int pv), .unset, .unset] []) := by
        intro pv
        refine gLoadI 91 X41 hx (H at_89) rfl rfl ?_
        refine gIconst 92 X41 hx (v := (2 : Int32)) (H at_91) rfl rfl ?_
        refine gIcmpLe X41 hx (H at_92) (pc' := 105) (by decide) (by decide) (pn := 95) rfl (fun (c92 : (3 : Int) ≤ (2 : Int)) => ?_) (fun (c92 : (2 : Int) < (3 : Int)) => ?_)
        · exact absurd c92 (by decide)
        · refine gLoadI 97 X41 hx (H at_95) rfl rfl ?_
          refine gBipush 99 X41 hx (v := (47 : Int32)) (H at_97) rfl rfl ?_
          refine gIcmpNeT X41 hx (H at_99) (pc' := 105) (by decide) (by decide) (pn := 102) rfl (fun (c99 : ¬ ch2.toInt = (47 : Int)) => ?_) (fun (c99 : ch2.toInt = (47 : Int)) => ?_)
          · exact absurd d2 c99
          · refine gIconst 103 X41 hx (v := (2 : Int32)) (H at_102) rfl rfl ?_
            refine gStoreI 105 X41 hx (H at_103) (l' := #[.val (.int p0), .val (.int p1), .val (.int p2), .val (.int p3), .val (.int p4), .val (.int (3 : Int32)), .val (.int ch0), .val (.int ch1), .val (.int ch2), .val (.int ch3), .val (.ref r40), .val (.ref r41), .val (.int (2 : Int32)), .unset, .unset]) rfl rfl ?_
            refine gLoadI 107 X41 hx (H at_105) rfl rfl ?_
            refine gIconst 108 X41 hx (v := (3 : Int32)) (H at_107) rfl rfl ?_
            refine gIcmpLe X41 hx (H at_108) (pc' := 121) (by decide) (by decide) (pn := 111) rfl (fun (c108 : (3 : Int) ≤ (3 : Int)) => ?_) (fun (c108 : (3 : Int) < (3 : Int)) => ?_)
            · refine gLoadI 123 X41 hx (H at_121) rfl rfl ?_
              refine gLoadI 125 X41 hx (H at_123) rfl rfl ?_
              refine gIsub 126 X41 hx (H at_125) rfl ?_
              show Goes p e below _ T41 (mkF m 126 #[.val (.int p0), .val (.int p1), .val (.int p2), .val (.int p3), .val (.int p4), .val (.int (3 : Int32)), .val (.int ch0), .val (.int ch1), .val (.int ch2), .val (.int ch3), .val (.ref r40), .val (.ref r41), .val (.int (2 : Int32)), .unset, .unset] [(.int (1 : Int32))])
              refine gIconst 127 X41 hx (v := (1 : Int32)) (H at_126) rfl rfl ?_
              refine gIsub 128 X41 hx (H at_127) rfl ?_
              show Goes p e below _ T41 (mkF m 128 #[.val (.int p0), .val (.int p1), .val (.int p2), .val (.int p3), .val (.int p4), .val (.int (3 : Int32)), .val (.int ch0), .val (.int ch1), .val (.int ch2), .val (.int ch3), .val (.ref r40), .val (.ref r41), .val (.int (2 : Int32)), .unset, .unset] [(.int (0 : Int32))])
              refine gStoreI 130 X41 hx (H at_128) (l' := #[.val (.int p0), .val (.int p1), .val (.int p2), .val (.int p3), .val (.int p4), .val (.int (3 : Int32)), .val (.int ch0), .val (.int ch1), .val (.int ch2), .val (.int ch3), .val (.ref r40), .val (.ref r41), .val (.int (2 : Int32)), .val (.int (0 : Int32)), .unset]) rfl rfl ?_
              refine gLoadA 132 X41 hx (H at_130) rfl rfl rfl ?_
              refine gCallVJ X41 hx hZ (y := mn17) hown rfl (by rw [hml]; rfl) Eq41 (ow hw 89 rfl) (ow hw 40 rfl) (ow hw 42 rfl) (ow hw 41 rfl) (ow hw 10 rfl) (ow hw 43 rfl) (by decide) (argsL := []) (st := []) (c_length_0 l Z a0 hw r41 t41 ct41  T41.heap f41_0 Eq41 Cq41 Vq41 Aq41 ) (lenOf pd_1 rfl) (H at_132) (pc' := 135) rfl rfl rfl rfl (by decide) (W := 0) (Nat.le_of_eq rfl) (by decide) (by decide) (by decide) ?_
              intro T42 X42 e42
              refine gLoadI 137 X42 hx (H at_135) rfl rfl ?_
              refine gIcmpEqT X42 hx (H at_137) (pc' := 142) (by decide) (by decide) (pn := 140) rfl (fun (c137 : (0 : Int) = (0 : Int)) => ?_) (fun (c137 : ¬ (0 : Int) = (0 : Int)) => ?_)
              · refine gIconst 143 X42 hx (v := (1 : Int32)) (H at_142) rfl rfl ?_
                refine gStoreI 145 X42 hx (H at_143) (l' := #[.val (.int p0), .val (.int p1), .val (.int p2), .val (.int p3), .val (.int p4), .val (.int (3 : Int32)), .val (.int ch0), .val (.int ch1), .val (.int ch2), .val (.int ch3), .val (.ref r40), .val (.ref r41), .val (.int (2 : Int32)), .val (.int (0 : Int32)), .val (.int (1 : Int32))]) rfl rfl ?_
                refine gLoadI 147 X42 hx (H at_145) rfl rfl ?_
                refine gIfLe X42 hx (H at_147) (pc' := 177) (by decide) (by decide) (pn := 150) rfl (fun (c147 : (0 : Int) ≤ (0 : Int)) => ?_) (fun (c147 : (0 : Int) < (0 : Int)) => ?_)
                · refine gLoadI 179 X42 hx (H at_177) rfl rfl ?_
                  refine gIconst 180 X42 hx (v := (1 : Int32)) (H at_179) rfl rfl ?_
                  refine gIcmpLe X42 hx (H at_180) (pc' := 210) (by decide) (by decide) (pn := 183) rfl (fun (c180 : (0 : Int) ≤ (1 : Int)) => ?_) (fun (c180 : (1 : Int) < (0 : Int)) => ?_)
                  · refine gLoadI 212 X42 hx (H at_210) rfl rfl ?_
                    refine gIconst 213 X42 hx (v := (2 : Int32)) (H at_212) rfl rfl ?_
                    refine gIcmpLe X42 hx (H at_213) (pc' := 243) (by decide) (by decide) (pn := 216) rfl (fun (c213 : (0 : Int) ≤ (2 : Int)) => ?_) (fun (c213 : (2 : Int) < (0 : Int)) => ?_)
                    · refine gLoadI 245 X42 hx (H at_243) rfl rfl ?_
                      refine gIconst 246 X42 hx (v := (3 : Int32)) (H at_245) rfl rfl ?_
                      refine gIcmpLe X42 hx (H at_246) (pc' := 276) (by decide) (by decide) (pn := 249) rfl (fun (c246 : (0 : Int) ≤ (3 : Int)) => ?_) (fun (c246 : (3 : Int) < (0 : Int)) => ?_)
                      · refine gLoadI 278 X42 hx (H at_276) rfl rfl ?_
                        exact gRetHN X42 hx hlk hret (by simp) (H at_278) (w := (1 : Int32)) rfl e42 hS (Nat.le_refl _) hZ hEL H41 (by decide) (by decide) (⟨rfl, N41⟩)
                      · exact absurd c246 (by decide)
                    · exact absurd c213 (by decide)
                  · exact absurd c180 (by decide)
                · exact absurd c147 (by decide)
              · exact absurd c137 (by decide)
            · exact absurd c108 (by decide)
      refine gLoadI 60 X41 hx (H at_58) rfl rfl ?_
      refine gIfLe X41 hx (H at_60) (pc' := 73) (by decide) (by decide) (pn := 63) rfl (fun (c60 : (3 : Int) ≤ (0 : Int)) => ?_) (fun (c60 : (0 : Int) < (3 : Int)) => ?_)
      · exact absurd c60 (by decide)
      · refine gLoadI 65 X41 hx (H at_63) rfl rfl ?_
        refine gBipush 67 X41 hx (v := (47 : Int32)) (H at_65) rfl rfl ?_
        refine gIcmpNeT X41 hx (H at_67) (pc' := 73) (by decide) (by decide) (pn := 70) rfl (fun (c67 : ¬ ch0.toInt = (47 : Int)) => ?_) (fun (c67 : ch0.toInt = (47 : Int)) => ?_)
        · refine gLoadI 75 X41 hx (H at_73) rfl rfl ?_
          refine gIconst 76 X41 hx (v := (1 : Int32)) (H at_75) rfl rfl ?_
          refine gIcmpLe X41 hx (H at_76) (pc' := 89) (by decide) (by decide) (pn := 79) rfl (fun (c76 : (3 : Int) ≤ (1 : Int)) => ?_) (fun (c76 : (1 : Int) < (3 : Int)) => ?_)
          · exact absurd c76 (by decide)
          · refine gLoadI 81 X41 hx (H at_79) rfl rfl ?_
            refine gBipush 83 X41 hx (v := (47 : Int32)) (H at_81) rfl rfl ?_
            refine gIcmpNeT X41 hx (H at_83) (pc' := 89) (by decide) (by decide) (pn := 86) rfl (fun (c83 : ¬ ch1.toInt = (47 : Int)) => ?_) (fun (c83 : ch1.toInt = (47 : Int)) => ?_)
            · exact J _
            · refine gIconst 87 X41 hx (v := (1 : Int32)) (H at_86) rfl rfl ?_
              refine gStoreI 89 X41 hx (H at_87) (l' := #[.val (.int p0), .val (.int p1), .val (.int p2), .val (.int p3), .val (.int p4), .val (.int (3 : Int32)), .val (.int ch0), .val (.int ch1), .val (.int ch2), .val (.int ch3), .val (.ref r40), .val (.ref r41), .val (.int (1 : Int32)), .unset, .unset]) rfl rfl ?_
              exact J _
        · refine gIconst 71 X41 hx (v := (0 : Int32)) (H at_70) rfl rfl ?_
          refine gStoreI 73 X41 hx (H at_71) (l' := #[.val (.int p0), .val (.int p1), .val (.int p2), .val (.int p3), .val (.int p4), .val (.int (3 : Int32)), .val (.int ch0), .val (.int ch1), .val (.int ch2), .val (.int ch3), .val (.ref r40), .val (.ref r41), .val (.int (0 : Int32)), .unset, .unset]) rfl rfl ?_
          refine gLoadI 75 X41 hx (H at_73) rfl rfl ?_
          refine gIconst 76 X41 hx (v := (1 : Int32)) (H at_75) rfl rfl ?_
          refine gIcmpLe X41 hx (H at_76) (pc' := 89) (by decide) (by decide) (pn := 79) rfl (fun (c76 : (3 : Int) ≤ (1 : Int)) => ?_) (fun (c76 : (1 : Int) < (3 : Int)) => ?_)
          · exact absurd c76 (by decide)
          · refine gLoadI 81 X41 hx (H at_79) rfl rfl ?_
            refine gBipush 83 X41 hx (v := (47 : Int32)) (H at_81) rfl rfl ?_
            refine gIcmpNeT X41 hx (H at_83) (pc' := 89) (by decide) (by decide) (pn := 86) rfl (fun (c83 : ¬ ch1.toInt = (47 : Int)) => ?_) (fun (c83 : ch1.toInt = (47 : Int)) => ?_)
            · exact J _
            · refine gIconst 87 X41 hx (v := (1 : Int32)) (H at_86) rfl rfl ?_
              refine gStoreI 89 X41 hx (H at_87) (l' := #[.val (.int p0), .val (.int p1), .val (.int p2), .val (.int p3), .val (.int p4), .val (.int (3 : Int32)), .val (.int ch0), .val (.int ch1), .val (.int ch2), .val (.int ch3), .val (.ref r40), .val (.ref r41), .val (.int (1 : Int32)), .unset, .unset]) rfl rfl ?_
              exact J _
    · by_cases d1 : ch1.toInt = 47
      · refine gLoadA 50 X40 hx (H at_48) rfl rfl rfl ?_
        refine gCallS X40 hx hZ (y := mn0) hown rfl (by rw [hml]; rfl) (ow hw 30 rfl) (ow hw 31 rfl) (ow hw 32 rfl) (ow hw 33 rfl) (by decide) (argsL := [(.ref r40)]) (st := []) (c_nm_3_1 l Z a0 hw r40 t40 ct40 ch0 ch1 ch2 T40.heap f40_1 f40_0 Eq40 Cq40 Vq40 Aq40 hch0 hch1 hch2 d2 d1) (lenOf pd_17 rfl) (H at_50) (pc' := 53) rfl rfl (by decide) (W := 0) (Nat.le_of_eq rfl) (by decide) (by decide) (by decide) ?_
        intro T43 v43 L43 X43 hQ43
        obtain ⟨r43, t43, ct43, rfl, Nq43, Kq43, Eq43, Cq43, Vq43, Aq43⟩ := hQ43
        have N43 := Fr.app N40 (fun y hy => Nat.le_trans zs40 (Nq43 y hy))
        have H43 := H40.trans (CHr.keep Kq43 sf0 H40.1)
        have hk43 := Nat.le_trans hk40 Kq43.1
        have f43_0 := own_cpt_keep f40_0 Kq43 ns0
        have f43_1 := own_sio_keep f40_1 Kq43 ns0
        have f43_2 := Eq40.keep Kq43
        have f43_3 := Cq40.keep Kq43 nin0
        have f43_4 := Vq40.keep Kq43 nin0
        have f43_5 := Aq40.keep Kq43 nin0
        have zs43 := Nat.le_trans zs40 Kq43.1
        refine gStoreA 55 X43 hx (H at_53) (l' := #[.val (.int p0), .val (.int p1), .val (.int p2), .val (.int p3), .val (.int p4), .val (.int (3 : Int32)), .val (.int ch0), .val (.int ch1), .val (.int ch2), .val (.int ch3), .val (.ref r40), .val (.ref r43), .unset, .unset, .unset]) rfl rfl rfl ?_
        refine gIconst 56 X43 hx (v := (-1 : Int32)) (H at_55) rfl rfl ?_
        refine gStoreI 58 X43 hx (H at_56) (l' := #[.val (.int p0), .val (.int p1), .val (.int p2), .val (.int p3), .val (.int p4), .val (.int (3 : Int32)), .val (.int ch0), .val (.int ch1), .val (.int ch2), .val (.int ch3), .val (.ref r40), .val (.ref r43), .val (.int (-1 : Int32)), .unset, .unset]) rfl rfl ?_
        have J : ∀ pv : Int32, Goes p e below (FinH Z [("java/lang/String", 7), ("java/lang/StringLatin1", 151)] s room_1.cells room_1.slots (Law1 h0)) T43 (mkF m 73 #[.val (.int p0), .val (.int p1), .val (.int p2), .val (.int p3), .val (.int p4), .val (.int (3 : Int32)), .val (.int ch0), .val (.int ch1), .val (.int ch2), .val (.int ch3), .val (.ref r40), .val (.ref r43), .val (.int pv), .unset, .unset] []) := by
          intro pv
          refine gLoadI 75 X43 hx (H at_73) rfl rfl ?_
          refine gIconst 76 X43 hx (v := (1 : Int32)) (H at_75) rfl rfl ?_
          refine gIcmpLe X43 hx (H at_76) (pc' := 89) (by decide) (by decide) (pn := 79) rfl (fun (c76 : (3 : Int) ≤ (1 : Int)) => ?_) (fun (c76 : (1 : Int) < (3 : Int)) => ?_)
          · exact absurd c76 (by decide)
          · refine gLoadI 81 X43 hx (H at_79) rfl rfl ?_
            refine gBipush 83 X43 hx (v := (47 : Int32)) (H at_81) rfl rfl ?_
            refine gIcmpNeT X43 hx (H at_83) (pc' := 89) (by decide) (by decide) (pn := 86) rfl (fun (c83 : ¬ ch1.toInt = (47 : Int)) => ?_) (fun (c83 : ch1.toInt = (47 : Int)) => ?_)
            · exact absurd d1 c83
            · refine gIconst 87 X43 hx (v := (1 : Int32)) (H at_86) rfl rfl ?_
              refine gStoreI 89 X43 hx (H at_87) (l' := #[.val (.int p0), .val (.int p1), .val (.int p2), .val (.int p3), .val (.int p4), .val (.int (3 : Int32)), .val (.int ch0), .val (.int ch1), .val (.int ch2), .val (.int ch3), .val (.ref r40), .val (.ref r43), .val (.int (1 : Int32)), .unset, .unset]) rfl rfl ?_
              refine gLoadI 91 X43 hx (H at_89) rfl rfl ?_
              refine gIconst 92 X43 hx (v := (2 : Int32)) (H at_91) rfl rfl ?_
              refine gIcmpLe X43 hx (H at_92) (pc' := 105) (by decide) (by decide) (pn := 95) rfl (fun (c92 : (3 : Int) ≤ (2 : Int)) => ?_) (fun (c92 : (2 : Int) < (3 : Int)) => ?_)
              · exact absurd c92 (by decide)
              · refine gLoadI 97 X43 hx (H at_95) rfl rfl ?_
                refine gBipush 99 X43 hx (v := (47 : Int32)) (H at_97) rfl rfl ?_
                refine gIcmpNeT X43 hx (H at_99) (pc' := 105) (by decide) (by decide) (pn := 102) rfl (fun (c99 : ¬ ch2.toInt = (47 : Int)) => ?_) (fun (c99 : ch2.toInt = (47 : Int)) => ?_)
                · refine gLoadI 107 X43 hx (H at_105) rfl rfl ?_
                  refine gIconst 108 X43 hx (v := (3 : Int32)) (H at_107) rfl rfl ?_
                  refine gIcmpLe X43 hx (H at_108) (pc' := 121) (by decide) (by decide) (pn := 111) rfl (fun (c108 : (3 : Int) ≤ (3 : Int)) => ?_) (fun (c108 : (3 : Int) < (3 : Int)) => ?_)
                  · refine gLoadI 123 X43 hx (H at_121) rfl rfl ?_
                    refine gLoadI 125 X43 hx (H at_123) rfl rfl ?_
                    refine gIsub 126 X43 hx (H at_125) rfl ?_
                    show Goes p e below _ T43 (mkF m 126 #[.val (.int p0), .val (.int p1), .val (.int p2), .val (.int p3), .val (.int p4), .val (.int (3 : Int32)), .val (.int ch0), .val (.int ch1), .val (.int ch2), .val (.int ch3), .val (.ref r40), .val (.ref r43), .val (.int (1 : Int32)), .unset, .unset] [(.int (2 : Int32))])
                    refine gIconst 127 X43 hx (v := (1 : Int32)) (H at_126) rfl rfl ?_
                    refine gIsub 128 X43 hx (H at_127) rfl ?_
                    show Goes p e below _ T43 (mkF m 128 #[.val (.int p0), .val (.int p1), .val (.int p2), .val (.int p3), .val (.int p4), .val (.int (3 : Int32)), .val (.int ch0), .val (.int ch1), .val (.int ch2), .val (.int ch3), .val (.ref r40), .val (.ref r43), .val (.int (1 : Int32)), .unset, .unset] [(.int (1 : Int32))])
                    refine gStoreI 130 X43 hx (H at_128) (l' := #[.val (.int p0), .val (.int p1), .val (.int p2), .val (.int p3), .val (.int p4), .val (.int (3 : Int32)), .val (.int ch0), .val (.int ch1), .val (.int ch2), .val (.int ch3), .val (.ref r40), .val (.ref r43), .val (.int (1 : Int32)), .val (.int (1 : Int32)), .unset]) rfl rfl ?_
                    refine gLoadA 132 X43 hx (H at_130) rfl rfl rfl ?_
                    refine gCallVJ X43 hx hZ (y := mn17) hown rfl (by rw [hml]; rfl) Eq43 (ow hw 89 rfl) (ow hw 40 rfl) (ow hw 42 rfl) (ow hw 41 rfl) (ow hw 10 rfl) (ow hw 43 rfl) (by decide) (argsL := []) (st := []) (c_length_1 l Z a0 hw r43 t43 ct43 ch2 T43.heap f43_0 Eq43 Cq43 Vq43 Aq43 hch2) (lenOf pd_1 rfl) (H at_132) (pc' := 135) rfl rfl rfl rfl (by decide) (W := 0) (Nat.le_of_eq rfl) (by decide) (by decide) (by decide) ?_
                    intro T44 X44 e44
                    refine gLoadI 137 X44 hx (H at_135) rfl rfl ?_
                    refine gIcmpEqT X44 hx (H at_137) (pc' := 142) (by decide) (by decide) (pn := 140) rfl (fun (c137 : (1 : Int) = (1 : Int)) => ?_) (fun (c137 : ¬ (1 : Int) = (1 : Int)) => ?_)
                    · refine gIconst 143 X44 hx (v := (1 : Int32)) (H at_142) rfl rfl ?_
                      refine gStoreI 145 X44 hx (H at_143) (l' := #[.val (.int p0), .val (.int p1), .val (.int p2), .val (.int p3), .val (.int p4), .val (.int (3 : Int32)), .val (.int ch0), .val (.int ch1), .val (.int ch2), .val (.int ch3), .val (.ref r40), .val (.ref r43), .val (.int (1 : Int32)), .val (.int (1 : Int32)), .val (.int (1 : Int32))]) rfl rfl ?_
                      refine gLoadI 147 X44 hx (H at_145) rfl rfl ?_
                      refine gIfLe X44 hx (H at_147) (pc' := 177) (by decide) (by decide) (pn := 150) rfl (fun (c147 : (1 : Int) ≤ (0 : Int)) => ?_) (fun (c147 : (0 : Int) < (1 : Int)) => ?_)
                      · exact absurd c147 (by decide)
                      · refine gLoadA 152 X44 hx (H at_150) rfl rfl rfl ?_
                        refine gIconst 153 X44 hx (v := (0 : Int32)) (H at_152) rfl rfl ?_
                        refine gCallVJ X44 hx hZ (y := mn10) hown e44 (by rw [hml]; rfl) Eq43 (ow hw 122 rfl) (ow hw 123 rfl) (ow hw 125 rfl) (ow hw 124 rfl) (ow hw 10 rfl) (ow hw 126 rfl) (by decide) (argsL := [(.int (0 : Int32))]) (st := []) (c_charAt_0_1 l Z a0 hw r43 t43 ct43 ch2 T43.heap f43_1 f43_0 Eq43 Cq43 Vq43 Aq43 hch2) (lenOf pd_4 rfl) (H at_153) (pc' := 156) rfl rfl rfl rfl (by decide) (W := 0) (Nat.le_of_eq rfl) (by decide) (by decide) (by decide) ?_
                        intro T45 X45 e45
                        refine gLoadI 158 X45 hx (H at_156) rfl rfl ?_
                        refine gIconst 159 X45 hx (v := (1 : Int32)) (H at_158) rfl rfl ?_
                        refine gIadd 160 X45 hx (H at_159) rfl ?_
                        show Goes p e below _ T45 (mkF m 160 #[.val (.int p0), .val (.int p1), .val (.int p2), .val (.int p3), .val (.int p4), .val (.int (3 : Int32)), .val (.int ch0), .val (.int ch1), .val (.int ch2), .val (.int ch3), .val (.ref r40), .val (.ref r43), .val (.int (1 : Int32)), .val (.int (1 : Int32)), .val (.int (1 : Int32))] [(.int (2 : Int32)), (.int ch2)])
                        refine gLoadI 162 X45 hx (H at_160) rfl rfl ?_
                        refine gLoadI 164 X45 hx (H at_162) rfl rfl ?_
                        refine gLoadI 166 X45 hx (H at_164) rfl rfl ?_
                        refine gLoadI 168 X45 hx (H at_166) rfl rfl ?_
                        refine gCallSJ X45 hx hZ (y := mn4) hown e45 (by rw [hml]; rfl) (ow hw 136 rfl) (ow hw 137 rfl) (ow hw 3 rfl) (ow hw 138 rfl) (by decide) (argsL := [(.int (2 : Int32)), (.int ch0), (.int ch1), (.int ch2), (.int ch3)]) (st := [(.int ch2)]) (c_pick_2 l Z a0 hw ch0 ch1 ch2 ch3 _ hch0 hch1 hch2 hch3) (lenOf pd_8 rfl) (H at_168) (pc' := 171) rfl rfl rfl rfl (by decide) (W := 1) (Nat.le_of_eq rfl) (by decide) (by decide) (by decide) ?_
                        intro T46 X46 e46
                        refine gIcmpEq X46 hx (H at_171) (pc' := 177) (by decide) (by decide) (pn := 174) rfl (fun (c171 : ch2 = ch2) => ?_) (fun (c171 : ¬ ch2 = ch2) => ?_)
                        · refine gLoadI 179 X46 hx (H at_177) rfl rfl ?_
                          refine gIconst 180 X46 hx (v := (1 : Int32)) (H at_179) rfl rfl ?_
                          refine gIcmpLe X46 hx (H at_180) (pc' := 210) (by decide) (by decide) (pn := 183) rfl (fun (c180 : (1 : Int) ≤ (1 : Int)) => ?_) (fun (c180 : (1 : Int) < (1 : Int)) => ?_)
                          · refine gLoadI 212 X46 hx (H at_210) rfl rfl ?_
                            refine gIconst 213 X46 hx (v := (2 : Int32)) (H at_212) rfl rfl ?_
                            refine gIcmpLe X46 hx (H at_213) (pc' := 243) (by decide) (by decide) (pn := 216) rfl (fun (c213 : (1 : Int) ≤ (2 : Int)) => ?_) (fun (c213 : (2 : Int) < (1 : Int)) => ?_)
                            · refine gLoadI 245 X46 hx (H at_243) rfl rfl ?_
                              refine gIconst 246 X46 hx (v := (3 : Int32)) (H at_245) rfl rfl ?_
                              refine gIcmpLe X46 hx (H at_246) (pc' := 276) (by decide) (by decide) (pn := 249) rfl (fun (c246 : (1 : Int) ≤ (3 : Int)) => ?_) (fun (c246 : (3 : Int) < (1 : Int)) => ?_)
                              · refine gLoadI 278 X46 hx (H at_276) rfl rfl ?_
                                exact gRetHN X46 hx hlk hret (by simp) (H at_278) (w := (1 : Int32)) rfl e46 hS hk43 hZ hEL H43 (by decide) (by decide) (⟨rfl, N43⟩)
                              · exact absurd c246 (by decide)
                            · exact absurd c213 (by decide)
                          · exact absurd c180 (by decide)
                        · exact absurd rfl c171
                    · exact absurd c137 (by decide)
                  · exact absurd c108 (by decide)
                · exact absurd c99 d2
        refine gLoadI 60 X43 hx (H at_58) rfl rfl ?_
        refine gIfLe X43 hx (H at_60) (pc' := 73) (by decide) (by decide) (pn := 63) rfl (fun (c60 : (3 : Int) ≤ (0 : Int)) => ?_) (fun (c60 : (0 : Int) < (3 : Int)) => ?_)
        · exact absurd c60 (by decide)
        · refine gLoadI 65 X43 hx (H at_63) rfl rfl ?_
          refine gBipush 67 X43 hx (v := (47 : Int32)) (H at_65) rfl rfl ?_
          refine gIcmpNeT X43 hx (H at_67) (pc' := 73) (by decide) (by decide) (pn := 70) rfl (fun (c67 : ¬ ch0.toInt = (47 : Int)) => ?_) (fun (c67 : ch0.toInt = (47 : Int)) => ?_)
          · exact J _
          · refine gIconst 71 X43 hx (v := (0 : Int32)) (H at_70) rfl rfl ?_
            refine gStoreI 73 X43 hx (H at_71) (l' := #[.val (.int p0), .val (.int p1), .val (.int p2), .val (.int p3), .val (.int p4), .val (.int (3 : Int32)), .val (.int ch0), .val (.int ch1), .val (.int ch2), .val (.int ch3), .val (.ref r40), .val (.ref r43), .val (.int (0 : Int32)), .unset, .unset]) rfl rfl ?_
            exact J _
      · by_cases d0 : ch0.toInt = 47
        · refine gLoadA 50 X40 hx (H at_48) rfl rfl rfl ?_
          refine gCallS X40 hx hZ (y := mn0) hown rfl (by rw [hml]; rfl) (ow hw 30 rfl) (ow hw 31 rfl) (ow hw 32 rfl) (ow hw 33 rfl) (by decide) (argsL := [(.ref r40)]) (st := []) (c_nm_3_0 l Z a0 hw r40 t40 ct40 ch0 ch1 ch2 T40.heap f40_1 f40_0 Eq40 Cq40 Vq40 Aq40 hch0 hch1 hch2 d1 d2 d0) (lenOf pd_17 rfl) (H at_50) (pc' := 53) rfl rfl (by decide) (W := 0) (Nat.le_of_eq rfl) (by decide) (by decide) (by decide) ?_
          intro T47 v47 L47 X47 hQ47
          obtain ⟨r47, t47, ct47, rfl, Nq47, Kq47, Eq47, Cq47, Vq47, Aq47⟩ := hQ47
          have N47 := Fr.app N40 (fun y hy => Nat.le_trans zs40 (Nq47 y hy))
          have H47 := H40.trans (CHr.keep Kq47 sf0 H40.1)
          have hk47 := Nat.le_trans hk40 Kq47.1
          have f47_0 := own_cpt_keep f40_0 Kq47 ns0
          have f47_1 := own_sio_keep f40_1 Kq47 ns0
          have f47_2 := Eq40.keep Kq47
          have f47_3 := Cq40.keep Kq47 nin0
          have f47_4 := Vq40.keep Kq47 nin0
          have f47_5 := Aq40.keep Kq47 nin0
          have zs47 := Nat.le_trans zs40 Kq47.1
          refine gStoreA 55 X47 hx (H at_53) (l' := #[.val (.int p0), .val (.int p1), .val (.int p2), .val (.int p3), .val (.int p4), .val (.int (3 : Int32)), .val (.int ch0), .val (.int ch1), .val (.int ch2), .val (.int ch3), .val (.ref r40), .val (.ref r47), .unset, .unset, .unset]) rfl rfl rfl ?_
          refine gIconst 56 X47 hx (v := (-1 : Int32)) (H at_55) rfl rfl ?_
          refine gStoreI 58 X47 hx (H at_56) (l' := #[.val (.int p0), .val (.int p1), .val (.int p2), .val (.int p3), .val (.int p4), .val (.int (3 : Int32)), .val (.int ch0), .val (.int ch1), .val (.int ch2), .val (.int ch3), .val (.ref r40), .val (.ref r47), .val (.int (-1 : Int32)), .unset, .unset]) rfl rfl ?_
          refine gLoadI 60 X47 hx (H at_58) rfl rfl ?_
          refine gIfLe X47 hx (H at_60) (pc' := 73) (by decide) (by decide) (pn := 63) rfl (fun (c60 : (3 : Int) ≤ (0 : Int)) => ?_) (fun (c60 : (0 : Int) < (3 : Int)) => ?_)
          · exact absurd c60 (by decide)
          · refine gLoadI 65 X47 hx (H at_63) rfl rfl ?_
            refine gBipush 67 X47 hx (v := (47 : Int32)) (H at_65) rfl rfl ?_
            refine gIcmpNeT X47 hx (H at_67) (pc' := 73) (by decide) (by decide) (pn := 70) rfl (fun (c67 : ¬ ch0.toInt = (47 : Int)) => ?_) (fun (c67 : ch0.toInt = (47 : Int)) => ?_)
            · exact absurd d0 c67
            · refine gIconst 71 X47 hx (v := (0 : Int32)) (H at_70) rfl rfl ?_
              refine gStoreI 73 X47 hx (H at_71) (l' := #[.val (.int p0), .val (.int p1), .val (.int p2), .val (.int p3), .val (.int p4), .val (.int (3 : Int32)), .val (.int ch0), .val (.int ch1), .val (.int ch2), .val (.int ch3), .val (.ref r40), .val (.ref r47), .val (.int (0 : Int32)), .unset, .unset]) rfl rfl ?_
              refine gLoadI 75 X47 hx (H at_73) rfl rfl ?_
              refine gIconst 76 X47 hx (v := (1 : Int32)) (H at_75) rfl rfl ?_
              refine gIcmpLe X47 hx (H at_76) (pc' := 89) (by decide) (by decide) (pn := 79) rfl (fun (c76 : (3 : Int) ≤ (1 : Int)) => ?_) (fun (c76 : (1 : Int) < (3 : Int)) => ?_)
              · exact absurd c76 (by decide)
              · refine gLoadI 81 X47 hx (H at_79) rfl rfl ?_
                refine gBipush 83 X47 hx (v := (47 : Int32)) (H at_81) rfl rfl ?_
                refine gIcmpNeT X47 hx (H at_83) (pc' := 89) (by decide) (by decide) (pn := 86) rfl (fun (c83 : ¬ ch1.toInt = (47 : Int)) => ?_) (fun (c83 : ch1.toInt = (47 : Int)) => ?_)
                · refine gLoadI 91 X47 hx (H at_89) rfl rfl ?_
                  refine gIconst 92 X47 hx (v := (2 : Int32)) (H at_91) rfl rfl ?_
                  refine gIcmpLe X47 hx (H at_92) (pc' := 105) (by decide) (by decide) (pn := 95) rfl (fun (c92 : (3 : Int) ≤ (2 : Int)) => ?_) (fun (c92 : (2 : Int) < (3 : Int)) => ?_)
                  · exact absurd c92 (by decide)
                  · refine gLoadI 97 X47 hx (H at_95) rfl rfl ?_
                    refine gBipush 99 X47 hx (v := (47 : Int32)) (H at_97) rfl rfl ?_
                    refine gIcmpNeT X47 hx (H at_99) (pc' := 105) (by decide) (by decide) (pn := 102) rfl (fun (c99 : ¬ ch2.toInt = (47 : Int)) => ?_) (fun (c99 : ch2.toInt = (47 : Int)) => ?_)
                    · refine gLoadI 107 X47 hx (H at_105) rfl rfl ?_
                      refine gIconst 108 X47 hx (v := (3 : Int32)) (H at_107) rfl rfl ?_
                      refine gIcmpLe X47 hx (H at_108) (pc' := 121) (by decide) (by decide) (pn := 111) rfl (fun (c108 : (3 : Int) ≤ (3 : Int)) => ?_) (fun (c108 : (3 : Int) < (3 : Int)) => ?_)
                      · refine gLoadI 123 X47 hx (H at_121) rfl rfl ?_
                        refine gLoadI 125 X47 hx (H at_123) rfl rfl ?_
                        refine gIsub 126 X47 hx (H at_125) rfl ?_
                        show Goes p e below _ T47 (mkF m 126 #[.val (.int p0), .val (.int p1), .val (.int p2), .val (.int p3), .val (.int p4), .val (.int (3 : Int32)), .val (.int ch0), .val (.int ch1), .val (.int ch2), .val (.int ch3), .val (.ref r40), .val (.ref r47), .val (.int (0 : Int32)), .unset, .unset] [(.int (3 : Int32))])
                        refine gIconst 127 X47 hx (v := (1 : Int32)) (H at_126) rfl rfl ?_
                        refine gIsub 128 X47 hx (H at_127) rfl ?_
                        show Goes p e below _ T47 (mkF m 128 #[.val (.int p0), .val (.int p1), .val (.int p2), .val (.int p3), .val (.int p4), .val (.int (3 : Int32)), .val (.int ch0), .val (.int ch1), .val (.int ch2), .val (.int ch3), .val (.ref r40), .val (.ref r47), .val (.int (0 : Int32)), .unset, .unset] [(.int (2 : Int32))])
                        refine gStoreI 130 X47 hx (H at_128) (l' := #[.val (.int p0), .val (.int p1), .val (.int p2), .val (.int p3), .val (.int p4), .val (.int (3 : Int32)), .val (.int ch0), .val (.int ch1), .val (.int ch2), .val (.int ch3), .val (.ref r40), .val (.ref r47), .val (.int (0 : Int32)), .val (.int (2 : Int32)), .unset]) rfl rfl ?_
                        refine gLoadA 132 X47 hx (H at_130) rfl rfl rfl ?_
                        refine gCallVJ X47 hx hZ (y := mn17) hown rfl (by rw [hml]; rfl) Eq47 (ow hw 89 rfl) (ow hw 40 rfl) (ow hw 42 rfl) (ow hw 41 rfl) (ow hw 10 rfl) (ow hw 43 rfl) (by decide) (argsL := []) (st := []) (c_length_2 l Z a0 hw r47 t47 ct47 ch1 ch2 T47.heap f47_0 Eq47 Cq47 Vq47 Aq47 hch1 hch2) (lenOf pd_1 rfl) (H at_132) (pc' := 135) rfl rfl rfl rfl (by decide) (W := 0) (Nat.le_of_eq rfl) (by decide) (by decide) (by decide) ?_
                        intro T48 X48 e48
                        refine gLoadI 137 X48 hx (H at_135) rfl rfl ?_
                        refine gIcmpEqT X48 hx (H at_137) (pc' := 142) (by decide) (by decide) (pn := 140) rfl (fun (c137 : (2 : Int) = (2 : Int)) => ?_) (fun (c137 : ¬ (2 : Int) = (2 : Int)) => ?_)
                        · refine gIconst 143 X48 hx (v := (1 : Int32)) (H at_142) rfl rfl ?_
                          refine gStoreI 145 X48 hx (H at_143) (l' := #[.val (.int p0), .val (.int p1), .val (.int p2), .val (.int p3), .val (.int p4), .val (.int (3 : Int32)), .val (.int ch0), .val (.int ch1), .val (.int ch2), .val (.int ch3), .val (.ref r40), .val (.ref r47), .val (.int (0 : Int32)), .val (.int (2 : Int32)), .val (.int (1 : Int32))]) rfl rfl ?_
                          refine gLoadI 147 X48 hx (H at_145) rfl rfl ?_
                          refine gIfLe X48 hx (H at_147) (pc' := 177) (by decide) (by decide) (pn := 150) rfl (fun (c147 : (2 : Int) ≤ (0 : Int)) => ?_) (fun (c147 : (0 : Int) < (2 : Int)) => ?_)
                          · exact absurd c147 (by decide)
                          · refine gLoadA 152 X48 hx (H at_150) rfl rfl rfl ?_
                            refine gIconst 153 X48 hx (v := (0 : Int32)) (H at_152) rfl rfl ?_
                            refine gCallVJ X48 hx hZ (y := mn10) hown e48 (by rw [hml]; rfl) Eq47 (ow hw 122 rfl) (ow hw 123 rfl) (ow hw 125 rfl) (ow hw 124 rfl) (ow hw 10 rfl) (ow hw 126 rfl) (by decide) (argsL := [(.int (0 : Int32))]) (st := []) (c_charAt_0_2 l Z a0 hw r47 t47 ct47 ch1 ch2 T47.heap f47_1 f47_0 Eq47 Cq47 Vq47 Aq47 hch1 hch2) (lenOf pd_4 rfl) (H at_153) (pc' := 156) rfl rfl rfl rfl (by decide) (W := 0) (Nat.le_of_eq rfl) (by decide) (by decide) (by decide) ?_
                            intro T49 X49 e49
                            refine gLoadI 158 X49 hx (H at_156) rfl rfl ?_
                            refine gIconst 159 X49 hx (v := (1 : Int32)) (H at_158) rfl rfl ?_
                            refine gIadd 160 X49 hx (H at_159) rfl ?_
                            show Goes p e below _ T49 (mkF m 160 #[.val (.int p0), .val (.int p1), .val (.int p2), .val (.int p3), .val (.int p4), .val (.int (3 : Int32)), .val (.int ch0), .val (.int ch1), .val (.int ch2), .val (.int ch3), .val (.ref r40), .val (.ref r47), .val (.int (0 : Int32)), .val (.int (2 : Int32)), .val (.int (1 : Int32))] [(.int (1 : Int32)), (.int ch1)])
                            refine gLoadI 162 X49 hx (H at_160) rfl rfl ?_
                            refine gLoadI 164 X49 hx (H at_162) rfl rfl ?_
                            refine gLoadI 166 X49 hx (H at_164) rfl rfl ?_
                            refine gLoadI 168 X49 hx (H at_166) rfl rfl ?_
                            refine gCallSJ X49 hx hZ (y := mn4) hown e49 (by rw [hml]; rfl) (ow hw 136 rfl) (ow hw 137 rfl) (ow hw 3 rfl) (ow hw 138 rfl) (by decide) (argsL := [(.int (1 : Int32)), (.int ch0), (.int ch1), (.int ch2), (.int ch3)]) (st := [(.int ch1)]) (c_pick_1 l Z a0 hw ch0 ch1 ch2 ch3 _ hch0 hch1 hch2 hch3) (lenOf pd_8 rfl) (H at_168) (pc' := 171) rfl rfl rfl rfl (by decide) (W := 1) (Nat.le_of_eq rfl) (by decide) (by decide) (by decide) ?_
                            intro T50 X50 e50
                            refine gIcmpEq X50 hx (H at_171) (pc' := 177) (by decide) (by decide) (pn := 174) rfl (fun (c171 : ch1 = ch1) => ?_) (fun (c171 : ¬ ch1 = ch1) => ?_)
                            · refine gLoadI 179 X50 hx (H at_177) rfl rfl ?_
                              refine gIconst 180 X50 hx (v := (1 : Int32)) (H at_179) rfl rfl ?_
                              refine gIcmpLe X50 hx (H at_180) (pc' := 210) (by decide) (by decide) (pn := 183) rfl (fun (c180 : (2 : Int) ≤ (1 : Int)) => ?_) (fun (c180 : (1 : Int) < (2 : Int)) => ?_)
                              · exact absurd c180 (by decide)
                              · refine gLoadA 185 X50 hx (H at_183) rfl rfl rfl ?_
                                refine gIconst 186 X50 hx (v := (1 : Int32)) (H at_185) rfl rfl ?_
                                refine gCallVJ X50 hx hZ (y := mn10) hown e50 (by rw [hml]; rfl) Eq47 (ow hw 122 rfl) (ow hw 123 rfl) (ow hw 125 rfl) (ow hw 124 rfl) (ow hw 10 rfl) (ow hw 126 rfl) (by decide) (argsL := [(.int (1 : Int32))]) (st := []) (c_charAt_1_2 l Z a0 hw r47 t47 ct47 ch1 ch2 T47.heap f47_1 f47_0 Eq47 Cq47 Vq47 Aq47 hch1 hch2) (lenOf pd_4 rfl) (H at_186) (pc' := 189) rfl rfl rfl rfl (by decide) (W := 0) (Nat.le_of_eq rfl) (by decide) (by decide) (by decide) ?_
                                intro T51 X51 e51
                                refine gLoadI 191 X51 hx (H at_189) rfl rfl ?_
                                refine gIconst 192 X51 hx (v := (2 : Int32)) (H at_191) rfl rfl ?_
                                refine gIadd 193 X51 hx (H at_192) rfl ?_
                                show Goes p e below _ T51 (mkF m 193 #[.val (.int p0), .val (.int p1), .val (.int p2), .val (.int p3), .val (.int p4), .val (.int (3 : Int32)), .val (.int ch0), .val (.int ch1), .val (.int ch2), .val (.int ch3), .val (.ref r40), .val (.ref r47), .val (.int (0 : Int32)), .val (.int (2 : Int32)), .val (.int (1 : Int32))] [(.int (2 : Int32)), (.int ch2)])
                                refine gLoadI 195 X51 hx (H at_193) rfl rfl ?_
                                refine gLoadI 197 X51 hx (H at_195) rfl rfl ?_
                                refine gLoadI 199 X51 hx (H at_197) rfl rfl ?_
                                refine gLoadI 201 X51 hx (H at_199) rfl rfl ?_
                                refine gCallSJ X51 hx hZ (y := mn4) hown e51 (by rw [hml]; rfl) (ow hw 136 rfl) (ow hw 137 rfl) (ow hw 3 rfl) (ow hw 138 rfl) (by decide) (argsL := [(.int (2 : Int32)), (.int ch0), (.int ch1), (.int ch2), (.int ch3)]) (st := [(.int ch2)]) (c_pick_2 l Z a0 hw ch0 ch1 ch2 ch3 _ hch0 hch1 hch2 hch3) (lenOf pd_8 rfl) (H at_201) (pc' := 204) rfl rfl rfl rfl (by decide) (W := 1) (Nat.le_of_eq rfl) (by decide) (by decide) (by decide) ?_
                                intro T52 X52 e52
                                refine gIcmpEq X52 hx (H at_204) (pc' := 210) (by decide) (by decide) (pn := 207) rfl (fun (c204 : ch2 = ch2) => ?_) (fun (c204 : ¬ ch2 = ch2) => ?_)
                                · refine gLoadI 212 X52 hx (H at_210) rfl rfl ?_
                                  refine gIconst 213 X52 hx (v := (2 : Int32)) (H at_212) rfl rfl ?_
                                  refine gIcmpLe X52 hx (H at_213) (pc' := 243) (by decide) (by decide) (pn := 216) rfl (fun (c213 : (2 : Int) ≤ (2 : Int)) => ?_) (fun (c213 : (2 : Int) < (2 : Int)) => ?_)
                                  · refine gLoadI 245 X52 hx (H at_243) rfl rfl ?_
                                    refine gIconst 246 X52 hx (v := (3 : Int32)) (H at_245) rfl rfl ?_
                                    refine gIcmpLe X52 hx (H at_246) (pc' := 276) (by decide) (by decide) (pn := 249) rfl (fun (c246 : (2 : Int) ≤ (3 : Int)) => ?_) (fun (c246 : (3 : Int) < (2 : Int)) => ?_)
                                    · refine gLoadI 278 X52 hx (H at_276) rfl rfl ?_
                                      exact gRetHN X52 hx hlk hret (by simp) (H at_278) (w := (1 : Int32)) rfl e52 hS hk47 hZ hEL H47 (by decide) (by decide) (⟨rfl, N47⟩)
                                    · exact absurd c246 (by decide)
                                  · exact absurd c213 (by decide)
                                · exact absurd rfl c204
                            · exact absurd rfl c171
                        · exact absurd c137 (by decide)
                      · exact absurd c108 (by decide)
                    · exact absurd c99 d2
                · exact absurd c83 d1
        · refine gLoadA 50 X40 hx (H at_48) rfl rfl rfl ?_
          refine gCallSJ X40 hx hZ (y := mn0) hown rfl (by rw [hml]; rfl) (ow hw 30 rfl) (ow hw 31 rfl) (ow hw 32 rfl) (ow hw 33 rfl) (by decide) (argsL := [(.ref r40)]) (st := []) (c_nm_3_m l Z a0 hw r40 t40 ct40 ch0 ch1 ch2 T40.heap f40_1 f40_0 Eq40 Cq40 Vq40 Aq40 hch0 hch1 hch2 d0 d1 d2) (lenOf pd_17 rfl) (H at_50) (pc' := 53) rfl rfl rfl rfl (by decide) (W := 0) (Nat.le_of_eq rfl) (by decide) (by decide) (by decide) ?_
          intro T53 X53 e53
          refine gStoreA 55 X53 hx (H at_53) (l' := #[.val (.int p0), .val (.int p1), .val (.int p2), .val (.int p3), .val (.int p4), .val (.int (3 : Int32)), .val (.int ch0), .val (.int ch1), .val (.int ch2), .val (.int ch3), .val (.ref r40), .val (.ref r40), .unset, .unset, .unset]) rfl rfl rfl ?_
          refine gIconst 56 X53 hx (v := (-1 : Int32)) (H at_55) rfl rfl ?_
          refine gStoreI 58 X53 hx (H at_56) (l' := #[.val (.int p0), .val (.int p1), .val (.int p2), .val (.int p3), .val (.int p4), .val (.int (3 : Int32)), .val (.int ch0), .val (.int ch1), .val (.int ch2), .val (.int ch3), .val (.ref r40), .val (.ref r40), .val (.int (-1 : Int32)), .unset, .unset]) rfl rfl ?_
          refine gLoadI 60 X53 hx (H at_58) rfl rfl ?_
          refine gIfLe X53 hx (H at_60) (pc' := 73) (by decide) (by decide) (pn := 63) rfl (fun (c60 : (3 : Int) ≤ (0 : Int)) => ?_) (fun (c60 : (0 : Int) < (3 : Int)) => ?_)
          · exact absurd c60 (by decide)
          · refine gLoadI 65 X53 hx (H at_63) rfl rfl ?_
            refine gBipush 67 X53 hx (v := (47 : Int32)) (H at_65) rfl rfl ?_
            refine gIcmpNeT X53 hx (H at_67) (pc' := 73) (by decide) (by decide) (pn := 70) rfl (fun (c67 : ¬ ch0.toInt = (47 : Int)) => ?_) (fun (c67 : ch0.toInt = (47 : Int)) => ?_)
            · refine gLoadI 75 X53 hx (H at_73) rfl rfl ?_
              refine gIconst 76 X53 hx (v := (1 : Int32)) (H at_75) rfl rfl ?_
              refine gIcmpLe X53 hx (H at_76) (pc' := 89) (by decide) (by decide) (pn := 79) rfl (fun (c76 : (3 : Int) ≤ (1 : Int)) => ?_) (fun (c76 : (1 : Int) < (3 : Int)) => ?_)
              · exact absurd c76 (by decide)
              · refine gLoadI 81 X53 hx (H at_79) rfl rfl ?_
                refine gBipush 83 X53 hx (v := (47 : Int32)) (H at_81) rfl rfl ?_
                refine gIcmpNeT X53 hx (H at_83) (pc' := 89) (by decide) (by decide) (pn := 86) rfl (fun (c83 : ¬ ch1.toInt = (47 : Int)) => ?_) (fun (c83 : ch1.toInt = (47 : Int)) => ?_)
                · refine gLoadI 91 X53 hx (H at_89) rfl rfl ?_
                  refine gIconst 92 X53 hx (v := (2 : Int32)) (H at_91) rfl rfl ?_
                  refine gIcmpLe X53 hx (H at_92) (pc' := 105) (by decide) (by decide) (pn := 95) rfl (fun (c92 : (3 : Int) ≤ (2 : Int)) => ?_) (fun (c92 : (2 : Int) < (3 : Int)) => ?_)
                  · exact absurd c92 (by decide)
                  · refine gLoadI 97 X53 hx (H at_95) rfl rfl ?_
                    refine gBipush 99 X53 hx (v := (47 : Int32)) (H at_97) rfl rfl ?_
                    refine gIcmpNeT X53 hx (H at_99) (pc' := 105) (by decide) (by decide) (pn := 102) rfl (fun (c99 : ¬ ch2.toInt = (47 : Int)) => ?_) (fun (c99 : ch2.toInt = (47 : Int)) => ?_)
                    · refine gLoadI 107 X53 hx (H at_105) rfl rfl ?_
                      refine gIconst 108 X53 hx (v := (3 : Int32)) (H at_107) rfl rfl ?_
                      refine gIcmpLe X53 hx (H at_108) (pc' := 121) (by decide) (by decide) (pn := 111) rfl (fun (c108 : (3 : Int) ≤ (3 : Int)) => ?_) (fun (c108 : (3 : Int) < (3 : Int)) => ?_)
                      · refine gLoadI 123 X53 hx (H at_121) rfl rfl ?_
                        refine gLoadI 125 X53 hx (H at_123) rfl rfl ?_
                        refine gIsub 126 X53 hx (H at_125) rfl ?_
                        show Goes p e below _ T53 (mkF m 126 #[.val (.int p0), .val (.int p1), .val (.int p2), .val (.int p3), .val (.int p4), .val (.int (3 : Int32)), .val (.int ch0), .val (.int ch1), .val (.int ch2), .val (.int ch3), .val (.ref r40), .val (.ref r40), .val (.int (-1 : Int32)), .unset, .unset] [(.int (4 : Int32))])
                        refine gIconst 127 X53 hx (v := (1 : Int32)) (H at_126) rfl rfl ?_
                        refine gIsub 128 X53 hx (H at_127) rfl ?_
                        show Goes p e below _ T53 (mkF m 128 #[.val (.int p0), .val (.int p1), .val (.int p2), .val (.int p3), .val (.int p4), .val (.int (3 : Int32)), .val (.int ch0), .val (.int ch1), .val (.int ch2), .val (.int ch3), .val (.ref r40), .val (.ref r40), .val (.int (-1 : Int32)), .unset, .unset] [(.int (3 : Int32))])
                        refine gStoreI 130 X53 hx (H at_128) (l' := #[.val (.int p0), .val (.int p1), .val (.int p2), .val (.int p3), .val (.int p4), .val (.int (3 : Int32)), .val (.int ch0), .val (.int ch1), .val (.int ch2), .val (.int ch3), .val (.ref r40), .val (.ref r40), .val (.int (-1 : Int32)), .val (.int (3 : Int32)), .unset]) rfl rfl ?_
                        refine gLoadA 132 X53 hx (H at_130) rfl rfl rfl ?_
                        refine gCallVJ X53 hx hZ (y := mn17) hown e53 (by rw [hml]; rfl) Eq40 (ow hw 89 rfl) (ow hw 40 rfl) (ow hw 42 rfl) (ow hw 41 rfl) (ow hw 10 rfl) (ow hw 43 rfl) (by decide) (argsL := []) (st := []) (c_length_3 l Z a0 hw r40 t40 ct40 ch0 ch1 ch2 T40.heap f40_0 Eq40 Cq40 Vq40 Aq40 hch0 hch1 hch2) (lenOf pd_1 rfl) (H at_132) (pc' := 135) rfl rfl rfl rfl (by decide) (W := 0) (Nat.le_of_eq rfl) (by decide) (by decide) (by decide) ?_
                        intro T54 X54 e54
                        refine gLoadI 137 X54 hx (H at_135) rfl rfl ?_
                        refine gIcmpEqT X54 hx (H at_137) (pc' := 142) (by decide) (by decide) (pn := 140) rfl (fun (c137 : (3 : Int) = (3 : Int)) => ?_) (fun (c137 : ¬ (3 : Int) = (3 : Int)) => ?_)
                        · refine gIconst 143 X54 hx (v := (1 : Int32)) (H at_142) rfl rfl ?_
                          refine gStoreI 145 X54 hx (H at_143) (l' := #[.val (.int p0), .val (.int p1), .val (.int p2), .val (.int p3), .val (.int p4), .val (.int (3 : Int32)), .val (.int ch0), .val (.int ch1), .val (.int ch2), .val (.int ch3), .val (.ref r40), .val (.ref r40), .val (.int (-1 : Int32)), .val (.int (3 : Int32)), .val (.int (1 : Int32))]) rfl rfl ?_
                          refine gLoadI 147 X54 hx (H at_145) rfl rfl ?_
                          refine gIfLe X54 hx (H at_147) (pc' := 177) (by decide) (by decide) (pn := 150) rfl (fun (c147 : (3 : Int) ≤ (0 : Int)) => ?_) (fun (c147 : (0 : Int) < (3 : Int)) => ?_)
                          · exact absurd c147 (by decide)
                          · refine gLoadA 152 X54 hx (H at_150) rfl rfl rfl ?_
                            refine gIconst 153 X54 hx (v := (0 : Int32)) (H at_152) rfl rfl ?_
                            refine gCallVJ X54 hx hZ (y := mn10) hown e54 (by rw [hml]; rfl) Eq40 (ow hw 122 rfl) (ow hw 123 rfl) (ow hw 125 rfl) (ow hw 124 rfl) (ow hw 10 rfl) (ow hw 126 rfl) (by decide) (argsL := [(.int (0 : Int32))]) (st := []) (c_charAt_0_3 l Z a0 hw r40 t40 ct40 ch0 ch1 ch2 T40.heap f40_1 f40_0 Eq40 Cq40 Vq40 Aq40 hch0 hch1 hch2) (lenOf pd_4 rfl) (H at_153) (pc' := 156) rfl rfl rfl rfl (by decide) (W := 0) (Nat.le_of_eq rfl) (by decide) (by decide) (by decide) ?_
                            intro T55 X55 e55
                            refine gLoadI 158 X55 hx (H at_156) rfl rfl ?_
                            refine gIconst 159 X55 hx (v := (1 : Int32)) (H at_158) rfl rfl ?_
                            refine gIadd 160 X55 hx (H at_159) rfl ?_
                            show Goes p e below _ T55 (mkF m 160 #[.val (.int p0), .val (.int p1), .val (.int p2), .val (.int p3), .val (.int p4), .val (.int (3 : Int32)), .val (.int ch0), .val (.int ch1), .val (.int ch2), .val (.int ch3), .val (.ref r40), .val (.ref r40), .val (.int (-1 : Int32)), .val (.int (3 : Int32)), .val (.int (1 : Int32))] [(.int (0 : Int32)), (.int ch0)])
                            refine gLoadI 162 X55 hx (H at_160) rfl rfl ?_
                            refine gLoadI 164 X55 hx (H at_162) rfl rfl ?_
                            refine gLoadI 166 X55 hx (H at_164) rfl rfl ?_
                            refine gLoadI 168 X55 hx (H at_166) rfl rfl ?_
                            refine gCallSJ X55 hx hZ (y := mn4) hown e55 (by rw [hml]; rfl) (ow hw 136 rfl) (ow hw 137 rfl) (ow hw 3 rfl) (ow hw 138 rfl) (by decide) (argsL := [(.int (0 : Int32)), (.int ch0), (.int ch1), (.int ch2), (.int ch3)]) (st := [(.int ch0)]) (c_pick_0 l Z a0 hw ch0 ch1 ch2 ch3 _ hch0 hch1 hch2 hch3) (lenOf pd_8 rfl) (H at_168) (pc' := 171) rfl rfl rfl rfl (by decide) (W := 1) (Nat.le_of_eq rfl) (by decide) (by decide) (by decide) ?_
                            intro T56 X56 e56
                            refine gIcmpEq X56 hx (H at_171) (pc' := 177) (by decide) (by decide) (pn := 174) rfl (fun (c171 : ch0 = ch0) => ?_) (fun (c171 : ¬ ch0 = ch0) => ?_)
                            · refine gLoadI 179 X56 hx (H at_177) rfl rfl ?_
                              refine gIconst 180 X56 hx (v := (1 : Int32)) (H at_179) rfl rfl ?_
                              refine gIcmpLe X56 hx (H at_180) (pc' := 210) (by decide) (by decide) (pn := 183) rfl (fun (c180 : (3 : Int) ≤ (1 : Int)) => ?_) (fun (c180 : (1 : Int) < (3 : Int)) => ?_)
                              · exact absurd c180 (by decide)
                              · refine gLoadA 185 X56 hx (H at_183) rfl rfl rfl ?_
                                refine gIconst 186 X56 hx (v := (1 : Int32)) (H at_185) rfl rfl ?_
                                refine gCallVJ X56 hx hZ (y := mn10) hown e56 (by rw [hml]; rfl) Eq40 (ow hw 122 rfl) (ow hw 123 rfl) (ow hw 125 rfl) (ow hw 124 rfl) (ow hw 10 rfl) (ow hw 126 rfl) (by decide) (argsL := [(.int (1 : Int32))]) (st := []) (c_charAt_1_3 l Z a0 hw r40 t40 ct40 ch0 ch1 ch2 T40.heap f40_1 f40_0 Eq40 Cq40 Vq40 Aq40 hch0 hch1 hch2) (lenOf pd_4 rfl) (H at_186) (pc' := 189) rfl rfl rfl rfl (by decide) (W := 0) (Nat.le_of_eq rfl) (by decide) (by decide) (by decide) ?_
                                intro T57 X57 e57
                                refine gLoadI 191 X57 hx (H at_189) rfl rfl ?_
                                refine gIconst 192 X57 hx (v := (2 : Int32)) (H at_191) rfl rfl ?_
                                refine gIadd 193 X57 hx (H at_192) rfl ?_
                                show Goes p e below _ T57 (mkF m 193 #[.val (.int p0), .val (.int p1), .val (.int p2), .val (.int p3), .val (.int p4), .val (.int (3 : Int32)), .val (.int ch0), .val (.int ch1), .val (.int ch2), .val (.int ch3), .val (.ref r40), .val (.ref r40), .val (.int (-1 : Int32)), .val (.int (3 : Int32)), .val (.int (1 : Int32))] [(.int (1 : Int32)), (.int ch1)])
                                refine gLoadI 195 X57 hx (H at_193) rfl rfl ?_
                                refine gLoadI 197 X57 hx (H at_195) rfl rfl ?_
                                refine gLoadI 199 X57 hx (H at_197) rfl rfl ?_
                                refine gLoadI 201 X57 hx (H at_199) rfl rfl ?_
                                refine gCallSJ X57 hx hZ (y := mn4) hown e57 (by rw [hml]; rfl) (ow hw 136 rfl) (ow hw 137 rfl) (ow hw 3 rfl) (ow hw 138 rfl) (by decide) (argsL := [(.int (1 : Int32)), (.int ch0), (.int ch1), (.int ch2), (.int ch3)]) (st := [(.int ch1)]) (c_pick_1 l Z a0 hw ch0 ch1 ch2 ch3 _ hch0 hch1 hch2 hch3) (lenOf pd_8 rfl) (H at_201) (pc' := 204) rfl rfl rfl rfl (by decide) (W := 1) (Nat.le_of_eq rfl) (by decide) (by decide) (by decide) ?_
                                intro T58 X58 e58
                                refine gIcmpEq X58 hx (H at_204) (pc' := 210) (by decide) (by decide) (pn := 207) rfl (fun (c204 : ch1 = ch1) => ?_) (fun (c204 : ¬ ch1 = ch1) => ?_)
                                · refine gLoadI 212 X58 hx (H at_210) rfl rfl ?_
                                  refine gIconst 213 X58 hx (v := (2 : Int32)) (H at_212) rfl rfl ?_
                                  refine gIcmpLe X58 hx (H at_213) (pc' := 243) (by decide) (by decide) (pn := 216) rfl (fun (c213 : (3 : Int) ≤ (2 : Int)) => ?_) (fun (c213 : (2 : Int) < (3 : Int)) => ?_)
                                  · exact absurd c213 (by decide)
                                  · refine gLoadA 218 X58 hx (H at_216) rfl rfl rfl ?_
                                    refine gIconst 219 X58 hx (v := (2 : Int32)) (H at_218) rfl rfl ?_
                                    refine gCallVJ X58 hx hZ (y := mn10) hown e58 (by rw [hml]; rfl) Eq40 (ow hw 122 rfl) (ow hw 123 rfl) (ow hw 125 rfl) (ow hw 124 rfl) (ow hw 10 rfl) (ow hw 126 rfl) (by decide) (argsL := [(.int (2 : Int32))]) (st := []) (c_charAt_2_3 l Z a0 hw r40 t40 ct40 ch0 ch1 ch2 T40.heap f40_1 f40_0 Eq40 Cq40 Vq40 Aq40 hch0 hch1 hch2) (lenOf pd_4 rfl) (H at_219) (pc' := 222) rfl rfl rfl rfl (by decide) (W := 0) (Nat.le_of_eq rfl) (by decide) (by decide) (by decide) ?_
                                    intro T59 X59 e59
                                    refine gLoadI 224 X59 hx (H at_222) rfl rfl ?_
                                    refine gIconst 225 X59 hx (v := (3 : Int32)) (H at_224) rfl rfl ?_
                                    refine gIadd 226 X59 hx (H at_225) rfl ?_
                                    show Goes p e below _ T59 (mkF m 226 #[.val (.int p0), .val (.int p1), .val (.int p2), .val (.int p3), .val (.int p4), .val (.int (3 : Int32)), .val (.int ch0), .val (.int ch1), .val (.int ch2), .val (.int ch3), .val (.ref r40), .val (.ref r40), .val (.int (-1 : Int32)), .val (.int (3 : Int32)), .val (.int (1 : Int32))] [(.int (2 : Int32)), (.int ch2)])
                                    refine gLoadI 228 X59 hx (H at_226) rfl rfl ?_
                                    refine gLoadI 230 X59 hx (H at_228) rfl rfl ?_
                                    refine gLoadI 232 X59 hx (H at_230) rfl rfl ?_
                                    refine gLoadI 234 X59 hx (H at_232) rfl rfl ?_
                                    refine gCallSJ X59 hx hZ (y := mn4) hown e59 (by rw [hml]; rfl) (ow hw 136 rfl) (ow hw 137 rfl) (ow hw 3 rfl) (ow hw 138 rfl) (by decide) (argsL := [(.int (2 : Int32)), (.int ch0), (.int ch1), (.int ch2), (.int ch3)]) (st := [(.int ch2)]) (c_pick_2 l Z a0 hw ch0 ch1 ch2 ch3 _ hch0 hch1 hch2 hch3) (lenOf pd_8 rfl) (H at_234) (pc' := 237) rfl rfl rfl rfl (by decide) (W := 1) (Nat.le_of_eq rfl) (by decide) (by decide) (by decide) ?_
                                    intro T60 X60 e60
                                    refine gIcmpEq X60 hx (H at_237) (pc' := 243) (by decide) (by decide) (pn := 240) rfl (fun (c237 : ch2 = ch2) => ?_) (fun (c237 : ¬ ch2 = ch2) => ?_)
                                    · refine gLoadI 245 X60 hx (H at_243) rfl rfl ?_
                                      refine gIconst 246 X60 hx (v := (3 : Int32)) (H at_245) rfl rfl ?_
                                      refine gIcmpLe X60 hx (H at_246) (pc' := 276) (by decide) (by decide) (pn := 249) rfl (fun (c246 : (3 : Int) ≤ (3 : Int)) => ?_) (fun (c246 : (3 : Int) < (3 : Int)) => ?_)
                                      · refine gLoadI 278 X60 hx (H at_276) rfl rfl ?_
                                        exact gRetHN X60 hx hlk hret (by simp) (H at_278) (w := (1 : Int32)) rfl e60 hS hk40 hZ hEL H40 (by decide) (by decide) (⟨rfl, N40⟩)
                                      · exact absurd c246 (by decide)
                                    · exact absurd rfl c237
                                · exact absurd rfl c204
                            · exact absurd rfl c171
                        · exact absurd c137 (by decide)
                      · exact absurd c108 (by decide)
                    · exact absurd c99 d2
                · exact absurd c83 d1
            · exact absurd c67 d0
  · refine gStoreI 8 X0 hx (H at_6) (l' := #[.val (.int p0), .val (.int p1), .val (.int p2), .val (.int p3), .val (.int p4), .val (.int (4 : Int32)), .unset, .unset, .unset, .unset, .unset, .unset, .unset, .unset, .unset]) rfl rfl ?_
    refine gLoadIN 9 X0 hx (H at_8) rfl rfl ?_
    refine gCallS X0 hx hZ (y := mn1) hown e0 (by rw [hml]; rfl) (ow hw 1 rfl) (ow hw 2 rfl) (ow hw 3 rfl) (ow hw 4 rfl) (by decide) (argsL := [(.int p1)]) (st := []) (c_ch l Z a0 hw p1 h0) (lenOf pd_4 rfl) (H at_9) (pc' := 12) rfl rfl (by decide) (W := 0) (Nat.le_of_eq rfl) (by decide) (by decide) (by decide) ?_
    intro T61 v61 L61 X61 hQ61
    obtain ⟨ch0, rfl, hch0, eq61, rfl⟩ := hQ61
    rw [List.append_nil] at X61
    refine gStoreI 14 X61 hx (H at_12) (l' := #[.val (.int p0), .val (.int p1), .val (.int p2), .val (.int p3), .val (.int p4), .val (.int (4 : Int32)), .val (.int ch0), .unset, .unset, .unset, .unset, .unset, .unset, .unset, .unset]) rfl rfl ?_
    refine gLoadIN 15 X61 hx (H at_14) rfl rfl ?_
    refine gCallS X61 hx hZ (y := mn1) hown eq61 (by rw [hml]; rfl) (ow hw 1 rfl) (ow hw 2 rfl) (ow hw 3 rfl) (ow hw 4 rfl) (by decide) (argsL := [(.int p2)]) (st := []) (c_ch l Z a0 hw p2 h0) (lenOf pd_4 rfl) (H at_15) (pc' := 18) rfl rfl (by decide) (W := 0) (Nat.le_of_eq rfl) (by decide) (by decide) (by decide) ?_
    intro T62 v62 L62 X62 hQ62
    obtain ⟨ch1, rfl, hch1, eq62, rfl⟩ := hQ62
    rw [List.append_nil] at X62
    refine gStoreI 20 X62 hx (H at_18) (l' := #[.val (.int p0), .val (.int p1), .val (.int p2), .val (.int p3), .val (.int p4), .val (.int (4 : Int32)), .val (.int ch0), .val (.int ch1), .unset, .unset, .unset, .unset, .unset, .unset, .unset]) rfl rfl ?_
    refine gLoadIN 21 X62 hx (H at_20) rfl rfl ?_
    refine gCallS X62 hx hZ (y := mn1) hown eq62 (by rw [hml]; rfl) (ow hw 1 rfl) (ow hw 2 rfl) (ow hw 3 rfl) (ow hw 4 rfl) (by decide) (argsL := [(.int p3)]) (st := []) (c_ch l Z a0 hw p3 h0) (lenOf pd_4 rfl) (H at_21) (pc' := 24) rfl rfl (by decide) (W := 0) (Nat.le_of_eq rfl) (by decide) (by decide) (by decide) ?_
    intro T63 v63 L63 X63 hQ63
    obtain ⟨ch2, rfl, hch2, eq63, rfl⟩ := hQ63
    rw [List.append_nil] at X63
    refine gStoreI 26 X63 hx (H at_24) (l' := #[.val (.int p0), .val (.int p1), .val (.int p2), .val (.int p3), .val (.int p4), .val (.int (4 : Int32)), .val (.int ch0), .val (.int ch1), .val (.int ch2), .unset, .unset, .unset, .unset, .unset, .unset]) rfl rfl ?_
    refine gLoadI 28 X63 hx (H at_26) rfl rfl ?_
    refine gCallS X63 hx hZ (y := mn1) hown eq63 (by rw [hml]; rfl) (ow hw 1 rfl) (ow hw 2 rfl) (ow hw 3 rfl) (ow hw 4 rfl) (by decide) (argsL := [(.int p4)]) (st := []) (c_ch l Z a0 hw p4 h0) (lenOf pd_4 rfl) (H at_28) (pc' := 31) rfl rfl (by decide) (W := 0) (Nat.le_of_eq rfl) (by decide) (by decide) (by decide) ?_
    intro T64 v64 L64 X64 hQ64
    obtain ⟨ch3, rfl, hch3, eq64, rfl⟩ := hQ64
    rw [List.append_nil] at X64
    refine gStoreI 33 X64 hx (H at_31) (l' := #[.val (.int p0), .val (.int p1), .val (.int p2), .val (.int p3), .val (.int p4), .val (.int (4 : Int32)), .val (.int ch0), .val (.int ch1), .val (.int ch2), .val (.int ch3), .unset, .unset, .unset, .unset, .unset]) rfl rfl ?_
    refine gLoadI 35 X64 hx (H at_33) rfl rfl ?_
    refine gLoadI 37 X64 hx (H at_35) rfl rfl ?_
    refine gLoadI 39 X64 hx (H at_37) rfl rfl ?_
    refine gLoadI 41 X64 hx (H at_39) rfl rfl ?_
    refine gLoadI 43 X64 hx (H at_41) rfl rfl ?_
    refine gCallS X64 hx hZ (y := mn3) hown eq64 (by rw [hml]; rfl) (ow hw 5 rfl) (ow hw 6 rfl) (ow hw 3 rfl) (ow hw 7 rfl) (by decide) (argsL := [(.int (4 : Int32)), (.int ch0), (.int ch1), (.int ch2), (.int ch3)]) (st := []) (c_mk_4 l Z a0 hw ch0 ch1 ch2 ch3 h0 hCpt hch0 hch1 hch2 hch3) (lenOf pd_9 rfl) (H at_43) (pc' := 46) rfl rfl (by decide) (W := 0) (Nat.le_of_eq rfl) (by decide) (by decide) (by decide) ?_
    intro T65 v65 L65 X65 hQ65
    obtain ⟨r65, t65, ct65, rfl, Nq65, Kq65, Eq65, Cq65, Vq65, Aq65⟩ := hQ65
    have N65 := Fr.app (Fr.nil h0.size) (fun y hy => Nat.le_trans (Nat.le_refl _) (Nq65 y hy))
    have H65 := H0.trans (CHr.keep Kq65 sf0 H0.1)
    have hk65 := Nat.le_trans (Nat.zero_le _) Kq65.1
    have f65_0 := own_cpt_keep hCpt Kq65 ns0
    have f65_1 := own_sio_keep hSio Kq65 ns0
    have zs65 := Nat.le_trans (Nat.le_refl _) Kq65.1
    refine gStoreA 48 X65 hx (H at_46) (l' := #[.val (.int p0), .val (.int p1), .val (.int p2), .val (.int p3), .val (.int p4), .val (.int (4 : Int32)), .val (.int ch0), .val (.int ch1), .val (.int ch2), .val (.int ch3), .val (.ref r65), .unset, .unset, .unset, .unset]) rfl rfl rfl ?_
    by_cases d3 : ch3.toInt = 47
    · refine gLoadA 50 X65 hx (H at_48) rfl rfl rfl ?_
      refine gCallSH X65 hx hZ (y := mn0) hown rfl (by rw [hml]; rfl) hS hk65 hEL H65 (ow hw 30 rfl) (ow hw 31 rfl) (ow hw 32 rfl) (ow hw 33 rfl) (by decide) sl0 (argsL := [(.ref r65)]) (st := []) (c_nm_4_3 l Z a0 hw r65 t65 ct65 ch0 ch1 ch2 ch3 T65.heap hEL f65_1 f65_0 Eq65 Cq65 Vq65 Aq65 hch0 hch1 hch2 hch3  d3) (lenOf pd_17 rfl) (H at_50) (pc' := 53) rfl rfl (by decide) (W := 0) (Nat.le_of_eq rfl) (by decide) (by decide) (by decide) ?_
      intro T66 v66 L66 X66 hS hZ hown C66 H66 hQ66
      obtain ⟨r66, t66, ct66, rfl, Nq66, Kq66, Eq66, Cq66, Vq66, Aq66⟩ := hQ66
      have N66 := Fr.app N65 (fun y hy => Nat.le_trans zs65 (Nq66 y hy))
      have f66_0 := own_cpt_keep f65_0 Kq66 ns0
      have f66_1 := own_sio_keep f65_1 Kq66 ns0
      have f66_2 := Eq65.keep Kq66
      have f66_3 := Cq65.keep Kq66 nin0
      have f66_4 := Vq65.keep Kq66 nin0
      have f66_5 := Aq65.keep Kq66 nin0
      have zs66 := Nat.le_trans zs65 Kq66.1
      refine gStoreA 55 X66 hx (H at_53) (l' := #[.val (.int p0), .val (.int p1), .val (.int p2), .val (.int p3), .val (.int p4), .val (.int (4 : Int32)), .val (.int ch0), .val (.int ch1), .val (.int ch2), .val (.int ch3), .val (.ref r65), .val (.ref r66), .unset, .unset, .unset]) rfl rfl rfl ?_
      refine gIconst 56 X66 hx (v := (-1 : Int32)) (H at_55) rfl rfl ?_
      refine gStoreI 58 X66 hx (H at_56) (l' := #[.val (.int p0), .val (.int p1), .val (.int p2), .val (.int p3), .val (.int p4), .val (.int (4 : Int32)), .val (.int ch0), .val (.int ch1), .val (.int ch2), .val (.int ch3), .val (.ref r65), .val (.ref r66), .val (.int (-1 : Int32)), .unset, .unset]) rfl rfl ?_
      have J : ∀ pv : Int32, Goes p e below (FinH Z [("java/lang/String", 7), ("java/lang/StringLatin1", 151)] s room_1.cells room_1.slots (Law1 h0)) T66 (mkF m 105 #[.val (.int p0), .val (.int p1), .val (.int p2), .val (.int p3), .val (.int p4), .val (.int (4 : Int32)), .val (.int ch0), .val (.int ch1), .val (.int ch2), .val (.int ch3), .val (.ref r65), .val (.ref r66), .val (.int pv), .unset, .unset] []) := by
        intro pv
        refine gLoadI 107 X66 hx (H at_105) rfl rfl ?_
        refine gIconst 108 X66 hx (v := (3 : Int32)) (H at_107) rfl rfl ?_
        refine gIcmpLe X66 hx (H at_108) (pc' := 121) (by decide) (by decide) (pn := 111) rfl (fun (c108 : (4 : Int) ≤ (3 : Int)) => ?_) (fun (c108 : (3 : Int) < (4 : Int)) => ?_)
        · exact absurd c108 (by decide)
        · refine gLoadI 113 X66 hx (H at_111) rfl rfl ?_
          refine gBipush 115 X66 hx (v := (47 : Int32)) (H at_113) rfl rfl ?_
          refine gIcmpNeT X66 hx (H at_115) (pc' := 121) (by decide) (by decide) (pn := 118) rfl (fun (c115 : ¬ ch3.toInt = (47 : Int)) => ?_) (fun (c115 : ch3.toInt = (47 : Int)) => ?_)
          · exact absurd d3 c115
          · refine gIconst 119 X66 hx (v := (3 : Int32)) (H at_118) rfl rfl ?_
            refine gStoreI 121 X66 hx (H at_119) (l' := #[.val (.int p0), .val (.int p1), .val (.int p2), .val (.int p3), .val (.int p4), .val (.int (4 : Int32)), .val (.int ch0), .val (.int ch1), .val (.int ch2), .val (.int ch3), .val (.ref r65), .val (.ref r66), .val (.int (3 : Int32)), .unset, .unset]) rfl rfl ?_
            refine gLoadI 123 X66 hx (H at_121) rfl rfl ?_
            refine gLoadI 125 X66 hx (H at_123) rfl rfl ?_
            refine gIsub 126 X66 hx (H at_125) rfl ?_
            show Goes p e below _ T66 (mkF m 126 #[.val (.int p0), .val (.int p1), .val (.int p2), .val (.int p3), .val (.int p4), .val (.int (4 : Int32)), .val (.int ch0), .val (.int ch1), .val (.int ch2), .val (.int ch3), .val (.ref r65), .val (.ref r66), .val (.int (3 : Int32)), .unset, .unset] [(.int (1 : Int32))])
            refine gIconst 127 X66 hx (v := (1 : Int32)) (H at_126) rfl rfl ?_
            refine gIsub 128 X66 hx (H at_127) rfl ?_
            show Goes p e below _ T66 (mkF m 128 #[.val (.int p0), .val (.int p1), .val (.int p2), .val (.int p3), .val (.int p4), .val (.int (4 : Int32)), .val (.int ch0), .val (.int ch1), .val (.int ch2), .val (.int ch3), .val (.ref r65), .val (.ref r66), .val (.int (3 : Int32)), .unset, .unset] [(.int (0 : Int32))])
            refine gStoreI 130 X66 hx (H at_128) (l' := #[.val (.int p0), .val (.int p1), .val (.int p2), .val (.int p3), .val (.int p4), .val (.int (4 : Int32)), .val (.int ch0), .val (.int ch1), .val (.int ch2), .val (.int ch3), .val (.ref r65), .val (.ref r66), .val (.int (3 : Int32)), .val (.int (0 : Int32)), .unset]) rfl rfl ?_
            refine gLoadA 132 X66 hx (H at_130) rfl rfl rfl ?_
            refine gCallVJ X66 hx hZ (y := mn17) hown rfl (by rw [hml]; rfl) Eq66 (ow hw 89 rfl) (ow hw 40 rfl) (ow hw 42 rfl) (ow hw 41 rfl) (ow hw 10 rfl) (ow hw 43 rfl) (by decide) (argsL := []) (st := []) (c_length_0 l Z a0 hw r66 t66 ct66  T66.heap f66_0 Eq66 Cq66 Vq66 Aq66 ) (lenOf pd_1 rfl) (H at_132) (pc' := 135) rfl rfl rfl rfl (by decide) (W := 0) (Nat.le_of_eq rfl) (by decide) (by decide) (by decide) ?_
            intro T67 X67 e67
            refine gLoadI 137 X67 hx (H at_135) rfl rfl ?_
            refine gIcmpEqT X67 hx (H at_137) (pc' := 142) (by decide) (by decide) (pn := 140) rfl (fun (c137 : (0 : Int) = (0 : Int)) => ?_) (fun (c137 : ¬ (0 : Int) = (0 : Int)) => ?_)
            · refine gIconst 143 X67 hx (v := (1 : Int32)) (H at_142) rfl rfl ?_
              refine gStoreI 145 X67 hx (H at_143) (l' := #[.val (.int p0), .val (.int p1), .val (.int p2), .val (.int p3), .val (.int p4), .val (.int (4 : Int32)), .val (.int ch0), .val (.int ch1), .val (.int ch2), .val (.int ch3), .val (.ref r65), .val (.ref r66), .val (.int (3 : Int32)), .val (.int (0 : Int32)), .val (.int (1 : Int32))]) rfl rfl ?_
              refine gLoadI 147 X67 hx (H at_145) rfl rfl ?_
              refine gIfLe X67 hx (H at_147) (pc' := 177) (by decide) (by decide) (pn := 150) rfl (fun (c147 : (0 : Int) ≤ (0 : Int)) => ?_) (fun (c147 : (0 : Int) < (0 : Int)) => ?_)
              · refine gLoadI 179 X67 hx (H at_177) rfl rfl ?_
                refine gIconst 180 X67 hx (v := (1 : Int32)) (H at_179) rfl rfl ?_
                refine gIcmpLe X67 hx (H at_180) (pc' := 210) (by decide) (by decide) (pn := 183) rfl (fun (c180 : (0 : Int) ≤ (1 : Int)) => ?_) (fun (c180 : (1 : Int) < (0 : Int)) => ?_)
                · refine gLoadI 212 X67 hx (H at_210) rfl rfl ?_
                  refine gIconst 213 X67 hx (v := (2 : Int32)) (H at_212) rfl rfl ?_
                  refine gIcmpLe X67 hx (H at_213) (pc' := 243) (by decide) (by decide) (pn := 216) rfl (fun (c213 : (0 : Int) ≤ (2 : Int)) => ?_) (fun (c213 : (2 : Int) < (0 : Int)) => ?_)
                  · refine gLoadI 245 X67 hx (H at_243) rfl rfl ?_
                    refine gIconst 246 X67 hx (v := (3 : Int32)) (H at_245) rfl rfl ?_
                    refine gIcmpLe X67 hx (H at_246) (pc' := 276) (by decide) (by decide) (pn := 249) rfl (fun (c246 : (0 : Int) ≤ (3 : Int)) => ?_) (fun (c246 : (3 : Int) < (0 : Int)) => ?_)
                    · refine gLoadI 278 X67 hx (H at_276) rfl rfl ?_
                      exact gRetHN X67 hx hlk hret (by simp) (H at_278) (w := (1 : Int32)) rfl e67 hS (Nat.le_refl _) hZ hEL H66 (by decide) (by decide) (⟨rfl, N66⟩)
                    · exact absurd c246 (by decide)
                  · exact absurd c213 (by decide)
                · exact absurd c180 (by decide)
              · exact absurd c147 (by decide)
            · exact absurd c137 (by decide)
      refine gLoadI 60 X66 hx (H at_58) rfl rfl ?_
      refine gIfLe X66 hx (H at_60) (pc' := 73) (by decide) (by decide) (pn := 63) rfl (fun (c60 : (4 : Int) ≤ (0 : Int)) => ?_) (fun (c60 : (0 : Int) < (4 : Int)) => ?_)
      · exact absurd c60 (by decide)
      · refine gLoadI 65 X66 hx (H at_63) rfl rfl ?_
        refine gBipush 67 X66 hx (v := (47 : Int32)) (H at_65) rfl rfl ?_
        refine gIcmpNeT X66 hx (H at_67) (pc' := 73) (by decide) (by decide) (pn := 70) rfl (fun (c67 : ¬ ch0.toInt = (47 : Int)) => ?_) (fun (c67 : ch0.toInt = (47 : Int)) => ?_)
        · refine gLoadI 75 X66 hx (H at_73) rfl rfl ?_
          refine gIconst 76 X66 hx (v := (1 : Int32)) (H at_75) rfl rfl ?_
          refine gIcmpLe X66 hx (H at_76) (pc' := 89) (by decide) (by decide) (pn := 79) rfl (fun (c76 : (4 : Int) ≤ (1 : Int)) => ?_) (fun (c76 : (1 : Int) < (4 : Int)) => ?_)
          · exact absurd c76 (by decide)
          · refine gLoadI 81 X66 hx (H at_79) rfl rfl ?_
            refine gBipush 83 X66 hx (v := (47 : Int32)) (H at_81) rfl rfl ?_
            refine gIcmpNeT X66 hx (H at_83) (pc' := 89) (by decide) (by decide) (pn := 86) rfl (fun (c83 : ¬ ch1.toInt = (47 : Int)) => ?_) (fun (c83 : ch1.toInt = (47 : Int)) => ?_)
            · refine gLoadI 91 X66 hx (H at_89) rfl rfl ?_
              refine gIconst 92 X66 hx (v := (2 : Int32)) (H at_91) rfl rfl ?_
              refine gIcmpLe X66 hx (H at_92) (pc' := 105) (by decide) (by decide) (pn := 95) rfl (fun (c92 : (4 : Int) ≤ (2 : Int)) => ?_) (fun (c92 : (2 : Int) < (4 : Int)) => ?_)
              · exact absurd c92 (by decide)
              · refine gLoadI 97 X66 hx (H at_95) rfl rfl ?_
                refine gBipush 99 X66 hx (v := (47 : Int32)) (H at_97) rfl rfl ?_
                refine gIcmpNeT X66 hx (H at_99) (pc' := 105) (by decide) (by decide) (pn := 102) rfl (fun (c99 : ¬ ch2.toInt = (47 : Int)) => ?_) (fun (c99 : ch2.toInt = (47 : Int)) => ?_)
                · exact J _
                · refine gIconst 103 X66 hx (v := (2 : Int32)) (H at_102) rfl rfl ?_
                  refine gStoreI 105 X66 hx (H at_103) (l' := #[.val (.int p0), .val (.int p1), .val (.int p2), .val (.int p3), .val (.int p4), .val (.int (4 : Int32)), .val (.int ch0), .val (.int ch1), .val (.int ch2), .val (.int ch3), .val (.ref r65), .val (.ref r66), .val (.int (2 : Int32)), .unset, .unset]) rfl rfl ?_
                  exact J _
            · refine gIconst 87 X66 hx (v := (1 : Int32)) (H at_86) rfl rfl ?_
              refine gStoreI 89 X66 hx (H at_87) (l' := #[.val (.int p0), .val (.int p1), .val (.int p2), .val (.int p3), .val (.int p4), .val (.int (4 : Int32)), .val (.int ch0), .val (.int ch1), .val (.int ch2), .val (.int ch3), .val (.ref r65), .val (.ref r66), .val (.int (1 : Int32)), .unset, .unset]) rfl rfl ?_
              refine gLoadI 91 X66 hx (H at_89) rfl rfl ?_
              refine gIconst 92 X66 hx (v := (2 : Int32)) (H at_91) rfl rfl ?_
              refine gIcmpLe X66 hx (H at_92) (pc' := 105) (by decide) (by decide) (pn := 95) rfl (fun (c92 : (4 : Int) ≤ (2 : Int)) => ?_) (fun (c92 : (2 : Int) < (4 : Int)) => ?_)
              · exact absurd c92 (by decide)
              · refine gLoadI 97 X66 hx (H at_95) rfl rfl ?_
                refine gBipush 99 X66 hx (v := (47 : Int32)) (H at_97) rfl rfl ?_
                refine gIcmpNeT X66 hx (H at_99) (pc' := 105) (by decide) (by decide) (pn := 102) rfl (fun (c99 : ¬ ch2.toInt = (47 : Int)) => ?_) (fun (c99 : ch2.toInt = (47 : Int)) => ?_)
                · exact J _
                · refine gIconst 103 X66 hx (v := (2 : Int32)) (H at_102) rfl rfl ?_
                  refine gStoreI 105 X66 hx (H at_103) (l' := #[.val (.int p0), .val (.int p1), .val (.int p2), .val (.int p3), .val (.int p4), .val (.int (4 : Int32)), .val (.int ch0), .val (.int ch1), .val (.int ch2), .val (.int ch3), .val (.ref r65), .val (.ref r66), .val (.int (2 : Int32)), .unset, .unset]) rfl rfl ?_
                  exact J _
        · refine gIconst 71 X66 hx (v := (0 : Int32)) (H at_70) rfl rfl ?_
          refine gStoreI 73 X66 hx (H at_71) (l' := #[.val (.int p0), .val (.int p1), .val (.int p2), .val (.int p3), .val (.int p4), .val (.int (4 : Int32)), .val (.int ch0), .val (.int ch1), .val (.int ch2), .val (.int ch3), .val (.ref r65), .val (.ref r66), .val (.int (0 : Int32)), .unset, .unset]) rfl rfl ?_
          refine gLoadI 75 X66 hx (H at_73) rfl rfl ?_
          refine gIconst 76 X66 hx (v := (1 : Int32)) (H at_75) rfl rfl ?_
          refine gIcmpLe X66 hx (H at_76) (pc' := 89) (by decide) (by decide) (pn := 79) rfl (fun (c76 : (4 : Int) ≤ (1 : Int)) => ?_) (fun (c76 : (1 : Int) < (4 : Int)) => ?_)
          · exact absurd c76 (by decide)
          · refine gLoadI 81 X66 hx (H at_79) rfl rfl ?_
            refine gBipush 83 X66 hx (v := (47 : Int32)) (H at_81) rfl rfl ?_
            refine gIcmpNeT X66 hx (H at_83) (pc' := 89) (by decide) (by decide) (pn := 86) rfl (fun (c83 : ¬ ch1.toInt = (47 : Int)) => ?_) (fun (c83 : ch1.toInt = (47 : Int)) => ?_)
            · refine gLoadI 91 X66 hx (H at_89) rfl rfl ?_
              refine gIconst 92 X66 hx (v := (2 : Int32)) (H at_91) rfl rfl ?_
              refine gIcmpLe X66 hx (H at_92) (pc' := 105) (by decide) (by decide) (pn := 95) rfl (fun (c92 : (4 : Int) ≤ (2 : Int)) => ?_) (fun (c92 : (2 : Int) < (4 : Int)) => ?_)
              · exact absurd c92 (by decide)
              · refine gLoadI 97 X66 hx (H at_95) rfl rfl ?_
                refine gBipush 99 X66 hx (v := (47 : Int32)) (H at_97) rfl rfl ?_
                refine gIcmpNeT X66 hx (H at_99) (pc' := 105) (by decide) (by decide) (pn := 102) rfl (fun (c99 : ¬ ch2.toInt = (47 : Int)) => ?_) (fun (c99 : ch2.toInt = (47 : Int)) => ?_)
                · exact J _
                · refine gIconst 103 X66 hx (v := (2 : Int32)) (H at_102) rfl rfl ?_
                  refine gStoreI 105 X66 hx (H at_103) (l' := #[.val (.int p0), .val (.int p1), .val (.int p2), .val (.int p3), .val (.int p4), .val (.int (4 : Int32)), .val (.int ch0), .val (.int ch1), .val (.int ch2), .val (.int ch3), .val (.ref r65), .val (.ref r66), .val (.int (2 : Int32)), .unset, .unset]) rfl rfl ?_
                  exact J _
            · refine gIconst 87 X66 hx (v := (1 : Int32)) (H at_86) rfl rfl ?_
              refine gStoreI 89 X66 hx (H at_87) (l' := #[.val (.int p0), .val (.int p1), .val (.int p2), .val (.int p3), .val (.int p4), .val (.int (4 : Int32)), .val (.int ch0), .val (.int ch1), .val (.int ch2), .val (.int ch3), .val (.ref r65), .val (.ref r66), .val (.int (1 : Int32)), .unset, .unset]) rfl rfl ?_
              refine gLoadI 91 X66 hx (H at_89) rfl rfl ?_
              refine gIconst 92 X66 hx (v := (2 : Int32)) (H at_91) rfl rfl ?_
              refine gIcmpLe X66 hx (H at_92) (pc' := 105) (by decide) (by decide) (pn := 95) rfl (fun (c92 : (4 : Int) ≤ (2 : Int)) => ?_) (fun (c92 : (2 : Int) < (4 : Int)) => ?_)
              · exact absurd c92 (by decide)
              · refine gLoadI 97 X66 hx (H at_95) rfl rfl ?_
                refine gBipush 99 X66 hx (v := (47 : Int32)) (H at_97) rfl rfl ?_
                refine gIcmpNeT X66 hx (H at_99) (pc' := 105) (by decide) (by decide) (pn := 102) rfl (fun (c99 : ¬ ch2.toInt = (47 : Int)) => ?_) (fun (c99 : ch2.toInt = (47 : Int)) => ?_)
                · exact J _
                · refine gIconst 103 X66 hx (v := (2 : Int32)) (H at_102) rfl rfl ?_
                  refine gStoreI 105 X66 hx (H at_103) (l' := #[.val (.int p0), .val (.int p1), .val (.int p2), .val (.int p3), .val (.int p4), .val (.int (4 : Int32)), .val (.int ch0), .val (.int ch1), .val (.int ch2), .val (.int ch3), .val (.ref r65), .val (.ref r66), .val (.int (2 : Int32)), .unset, .unset]) rfl rfl ?_
                  exact J _
    · by_cases d2 : ch2.toInt = 47
      · refine gLoadA 50 X65 hx (H at_48) rfl rfl rfl ?_
        refine gCallS X65 hx hZ (y := mn0) hown rfl (by rw [hml]; rfl) (ow hw 30 rfl) (ow hw 31 rfl) (ow hw 32 rfl) (ow hw 33 rfl) (by decide) (argsL := [(.ref r65)]) (st := []) (c_nm_4_2 l Z a0 hw r65 t65 ct65 ch0 ch1 ch2 ch3 T65.heap f65_1 f65_0 Eq65 Cq65 Vq65 Aq65 hch0 hch1 hch2 hch3 d3 d2) (lenOf pd_17 rfl) (H at_50) (pc' := 53) rfl rfl (by decide) (W := 0) (Nat.le_of_eq rfl) (by decide) (by decide) (by decide) ?_
        intro T68 v68 L68 X68 hQ68
        obtain ⟨r68, t68, ct68, rfl, Nq68, Kq68, Eq68, Cq68, Vq68, Aq68⟩ := hQ68
        have N68 := Fr.app N65 (fun y hy => Nat.le_trans zs65 (Nq68 y hy))
        have H68 := H65.trans (CHr.keep Kq68 sf0 H65.1)
        have hk68 := Nat.le_trans hk65 Kq68.1
        have f68_0 := own_cpt_keep f65_0 Kq68 ns0
        have f68_1 := own_sio_keep f65_1 Kq68 ns0
        have f68_2 := Eq65.keep Kq68
        have f68_3 := Cq65.keep Kq68 nin0
        have f68_4 := Vq65.keep Kq68 nin0
        have f68_5 := Aq65.keep Kq68 nin0
        have zs68 := Nat.le_trans zs65 Kq68.1
        refine gStoreA 55 X68 hx (H at_53) (l' := #[.val (.int p0), .val (.int p1), .val (.int p2), .val (.int p3), .val (.int p4), .val (.int (4 : Int32)), .val (.int ch0), .val (.int ch1), .val (.int ch2), .val (.int ch3), .val (.ref r65), .val (.ref r68), .unset, .unset, .unset]) rfl rfl rfl ?_
        refine gIconst 56 X68 hx (v := (-1 : Int32)) (H at_55) rfl rfl ?_
        refine gStoreI 58 X68 hx (H at_56) (l' := #[.val (.int p0), .val (.int p1), .val (.int p2), .val (.int p3), .val (.int p4), .val (.int (4 : Int32)), .val (.int ch0), .val (.int ch1), .val (.int ch2), .val (.int ch3), .val (.ref r65), .val (.ref r68), .val (.int (-1 : Int32)), .unset, .unset]) rfl rfl ?_
        have J : ∀ pv : Int32, Goes p e below (FinH Z [("java/lang/String", 7), ("java/lang/StringLatin1", 151)] s room_1.cells room_1.slots (Law1 h0)) T68 (mkF m 89 #[.val (.int p0), .val (.int p1), .val (.int p2), .val (.int p3), .val (.int p4), .val (.int (4 : Int32)), .val (.int ch0), .val (.int ch1), .val (.int ch2), .val (.int ch3), .val (.ref r65), .val (.ref r68), .val (.int pv), .unset, .unset] []) := by
          intro pv
          refine gLoadI 91 X68 hx (H at_89) rfl rfl ?_
          refine gIconst 92 X68 hx (v := (2 : Int32)) (H at_91) rfl rfl ?_
          refine gIcmpLe X68 hx (H at_92) (pc' := 105) (by decide) (by decide) (pn := 95) rfl (fun (c92 : (4 : Int) ≤ (2 : Int)) => ?_) (fun (c92 : (2 : Int) < (4 : Int)) => ?_)
          · exact absurd c92 (by decide)
          · refine gLoadI 97 X68 hx (H at_95) rfl rfl ?_
            refine gBipush 99 X68 hx (v := (47 : Int32)) (H at_97) rfl rfl ?_
            refine gIcmpNeT X68 hx (H at_99) (pc' := 105) (by decide) (by decide) (pn := 102) rfl (fun (c99 : ¬ ch2.toInt = (47 : Int)) => ?_) (fun (c99 : ch2.toInt = (47 : Int)) => ?_)
            · exact absurd d2 c99
            · refine gIconst 103 X68 hx (v := (2 : Int32)) (H at_102) rfl rfl ?_
              refine gStoreI 105 X68 hx (H at_103) (l' := #[.val (.int p0), .val (.int p1), .val (.int p2), .val (.int p3), .val (.int p4), .val (.int (4 : Int32)), .val (.int ch0), .val (.int ch1), .val (.int ch2), .val (.int ch3), .val (.ref r65), .val (.ref r68), .val (.int (2 : Int32)), .unset, .unset]) rfl rfl ?_
              refine gLoadI 107 X68 hx (H at_105) rfl rfl ?_
              refine gIconst 108 X68 hx (v := (3 : Int32)) (H at_107) rfl rfl ?_
              refine gIcmpLe X68 hx (H at_108) (pc' := 121) (by decide) (by decide) (pn := 111) rfl (fun (c108 : (4 : Int) ≤ (3 : Int)) => ?_) (fun (c108 : (3 : Int) < (4 : Int)) => ?_)
              · exact absurd c108 (by decide)
              · refine gLoadI 113 X68 hx (H at_111) rfl rfl ?_
                refine gBipush 115 X68 hx (v := (47 : Int32)) (H at_113) rfl rfl ?_
                refine gIcmpNeT X68 hx (H at_115) (pc' := 121) (by decide) (by decide) (pn := 118) rfl (fun (c115 : ¬ ch3.toInt = (47 : Int)) => ?_) (fun (c115 : ch3.toInt = (47 : Int)) => ?_)
                · refine gLoadI 123 X68 hx (H at_121) rfl rfl ?_
                  refine gLoadI 125 X68 hx (H at_123) rfl rfl ?_
                  refine gIsub 126 X68 hx (H at_125) rfl ?_
                  show Goes p e below _ T68 (mkF m 126 #[.val (.int p0), .val (.int p1), .val (.int p2), .val (.int p3), .val (.int p4), .val (.int (4 : Int32)), .val (.int ch0), .val (.int ch1), .val (.int ch2), .val (.int ch3), .val (.ref r65), .val (.ref r68), .val (.int (2 : Int32)), .unset, .unset] [(.int (2 : Int32))])
                  refine gIconst 127 X68 hx (v := (1 : Int32)) (H at_126) rfl rfl ?_
                  refine gIsub 128 X68 hx (H at_127) rfl ?_
                  show Goes p e below _ T68 (mkF m 128 #[.val (.int p0), .val (.int p1), .val (.int p2), .val (.int p3), .val (.int p4), .val (.int (4 : Int32)), .val (.int ch0), .val (.int ch1), .val (.int ch2), .val (.int ch3), .val (.ref r65), .val (.ref r68), .val (.int (2 : Int32)), .unset, .unset] [(.int (1 : Int32))])
                  refine gStoreI 130 X68 hx (H at_128) (l' := #[.val (.int p0), .val (.int p1), .val (.int p2), .val (.int p3), .val (.int p4), .val (.int (4 : Int32)), .val (.int ch0), .val (.int ch1), .val (.int ch2), .val (.int ch3), .val (.ref r65), .val (.ref r68), .val (.int (2 : Int32)), .val (.int (1 : Int32)), .unset]) rfl rfl ?_
                  refine gLoadA 132 X68 hx (H at_130) rfl rfl rfl ?_
                  refine gCallVJ X68 hx hZ (y := mn17) hown rfl (by rw [hml]; rfl) Eq68 (ow hw 89 rfl) (ow hw 40 rfl) (ow hw 42 rfl) (ow hw 41 rfl) (ow hw 10 rfl) (ow hw 43 rfl) (by decide) (argsL := []) (st := []) (c_length_1 l Z a0 hw r68 t68 ct68 ch3 T68.heap f68_0 Eq68 Cq68 Vq68 Aq68 hch3) (lenOf pd_1 rfl) (H at_132) (pc' := 135) rfl rfl rfl rfl (by decide) (W := 0) (Nat.le_of_eq rfl) (by decide) (by decide) (by decide) ?_
                  intro T69 X69 e69
                  refine gLoadI 137 X69 hx (H at_135) rfl rfl ?_
                  refine gIcmpEqT X69 hx (H at_137) (pc' := 142) (by decide) (by decide) (pn := 140) rfl (fun (c137 : (1 : Int) = (1 : Int)) => ?_) (fun (c137 : ¬ (1 : Int) = (1 : Int)) => ?_)
                  · refine gIconst 143 X69 hx (v := (1 : Int32)) (H at_142) rfl rfl ?_
                    refine gStoreI 145 X69 hx (H at_143) (l' := #[.val (.int p0), .val (.int p1), .val (.int p2), .val (.int p3), .val (.int p4), .val (.int (4 : Int32)), .val (.int ch0), .val (.int ch1), .val (.int ch2), .val (.int ch3), .val (.ref r65), .val (.ref r68), .val (.int (2 : Int32)), .val (.int (1 : Int32)), .val (.int (1 : Int32))]) rfl rfl ?_
                    refine gLoadI 147 X69 hx (H at_145) rfl rfl ?_
                    refine gIfLe X69 hx (H at_147) (pc' := 177) (by decide) (by decide) (pn := 150) rfl (fun (c147 : (1 : Int) ≤ (0 : Int)) => ?_) (fun (c147 : (0 : Int) < (1 : Int)) => ?_)
                    · exact absurd c147 (by decide)
                    · refine gLoadA 152 X69 hx (H at_150) rfl rfl rfl ?_
                      refine gIconst 153 X69 hx (v := (0 : Int32)) (H at_152) rfl rfl ?_
                      refine gCallVJ X69 hx hZ (y := mn10) hown e69 (by rw [hml]; rfl) Eq68 (ow hw 122 rfl) (ow hw 123 rfl) (ow hw 125 rfl) (ow hw 124 rfl) (ow hw 10 rfl) (ow hw 126 rfl) (by decide) (argsL := [(.int (0 : Int32))]) (st := []) (c_charAt_0_1 l Z a0 hw r68 t68 ct68 ch3 T68.heap f68_1 f68_0 Eq68 Cq68 Vq68 Aq68 hch3) (lenOf pd_4 rfl) (H at_153) (pc' := 156) rfl rfl rfl rfl (by decide) (W := 0) (Nat.le_of_eq rfl) (by decide) (by decide) (by decide) ?_
                      intro T70 X70 e70
                      refine gLoadI 158 X70 hx (H at_156) rfl rfl ?_
                      refine gIconst 159 X70 hx (v := (1 : Int32)) (H at_158) rfl rfl ?_
                      refine gIadd 160 X70 hx (H at_159) rfl ?_
                      show Goes p e below _ T70 (mkF m 160 #[.val (.int p0), .val (.int p1), .val (.int p2), .val (.int p3), .val (.int p4), .val (.int (4 : Int32)), .val (.int ch0), .val (.int ch1), .val (.int ch2), .val (.int ch3), .val (.ref r65), .val (.ref r68), .val (.int (2 : Int32)), .val (.int (1 : Int32)), .val (.int (1 : Int32))] [(.int (3 : Int32)), (.int ch3)])
                      refine gLoadI 162 X70 hx (H at_160) rfl rfl ?_
                      refine gLoadI 164 X70 hx (H at_162) rfl rfl ?_
                      refine gLoadI 166 X70 hx (H at_164) rfl rfl ?_
                      refine gLoadI 168 X70 hx (H at_166) rfl rfl ?_
                      refine gCallSJ X70 hx hZ (y := mn4) hown e70 (by rw [hml]; rfl) (ow hw 136 rfl) (ow hw 137 rfl) (ow hw 3 rfl) (ow hw 138 rfl) (by decide) (argsL := [(.int (3 : Int32)), (.int ch0), (.int ch1), (.int ch2), (.int ch3)]) (st := [(.int ch3)]) (c_pick_3 l Z a0 hw ch0 ch1 ch2 ch3 _ hch0 hch1 hch2 hch3) (lenOf pd_8 rfl) (H at_168) (pc' := 171) rfl rfl rfl rfl (by decide) (W := 1) (Nat.le_of_eq rfl) (by decide) (by decide) (by decide) ?_
                      intro T71 X71 e71
                      refine gIcmpEq X71 hx (H at_171) (pc' := 177) (by decide) (by decide) (pn := 174) rfl (fun (c171 : ch3 = ch3) => ?_) (fun (c171 : ¬ ch3 = ch3) => ?_)
                      · refine gLoadI 179 X71 hx (H at_177) rfl rfl ?_
                        refine gIconst 180 X71 hx (v := (1 : Int32)) (H at_179) rfl rfl ?_
                        refine gIcmpLe X71 hx (H at_180) (pc' := 210) (by decide) (by decide) (pn := 183) rfl (fun (c180 : (1 : Int) ≤ (1 : Int)) => ?_) (fun (c180 : (1 : Int) < (1 : Int)) => ?_)
                        · refine gLoadI 212 X71 hx (H at_210) rfl rfl ?_
                          refine gIconst 213 X71 hx (v := (2 : Int32)) (H at_212) rfl rfl ?_
                          refine gIcmpLe X71 hx (H at_213) (pc' := 243) (by decide) (by decide) (pn := 216) rfl (fun (c213 : (1 : Int) ≤ (2 : Int)) => ?_) (fun (c213 : (2 : Int) < (1 : Int)) => ?_)
                          · refine gLoadI 245 X71 hx (H at_243) rfl rfl ?_
                            refine gIconst 246 X71 hx (v := (3 : Int32)) (H at_245) rfl rfl ?_
                            refine gIcmpLe X71 hx (H at_246) (pc' := 276) (by decide) (by decide) (pn := 249) rfl (fun (c246 : (1 : Int) ≤ (3 : Int)) => ?_) (fun (c246 : (3 : Int) < (1 : Int)) => ?_)
                            · refine gLoadI 278 X71 hx (H at_276) rfl rfl ?_
                              exact gRetHN X71 hx hlk hret (by simp) (H at_278) (w := (1 : Int32)) rfl e71 hS hk68 hZ hEL H68 (by decide) (by decide) (⟨rfl, N68⟩)
                            · exact absurd c246 (by decide)
                          · exact absurd c213 (by decide)
                        · exact absurd c180 (by decide)
                      · exact absurd rfl c171
                  · exact absurd c137 (by decide)
                · exact absurd c115 d3
        refine gLoadI 60 X68 hx (H at_58) rfl rfl ?_
        refine gIfLe X68 hx (H at_60) (pc' := 73) (by decide) (by decide) (pn := 63) rfl (fun (c60 : (4 : Int) ≤ (0 : Int)) => ?_) (fun (c60 : (0 : Int) < (4 : Int)) => ?_)
        · exact absurd c60 (by decide)
        · refine gLoadI 65 X68 hx (H at_63) rfl rfl ?_
          refine gBipush 67 X68 hx (v := (47 : Int32)) (H at_65) rfl rfl ?_
          refine gIcmpNeT X68 hx (H at_67) (pc' := 73) (by decide) (by decide) (pn := 70) rfl (fun (c67 : ¬ ch0.toInt = (47 : Int)) => ?_) (fun (c67 : ch0.toInt = (47 : Int)) => ?_)
          · refine gLoadI 75 X68 hx (H at_73) rfl rfl ?_
            refine gIconst 76 X68 hx (v := (1 : Int32)) (H at_75) rfl rfl ?_
            refine gIcmpLe X68 hx (H at_76) (pc' := 89) (by decide) (by decide) (pn := 79) rfl (fun (c76 : (4 : Int) ≤ (1 : Int)) => ?_) (fun (c76 : (1 : Int) < (4 : Int)) => ?_)
            · exact absurd c76 (by decide)
            · refine gLoadI 81 X68 hx (H at_79) rfl rfl ?_
              refine gBipush 83 X68 hx (v := (47 : Int32)) (H at_81) rfl rfl ?_
              refine gIcmpNeT X68 hx (H at_83) (pc' := 89) (by decide) (by decide) (pn := 86) rfl (fun (c83 : ¬ ch1.toInt = (47 : Int)) => ?_) (fun (c83 : ch1.toInt = (47 : Int)) => ?_)
              · exact J _
              · refine gIconst 87 X68 hx (v := (1 : Int32)) (H at_86) rfl rfl ?_
                refine gStoreI 89 X68 hx (H at_87) (l' := #[.val (.int p0), .val (.int p1), .val (.int p2), .val (.int p3), .val (.int p4), .val (.int (4 : Int32)), .val (.int ch0), .val (.int ch1), .val (.int ch2), .val (.int ch3), .val (.ref r65), .val (.ref r68), .val (.int (1 : Int32)), .unset, .unset]) rfl rfl ?_
                exact J _
          · refine gIconst 71 X68 hx (v := (0 : Int32)) (H at_70) rfl rfl ?_
            refine gStoreI 73 X68 hx (H at_71) (l' := #[.val (.int p0), .val (.int p1), .val (.int p2), .val (.int p3), .val (.int p4), .val (.int (4 : Int32)), .val (.int ch0), .val (.int ch1), .val (.int ch2), .val (.int ch3), .val (.ref r65), .val (.ref r68), .val (.int (0 : Int32)), .unset, .unset]) rfl rfl ?_
            refine gLoadI 75 X68 hx (H at_73) rfl rfl ?_
            refine gIconst 76 X68 hx (v := (1 : Int32)) (H at_75) rfl rfl ?_
            refine gIcmpLe X68 hx (H at_76) (pc' := 89) (by decide) (by decide) (pn := 79) rfl (fun (c76 : (4 : Int) ≤ (1 : Int)) => ?_) (fun (c76 : (1 : Int) < (4 : Int)) => ?_)
            · exact absurd c76 (by decide)
            · refine gLoadI 81 X68 hx (H at_79) rfl rfl ?_
              refine gBipush 83 X68 hx (v := (47 : Int32)) (H at_81) rfl rfl ?_
              refine gIcmpNeT X68 hx (H at_83) (pc' := 89) (by decide) (by decide) (pn := 86) rfl (fun (c83 : ¬ ch1.toInt = (47 : Int)) => ?_) (fun (c83 : ch1.toInt = (47 : Int)) => ?_)
              · exact J _
              · refine gIconst 87 X68 hx (v := (1 : Int32)) (H at_86) rfl rfl ?_
                refine gStoreI 89 X68 hx (H at_87) (l' := #[.val (.int p0), .val (.int p1), .val (.int p2), .val (.int p3), .val (.int p4), .val (.int (4 : Int32)), .val (.int ch0), .val (.int ch1), .val (.int ch2), .val (.int ch3), .val (.ref r65), .val (.ref r68), .val (.int (1 : Int32)), .unset, .unset]) rfl rfl ?_
                exact J _
      · by_cases d1 : ch1.toInt = 47
        · refine gLoadA 50 X65 hx (H at_48) rfl rfl rfl ?_
          refine gCallS X65 hx hZ (y := mn0) hown rfl (by rw [hml]; rfl) (ow hw 30 rfl) (ow hw 31 rfl) (ow hw 32 rfl) (ow hw 33 rfl) (by decide) (argsL := [(.ref r65)]) (st := []) (c_nm_4_1 l Z a0 hw r65 t65 ct65 ch0 ch1 ch2 ch3 T65.heap f65_1 f65_0 Eq65 Cq65 Vq65 Aq65 hch0 hch1 hch2 hch3 d2 d3 d1) (lenOf pd_17 rfl) (H at_50) (pc' := 53) rfl rfl (by decide) (W := 0) (Nat.le_of_eq rfl) (by decide) (by decide) (by decide) ?_
          intro T72 v72 L72 X72 hQ72
          obtain ⟨r72, t72, ct72, rfl, Nq72, Kq72, Eq72, Cq72, Vq72, Aq72⟩ := hQ72
          have N72 := Fr.app N65 (fun y hy => Nat.le_trans zs65 (Nq72 y hy))
          have H72 := H65.trans (CHr.keep Kq72 sf0 H65.1)
          have hk72 := Nat.le_trans hk65 Kq72.1
          have f72_0 := own_cpt_keep f65_0 Kq72 ns0
          have f72_1 := own_sio_keep f65_1 Kq72 ns0
          have f72_2 := Eq65.keep Kq72
          have f72_3 := Cq65.keep Kq72 nin0
          have f72_4 := Vq65.keep Kq72 nin0
          have f72_5 := Aq65.keep Kq72 nin0
          have zs72 := Nat.le_trans zs65 Kq72.1
          refine gStoreA 55 X72 hx (H at_53) (l' := #[.val (.int p0), .val (.int p1), .val (.int p2), .val (.int p3), .val (.int p4), .val (.int (4 : Int32)), .val (.int ch0), .val (.int ch1), .val (.int ch2), .val (.int ch3), .val (.ref r65), .val (.ref r72), .unset, .unset, .unset]) rfl rfl rfl ?_
          refine gIconst 56 X72 hx (v := (-1 : Int32)) (H at_55) rfl rfl ?_
          refine gStoreI 58 X72 hx (H at_56) (l' := #[.val (.int p0), .val (.int p1), .val (.int p2), .val (.int p3), .val (.int p4), .val (.int (4 : Int32)), .val (.int ch0), .val (.int ch1), .val (.int ch2), .val (.int ch3), .val (.ref r65), .val (.ref r72), .val (.int (-1 : Int32)), .unset, .unset]) rfl rfl ?_
          have J : ∀ pv : Int32, Goes p e below (FinH Z [("java/lang/String", 7), ("java/lang/StringLatin1", 151)] s room_1.cells room_1.slots (Law1 h0)) T72 (mkF m 73 #[.val (.int p0), .val (.int p1), .val (.int p2), .val (.int p3), .val (.int p4), .val (.int (4 : Int32)), .val (.int ch0), .val (.int ch1), .val (.int ch2), .val (.int ch3), .val (.ref r65), .val (.ref r72), .val (.int pv), .unset, .unset] []) := by
            intro pv
            refine gLoadI 75 X72 hx (H at_73) rfl rfl ?_
            refine gIconst 76 X72 hx (v := (1 : Int32)) (H at_75) rfl rfl ?_
            refine gIcmpLe X72 hx (H at_76) (pc' := 89) (by decide) (by decide) (pn := 79) rfl (fun (c76 : (4 : Int) ≤ (1 : Int)) => ?_) (fun (c76 : (1 : Int) < (4 : Int)) => ?_)
            · exact absurd c76 (by decide)
            · refine gLoadI 81 X72 hx (H at_79) rfl rfl ?_
              refine gBipush 83 X72 hx (v := (47 : Int32)) (H at_81) rfl rfl ?_
              refine gIcmpNeT X72 hx (H at_83) (pc' := 89) (by decide) (by decide) (pn := 86) rfl (fun (c83 : ¬ ch1.toInt = (47 : Int)) => ?_) (fun (c83 : ch1.toInt = (47 : Int)) => ?_)
              · exact absurd d1 c83
              · refine gIconst 87 X72 hx (v := (1 : Int32)) (H at_86) rfl rfl ?_
                refine gStoreI 89 X72 hx (H at_87) (l' := #[.val (.int p0), .val (.int p1), .val (.int p2), .val (.int p3), .val (.int p4), .val (.int (4 : Int32)), .val (.int ch0), .val (.int ch1), .val (.int ch2), .val (.int ch3), .val (.ref r65), .val (.ref r72), .val (.int (1 : Int32)), .unset, .unset]) rfl rfl ?_
                refine gLoadI 91 X72 hx (H at_89) rfl rfl ?_
                refine gIconst 92 X72 hx (v := (2 : Int32)) (H at_91) rfl rfl ?_
                refine gIcmpLe X72 hx (H at_92) (pc' := 105) (by decide) (by decide) (pn := 95) rfl (fun (c92 : (4 : Int) ≤ (2 : Int)) => ?_) (fun (c92 : (2 : Int) < (4 : Int)) => ?_)
                · exact absurd c92 (by decide)
                · refine gLoadI 97 X72 hx (H at_95) rfl rfl ?_
                  refine gBipush 99 X72 hx (v := (47 : Int32)) (H at_97) rfl rfl ?_
                  refine gIcmpNeT X72 hx (H at_99) (pc' := 105) (by decide) (by decide) (pn := 102) rfl (fun (c99 : ¬ ch2.toInt = (47 : Int)) => ?_) (fun (c99 : ch2.toInt = (47 : Int)) => ?_)
                  · refine gLoadI 107 X72 hx (H at_105) rfl rfl ?_
                    refine gIconst 108 X72 hx (v := (3 : Int32)) (H at_107) rfl rfl ?_
                    refine gIcmpLe X72 hx (H at_108) (pc' := 121) (by decide) (by decide) (pn := 111) rfl (fun (c108 : (4 : Int) ≤ (3 : Int)) => ?_) (fun (c108 : (3 : Int) < (4 : Int)) => ?_)
                    · exact absurd c108 (by decide)
                    · refine gLoadI 113 X72 hx (H at_111) rfl rfl ?_
                      refine gBipush 115 X72 hx (v := (47 : Int32)) (H at_113) rfl rfl ?_
                      refine gIcmpNeT X72 hx (H at_115) (pc' := 121) (by decide) (by decide) (pn := 118) rfl (fun (c115 : ¬ ch3.toInt = (47 : Int)) => ?_) (fun (c115 : ch3.toInt = (47 : Int)) => ?_)
                      · refine gLoadI 123 X72 hx (H at_121) rfl rfl ?_
                        refine gLoadI 125 X72 hx (H at_123) rfl rfl ?_
                        refine gIsub 126 X72 hx (H at_125) rfl ?_
                        show Goes p e below _ T72 (mkF m 126 #[.val (.int p0), .val (.int p1), .val (.int p2), .val (.int p3), .val (.int p4), .val (.int (4 : Int32)), .val (.int ch0), .val (.int ch1), .val (.int ch2), .val (.int ch3), .val (.ref r65), .val (.ref r72), .val (.int (1 : Int32)), .unset, .unset] [(.int (3 : Int32))])
                        refine gIconst 127 X72 hx (v := (1 : Int32)) (H at_126) rfl rfl ?_
                        refine gIsub 128 X72 hx (H at_127) rfl ?_
                        show Goes p e below _ T72 (mkF m 128 #[.val (.int p0), .val (.int p1), .val (.int p2), .val (.int p3), .val (.int p4), .val (.int (4 : Int32)), .val (.int ch0), .val (.int ch1), .val (.int ch2), .val (.int ch3), .val (.ref r65), .val (.ref r72), .val (.int (1 : Int32)), .unset, .unset] [(.int (2 : Int32))])
                        refine gStoreI 130 X72 hx (H at_128) (l' := #[.val (.int p0), .val (.int p1), .val (.int p2), .val (.int p3), .val (.int p4), .val (.int (4 : Int32)), .val (.int ch0), .val (.int ch1), .val (.int ch2), .val (.int ch3), .val (.ref r65), .val (.ref r72), .val (.int (1 : Int32)), .val (.int (2 : Int32)), .unset]) rfl rfl ?_
                        refine gLoadA 132 X72 hx (H at_130) rfl rfl rfl ?_
                        refine gCallVJ X72 hx hZ (y := mn17) hown rfl (by rw [hml]; rfl) Eq72 (ow hw 89 rfl) (ow hw 40 rfl) (ow hw 42 rfl) (ow hw 41 rfl) (ow hw 10 rfl) (ow hw 43 rfl) (by decide) (argsL := []) (st := []) (c_length_2 l Z a0 hw r72 t72 ct72 ch2 ch3 T72.heap f72_0 Eq72 Cq72 Vq72 Aq72 hch2 hch3) (lenOf pd_1 rfl) (H at_132) (pc' := 135) rfl rfl rfl rfl (by decide) (W := 0) (Nat.le_of_eq rfl) (by decide) (by decide) (by decide) ?_
                        intro T73 X73 e73
                        refine gLoadI 137 X73 hx (H at_135) rfl rfl ?_
                        refine gIcmpEqT X73 hx (H at_137) (pc' := 142) (by decide) (by decide) (pn := 140) rfl (fun (c137 : (2 : Int) = (2 : Int)) => ?_) (fun (c137 : ¬ (2 : Int) = (2 : Int)) => ?_)
                        · refine gIconst 143 X73 hx (v := (1 : Int32)) (H at_142) rfl rfl ?_
                          refine gStoreI 145 X73 hx (H at_143) (l' := #[.val (.int p0), .val (.int p1), .val (.int p2), .val (.int p3), .val (.int p4), .val (.int (4 : Int32)), .val (.int ch0), .val (.int ch1), .val (.int ch2), .val (.int ch3), .val (.ref r65), .val (.ref r72), .val (.int (1 : Int32)), .val (.int (2 : Int32)), .val (.int (1 : Int32))]) rfl rfl ?_
                          refine gLoadI 147 X73 hx (H at_145) rfl rfl ?_
                          refine gIfLe X73 hx (H at_147) (pc' := 177) (by decide) (by decide) (pn := 150) rfl (fun (c147 : (2 : Int) ≤ (0 : Int)) => ?_) (fun (c147 : (0 : Int) < (2 : Int)) => ?_)
                          · exact absurd c147 (by decide)
                          · refine gLoadA 152 X73 hx (H at_150) rfl rfl rfl ?_
                            refine gIconst 153 X73 hx (v := (0 : Int32)) (H at_152) rfl rfl ?_
                            refine gCallVJ X73 hx hZ (y := mn10) hown e73 (by rw [hml]; rfl) Eq72 (ow hw 122 rfl) (ow hw 123 rfl) (ow hw 125 rfl) (ow hw 124 rfl) (ow hw 10 rfl) (ow hw 126 rfl) (by decide) (argsL := [(.int (0 : Int32))]) (st := []) (c_charAt_0_2 l Z a0 hw r72 t72 ct72 ch2 ch3 T72.heap f72_1 f72_0 Eq72 Cq72 Vq72 Aq72 hch2 hch3) (lenOf pd_4 rfl) (H at_153) (pc' := 156) rfl rfl rfl rfl (by decide) (W := 0) (Nat.le_of_eq rfl) (by decide) (by decide) (by decide) ?_
                            intro T74 X74 e74
                            refine gLoadI 158 X74 hx (H at_156) rfl rfl ?_
                            refine gIconst 159 X74 hx (v := (1 : Int32)) (H at_158) rfl rfl ?_
                            refine gIadd 160 X74 hx (H at_159) rfl ?_
                            show Goes p e below _ T74 (mkF m 160 #[.val (.int p0), .val (.int p1), .val (.int p2), .val (.int p3), .val (.int p4), .val (.int (4 : Int32)), .val (.int ch0), .val (.int ch1), .val (.int ch2), .val (.int ch3), .val (.ref r65), .val (.ref r72), .val (.int (1 : Int32)), .val (.int (2 : Int32)), .val (.int (1 : Int32))] [(.int (2 : Int32)), (.int ch2)])
                            refine gLoadI 162 X74 hx (H at_160) rfl rfl ?_
                            refine gLoadI 164 X74 hx (H at_162) rfl rfl ?_
                            refine gLoadI 166 X74 hx (H at_164) rfl rfl ?_
                            refine gLoadI 168 X74 hx (H at_166) rfl rfl ?_
                            refine gCallSJ X74 hx hZ (y := mn4) hown e74 (by rw [hml]; rfl) (ow hw 136 rfl) (ow hw 137 rfl) (ow hw 3 rfl) (ow hw 138 rfl) (by decide) (argsL := [(.int (2 : Int32)), (.int ch0), (.int ch1), (.int ch2), (.int ch3)]) (st := [(.int ch2)]) (c_pick_2 l Z a0 hw ch0 ch1 ch2 ch3 _ hch0 hch1 hch2 hch3) (lenOf pd_8 rfl) (H at_168) (pc' := 171) rfl rfl rfl rfl (by decide) (W := 1) (Nat.le_of_eq rfl) (by decide) (by decide) (by decide) ?_
                            intro T75 X75 e75
                            refine gIcmpEq X75 hx (H at_171) (pc' := 177) (by decide) (by decide) (pn := 174) rfl (fun (c171 : ch2 = ch2) => ?_) (fun (c171 : ¬ ch2 = ch2) => ?_)
                            · refine gLoadI 179 X75 hx (H at_177) rfl rfl ?_
                              refine gIconst 180 X75 hx (v := (1 : Int32)) (H at_179) rfl rfl ?_
                              refine gIcmpLe X75 hx (H at_180) (pc' := 210) (by decide) (by decide) (pn := 183) rfl (fun (c180 : (2 : Int) ≤ (1 : Int)) => ?_) (fun (c180 : (1 : Int) < (2 : Int)) => ?_)
                              · exact absurd c180 (by decide)
                              · refine gLoadA 185 X75 hx (H at_183) rfl rfl rfl ?_
                                refine gIconst 186 X75 hx (v := (1 : Int32)) (H at_185) rfl rfl ?_
                                refine gCallVJ X75 hx hZ (y := mn10) hown e75 (by rw [hml]; rfl) Eq72 (ow hw 122 rfl) (ow hw 123 rfl) (ow hw 125 rfl) (ow hw 124 rfl) (ow hw 10 rfl) (ow hw 126 rfl) (by decide) (argsL := [(.int (1 : Int32))]) (st := []) (c_charAt_1_2 l Z a0 hw r72 t72 ct72 ch2 ch3 T72.heap f72_1 f72_0 Eq72 Cq72 Vq72 Aq72 hch2 hch3) (lenOf pd_4 rfl) (H at_186) (pc' := 189) rfl rfl rfl rfl (by decide) (W := 0) (Nat.le_of_eq rfl) (by decide) (by decide) (by decide) ?_
                                intro T76 X76 e76
                                refine gLoadI 191 X76 hx (H at_189) rfl rfl ?_
                                refine gIconst 192 X76 hx (v := (2 : Int32)) (H at_191) rfl rfl ?_
                                refine gIadd 193 X76 hx (H at_192) rfl ?_
                                show Goes p e below _ T76 (mkF m 193 #[.val (.int p0), .val (.int p1), .val (.int p2), .val (.int p3), .val (.int p4), .val (.int (4 : Int32)), .val (.int ch0), .val (.int ch1), .val (.int ch2), .val (.int ch3), .val (.ref r65), .val (.ref r72), .val (.int (1 : Int32)), .val (.int (2 : Int32)), .val (.int (1 : Int32))] [(.int (3 : Int32)), (.int ch3)])
                                refine gLoadI 195 X76 hx (H at_193) rfl rfl ?_
                                refine gLoadI 197 X76 hx (H at_195) rfl rfl ?_
                                refine gLoadI 199 X76 hx (H at_197) rfl rfl ?_
                                refine gLoadI 201 X76 hx (H at_199) rfl rfl ?_
                                refine gCallSJ X76 hx hZ (y := mn4) hown e76 (by rw [hml]; rfl) (ow hw 136 rfl) (ow hw 137 rfl) (ow hw 3 rfl) (ow hw 138 rfl) (by decide) (argsL := [(.int (3 : Int32)), (.int ch0), (.int ch1), (.int ch2), (.int ch3)]) (st := [(.int ch3)]) (c_pick_3 l Z a0 hw ch0 ch1 ch2 ch3 _ hch0 hch1 hch2 hch3) (lenOf pd_8 rfl) (H at_201) (pc' := 204) rfl rfl rfl rfl (by decide) (W := 1) (Nat.le_of_eq rfl) (by decide) (by decide) (by decide) ?_
                                intro T77 X77 e77
                                refine gIcmpEq X77 hx (H at_204) (pc' := 210) (by decide) (by decide) (pn := 207) rfl (fun (c204 : ch3 = ch3) => ?_) (fun (c204 : ¬ ch3 = ch3) => ?_)
                                · refine gLoadI 212 X77 hx (H at_210) rfl rfl ?_
                                  refine gIconst 213 X77 hx (v := (2 : Int32)) (H at_212) rfl rfl ?_
                                  refine gIcmpLe X77 hx (H at_213) (pc' := 243) (by decide) (by decide) (pn := 216) rfl (fun (c213 : (2 : Int) ≤ (2 : Int)) => ?_) (fun (c213 : (2 : Int) < (2 : Int)) => ?_)
                                  · refine gLoadI 245 X77 hx (H at_243) rfl rfl ?_
                                    refine gIconst 246 X77 hx (v := (3 : Int32)) (H at_245) rfl rfl ?_
                                    refine gIcmpLe X77 hx (H at_246) (pc' := 276) (by decide) (by decide) (pn := 249) rfl (fun (c246 : (2 : Int) ≤ (3 : Int)) => ?_) (fun (c246 : (3 : Int) < (2 : Int)) => ?_)
                                    · refine gLoadI 278 X77 hx (H at_276) rfl rfl ?_
                                      exact gRetHN X77 hx hlk hret (by simp) (H at_278) (w := (1 : Int32)) rfl e77 hS hk72 hZ hEL H72 (by decide) (by decide) (⟨rfl, N72⟩)
                                    · exact absurd c246 (by decide)
                                  · exact absurd c213 (by decide)
                                · exact absurd rfl c204
                            · exact absurd rfl c171
                        · exact absurd c137 (by decide)
                      · exact absurd c115 d3
                  · exact absurd c99 d2
          refine gLoadI 60 X72 hx (H at_58) rfl rfl ?_
          refine gIfLe X72 hx (H at_60) (pc' := 73) (by decide) (by decide) (pn := 63) rfl (fun (c60 : (4 : Int) ≤ (0 : Int)) => ?_) (fun (c60 : (0 : Int) < (4 : Int)) => ?_)
          · exact absurd c60 (by decide)
          · refine gLoadI 65 X72 hx (H at_63) rfl rfl ?_
            refine gBipush 67 X72 hx (v := (47 : Int32)) (H at_65) rfl rfl ?_
            refine gIcmpNeT X72 hx (H at_67) (pc' := 73) (by decide) (by decide) (pn := 70) rfl (fun (c67 : ¬ ch0.toInt = (47 : Int)) => ?_) (fun (c67 : ch0.toInt = (47 : Int)) => ?_)
            · exact J _
            · refine gIconst 71 X72 hx (v := (0 : Int32)) (H at_70) rfl rfl ?_
              refine gStoreI 73 X72 hx (H at_71) (l' := #[.val (.int p0), .val (.int p1), .val (.int p2), .val (.int p3), .val (.int p4), .val (.int (4 : Int32)), .val (.int ch0), .val (.int ch1), .val (.int ch2), .val (.int ch3), .val (.ref r65), .val (.ref r72), .val (.int (0 : Int32)), .unset, .unset]) rfl rfl ?_
              exact J _
        · by_cases d0 : ch0.toInt = 47
          · refine gLoadA 50 X65 hx (H at_48) rfl rfl rfl ?_
            refine gCallS X65 hx hZ (y := mn0) hown rfl (by rw [hml]; rfl) (ow hw 30 rfl) (ow hw 31 rfl) (ow hw 32 rfl) (ow hw 33 rfl) (by decide) (argsL := [(.ref r65)]) (st := []) (c_nm_4_0 l Z a0 hw r65 t65 ct65 ch0 ch1 ch2 ch3 T65.heap f65_1 f65_0 Eq65 Cq65 Vq65 Aq65 hch0 hch1 hch2 hch3 d1 d2 d3 d0) (lenOf pd_17 rfl) (H at_50) (pc' := 53) rfl rfl (by decide) (W := 0) (Nat.le_of_eq rfl) (by decide) (by decide) (by decide) ?_
            intro T78 v78 L78 X78 hQ78
            obtain ⟨r78, t78, ct78, rfl, Nq78, Kq78, Eq78, Cq78, Vq78, Aq78⟩ := hQ78
            have N78 := Fr.app N65 (fun y hy => Nat.le_trans zs65 (Nq78 y hy))
            have H78 := H65.trans (CHr.keep Kq78 sf0 H65.1)
            have hk78 := Nat.le_trans hk65 Kq78.1
            have f78_0 := own_cpt_keep f65_0 Kq78 ns0
            have f78_1 := own_sio_keep f65_1 Kq78 ns0
            have f78_2 := Eq65.keep Kq78
            have f78_3 := Cq65.keep Kq78 nin0
            have f78_4 := Vq65.keep Kq78 nin0
            have f78_5 := Aq65.keep Kq78 nin0
            have zs78 := Nat.le_trans zs65 Kq78.1
            refine gStoreA 55 X78 hx (H at_53) (l' := #[.val (.int p0), .val (.int p1), .val (.int p2), .val (.int p3), .val (.int p4), .val (.int (4 : Int32)), .val (.int ch0), .val (.int ch1), .val (.int ch2), .val (.int ch3), .val (.ref r65), .val (.ref r78), .unset, .unset, .unset]) rfl rfl rfl ?_
            refine gIconst 56 X78 hx (v := (-1 : Int32)) (H at_55) rfl rfl ?_
            refine gStoreI 58 X78 hx (H at_56) (l' := #[.val (.int p0), .val (.int p1), .val (.int p2), .val (.int p3), .val (.int p4), .val (.int (4 : Int32)), .val (.int ch0), .val (.int ch1), .val (.int ch2), .val (.int ch3), .val (.ref r65), .val (.ref r78), .val (.int (-1 : Int32)), .unset, .unset]) rfl rfl ?_
            refine gLoadI 60 X78 hx (H at_58) rfl rfl ?_
            refine gIfLe X78 hx (H at_60) (pc' := 73) (by decide) (by decide) (pn := 63) rfl (fun (c60 : (4 : Int) ≤ (0 : Int)) => ?_) (fun (c60 : (0 : Int) < (4 : Int)) => ?_)
            · exact absurd c60 (by decide)
            · refine gLoadI 65 X78 hx (H at_63) rfl rfl ?_
              refine gBipush 67 X78 hx (v := (47 : Int32)) (H at_65) rfl rfl ?_
              refine gIcmpNeT X78 hx (H at_67) (pc' := 73) (by decide) (by decide) (pn := 70) rfl (fun (c67 : ¬ ch0.toInt = (47 : Int)) => ?_) (fun (c67 : ch0.toInt = (47 : Int)) => ?_)
              · exact absurd d0 c67
              · refine gIconst 71 X78 hx (v := (0 : Int32)) (H at_70) rfl rfl ?_
                refine gStoreI 73 X78 hx (H at_71) (l' := #[.val (.int p0), .val (.int p1), .val (.int p2), .val (.int p3), .val (.int p4), .val (.int (4 : Int32)), .val (.int ch0), .val (.int ch1), .val (.int ch2), .val (.int ch3), .val (.ref r65), .val (.ref r78), .val (.int (0 : Int32)), .unset, .unset]) rfl rfl ?_
                refine gLoadI 75 X78 hx (H at_73) rfl rfl ?_
                refine gIconst 76 X78 hx (v := (1 : Int32)) (H at_75) rfl rfl ?_
                refine gIcmpLe X78 hx (H at_76) (pc' := 89) (by decide) (by decide) (pn := 79) rfl (fun (c76 : (4 : Int) ≤ (1 : Int)) => ?_) (fun (c76 : (1 : Int) < (4 : Int)) => ?_)
                · exact absurd c76 (by decide)
                · refine gLoadI 81 X78 hx (H at_79) rfl rfl ?_
                  refine gBipush 83 X78 hx (v := (47 : Int32)) (H at_81) rfl rfl ?_
                  refine gIcmpNeT X78 hx (H at_83) (pc' := 89) (by decide) (by decide) (pn := 86) rfl (fun (c83 : ¬ ch1.toInt = (47 : Int)) => ?_) (fun (c83 : ch1.toInt = (47 : Int)) => ?_)
                  · refine gLoadI 91 X78 hx (H at_89) rfl rfl ?_
                    refine gIconst 92 X78 hx (v := (2 : Int32)) (H at_91) rfl rfl ?_
                    refine gIcmpLe X78 hx (H at_92) (pc' := 105) (by decide) (by decide) (pn := 95) rfl (fun (c92 : (4 : Int) ≤ (2 : Int)) => ?_) (fun (c92 : (2 : Int) < (4 : Int)) => ?_)
                    · exact absurd c92 (by decide)
                    · refine gLoadI 97 X78 hx (H at_95) rfl rfl ?_
                      refine gBipush 99 X78 hx (v := (47 : Int32)) (H at_97) rfl rfl ?_
                      refine gIcmpNeT X78 hx (H at_99) (pc' := 105) (by decide) (by decide) (pn := 102) rfl (fun (c99 : ¬ ch2.toInt = (47 : Int)) => ?_) (fun (c99 : ch2.toInt = (47 : Int)) => ?_)
                      · refine gLoadI 107 X78 hx (H at_105) rfl rfl ?_
                        refine gIconst 108 X78 hx (v := (3 : Int32)) (H at_107) rfl rfl ?_
                        refine gIcmpLe X78 hx (H at_108) (pc' := 121) (by decide) (by decide) (pn := 111) rfl (fun (c108 : (4 : Int) ≤ (3 : Int)) => ?_) (fun (c108 : (3 : Int) < (4 : Int)) => ?_)
                        · exact absurd c108 (by decide)
                        · refine gLoadI 113 X78 hx (H at_111) rfl rfl ?_
                          refine gBipush 115 X78 hx (v := (47 : Int32)) (H at_113) rfl rfl ?_
                          refine gIcmpNeT X78 hx (H at_115) (pc' := 121) (by decide) (by decide) (pn := 118) rfl (fun (c115 : ¬ ch3.toInt = (47 : Int)) => ?_) (fun (c115 : ch3.toInt = (47 : Int)) => ?_)
                          · refine gLoadI 123 X78 hx (H at_121) rfl rfl ?_
                            refine gLoadI 125 X78 hx (H at_123) rfl rfl ?_
                            refine gIsub 126 X78 hx (H at_125) rfl ?_
                            show Goes p e below _ T78 (mkF m 126 #[.val (.int p0), .val (.int p1), .val (.int p2), .val (.int p3), .val (.int p4), .val (.int (4 : Int32)), .val (.int ch0), .val (.int ch1), .val (.int ch2), .val (.int ch3), .val (.ref r65), .val (.ref r78), .val (.int (0 : Int32)), .unset, .unset] [(.int (4 : Int32))])
                            refine gIconst 127 X78 hx (v := (1 : Int32)) (H at_126) rfl rfl ?_
                            refine gIsub 128 X78 hx (H at_127) rfl ?_
                            show Goes p e below _ T78 (mkF m 128 #[.val (.int p0), .val (.int p1), .val (.int p2), .val (.int p3), .val (.int p4), .val (.int (4 : Int32)), .val (.int ch0), .val (.int ch1), .val (.int ch2), .val (.int ch3), .val (.ref r65), .val (.ref r78), .val (.int (0 : Int32)), .unset, .unset] [(.int (3 : Int32))])
                            refine gStoreI 130 X78 hx (H at_128) (l' := #[.val (.int p0), .val (.int p1), .val (.int p2), .val (.int p3), .val (.int p4), .val (.int (4 : Int32)), .val (.int ch0), .val (.int ch1), .val (.int ch2), .val (.int ch3), .val (.ref r65), .val (.ref r78), .val (.int (0 : Int32)), .val (.int (3 : Int32)), .unset]) rfl rfl ?_
                            refine gLoadA 132 X78 hx (H at_130) rfl rfl rfl ?_
                            refine gCallVJ X78 hx hZ (y := mn17) hown rfl (by rw [hml]; rfl) Eq78 (ow hw 89 rfl) (ow hw 40 rfl) (ow hw 42 rfl) (ow hw 41 rfl) (ow hw 10 rfl) (ow hw 43 rfl) (by decide) (argsL := []) (st := []) (c_length_3 l Z a0 hw r78 t78 ct78 ch1 ch2 ch3 T78.heap f78_0 Eq78 Cq78 Vq78 Aq78 hch1 hch2 hch3) (lenOf pd_1 rfl) (H at_132) (pc' := 135) rfl rfl rfl rfl (by decide) (W := 0) (Nat.le_of_eq rfl) (by decide) (by decide) (by decide) ?_
                            intro T79 X79 e79
                            refine gLoadI 137 X79 hx (H at_135) rfl rfl ?_
                            refine gIcmpEqT X79 hx (H at_137) (pc' := 142) (by decide) (by decide) (pn := 140) rfl (fun (c137 : (3 : Int) = (3 : Int)) => ?_) (fun (c137 : ¬ (3 : Int) = (3 : Int)) => ?_)
                            · refine gIconst 143 X79 hx (v := (1 : Int32)) (H at_142) rfl rfl ?_
                              refine gStoreI 145 X79 hx (H at_143) (l' := #[.val (.int p0), .val (.int p1), .val (.int p2), .val (.int p3), .val (.int p4), .val (.int (4 : Int32)), .val (.int ch0), .val (.int ch1), .val (.int ch2), .val (.int ch3), .val (.ref r65), .val (.ref r78), .val (.int (0 : Int32)), .val (.int (3 : Int32)), .val (.int (1 : Int32))]) rfl rfl ?_
                              refine gLoadI 147 X79 hx (H at_145) rfl rfl ?_
                              refine gIfLe X79 hx (H at_147) (pc' := 177) (by decide) (by decide) (pn := 150) rfl (fun (c147 : (3 : Int) ≤ (0 : Int)) => ?_) (fun (c147 : (0 : Int) < (3 : Int)) => ?_)
                              · exact absurd c147 (by decide)
                              · refine gLoadA 152 X79 hx (H at_150) rfl rfl rfl ?_
                                refine gIconst 153 X79 hx (v := (0 : Int32)) (H at_152) rfl rfl ?_
                                refine gCallVJ X79 hx hZ (y := mn10) hown e79 (by rw [hml]; rfl) Eq78 (ow hw 122 rfl) (ow hw 123 rfl) (ow hw 125 rfl) (ow hw 124 rfl) (ow hw 10 rfl) (ow hw 126 rfl) (by decide) (argsL := [(.int (0 : Int32))]) (st := []) (c_charAt_0_3 l Z a0 hw r78 t78 ct78 ch1 ch2 ch3 T78.heap f78_1 f78_0 Eq78 Cq78 Vq78 Aq78 hch1 hch2 hch3) (lenOf pd_4 rfl) (H at_153) (pc' := 156) rfl rfl rfl rfl (by decide) (W := 0) (Nat.le_of_eq rfl) (by decide) (by decide) (by decide) ?_
                                intro T80 X80 e80
                                refine gLoadI 158 X80 hx (H at_156) rfl rfl ?_
                                refine gIconst 159 X80 hx (v := (1 : Int32)) (H at_158) rfl rfl ?_
                                refine gIadd 160 X80 hx (H at_159) rfl ?_
                                show Goes p e below _ T80 (mkF m 160 #[.val (.int p0), .val (.int p1), .val (.int p2), .val (.int p3), .val (.int p4), .val (.int (4 : Int32)), .val (.int ch0), .val (.int ch1), .val (.int ch2), .val (.int ch3), .val (.ref r65), .val (.ref r78), .val (.int (0 : Int32)), .val (.int (3 : Int32)), .val (.int (1 : Int32))] [(.int (1 : Int32)), (.int ch1)])
                                refine gLoadI 162 X80 hx (H at_160) rfl rfl ?_
                                refine gLoadI 164 X80 hx (H at_162) rfl rfl ?_
                                refine gLoadI 166 X80 hx (H at_164) rfl rfl ?_
                                refine gLoadI 168 X80 hx (H at_166) rfl rfl ?_
                                refine gCallSJ X80 hx hZ (y := mn4) hown e80 (by rw [hml]; rfl) (ow hw 136 rfl) (ow hw 137 rfl) (ow hw 3 rfl) (ow hw 138 rfl) (by decide) (argsL := [(.int (1 : Int32)), (.int ch0), (.int ch1), (.int ch2), (.int ch3)]) (st := [(.int ch1)]) (c_pick_1 l Z a0 hw ch0 ch1 ch2 ch3 _ hch0 hch1 hch2 hch3) (lenOf pd_8 rfl) (H at_168) (pc' := 171) rfl rfl rfl rfl (by decide) (W := 1) (Nat.le_of_eq rfl) (by decide) (by decide) (by decide) ?_
                                intro T81 X81 e81
                                refine gIcmpEq X81 hx (H at_171) (pc' := 177) (by decide) (by decide) (pn := 174) rfl (fun (c171 : ch1 = ch1) => ?_) (fun (c171 : ¬ ch1 = ch1) => ?_)
                                · refine gLoadI 179 X81 hx (H at_177) rfl rfl ?_
                                  refine gIconst 180 X81 hx (v := (1 : Int32)) (H at_179) rfl rfl ?_
                                  refine gIcmpLe X81 hx (H at_180) (pc' := 210) (by decide) (by decide) (pn := 183) rfl (fun (c180 : (3 : Int) ≤ (1 : Int)) => ?_) (fun (c180 : (1 : Int) < (3 : Int)) => ?_)
                                  · exact absurd c180 (by decide)
                                  · refine gLoadA 185 X81 hx (H at_183) rfl rfl rfl ?_
                                    refine gIconst 186 X81 hx (v := (1 : Int32)) (H at_185) rfl rfl ?_
                                    refine gCallVJ X81 hx hZ (y := mn10) hown e81 (by rw [hml]; rfl) Eq78 (ow hw 122 rfl) (ow hw 123 rfl) (ow hw 125 rfl) (ow hw 124 rfl) (ow hw 10 rfl) (ow hw 126 rfl) (by decide) (argsL := [(.int (1 : Int32))]) (st := []) (c_charAt_1_3 l Z a0 hw r78 t78 ct78 ch1 ch2 ch3 T78.heap f78_1 f78_0 Eq78 Cq78 Vq78 Aq78 hch1 hch2 hch3) (lenOf pd_4 rfl) (H at_186) (pc' := 189) rfl rfl rfl rfl (by decide) (W := 0) (Nat.le_of_eq rfl) (by decide) (by decide) (by decide) ?_
                                    intro T82 X82 e82
                                    refine gLoadI 191 X82 hx (H at_189) rfl rfl ?_
                                    refine gIconst 192 X82 hx (v := (2 : Int32)) (H at_191) rfl rfl ?_
                                    refine gIadd 193 X82 hx (H at_192) rfl ?_
                                    show Goes p e below _ T82 (mkF m 193 #[.val (.int p0), .val (.int p1), .val (.int p2), .val (.int p3), .val (.int p4), .val (.int (4 : Int32)), .val (.int ch0), .val (.int ch1), .val (.int ch2), .val (.int ch3), .val (.ref r65), .val (.ref r78), .val (.int (0 : Int32)), .val (.int (3 : Int32)), .val (.int (1 : Int32))] [(.int (2 : Int32)), (.int ch2)])
                                    refine gLoadI 195 X82 hx (H at_193) rfl rfl ?_
                                    refine gLoadI 197 X82 hx (H at_195) rfl rfl ?_
                                    refine gLoadI 199 X82 hx (H at_197) rfl rfl ?_
                                    refine gLoadI 201 X82 hx (H at_199) rfl rfl ?_
                                    refine gCallSJ X82 hx hZ (y := mn4) hown e82 (by rw [hml]; rfl) (ow hw 136 rfl) (ow hw 137 rfl) (ow hw 3 rfl) (ow hw 138 rfl) (by decide) (argsL := [(.int (2 : Int32)), (.int ch0), (.int ch1), (.int ch2), (.int ch3)]) (st := [(.int ch2)]) (c_pick_2 l Z a0 hw ch0 ch1 ch2 ch3 _ hch0 hch1 hch2 hch3) (lenOf pd_8 rfl) (H at_201) (pc' := 204) rfl rfl rfl rfl (by decide) (W := 1) (Nat.le_of_eq rfl) (by decide) (by decide) (by decide) ?_
                                    intro T83 X83 e83
                                    refine gIcmpEq X83 hx (H at_204) (pc' := 210) (by decide) (by decide) (pn := 207) rfl (fun (c204 : ch2 = ch2) => ?_) (fun (c204 : ¬ ch2 = ch2) => ?_)
                                    · refine gLoadI 212 X83 hx (H at_210) rfl rfl ?_
                                      refine gIconst 213 X83 hx (v := (2 : Int32)) (H at_212) rfl rfl ?_
                                      refine gIcmpLe X83 hx (H at_213) (pc' := 243) (by decide) (by decide) (pn := 216) rfl (fun (c213 : (3 : Int) ≤ (2 : Int)) => ?_) (fun (c213 : (2 : Int) < (3 : Int)) => ?_)
                                      · exact absurd c213 (by decide)
                                      · refine gLoadA 218 X83 hx (H at_216) rfl rfl rfl ?_
                                        refine gIconst 219 X83 hx (v := (2 : Int32)) (H at_218) rfl rfl ?_
                                        refine gCallVJ X83 hx hZ (y := mn10) hown e83 (by rw [hml]; rfl) Eq78 (ow hw 122 rfl) (ow hw 123 rfl) (ow hw 125 rfl) (ow hw 124 rfl) (ow hw 10 rfl) (ow hw 126 rfl) (by decide) (argsL := [(.int (2 : Int32))]) (st := []) (c_charAt_2_3 l Z a0 hw r78 t78 ct78 ch1 ch2 ch3 T78.heap f78_1 f78_0 Eq78 Cq78 Vq78 Aq78 hch1 hch2 hch3) (lenOf pd_4 rfl) (H at_219) (pc' := 222) rfl rfl rfl rfl (by decide) (W := 0) (Nat.le_of_eq rfl) (by decide) (by decide) (by decide) ?_
                                        intro T84 X84 e84
                                        refine gLoadI 224 X84 hx (H at_222) rfl rfl ?_
                                        refine gIconst 225 X84 hx (v := (3 : Int32)) (H at_224) rfl rfl ?_
                                        refine gIadd 226 X84 hx (H at_225) rfl ?_
                                        show Goes p e below _ T84 (mkF m 226 #[.val (.int p0), .val (.int p1), .val (.int p2), .val (.int p3), .val (.int p4), .val (.int (4 : Int32)), .val (.int ch0), .val (.int ch1), .val (.int ch2), .val (.int ch3), .val (.ref r65), .val (.ref r78), .val (.int (0 : Int32)), .val (.int (3 : Int32)), .val (.int (1 : Int32))] [(.int (3 : Int32)), (.int ch3)])
                                        refine gLoadI 228 X84 hx (H at_226) rfl rfl ?_
                                        refine gLoadI 230 X84 hx (H at_228) rfl rfl ?_
                                        refine gLoadI 232 X84 hx (H at_230) rfl rfl ?_
                                        refine gLoadI 234 X84 hx (H at_232) rfl rfl ?_
                                        refine gCallSJ X84 hx hZ (y := mn4) hown e84 (by rw [hml]; rfl) (ow hw 136 rfl) (ow hw 137 rfl) (ow hw 3 rfl) (ow hw 138 rfl) (by decide) (argsL := [(.int (3 : Int32)), (.int ch0), (.int ch1), (.int ch2), (.int ch3)]) (st := [(.int ch3)]) (c_pick_3 l Z a0 hw ch0 ch1 ch2 ch3 _ hch0 hch1 hch2 hch3) (lenOf pd_8 rfl) (H at_234) (pc' := 237) rfl rfl rfl rfl (by decide) (W := 1) (Nat.le_of_eq rfl) (by decide) (by decide) (by decide) ?_
                                        intro T85 X85 e85
                                        refine gIcmpEq X85 hx (H at_237) (pc' := 243) (by decide) (by decide) (pn := 240) rfl (fun (c237 : ch3 = ch3) => ?_) (fun (c237 : ¬ ch3 = ch3) => ?_)
                                        · refine gLoadI 245 X85 hx (H at_243) rfl rfl ?_
                                          refine gIconst 246 X85 hx (v := (3 : Int32)) (H at_245) rfl rfl ?_
                                          refine gIcmpLe X85 hx (H at_246) (pc' := 276) (by decide) (by decide) (pn := 249) rfl (fun (c246 : (3 : Int) ≤ (3 : Int)) => ?_) (fun (c246 : (3 : Int) < (3 : Int)) => ?_)
                                          · refine gLoadI 278 X85 hx (H at_276) rfl rfl ?_
                                            exact gRetHN X85 hx hlk hret (by simp) (H at_278) (w := (1 : Int32)) rfl e85 hS hk78 hZ hEL H78 (by decide) (by decide) (⟨rfl, N78⟩)
                                          · exact absurd c246 (by decide)
                                        · exact absurd rfl c237
                                    · exact absurd rfl c204
                                · exact absurd rfl c171
                            · exact absurd c137 (by decide)
                          · exact absurd c115 d3
                      · exact absurd c99 d2
                  · exact absurd c83 d1
          · refine gLoadA 50 X65 hx (H at_48) rfl rfl rfl ?_
            refine gCallSJ X65 hx hZ (y := mn0) hown rfl (by rw [hml]; rfl) (ow hw 30 rfl) (ow hw 31 rfl) (ow hw 32 rfl) (ow hw 33 rfl) (by decide) (argsL := [(.ref r65)]) (st := []) (c_nm_4_m l Z a0 hw r65 t65 ct65 ch0 ch1 ch2 ch3 T65.heap f65_1 f65_0 Eq65 Cq65 Vq65 Aq65 hch0 hch1 hch2 hch3 d0 d1 d2 d3) (lenOf pd_17 rfl) (H at_50) (pc' := 53) rfl rfl rfl rfl (by decide) (W := 0) (Nat.le_of_eq rfl) (by decide) (by decide) (by decide) ?_
            intro T86 X86 e86
            refine gStoreA 55 X86 hx (H at_53) (l' := #[.val (.int p0), .val (.int p1), .val (.int p2), .val (.int p3), .val (.int p4), .val (.int (4 : Int32)), .val (.int ch0), .val (.int ch1), .val (.int ch2), .val (.int ch3), .val (.ref r65), .val (.ref r65), .unset, .unset, .unset]) rfl rfl rfl ?_
            refine gIconst 56 X86 hx (v := (-1 : Int32)) (H at_55) rfl rfl ?_
            refine gStoreI 58 X86 hx (H at_56) (l' := #[.val (.int p0), .val (.int p1), .val (.int p2), .val (.int p3), .val (.int p4), .val (.int (4 : Int32)), .val (.int ch0), .val (.int ch1), .val (.int ch2), .val (.int ch3), .val (.ref r65), .val (.ref r65), .val (.int (-1 : Int32)), .unset, .unset]) rfl rfl ?_
            refine gLoadI 60 X86 hx (H at_58) rfl rfl ?_
            refine gIfLe X86 hx (H at_60) (pc' := 73) (by decide) (by decide) (pn := 63) rfl (fun (c60 : (4 : Int) ≤ (0 : Int)) => ?_) (fun (c60 : (0 : Int) < (4 : Int)) => ?_)
            · exact absurd c60 (by decide)
            · refine gLoadI 65 X86 hx (H at_63) rfl rfl ?_
              refine gBipush 67 X86 hx (v := (47 : Int32)) (H at_65) rfl rfl ?_
              refine gIcmpNeT X86 hx (H at_67) (pc' := 73) (by decide) (by decide) (pn := 70) rfl (fun (c67 : ¬ ch0.toInt = (47 : Int)) => ?_) (fun (c67 : ch0.toInt = (47 : Int)) => ?_)
              · refine gLoadI 75 X86 hx (H at_73) rfl rfl ?_
                refine gIconst 76 X86 hx (v := (1 : Int32)) (H at_75) rfl rfl ?_
                refine gIcmpLe X86 hx (H at_76) (pc' := 89) (by decide) (by decide) (pn := 79) rfl (fun (c76 : (4 : Int) ≤ (1 : Int)) => ?_) (fun (c76 : (1 : Int) < (4 : Int)) => ?_)
                · exact absurd c76 (by decide)
                · refine gLoadI 81 X86 hx (H at_79) rfl rfl ?_
                  refine gBipush 83 X86 hx (v := (47 : Int32)) (H at_81) rfl rfl ?_
                  refine gIcmpNeT X86 hx (H at_83) (pc' := 89) (by decide) (by decide) (pn := 86) rfl (fun (c83 : ¬ ch1.toInt = (47 : Int)) => ?_) (fun (c83 : ch1.toInt = (47 : Int)) => ?_)
                  · refine gLoadI 91 X86 hx (H at_89) rfl rfl ?_
                    refine gIconst 92 X86 hx (v := (2 : Int32)) (H at_91) rfl rfl ?_
                    refine gIcmpLe X86 hx (H at_92) (pc' := 105) (by decide) (by decide) (pn := 95) rfl (fun (c92 : (4 : Int) ≤ (2 : Int)) => ?_) (fun (c92 : (2 : Int) < (4 : Int)) => ?_)
                    · exact absurd c92 (by decide)
                    · refine gLoadI 97 X86 hx (H at_95) rfl rfl ?_
                      refine gBipush 99 X86 hx (v := (47 : Int32)) (H at_97) rfl rfl ?_
                      refine gIcmpNeT X86 hx (H at_99) (pc' := 105) (by decide) (by decide) (pn := 102) rfl (fun (c99 : ¬ ch2.toInt = (47 : Int)) => ?_) (fun (c99 : ch2.toInt = (47 : Int)) => ?_)
                      · refine gLoadI 107 X86 hx (H at_105) rfl rfl ?_
                        refine gIconst 108 X86 hx (v := (3 : Int32)) (H at_107) rfl rfl ?_
                        refine gIcmpLe X86 hx (H at_108) (pc' := 121) (by decide) (by decide) (pn := 111) rfl (fun (c108 : (4 : Int) ≤ (3 : Int)) => ?_) (fun (c108 : (3 : Int) < (4 : Int)) => ?_)
                        · exact absurd c108 (by decide)
                        · refine gLoadI 113 X86 hx (H at_111) rfl rfl ?_
                          refine gBipush 115 X86 hx (v := (47 : Int32)) (H at_113) rfl rfl ?_
                          refine gIcmpNeT X86 hx (H at_115) (pc' := 121) (by decide) (by decide) (pn := 118) rfl (fun (c115 : ¬ ch3.toInt = (47 : Int)) => ?_) (fun (c115 : ch3.toInt = (47 : Int)) => ?_)
                          · refine gLoadI 123 X86 hx (H at_121) rfl rfl ?_
                            refine gLoadI 125 X86 hx (H at_123) rfl rfl ?_
                            refine gIsub 126 X86 hx (H at_125) rfl ?_
                            show Goes p e below _ T86 (mkF m 126 #[.val (.int p0), .val (.int p1), .val (.int p2), .val (.int p3), .val (.int p4), .val (.int (4 : Int32)), .val (.int ch0), .val (.int ch1), .val (.int ch2), .val (.int ch3), .val (.ref r65), .val (.ref r65), .val (.int (-1 : Int32)), .unset, .unset] [(.int (5 : Int32))])
                            refine gIconst 127 X86 hx (v := (1 : Int32)) (H at_126) rfl rfl ?_
                            refine gIsub 128 X86 hx (H at_127) rfl ?_
                            show Goes p e below _ T86 (mkF m 128 #[.val (.int p0), .val (.int p1), .val (.int p2), .val (.int p3), .val (.int p4), .val (.int (4 : Int32)), .val (.int ch0), .val (.int ch1), .val (.int ch2), .val (.int ch3), .val (.ref r65), .val (.ref r65), .val (.int (-1 : Int32)), .unset, .unset] [(.int (4 : Int32))])
                            refine gStoreI 130 X86 hx (H at_128) (l' := #[.val (.int p0), .val (.int p1), .val (.int p2), .val (.int p3), .val (.int p4), .val (.int (4 : Int32)), .val (.int ch0), .val (.int ch1), .val (.int ch2), .val (.int ch3), .val (.ref r65), .val (.ref r65), .val (.int (-1 : Int32)), .val (.int (4 : Int32)), .unset]) rfl rfl ?_
                            refine gLoadA 132 X86 hx (H at_130) rfl rfl rfl ?_
                            refine gCallVJ X86 hx hZ (y := mn17) hown e86 (by rw [hml]; rfl) Eq65 (ow hw 89 rfl) (ow hw 40 rfl) (ow hw 42 rfl) (ow hw 41 rfl) (ow hw 10 rfl) (ow hw 43 rfl) (by decide) (argsL := []) (st := []) (c_length_4 l Z a0 hw r65 t65 ct65 ch0 ch1 ch2 ch3 T65.heap f65_0 Eq65 Cq65 Vq65 Aq65 hch0 hch1 hch2 hch3) (lenOf pd_1 rfl) (H at_132) (pc' := 135) rfl rfl rfl rfl (by decide) (W := 0) (Nat.le_of_eq rfl) (by decide) (by decide) (by decide) ?_
                            intro T87 X87 e87
                            refine gLoadI 137 X87 hx (H at_135) rfl rfl ?_
                            refine gIcmpEqT X87 hx (H at_137) (pc' := 142) (by decide) (by decide) (pn := 140) rfl (fun (c137 : (4 : Int) = (4 : Int)) => ?_) (fun (c137 : ¬ (4 : Int) = (4 : Int)) => ?_)
                            · refine gIconst 143 X87 hx (v := (1 : Int32)) (H at_142) rfl rfl ?_
                              refine gStoreI 145 X87 hx (H at_143) (l' := #[.val (.int p0), .val (.int p1), .val (.int p2), .val (.int p3), .val (.int p4), .val (.int (4 : Int32)), .val (.int ch0), .val (.int ch1), .val (.int ch2), .val (.int ch3), .val (.ref r65), .val (.ref r65), .val (.int (-1 : Int32)), .val (.int (4 : Int32)), .val (.int (1 : Int32))]) rfl rfl ?_
                              refine gLoadI 147 X87 hx (H at_145) rfl rfl ?_
                              refine gIfLe X87 hx (H at_147) (pc' := 177) (by decide) (by decide) (pn := 150) rfl (fun (c147 : (4 : Int) ≤ (0 : Int)) => ?_) (fun (c147 : (0 : Int) < (4 : Int)) => ?_)
                              · exact absurd c147 (by decide)
                              · refine gLoadA 152 X87 hx (H at_150) rfl rfl rfl ?_
                                refine gIconst 153 X87 hx (v := (0 : Int32)) (H at_152) rfl rfl ?_
                                refine gCallVJ X87 hx hZ (y := mn10) hown e87 (by rw [hml]; rfl) Eq65 (ow hw 122 rfl) (ow hw 123 rfl) (ow hw 125 rfl) (ow hw 124 rfl) (ow hw 10 rfl) (ow hw 126 rfl) (by decide) (argsL := [(.int (0 : Int32))]) (st := []) (c_charAt_0_4 l Z a0 hw r65 t65 ct65 ch0 ch1 ch2 ch3 T65.heap f65_1 f65_0 Eq65 Cq65 Vq65 Aq65 hch0 hch1 hch2 hch3) (lenOf pd_4 rfl) (H at_153) (pc' := 156) rfl rfl rfl rfl (by decide) (W := 0) (Nat.le_of_eq rfl) (by decide) (by decide) (by decide) ?_
                                intro T88 X88 e88
                                refine gLoadI 158 X88 hx (H at_156) rfl rfl ?_
                                refine gIconst 159 X88 hx (v := (1 : Int32)) (H at_158) rfl rfl ?_
                                refine gIadd 160 X88 hx (H at_159) rfl ?_
                                show Goes p e below _ T88 (mkF m 160 #[.val (.int p0), .val (.int p1), .val (.int p2), .val (.int p3), .val (.int p4), .val (.int (4 : Int32)), .val (.int ch0), .val (.int ch1), .val (.int ch2), .val (.int ch3), .val (.ref r65), .val (.ref r65), .val (.int (-1 : Int32)), .val (.int (4 : Int32)), .val (.int (1 : Int32))] [(.int (0 : Int32)), (.int ch0)])
                                refine gLoadI 162 X88 hx (H at_160) rfl rfl ?_
                                refine gLoadI 164 X88 hx (H at_162) rfl rfl ?_
                                refine gLoadI 166 X88 hx (H at_164) rfl rfl ?_
                                refine gLoadI 168 X88 hx (H at_166) rfl rfl ?_
                                refine gCallSJ X88 hx hZ (y := mn4) hown e88 (by rw [hml]; rfl) (ow hw 136 rfl) (ow hw 137 rfl) (ow hw 3 rfl) (ow hw 138 rfl) (by decide) (argsL := [(.int (0 : Int32)), (.int ch0), (.int ch1), (.int ch2), (.int ch3)]) (st := [(.int ch0)]) (c_pick_0 l Z a0 hw ch0 ch1 ch2 ch3 _ hch0 hch1 hch2 hch3) (lenOf pd_8 rfl) (H at_168) (pc' := 171) rfl rfl rfl rfl (by decide) (W := 1) (Nat.le_of_eq rfl) (by decide) (by decide) (by decide) ?_
                                intro T89 X89 e89
                                refine gIcmpEq X89 hx (H at_171) (pc' := 177) (by decide) (by decide) (pn := 174) rfl (fun (c171 : ch0 = ch0) => ?_) (fun (c171 : ¬ ch0 = ch0) => ?_)
                                · refine gLoadI 179 X89 hx (H at_177) rfl rfl ?_
                                  refine gIconst 180 X89 hx (v := (1 : Int32)) (H at_179) rfl rfl ?_
                                  refine gIcmpLe X89 hx (H at_180) (pc' := 210) (by decide) (by decide) (pn := 183) rfl (fun (c180 : (4 : Int) ≤ (1 : Int)) => ?_) (fun (c180 : (1 : Int) < (4 : Int)) => ?_)
                                  · exact absurd c180 (by decide)
                                  · refine gLoadA 185 X89 hx (H at_183) rfl rfl rfl ?_
                                    refine gIconst 186 X89 hx (v := (1 : Int32)) (H at_185) rfl rfl ?_
                                    refine gCallVJ X89 hx hZ (y := mn10) hown e89 (by rw [hml]; rfl) Eq65 (ow hw 122 rfl) (ow hw 123 rfl) (ow hw 125 rfl) (ow hw 124 rfl) (ow hw 10 rfl) (ow hw 126 rfl) (by decide) (argsL := [(.int (1 : Int32))]) (st := []) (c_charAt_1_4 l Z a0 hw r65 t65 ct65 ch0 ch1 ch2 ch3 T65.heap f65_1 f65_0 Eq65 Cq65 Vq65 Aq65 hch0 hch1 hch2 hch3) (lenOf pd_4 rfl) (H at_186) (pc' := 189) rfl rfl rfl rfl (by decide) (W := 0) (Nat.le_of_eq rfl) (by decide) (by decide) (by decide) ?_
                                    intro T90 X90 e90
                                    refine gLoadI 191 X90 hx (H at_189) rfl rfl ?_
                                    refine gIconst 192 X90 hx (v := (2 : Int32)) (H at_191) rfl rfl ?_
                                    refine gIadd 193 X90 hx (H at_192) rfl ?_
                                    show Goes p e below _ T90 (mkF m 193 #[.val (.int p0), .val (.int p1), .val (.int p2), .val (.int p3), .val (.int p4), .val (.int (4 : Int32)), .val (.int ch0), .val (.int ch1), .val (.int ch2), .val (.int ch3), .val (.ref r65), .val (.ref r65), .val (.int (-1 : Int32)), .val (.int (4 : Int32)), .val (.int (1 : Int32))] [(.int (1 : Int32)), (.int ch1)])
                                    refine gLoadI 195 X90 hx (H at_193) rfl rfl ?_
                                    refine gLoadI 197 X90 hx (H at_195) rfl rfl ?_
                                    refine gLoadI 199 X90 hx (H at_197) rfl rfl ?_
                                    refine gLoadI 201 X90 hx (H at_199) rfl rfl ?_
                                    refine gCallSJ X90 hx hZ (y := mn4) hown e90 (by rw [hml]; rfl) (ow hw 136 rfl) (ow hw 137 rfl) (ow hw 3 rfl) (ow hw 138 rfl) (by decide) (argsL := [(.int (1 : Int32)), (.int ch0), (.int ch1), (.int ch2), (.int ch3)]) (st := [(.int ch1)]) (c_pick_1 l Z a0 hw ch0 ch1 ch2 ch3 _ hch0 hch1 hch2 hch3) (lenOf pd_8 rfl) (H at_201) (pc' := 204) rfl rfl rfl rfl (by decide) (W := 1) (Nat.le_of_eq rfl) (by decide) (by decide) (by decide) ?_
                                    intro T91 X91 e91
                                    refine gIcmpEq X91 hx (H at_204) (pc' := 210) (by decide) (by decide) (pn := 207) rfl (fun (c204 : ch1 = ch1) => ?_) (fun (c204 : ¬ ch1 = ch1) => ?_)
                                    · refine gLoadI 212 X91 hx (H at_210) rfl rfl ?_
                                      refine gIconst 213 X91 hx (v := (2 : Int32)) (H at_212) rfl rfl ?_
                                      refine gIcmpLe X91 hx (H at_213) (pc' := 243) (by decide) (by decide) (pn := 216) rfl (fun (c213 : (4 : Int) ≤ (2 : Int)) => ?_) (fun (c213 : (2 : Int) < (4 : Int)) => ?_)
                                      · exact absurd c213 (by decide)
                                      · refine gLoadA 218 X91 hx (H at_216) rfl rfl rfl ?_
                                        refine gIconst 219 X91 hx (v := (2 : Int32)) (H at_218) rfl rfl ?_
                                        refine gCallVJ X91 hx hZ (y := mn10) hown e91 (by rw [hml]; rfl) Eq65 (ow hw 122 rfl) (ow hw 123 rfl) (ow hw 125 rfl) (ow hw 124 rfl) (ow hw 10 rfl) (ow hw 126 rfl) (by decide) (argsL := [(.int (2 : Int32))]) (st := []) (c_charAt_2_4 l Z a0 hw r65 t65 ct65 ch0 ch1 ch2 ch3 T65.heap f65_1 f65_0 Eq65 Cq65 Vq65 Aq65 hch0 hch1 hch2 hch3) (lenOf pd_4 rfl) (H at_219) (pc' := 222) rfl rfl rfl rfl (by decide) (W := 0) (Nat.le_of_eq rfl) (by decide) (by decide) (by decide) ?_
                                        intro T92 X92 e92
                                        refine gLoadI 224 X92 hx (H at_222) rfl rfl ?_
                                        refine gIconst 225 X92 hx (v := (3 : Int32)) (H at_224) rfl rfl ?_
                                        refine gIadd 226 X92 hx (H at_225) rfl ?_
                                        show Goes p e below _ T92 (mkF m 226 #[.val (.int p0), .val (.int p1), .val (.int p2), .val (.int p3), .val (.int p4), .val (.int (4 : Int32)), .val (.int ch0), .val (.int ch1), .val (.int ch2), .val (.int ch3), .val (.ref r65), .val (.ref r65), .val (.int (-1 : Int32)), .val (.int (4 : Int32)), .val (.int (1 : Int32))] [(.int (2 : Int32)), (.int ch2)])
                                        refine gLoadI 228 X92 hx (H at_226) rfl rfl ?_
                                        refine gLoadI 230 X92 hx (H at_228) rfl rfl ?_
                                        refine gLoadI 232 X92 hx (H at_230) rfl rfl ?_
                                        refine gLoadI 234 X92 hx (H at_232) rfl rfl ?_
                                        refine gCallSJ X92 hx hZ (y := mn4) hown e92 (by rw [hml]; rfl) (ow hw 136 rfl) (ow hw 137 rfl) (ow hw 3 rfl) (ow hw 138 rfl) (by decide) (argsL := [(.int (2 : Int32)), (.int ch0), (.int ch1), (.int ch2), (.int ch3)]) (st := [(.int ch2)]) (c_pick_2 l Z a0 hw ch0 ch1 ch2 ch3 _ hch0 hch1 hch2 hch3) (lenOf pd_8 rfl) (H at_234) (pc' := 237) rfl rfl rfl rfl (by decide) (W := 1) (Nat.le_of_eq rfl) (by decide) (by decide) (by decide) ?_
                                        intro T93 X93 e93
                                        refine gIcmpEq X93 hx (H at_237) (pc' := 243) (by decide) (by decide) (pn := 240) rfl (fun (c237 : ch2 = ch2) => ?_) (fun (c237 : ¬ ch2 = ch2) => ?_)
                                        · refine gLoadI 245 X93 hx (H at_243) rfl rfl ?_
                                          refine gIconst 246 X93 hx (v := (3 : Int32)) (H at_245) rfl rfl ?_
                                          refine gIcmpLe X93 hx (H at_246) (pc' := 276) (by decide) (by decide) (pn := 249) rfl (fun (c246 : (4 : Int) ≤ (3 : Int)) => ?_) (fun (c246 : (3 : Int) < (4 : Int)) => ?_)
                                          · exact absurd c246 (by decide)
                                          · refine gLoadA 251 X93 hx (H at_249) rfl rfl rfl ?_
                                            refine gIconst 252 X93 hx (v := (3 : Int32)) (H at_251) rfl rfl ?_
                                            refine gCallVJ X93 hx hZ (y := mn10) hown e93 (by rw [hml]; rfl) Eq65 (ow hw 122 rfl) (ow hw 123 rfl) (ow hw 125 rfl) (ow hw 124 rfl) (ow hw 10 rfl) (ow hw 126 rfl) (by decide) (argsL := [(.int (3 : Int32))]) (st := []) (c_charAt_3_4 l Z a0 hw r65 t65 ct65 ch0 ch1 ch2 ch3 T65.heap f65_1 f65_0 Eq65 Cq65 Vq65 Aq65 hch0 hch1 hch2 hch3) (lenOf pd_4 rfl) (H at_252) (pc' := 255) rfl rfl rfl rfl (by decide) (W := 0) (Nat.le_of_eq rfl) (by decide) (by decide) (by decide) ?_
                                            intro T94 X94 e94
                                            refine gLoadI 257 X94 hx (H at_255) rfl rfl ?_
                                            refine gIconst 258 X94 hx (v := (4 : Int32)) (H at_257) rfl rfl ?_
                                            refine gIadd 259 X94 hx (H at_258) rfl ?_
                                            show Goes p e below _ T94 (mkF m 259 #[.val (.int p0), .val (.int p1), .val (.int p2), .val (.int p3), .val (.int p4), .val (.int (4 : Int32)), .val (.int ch0), .val (.int ch1), .val (.int ch2), .val (.int ch3), .val (.ref r65), .val (.ref r65), .val (.int (-1 : Int32)), .val (.int (4 : Int32)), .val (.int (1 : Int32))] [(.int (3 : Int32)), (.int ch3)])
                                            refine gLoadI 261 X94 hx (H at_259) rfl rfl ?_
                                            refine gLoadI 263 X94 hx (H at_261) rfl rfl ?_
                                            refine gLoadI 265 X94 hx (H at_263) rfl rfl ?_
                                            refine gLoadI 267 X94 hx (H at_265) rfl rfl ?_
                                            refine gCallSJ X94 hx hZ (y := mn4) hown e94 (by rw [hml]; rfl) (ow hw 136 rfl) (ow hw 137 rfl) (ow hw 3 rfl) (ow hw 138 rfl) (by decide) (argsL := [(.int (3 : Int32)), (.int ch0), (.int ch1), (.int ch2), (.int ch3)]) (st := [(.int ch3)]) (c_pick_3 l Z a0 hw ch0 ch1 ch2 ch3 _ hch0 hch1 hch2 hch3) (lenOf pd_8 rfl) (H at_267) (pc' := 270) rfl rfl rfl rfl (by decide) (W := 1) (Nat.le_of_eq rfl) (by decide) (by decide) (by decide) ?_
                                            intro T95 X95 e95
                                            refine gIcmpEq X95 hx (H at_270) (pc' := 276) (by decide) (by decide) (pn := 273) rfl (fun (c270 : ch3 = ch3) => ?_) (fun (c270 : ¬ ch3 = ch3) => ?_)
                                            · refine gLoadI 278 X95 hx (H at_276) rfl rfl ?_
                                              exact gRetHN X95 hx hlk hret (by simp) (H at_278) (w := (1 : Int32)) rfl e95 hS hk65 hZ hEL H65 (by decide) (by decide) (⟨rfl, N65⟩)
                                            · exact absurd rfl c270
                                        · exact absurd rfl c237
                                    · exact absurd rfl c204
                                · exact absurd rfl c171
                            · exact absurd c137 (by decide)
                          · exact absurd c115 d3
                      · exact absurd c99 d2
                  · exact absurd c83 d1
              · exact absurd c67 d0
theorem eq_v0 {args : Array Value} {s : State} {t : Term} {z k : Int32} (h : t.eval args s none [] s = some (.int z)) : (Jvm.Cond.eq t (.int k)).value args s none s [] = some (decide (z = k)) := by
  simp [Cond.value, h, Term.eval]

theorem comes_1 {Post : Tables → Env → Array Value → State → Outcome → State → Prop} (hpost : ∀ tb e args s v u, (limb_1_1.after args s (.returned v) u = true ∧ limb_1_2.after args s (.returned v) u = true ∧ True) → ReturnedEndW s (.returned v) u (Jvm.fieldLocs frame_1_writes args s ++ Jvm.arrayLocs frame_1_arrays args s ++ Jvm.staticLocs frame_1_statics s) 24 2176 → Post tb e args s (.returned v) u) :
    ArmFor flags0 classFile x code maxLocals ret World_1 tables_1 room_1 Calls_1 rest_1 Pre_1 Post := by
  intro l hfl _ _ p e ha hc hk s m args below hf hA hF happ hP
  obtain ⟨hcalls, hrest, hpre⟩ := hP
  obtain ⟨-, -, -, hnamed, -, -, -, hat⟩ := (Spec.applies_iff hf).mp happ
  obtain ⟨hg, hn⟩ := and_e (Cond.before_iff.mp (show (Jvm.Cond.and given_1 narrow_1).before args s = true from hpre))
  obtain ⟨hcount, hv⟩ := and_e hg
  obtain ⟨ha0, hv0⟩ := and_e hv
  obtain ⟨ha1, hv1⟩ := and_e hv0
  obtain ⟨ha2, hv2⟩ := and_e hv1
  obtain ⟨ha3, hv3⟩ := and_e hv2
  obtain ⟨w0, w1, w2, w3, w4, rfl⟩ : ∃ w0 w1 w2 w3 w4 : Value, args = #[w0, w1, w2, w3, w4] := by
    have hs : args.size = 5 := by simpa [Cond.value, given_1] using hcount
    obtain ⟨L⟩ := args
    match L, hs with
    | [w0, w1, w2, w3, w4], _ => exact ⟨w0, w1, w2, w3, w4, rfl⟩
  have hw := fun d (hd : d ∈ tables_1) => atoms_spec (ws := Jvm.Cond.code x code maxLocals ret :: tables_1) hat d (List.mem_cons_of_mem _ hd)
  have hfit : Fit s := fun {y c} hc i hi => by
    obtain ⟨ha, rfl⟩ := Array.getElem?_eq_some_iff.mp hc
    have q := List.all_eq_true.mp ((Array.all_eq_true_iff_forall_mem.mp hF) _ (Array.getElem_mem ha)) i (List.mem_range.mpr hi)
    simpa [Array.getElem?_eq_getElem hi] using q
  obtain ⟨i0, ei0⟩ := is_v ha0
  obtain rfl : w0 = (.int i0) := Option.some.inj ei0
  obtain ⟨i1, ei1⟩ := is_v ha1
  obtain rfl : w1 = (.int i1) := Option.some.inj ei1
  obtain ⟨i2, ei2⟩ := is_v ha2
  obtain rfl : w2 = (.int i2) := Option.some.inj ei2
  obtain ⟨i3, ei3⟩ := is_v ha3
  obtain rfl : w3 = (.int i3) := Option.some.inj ei3
  obtain ⟨i4, ei4⟩ := is_v hv3
  obtain rfl : w4 = (.int i4) := Option.some.inj ei4
  obtain ⟨hsets, hown0⟩ := atoms_of _ (rest_1_c_eq ▸ (show rest_1_c.before _ s = true from hrest))
  obtain ⟨cz, ecz⟩ := is_v (Cond.before_iff.mp (hsets _ (List.mem_of_getElem? (i := 1) rfl)))
  have SC := Sta.start ecz (Or.inl (hsets _ (List.mem_of_getElem? (i := 0) rfl)))
  have hnz := gotF (eq_v0 ecz (k := 0)) (not_v (Cond.before_iff.mp (hsets _ (List.mem_of_getElem? (i := 2) rfl))))
  have hCpt : Cpt s s.heap := ⟨cz, SC, fun q => hnz (Int32.toInt_inj.mp q)⟩
  obtain ⟨sf, esf, hsf⟩ := isR_v (Cond.before_iff.mp (hsets _ (List.mem_of_getElem? (i := 8) rfl)))
  have hSio : Sio s s.heap := ⟨sf, Sta.start esf (Or.inl (hsets _ (List.mem_of_getElem? (i := 7) rfl))), hsf⟩
  have hEL : EW s _ [("java/lang/String", 7), ("java/lang/StringLatin1", 151)] := (EW.cons (ow hw 22 rfl) (by decide) (EW.cons (ow hw 139 rfl) (by decide) EW.nil))
  have hcw : Jvm.Lit.compactW.before _ s = true := (hsets _ (List.mem_of_getElem? (i := 2) rfl))
  have hCH : CHv s [("java/lang/String", 7), ("java/lang/StringLatin1", 151)] s.vm s.heap := CHv.start hEL (fun p hp => hcalls.1 p hp) hcw (ow hw 23 rfl) (ow hw 9 rfl)
  obtain ⟨n, o, h1, h2, h3, _, L, rfl, ⟨rfl, N⟩, hCH, hq⟩ := c_law l s _ hw i0 i1 i2 i3 i4 s.heap hEL hCpt hSio p e ha hc hk s m _ below hf ((Spec.applies_iff_loose hf).mp happ).1 ⟨rfl, State.Warmed39.refl s, rfl, hCH, fun _ q => nomatch q⟩ trivial
  refine ⟨n, _, h1, h2, h3, hpost _ _ _ _ _ _ ⟨Cond.after_iff.mpr rfl, Cond.after_iff.mpr (eq_i res_at (Term.int_eval (1)) rfl), trivial⟩ ⟨hq.1, hq.2.1, hq.2.2.1, (hq.2.2.2.sift fun y hy => Or.inr (N y hy)).mono (by decide) (by decide)⟩⟩
theorem main_1_1 : Claimed_1_1 := comes_1 fun _ _ _ _ _ _ h hF => ⟨h.1, hF⟩
theorem main_1_2 : Claimed_1_2 := comes_1 fun _ _ _ _ _ _ h hF => ⟨h.2.1, hF⟩
end Jvm.Pilot.@@N@@
namespace Jvm.Pilot.@@N@@
open Jvm Jvm.ClassFile Sem Op Lib Jvm.Free Jvm.Stand Jvm.Pilot.@@N@@.Jvm.D
/-! MADE BY PROGRAM (witnessworld.py) out of the Statement's table words and the real class files: 24 classes; the members and pool entries that the words name. The judged class is class 1, her method 4. -/
namespace start1
open Jvm.ClassFile
def u (s : String) : CpInfo := .utf8 (stringToUtf16 s)
/-- a pool by its gaps: so many unusable entries, then the entry; so many at the end -/
def gap : Nat → List CpInfo → List CpInfo
  | 0, r => r
  | n + 1, r => .unusable :: gap n r
def poolList (es : List (Nat × CpInfo)) (last : Nat) : List CpInfo := es.foldr (fun e r => gap e.1 (e.2 :: r)) (gap last [])
def pool (es : List (Nat × CpInfo)) (last : Nat) : Array CpInfo := ⟨poolList es last⟩
def fileOf (pool : Array CpInfo) (this : Nat) (attrs : Array Attribute := #[]) (ms : Array MethodInfo := #[]) (fl : Nat := 33) (sup : Nat := 0) (ifs : Array Nat := #[]) (fds : Array FieldInfo := #[]) : ClassFile where
  minorVersion := 0
  majorVersion := 65
  constantPool := pool
  accessFlags := fl
  thisClass := this
  superClass := sup
  interfaces := ifs
  fields := fds
  methods := ms
  attributes := attrs
def plain (name : String) (sup : Option ClassId) : Class where
  name := name
  kind := .ordinary
  loader := none
  accessFlags := 33
  super := sup
  interfaces := #[]
  cf := none
  fields := #[]
  methods := #[]
  instanceTypes := #[]
  staticTypes := #[]
  resolved := #[]
  callSites := []
  init := .initialized
  statics := none
  mirror := none

def pool0 : Array CpInfo := pool [(5, u "<init>"), (0, u "()V"), (1, .class_ 10), (1, u "java/lang/Object")] 113

def k0c0 : Code := { maxStack := 0, maxLocals := 1, code := object_method_1_code, exceptionTable := #[], attributes := #[] }
def k0m0 : Method := { name := "<init>", desc := "()V", sig := { parameters := [], returnType := none }, accessFlags := 1, code := some k0c0 }
/-- java/lang/Object -/
def k0 : Class := { plain "java/lang/Object" none with
  accessFlags := 33
  interfaces := #[]
  cf := some (fileOf pool0 8 #[] #[{ accessFlags := 1, nameIndex := 5, descriptorIndex := 6, attributes := #[] }] 33 0 #[] #[])
  fields := #[]
  methods := #[k0m0]
  instanceTypes := #[]
  staticTypes := #[]
  resolved := Array.replicate 124 none
  statics := none }

def pool1 : Array CpInfo := pool [(2, .class_ 4), (1, u "java/lang/Object"), (0, u "<init>"), (0, u "()V"), (0, .class_ 8), (0, u "java/lang/String"), (0, .methodref 7 10), (0, .nameAndType 5 11), (0, u "([C)V"), (0, .integer 2147483647), (0, .methodref 14 15), (0, .class_ 16), (0, .nameAndType 17 18), (0, u "com/example/guildhall/guildhall/FqanNameOfPinLaw"), (0, u "ch"), (0, u "(I)C"), (0, .methodref 14 20), (0, .nameAndType 21 22), (0, u "make"), (0, u "(ICCCC)Ljava/lang/String;"), (0, .methodref 24 25), (0, .class_ 26), (0, .nameAndType 27 28), (0, u "com/example/guildhall/guildhall/Fqan"), (0, u "nameOf"), (0, u "(Ljava/lang/String;)Ljava/lang/String;"), (0, .methodref 7 30), (0, .nameAndType 31 32), (0, u "length"), (0, u "()I"), (0, .methodref 7 34), (0, .nameAndType 35 18), (0, u "charAt"), (0, .methodref 14 37), (0, .nameAndType 38 39), (0, u "pick"), (0, u "(ICCCC)C"), (3, u "law"), (0, u "(IIIII)Z")] 2

def k1m0 : Method := { name := "<init>", desc := "()V", sig := { parameters := [], returnType := none }, accessFlags := 1, code := none }
def k1c1 : Code := { maxStack := 2, maxLocals := 1, code := method_2_code, exceptionTable := #[], attributes := #[] }
def k1m1 : Method := { name := "ch", desc := "(I)C", sig := { parameters := [.int], returnType := some .char }, accessFlags := 10, code := some k1c1 }
def k1c2 : Code := { maxStack := 6, maxLocals := 5, code := method_3_code, exceptionTable := #[], attributes := #[] }
def k1m2 : Method := { name := "make", desc := "(ICCCC)Ljava/lang/String;", sig := { parameters := [.int, .char, .char, .char, .char], returnType := some (.object "java/lang/String") }, accessFlags := 10, code := some k1c2 }
def k1c3 : Code := { maxStack := 2, maxLocals := 5, code := method_4_code, exceptionTable := #[], attributes := #[] }
def k1m3 : Method := { name := "pick", desc := "(ICCCC)C", sig := { parameters := [.int, .char, .char, .char, .char], returnType := some .char }, accessFlags := 10, code := some k1c3 }
def k1c4 : Code := { maxStack := 6, maxLocals := 15, code := code, exceptionTable := #[], attributes := #[] }
def k1m4 : Method := { name := "law", desc := "(IIIII)Z", sig := { parameters := [.int, .int, .int, .int, .int], returnType := some .boolean }, accessFlags := 9, code := some k1c4 }
/-- com/example/guildhall/guildhall/FqanNameOfPinLaw -/
def k1 : Class := { plain "com/example/guildhall/guildhall/FqanNameOfPinLaw" (some 0) with
  accessFlags := 49
  interfaces := #[]
  cf := some (fileOf pool1 14 #[] #[{ accessFlags := 1, nameIndex := 5, descriptorIndex := 6, attributes := #[] }, { accessFlags := 10, nameIndex := 17, descriptorIndex := 18, attributes := #[] }, { accessFlags := 10, nameIndex := 21, descriptorIndex := 22, attributes := #[] }, { accessFlags := 10, nameIndex := 38, descriptorIndex := 39, attributes := #[] }, { accessFlags := 9, nameIndex := 43, descriptorIndex := 44, attributes := #[] }] 49 2 #[] #[])
  fields := #[]
  methods := #[k1m0, k1m1, k1m2, k1m3, k1m4]
  instanceTypes := #[]
  staticTypes := #[]
  resolved := Array.replicate 47 none
  statics := none }

def pool2 : Array CpInfo := pool [(1, .class_ 2), (0, u "java/io/Serializable"), (0, .class_ 4), (0, u "java/lang/Object")] 2

/-- java/io/Serializable -/
def k2 : Class := { plain "java/io/Serializable" (some 0) with
  accessFlags := 1537
  interfaces := #[]
  cf := some (fileOf pool2 1 #[] #[] 1537 3 #[] #[])
  fields := #[]
  methods := #[]
  instanceTypes := #[]
  staticTypes := #[]
  resolved := Array.replicate 7 none
  statics := none }

def pool3 : Array CpInfo := pool [(1, .class_ 2), (0, u "java/lang/Comparable"), (0, .class_ 4), (0, u "java/lang/Object")] 7

/-- java/lang/Comparable -/
def k3 : Class := { plain "java/lang/Comparable" (some 0) with
  accessFlags := 1537
  interfaces := #[]
  cf := some (fileOf pool3 1 #[] #[] 1537 3 #[] #[])
  fields := #[]
  methods := #[]
  instanceTypes := #[]
  staticTypes := #[]
  resolved := Array.replicate 12 none
  statics := none }

def pool4 : Array CpInfo := pool [(2, .class_ 4), (1, u "java/lang/CharSequence"), (42, .class_ 48), (0, u "java/lang/CharSequence$1CodePointIterator"), (10, .class_ 60), (0, u "java/lang/CharSequence$1CharIterator"), (5, .class_ 67), (0, u "java/lang/Object")] 63

/-- java/lang/CharSequence -/
def k4 : Class := { plain "java/lang/CharSequence" (some 0) with
  accessFlags := 1537
  interfaces := #[]
  cf := some (fileOf pool4 2 #[.nestMembers #[47, 59]] #[] 1537 66 #[] #[])
  fields := #[]
  methods := #[]
  instanceTypes := #[]
  staticTypes := #[]
  resolved := Array.replicate 131 none
  statics := none }

def pool5 : Array CpInfo := pool [(1, .class_ 2), (0, u "java/lang/constant/Constable"), (0, .class_ 4), (0, u "java/lang/Object")] 6

/-- java/lang/constant/Constable -/
def k5 : Class := { plain "java/lang/constant/Constable" (some 0) with
  accessFlags := 1537
  interfaces := #[]
  cf := some (fileOf pool5 1 #[] #[] 1537 3 #[] #[])
  fields := #[]
  methods := #[]
  instanceTypes := #[]
  staticTypes := #[]
  resolved := Array.replicate 11 none
  statics := none }

def pool6 : Array CpInfo := pool [(1, .class_ 2), (0, u "java/lang/constant/ConstantDesc"), (0, .class_ 4), (0, u "java/lang/Object")] 32

/-- java/lang/constant/ConstantDesc -/
def k6 : Class := { plain "java/lang/constant/ConstantDesc" (some 0) with
  accessFlags := 1537
  interfaces := #[]
  cf := some (fileOf pool6 1 #[] #[] 1537 3 #[] #[])
  fields := #[]
  methods := #[]
  instanceTypes := #[]
  staticTypes := #[]
  resolved := Array.replicate 37 none
  statics := none }

def pool7 : Array CpInfo := pool [(1, .methodref 2 3), (0, .class_ 4), (0, .nameAndType 5 6), (0, u "java/lang/Object"), (0, u "<init>"), (0, u "()V"), (0, .string 8), (0, u ""), (0, .fieldref 10 11), (0, .class_ 12), (0, .nameAndType 13 14), (0, u "java/lang/String"), (0, u "value"), (0, u "[B"), (0, .fieldref 10 16), (0, .nameAndType 17 18), (0, u "coder"), (0, u "B"), (2, u "hash"), (0, u "I"), (2, u "hashIsZero"), (0, u "Z"), (0, .methodref 10 28), (0, .nameAndType 5 29), (0, u "([CIILjava/lang/Void;)V"), (8, .fieldref 10 39), (0, .nameAndType 40 26), (0, u "COMPACT_STRINGS"), (1, .class_ 44), (1, u "java/lang/StringUTF16"), (0, u "compress"), (1, .methodref 42 48), (0, .nameAndType 49 50), (0, u "coderFromArrayLen"), (0, u "([BI)B"), (46, u "([BII)I"), (9, .class_ 109), (1, u "java/lang/StringLatin1"), (32, u "()Z"), (34, .methodref 42 178), (0, .nameAndType 45 179), (0, u "([CII)[B"), (31, u "([BB)V"), (122, u "()I"), (0, .methodref 10 336), (0, .nameAndType 17 337), (0, u "()B"), (25, u "([BI)C"), (27, u "(II)V"), (35, u "(I)C"), (64, .methodref 10 493), (0, .nameAndType 494 142), (0, u "isLatin1"), (0, .methodref 107 496), (0, .nameAndType 497 363), (0, u "charAt"), (3, u "checkIndex"), (3, .methodref 10 506), (0, .nameAndType 507 334), (0, u "length"), (5, u "checkFromToIndex"), (7, .methodref 10 522), (0, .nameAndType 523 524), (0, u "checkBoundsBeginEnd"), (0, u "(III)V"), (50, .class_ 576), (0, u "java/lang/CharSequence"), (22, u "CASE_INSENSITIVE_ORDER"), (0, u "Ljava/util/Comparator;"), (35, u "(II)I"), (4, .methodref 10 642), (0, .nameAndType 643 636), (0, u "lastIndexOf"), (0, .methodref 107 645), (0, .nameAndType 643 97), (35, .methodref 10 682), (0, .nameAndType 683 684), (0, u "substring"), (0, u "(II)Ljava/lang/String;"), (0, .methodref 107 686), (0, .nameAndType 687 688), (0, u "newString"), (0, u "([BII)Ljava/lang/String;"), (76, u "(I)I"), (126, u "(I)Ljava/lang/String;"), (117, u "([C)V"), (42, .fieldref 1054 1055), (0, .class_ 1056), (0, .nameAndType 1057 1058), (0, u "jdk/internal/util/Preconditions"), (0, u "SIOOBE_FORMATTER"), (0, u "Ljava/util/function/BiFunction;"), (0, .methodref 1054 1060), (0, .nameAndType 501 1061), (0, u "(IILjava/util/function/BiFunction;)I"), (0, .methodref 1054 1063), (0, .nameAndType 513 1064), (0, u "(IIILjava/util/function/BiFunction;)I"), (36, u "serialPersistentFields"), (0, u "[Ljava/io/ObjectStreamField;"), (0, .class_ 1104), (0, u "java/lang/String$CaseInsensitiveComparator"), (1, .class_ 1107), (0, u "java/io/Serializable"), (0, .class_ 1109), (0, u "java/lang/Comparable"), (0, .class_ 1111), (0, u "java/lang/constant/Constable"), (0, .class_ 1113), (0, u "java/lang/constant/ConstantDesc"), (2, u "serialVersionUID"), (0, u "J"), (3, u "REPL"), (0, u "C"), (2, u "LATIN1"), (1, u "UTF16")] 323

def k7m0 : Method := { name := "<init>", desc := "()V", sig := { parameters := [], returnType := none }, accessFlags := 1, code := none }
def k7c1 : Code := { maxStack := 5, maxLocals := 2, code := jdk_42_method_3_code, exceptionTable := #[], attributes := #[] }
def k7m1 : Method := { name := "<init>", desc := "([C)V", sig := { parameters := [(.array .char)], returnType := none }, accessFlags := 1, code := some k7c1 }
def k7c2 : Code := { maxStack := 2, maxLocals := 1, code := jdk_42_method_54_code, exceptionTable := #[], attributes := #[] }
def k7m2 : Method := { name := "length", desc := "()I", sig := { parameters := [], returnType := some .int }, accessFlags := 1, code := some k7c2 }
def k7c3 : Code := { maxStack := 2, maxLocals := 2, code := jdk_42_method_56_code, exceptionTable := #[], attributes := #[] }
def k7m3 : Method := { name := "charAt", desc := "(I)C", sig := { parameters := [.int], returnType := some .char }, accessFlags := 1, code := some k7c3 }
def k7c4 : Code := { maxStack := 4, maxLocals := 2, code := jdk_42_method_82_code, exceptionTable := #[], attributes := #[] }
def k7m4 : Method := { name := "lastIndexOf", desc := "(I)I", sig := { parameters := [.int], returnType := some .int }, accessFlags := 1, code := some k7c4 }
def k7c5 : Code := { maxStack := 3, maxLocals := 3, code := jdk_42_method_83_code, exceptionTable := #[], attributes := #[] }
def k7m5 : Method := { name := "lastIndexOf", desc := "(II)I", sig := { parameters := [.int, .int], returnType := some .int }, accessFlags := 1, code := some k7c5 }
def k7c6 : Code := { maxStack := 3, maxLocals := 2, code := jdk_42_method_91_code, exceptionTable := #[], attributes := #[] }
def k7m6 : Method := { name := "substring", desc := "(I)Ljava/lang/String;", sig := { parameters := [.int], returnType := some (.object "java/lang/String") }, accessFlags := 1, code := some k7c6 }
def k7c7 : Code := { maxStack := 3, maxLocals := 5, code := jdk_42_method_92_code, exceptionTable := #[], attributes := #[] }
def k7m7 : Method := { name := "substring", desc := "(II)Ljava/lang/String;", sig := { parameters := [.int, .int], returnType := some (.object "java/lang/String") }, accessFlags := 1, code := some k7c7 }
def k7c8 : Code := { maxStack := 4, maxLocals := 6, code := jdk_42_method_149_code, exceptionTable := #[], attributes := #[] }
def k7m8 : Method := { name := "<init>", desc := "([CIILjava/lang/Void;)V", sig := { parameters := [(.array .char), .int, .int, (.object "java/lang/Void")], returnType := none }, accessFlags := 2, code := some k7c8 }
def k7c9 : Code := { maxStack := 2, maxLocals := 3, code := jdk_42_method_151_code, exceptionTable := #[], attributes := #[] }
def k7m9 : Method := { name := "<init>", desc := "([BB)V", sig := { parameters := [(.array .byte), .byte], returnType := none }, accessFlags := 0, code := some k7c9 }
def k7c10 : Code := { maxStack := 1, maxLocals := 1, code := jdk_42_method_152_code, exceptionTable := #[], attributes := #[] }
def k7m10 : Method := { name := "coder", desc := "()B", sig := { parameters := [], returnType := some .byte }, accessFlags := 0, code := some k7c10 }
def k7c11 : Code := { maxStack := 1, maxLocals := 1, code := jdk_42_method_154_code, exceptionTable := #[], attributes := #[] }
def k7m11 : Method := { name := "isLatin1", desc := "()Z", sig := { parameters := [], returnType := some .boolean }, accessFlags := 0, code := some k7c11 }
def k7c12 : Code := { maxStack := 3, maxLocals := 2, code := jdk_42_method_155_code, exceptionTable := #[], attributes := #[] }
def k7m12 : Method := { name := "checkIndex", desc := "(II)V", sig := { parameters := [.int, .int], returnType := none }, accessFlags := 8, code := some k7c12 }
def k7c13 : Code := { maxStack := 4, maxLocals := 3, code := jdk_42_method_158_code, exceptionTable := #[], attributes := #[] }
def k7m13 : Method := { name := "checkBoundsBeginEnd", desc := "(III)V", sig := { parameters := [.int, .int, .int], returnType := none }, accessFlags := 8, code := some k7c13 }
/-- java/lang/String -/
def k7 : Class := { plain "java/lang/String" (some 0) with
  accessFlags := 49
  interfaces := #[2, 3, 4, 5, 6]
  cf := some (fileOf pool7 10 #[.nestMembers #[1103]] #[{ accessFlags := 1, nameIndex := 5, descriptorIndex := 6, attributes := #[] }, { accessFlags := 1, nameIndex := 5, descriptorIndex := 1010, attributes := #[] }, { accessFlags := 1, nameIndex := 507, descriptorIndex := 334, attributes := #[] }, { accessFlags := 1, nameIndex := 497, descriptorIndex := 427, attributes := #[] }, { accessFlags := 1, nameIndex := 643, descriptorIndex := 765, attributes := #[] }, { accessFlags := 1, nameIndex := 643, descriptorIndex := 636, attributes := #[] }, { accessFlags := 1, nameIndex := 683, descriptorIndex := 892, attributes := #[] }, { accessFlags := 1, nameIndex := 683, descriptorIndex := 684, attributes := #[] }, { accessFlags := 2, nameIndex := 5, descriptorIndex := 29, attributes := #[] }, { accessFlags := 0, nameIndex := 5, descriptorIndex := 211, attributes := #[] }, { accessFlags := 0, nameIndex := 17, descriptorIndex := 337, attributes := #[] }, { accessFlags := 0, nameIndex := 494, descriptorIndex := 142, attributes := #[] }, { accessFlags := 8, nameIndex := 501, descriptorIndex := 391, attributes := #[] }, { accessFlags := 8, nameIndex := 523, descriptorIndex := 524, attributes := #[] }] 49 2 #[1106, 1108, 575, 1110, 1112] #[{ accessFlags := 18, nameIndex := 13, descriptorIndex := 14, attributes := #[] }, { accessFlags := 18, nameIndex := 17, descriptorIndex := 18, attributes := #[] }, { accessFlags := 2, nameIndex := 21, descriptorIndex := 22, attributes := #[] }, { accessFlags := 2, nameIndex := 25, descriptorIndex := 26, attributes := #[] }, { accessFlags := 26, nameIndex := 1116, descriptorIndex := 1117, attributes := #[] }, { accessFlags := 24, nameIndex := 40, descriptorIndex := 26, attributes := #[] }, { accessFlags := 26, nameIndex := 1101, descriptorIndex := 1102, attributes := #[] }, { accessFlags := 26, nameIndex := 1121, descriptorIndex := 1122, attributes := #[] }, { accessFlags := 25, nameIndex := 599, descriptorIndex := 600, attributes := #[] }, { accessFlags := 24, nameIndex := 1125, descriptorIndex := 18, attributes := #[] }, { accessFlags := 24, nameIndex := 1127, descriptorIndex := 18, attributes := #[] }])
  fields := #[{ name := "value", type := (.array .byte), accessFlags := 18, slot := 0, constantValue := 0 }, { name := "coder", type := .byte, accessFlags := 18, slot := 1, constantValue := 0 }, { name := "hash", type := .int, accessFlags := 2, slot := 2, constantValue := 0 }, { name := "hashIsZero", type := .boolean, accessFlags := 2, slot := 3, constantValue := 0 }, { name := "serialVersionUID", type := .long, accessFlags := 26, slot := 0, constantValue := 0 }, { name := "COMPACT_STRINGS", type := .boolean, accessFlags := 24, slot := 1, constantValue := 0 }, { name := "serialPersistentFields", type := (.array (.object "java/io/ObjectStreamField")), accessFlags := 26, slot := 2, constantValue := 0 }, { name := "REPL", type := .char, accessFlags := 26, slot := 3, constantValue := 0 }, { name := "CASE_INSENSITIVE_ORDER", type := (.object "java/util/Comparator"), accessFlags := 25, slot := 4, constantValue := 0 }, { name := "LATIN1", type := .byte, accessFlags := 24, slot := 5, constantValue := 0 }, { name := "UTF16", type := .byte, accessFlags := 24, slot := 6, constantValue := 0 }]
  methods := #[k7m0, k7m1, k7m2, k7m3, k7m4, k7m5, k7m6, k7m7, k7m8, k7m9, k7m10, k7m11, k7m12, k7m13]
  instanceTypes := #[(.array .byte), .byte, .int, .boolean]
  staticTypes := #[.long, .boolean, (.array (.object "java/io/ObjectStreamField")), .char, (.object "java/util/Comparator"), .byte, .byte]
  resolved := Array.replicate 1451 none
  statics := some 0 }

def pool8 : Array CpInfo := pool [(2, .class_ 4), (1, u "java/lang/Object"), (0, u "<init>"), (0, u "()V"), (0, .class_ 8), (0, u "java/lang/Record")] 13

def k8m0 : Method := { name := "<init>", desc := "()V", sig := { parameters := [], returnType := none }, accessFlags := 4, code := none }
/-- java/lang/Record -/
def k8 : Class := { plain "java/lang/Record" (some 0) with
  accessFlags := 1057
  interfaces := #[]
  cf := some (fileOf pool8 7 #[] #[{ accessFlags := 4, nameIndex := 5, descriptorIndex := 6, attributes := #[] }] 1057 2 #[] #[])
  fields := #[]
  methods := #[k8m0]
  instanceTypes := #[]
  staticTypes := #[]
  resolved := Array.replicate 22 none
  statics := none }

def pool9 : Array CpInfo := pool [(2, .class_ 4), (1, u "java/lang/Record"), (3, .class_ 10), (1, u "com/example/guildhall/guildhall/Fqan"), (0, u "group"), (0, u "Ljava/lang/String;"), (2, u "role"), (31, .class_ 48), (0, u "java/lang/String"), (3, u "(Ljava/lang/String;)Ljava/lang/String;"), (4, .methodref 47 58), (0, .nameAndType 59 60), (0, u "lastIndexOf"), (0, u "(I)I"), (8, u "substring"), (5, .methodref 47 76), (0, .nameAndType 69 77), (0, u "(I)Ljava/lang/String;"), (22, u "ROLE"), (13, u "nameOf")] 34

def k9c0 : Code := { maxStack := 3, maxLocals := 1, code := prog_18_method_7_code, exceptionTable := #[], attributes := #[] }
def k9m0 : Method := { name := "nameOf", desc := "(Ljava/lang/String;)Ljava/lang/String;", sig := { parameters := [(.object "java/lang/String")], returnType := some (.object "java/lang/String") }, accessFlags := 8, code := some k9c0 }
/-- com/example/guildhall/guildhall/Fqan -/
def k9 : Class := { plain "com/example/guildhall/guildhall/Fqan" (some 8) with
  accessFlags := 48
  interfaces := #[]
  cf := some (fileOf pool9 8 #[] #[{ accessFlags := 8, nameIndex := 114, descriptorIndex := 52, attributes := #[] }] 48 2 #[] #[{ accessFlags := 18, nameIndex := 11, descriptorIndex := 12, attributes := #[] }, { accessFlags := 18, nameIndex := 15, descriptorIndex := 12, attributes := #[] }, { accessFlags := 26, nameIndex := 100, descriptorIndex := 12, attributes := #[] }])
  fields := #[{ name := "group", type := (.object "java/lang/String"), accessFlags := 18, slot := 0, constantValue := 0 }, { name := "role", type := (.object "java/lang/String"), accessFlags := 18, slot := 1, constantValue := 0 }, { name := "ROLE", type := (.object "java/lang/String"), accessFlags := 26, slot := 0, constantValue := 0 }]
  methods := #[k9m0]
  instanceTypes := #[(.object "java/lang/String"), (.object "java/lang/String")]
  staticTypes := #[(.object "java/lang/String")]
  resolved := Array.replicate 149 none
  statics := none }

def pool10 : Array CpInfo := pool [(1, .class_ 2), (0, u "java/lang/String"), (1, .class_ 6), (1, u "java/lang/Object"), (0, u "<init>"), (0, u "()V"), (0, .methodref 1 10), (0, .nameAndType 11 12), (0, u "checkIndex"), (0, u "(II)V"), (1, .class_ 16), (1, u "java/lang/StringLatin1"), (21, .methodref 39 40), (0, .class_ 41), (0, .nameAndType 42 43), (0, u "java/lang/Math"), (0, u "min"), (0, u "(II)I"), (9, u "([BI)C"), (34, .methodref 14 89), (0, .nameAndType 90 91), (0, u "canEncode"), (0, u "(I)Z"), (20, .methodref 1 113), (0, .nameAndType 7 114), (0, u "([BB)V"), (6, u "$assertionsDisabled"), (0, u "Z"), (8, .class_ 133), (1, u "java/util/Arrays"), (17, .string 152), (0, u ""), (43, u "newString"), (0, u "([BII)Ljava/lang/String;"), (23, .class_ 223), (1, u "java/lang/StringLatin1$LinesSpliterator"), (8, .methodref 131 233), (0, .nameAndType 234 235), (0, u "copyOfRange"), (0, u "([BII)[B"), (16, u "charAt"), (8, u "([BII)I"), (47, u "lastIndexOf"), (80, .class_ 391), (0, u "java/lang/StringLatin1$CharsSpliterator")] 3

def k10m0 : Method := { name := "<init>", desc := "()V", sig := { parameters := [], returnType := none }, accessFlags := 0, code := none }
def k10c1 : Code := { maxStack := 2, maxLocals := 2, code := jdk_43_method_2_code, exceptionTable := #[], attributes := #[] }
def k10m1 : Method := { name := "charAt", desc := "([BI)C", sig := { parameters := [(.array .byte), .int], returnType := some .char }, accessFlags := 9, code := some k10c1 }
def k10c2 : Code := { maxStack := 2, maxLocals := 1, code := jdk_43_method_4_code, exceptionTable := #[], attributes := #[] }
def k10m2 : Method := { name := "canEncode", desc := "(I)Z", sig := { parameters := [.int], returnType := some .boolean }, accessFlags := 9, code := some k10c2 }
def k10c3 : Code := { maxStack := 3, maxLocals := 4, code := jdk_43_method_27_code, exceptionTable := #[], attributes := #[] }
def k10m3 : Method := { name := "lastIndexOf", desc := "([BII)I", sig := { parameters := [(.array .byte), .int, .int], returnType := some .int }, accessFlags := 9, code := some k10c3 }
def k10c4 : Code := { maxStack := 6, maxLocals := 3, code := jdk_43_method_47_code, exceptionTable := #[], attributes := #[] }
def k10m4 : Method := { name := "newString", desc := "([BII)Ljava/lang/String;", sig := { parameters := [(.array .byte), .int, .int], returnType := some (.object "java/lang/String") }, accessFlags := 9, code := some k10c4 }
/-- java/lang/StringLatin1 -/
def k10 : Class := { plain "java/lang/StringLatin1" (some 0) with
  accessFlags := 48
  interfaces := #[]
  cf := some (fileOf pool10 14 #[.nestMembers #[390, 221]] #[{ accessFlags := 0, nameIndex := 7, descriptorIndex := 8, attributes := #[] }, { accessFlags := 9, nameIndex := 252, descriptorIndex := 53, attributes := #[] }, { accessFlags := 9, nameIndex := 90, descriptorIndex := 91, attributes := #[] }, { accessFlags := 9, nameIndex := 309, descriptorIndex := 261, attributes := #[] }, { accessFlags := 9, nameIndex := 196, descriptorIndex := 197, attributes := #[] }] 48 4 #[] #[{ accessFlags := 4120, nameIndex := 121, descriptorIndex := 122, attributes := #[] }])
  fields := #[{ name := "$assertionsDisabled", type := .boolean, accessFlags := 4120, slot := 0, constantValue := 0 }]
  methods := #[k10m0, k10m1, k10m2, k10m3, k10m4]
  instanceTypes := #[]
  staticTypes := #[.boolean]
  resolved := Array.replicate 395 none
  statics := none }

def pool11 : Array CpInfo := pool [(1, .class_ 2), (0, u "java/lang/Math"), (1, .class_ 6), (1, u "java/lang/Object"), (0, u "<init>"), (0, u "()V"), (89, .class_ 100), (1, u "java/lang/Math$RandomNumberGeneratorHolder"), (71, u "negativeZeroFloatBits"), (0, u "J"), (2, u "negativeZeroDoubleBits"), (24, u "min"), (43, u "$assertionsDisabled"), (0, u "Z"), (88, u "(II)I"), (2, u "twoToTheDoubleScaleDown"), (0, u "D"), (4, u "twoToTheDoubleScaleUp"), (9, u "E"), (3, u "PI"), (2, u "TAU"), (2, u "DEGREES_TO_RADIANS"), (0, u "RADIANS_TO_DEGREES")] 94

def k11m0 : Method := { name := "<init>", desc := "()V", sig := { parameters := [], returnType := none }, accessFlags := 2, code := none }
def k11c1 : Code := { maxStack := 2, maxLocals := 2, code := jdk_29_method_69_code, exceptionTable := #[], attributes := #[] }
def k11m1 : Method := { name := "min", desc := "(II)I", sig := { parameters := [.int, .int], returnType := some .int }, accessFlags := 9, code := some k11c1 }
/-- java/lang/Math -/
def k11 : Class := { plain "java/lang/Math" (some 0) with
  accessFlags := 49
  interfaces := #[]
  cf := some (fileOf pool11 1 #[.nestMembers #[98]] #[{ accessFlags := 2, nameIndex := 7, descriptorIndex := 8, attributes := #[] }, { accessFlags := 9, nameIndex := 201, descriptorIndex := 335, attributes := #[] }] 49 4 #[] #[{ accessFlags := 25, nameIndex := 354, descriptorIndex := 339, attributes := #[] }, { accessFlags := 25, nameIndex := 358, descriptorIndex := 339, attributes := #[] }, { accessFlags := 25, nameIndex := 361, descriptorIndex := 339, attributes := #[] }, { accessFlags := 26, nameIndex := 364, descriptorIndex := 339, attributes := #[] }, { accessFlags := 26, nameIndex := 365, descriptorIndex := 339, attributes := #[] }, { accessFlags := 26, nameIndex := 172, descriptorIndex := 173, attributes := #[] }, { accessFlags := 26, nameIndex := 176, descriptorIndex := 173, attributes := #[] }, { accessFlags := 8, nameIndex := 344, descriptorIndex := 339, attributes := #[] }, { accessFlags := 8, nameIndex := 338, descriptorIndex := 339, attributes := #[] }, { accessFlags := 4120, nameIndex := 245, descriptorIndex := 246, attributes := #[] }])
  fields := #[{ name := "E", type := .double, accessFlags := 25, slot := 0, constantValue := 0 }, { name := "PI", type := .double, accessFlags := 25, slot := 1, constantValue := 0 }, { name := "TAU", type := .double, accessFlags := 25, slot := 2, constantValue := 0 }, { name := "DEGREES_TO_RADIANS", type := .double, accessFlags := 26, slot := 3, constantValue := 0 }, { name := "RADIANS_TO_DEGREES", type := .double, accessFlags := 26, slot := 4, constantValue := 0 }, { name := "negativeZeroFloatBits", type := .long, accessFlags := 26, slot := 5, constantValue := 0 }, { name := "negativeZeroDoubleBits", type := .long, accessFlags := 26, slot := 6, constantValue := 0 }, { name := "twoToTheDoubleScaleUp", type := .double, accessFlags := 8, slot := 7, constantValue := 0 }, { name := "twoToTheDoubleScaleDown", type := .double, accessFlags := 8, slot := 8, constantValue := 0 }, { name := "$assertionsDisabled", type := .boolean, accessFlags := 4120, slot := 9, constantValue := 0 }]
  methods := #[k11m0, k11m1]
  instanceTypes := #[]
  staticTypes := #[.double, .double, .double, .double, .double, .long, .long, .double, .double, .boolean]
  resolved := Array.replicate 460 none
  statics := none }

def pool12 : Array CpInfo := pool [(2, .class_ 4), (1, u "java/lang/Object"), (0, u "<init>"), (0, u "()V"), (17, .class_ 26), (1, u "jdk/internal/util/Preconditions"), (6, u "checkIndex"), (13, u "checkFromToIndex"), (7, .class_ 56), (0, u "jdk/internal/util/Preconditions$4"), (57, .class_ 115), (0, u "jdk/internal/util/Preconditions$1"), (7, u "SIOOBE_FORMATTER"), (0, u "Ljava/util/function/BiFunction;"), (0, .class_ 126), (0, u "jdk/internal/util/Preconditions$2"), (3, u "AIOOBE_FORMATTER"), (0, .class_ 132), (0, u "jdk/internal/util/Preconditions$3"), (3, u "IOOBE_FORMATTER"), (41, u "(IILjava/util/function/BiFunction;)I"), (4, u "(IIILjava/util/function/BiFunction;)I")] 10

def k12m0 : Method := { name := "<init>", desc := "()V", sig := { parameters := [], returnType := none }, accessFlags := 1, code := none }
def k12c1 : Code := { maxStack := 3, maxLocals := 3, code := jdk_41_method_11_code, exceptionTable := #[], attributes := #[] }
def k12m1 : Method := { name := "checkIndex", desc := "(IILjava/util/function/BiFunction;)I", sig := { parameters := [.int, .int, (.object "java/util/function/BiFunction")], returnType := some .int }, accessFlags := 9, code := some k12c1 }
def k12c2 : Code := { maxStack := 4, maxLocals := 4, code := jdk_41_method_12_code, exceptionTable := #[], attributes := #[] }
def k12m2 : Method := { name := "checkFromToIndex", desc := "(IIILjava/util/function/BiFunction;)I", sig := { parameters := [.int, .int, .int, (.object "java/util/function/BiFunction")], returnType := some .int }, accessFlags := 9, code := some k12c2 }
/-- jdk/internal/util/Preconditions -/
def k12 : Class := { plain "jdk/internal/util/Preconditions" (some 0) with
  accessFlags := 33
  interfaces := #[]
  cf := some (fileOf pool12 24 #[.nestMembers #[55, 131, 125, 114]] #[{ accessFlags := 1, nameIndex := 5, descriptorIndex := 6, attributes := #[] }, { accessFlags := 9, nameIndex := 33, descriptorIndex := 178, attributes := #[] }, { accessFlags := 9, nameIndex := 47, descriptorIndex := 183, attributes := #[] }] 33 2 #[] #[{ accessFlags := 25, nameIndex := 123, descriptorIndex := 124, attributes := #[] }, { accessFlags := 25, nameIndex := 130, descriptorIndex := 124, attributes := #[] }, { accessFlags := 25, nameIndex := 136, descriptorIndex := 124, attributes := #[] }])
  fields := #[{ name := "SIOOBE_FORMATTER", type := (.object "java/util/function/BiFunction"), accessFlags := 25, slot := 0, constantValue := 0 }, { name := "AIOOBE_FORMATTER", type := (.object "java/util/function/BiFunction"), accessFlags := 25, slot := 1, constantValue := 0 }, { name := "IOOBE_FORMATTER", type := (.object "java/util/function/BiFunction"), accessFlags := 25, slot := 2, constantValue := 0 }]
  methods := #[k12m0, k12m1, k12m2]
  instanceTypes := #[]
  staticTypes := #[(.object "java/util/function/BiFunction"), (.object "java/util/function/BiFunction"), (.object "java/util/function/BiFunction")]
  resolved := Array.replicate 194 none
  statics := some 1 }

def pool13 : Array CpInfo := pool [(6, .class_ 8), (1, u "java/lang/Object"), (0, u "<init>"), (0, u "()V"), (1, .class_ 14), (1, u "java/lang/StringUTF16"), (31, u "$assertionsDisabled"), (0, u "Z"), (13, u "HI_BYTE_SHIFT"), (0, u "I"), (2, u "LO_BYTE_SHIFT"), (49, .methodref 12 116), (0, .nameAndType 117 118), (0, u "compress"), (0, u "([CI[BII)I"), (3, u "([CII)[B"), (138, u "coderFromArrayLen"), (0, u "([BI)B"), (106, .class_ 371), (1, u "java/lang/StringUTF16$LinesSpliterator"), (58, u "MAX_LENGTH"), (196, .class_ 628), (0, u "java/lang/StringUTF16$CodePointsSpliterator"), (0, .class_ 630), (0, u "java/lang/StringUTF16$CharsSpliterator")] 4

def k13m0 : Method := { name := "<init>", desc := "()V", sig := { parameters := [], returnType := none }, accessFlags := 0, code := none }
def k13c1 : Code := { maxStack := 2, maxLocals := 2, code := jdk_52_method_15_code, exceptionTable := #[], attributes := #[] }
def k13m1 : Method := { name := "coderFromArrayLen", desc := "([BI)B", sig := { parameters := [(.array .byte), .int], returnType := some .byte }, accessFlags := 8, code := some k13c1 }
def k13c2 : Code := { maxStack := 5, maxLocals := 6, code := jdk_52_method_16_code, exceptionTable := #[], attributes := #[] }
def k13m2 : Method := { name := "compress", desc := "([CII)[B", sig := { parameters := [(.array .char), .int, .int], returnType := some (.array .byte) }, accessFlags := 9, code := some k13c2 }
def k13c3 : Code := { maxStack := 3, maxLocals := 7, code := jdk_52_method_21_code, exceptionTable := #[], attributes := #[] }
def k13m3 : Method := { name := "compress", desc := "([CI[BII)I", sig := { parameters := [(.array .char), .int, (.array .byte), .int, .int], returnType := some .int }, accessFlags := 9, code := some k13c3 }
/-- java/lang/StringUTF16 -/
def k13 : Class := { plain "java/lang/StringUTF16" (some 0) with
  accessFlags := 48
  interfaces := #[]
  cf := some (fileOf pool13 12 #[.nestMembers #[627, 629, 369]] #[{ accessFlags := 0, nameIndex := 9, descriptorIndex := 10, attributes := #[] }, { accessFlags := 8, nameIndex := 261, descriptorIndex := 262, attributes := #[] }, { accessFlags := 9, nameIndex := 117, descriptorIndex := 122, attributes := #[] }, { accessFlags := 9, nameIndex := 117, descriptorIndex := 118, attributes := #[] }] 48 6 #[] #[{ accessFlags := 26, nameIndex := 61, descriptorIndex := 62, attributes := #[] }, { accessFlags := 26, nameIndex := 65, descriptorIndex := 62, attributes := #[] }, { accessFlags := 24, nameIndex := 430, descriptorIndex := 62, attributes := #[] }, { accessFlags := 4120, nameIndex := 46, descriptorIndex := 47, attributes := #[] }])
  fields := #[{ name := "HI_BYTE_SHIFT", type := .int, accessFlags := 26, slot := 0, constantValue := 0 }, { name := "LO_BYTE_SHIFT", type := .int, accessFlags := 26, slot := 1, constantValue := 0 }, { name := "MAX_LENGTH", type := .int, accessFlags := 24, slot := 2, constantValue := 0 }, { name := "$assertionsDisabled", type := .boolean, accessFlags := 4120, slot := 3, constantValue := 0 }]
  methods := #[k13m0, k13m1, k13m2, k13m3]
  instanceTypes := #[]
  staticTypes := #[.int, .int, .int, .boolean]
  resolved := Array.replicate 635 none
  statics := none }

def pool14 : Array CpInfo := pool [(2, .class_ 4), (1, u "java/lang/Object"), (0, u "<init>"), (0, u "()V"), (7, .class_ 16), (1, u "java/util/Arrays"), (57, .class_ 76), (1, u "java/util/Arrays$NaturalOrder"), (36, .class_ 115), (1, u "java/util/Arrays$LegacyMergeSort"), (1, u "Z"), (21, u "copyOfRange"), (10, .methodref 151 152), (0, .class_ 153), (0, .nameAndType 154 155), (0, u "java/lang/System"), (0, u "arraycopy"), (0, u "(Ljava/lang/Object;ILjava/lang/Object;II)V"), (148, .methodref 305 306), (0, .class_ 307), (0, .nameAndType 308 309), (0, u "java/lang/Math"), (0, u "min"), (0, u "(II)I"), (29, .methodref 14 340), (0, .nameAndType 341 342), (0, u "copyOfRangeByte"), (0, u "([BII)[B"), (0, .methodref 14 344), (0, .nameAndType 345 346), (0, u "checkLength"), (0, u "(II)V"), (28, .class_ 376), (0, u "java/util/Arrays$ArrayList"), (68, u "$assertionsDisabled"), (269, u "MIN_ARRAY_SORT_GRAN"), (0, u "I"), (2, u "INSERTIONSORT_THRESHOLD"), (255, .class_ 976), (0, u "java/util/Arrays$ArrayItr")] 52

def k14m0 : Method := { name := "<init>", desc := "()V", sig := { parameters := [], returnType := none }, accessFlags := 2, code := none }
def k14c1 : Code := { maxStack := 4, maxLocals := 2, code := jdk_65_method_131_code, exceptionTable := #[], attributes := #[] }
def k14m1 : Method := { name := "checkLength", desc := "(II)V", sig := { parameters := [.int, .int], returnType := none }, accessFlags := 10, code := some k14c1 }
def k14c2 : Code := { maxStack := 3, maxLocals := 3, code := jdk_65_method_132_code, exceptionTable := #[], attributes := #[] }
def k14m2 : Method := { name := "copyOfRange", desc := "([BII)[B", sig := { parameters := [(.array .byte), .int, .int], returnType := some (.array .byte) }, accessFlags := 9, code := some k14c2 }
def k14c3 : Code := { maxStack := 6, maxLocals := 5, code := jdk_65_method_133_code, exceptionTable := #[], attributes := #[] }
def k14m3 : Method := { name := "copyOfRangeByte", desc := "([BII)[B", sig := { parameters := [(.array .byte), .int, .int], returnType := some (.array .byte) }, accessFlags := 10, code := some k14c3 }
/-- java/util/Arrays -/
def k14 : Class := { plain "java/util/Arrays" (some 0) with
  accessFlags := 49
  interfaces := #[]
  cf := some (fileOf pool14 14 #[.nestMembers #[975, 375, 113, 74]] #[{ accessFlags := 2, nameIndex := 5, descriptorIndex := 6, attributes := #[] }, { accessFlags := 10, nameIndex := 345, descriptorIndex := 346, attributes := #[] }, { accessFlags := 9, nameIndex := 139, descriptorIndex := 342, attributes := #[] }, { accessFlags := 10, nameIndex := 341, descriptorIndex := 342, attributes := #[] }] 49 2 #[] #[{ accessFlags := 26, nameIndex := 715, descriptorIndex := 716, attributes := #[] }, { accessFlags := 26, nameIndex := 719, descriptorIndex := 716, attributes := #[] }, { accessFlags := 4120, nameIndex := 445, descriptorIndex := 117, attributes := #[] }])
  fields := #[{ name := "MIN_ARRAY_SORT_GRAN", type := .int, accessFlags := 26, slot := 0, constantValue := 0 }, { name := "INSERTIONSORT_THRESHOLD", type := .int, accessFlags := 26, slot := 1, constantValue := 0 }, { name := "$assertionsDisabled", type := .boolean, accessFlags := 4120, slot := 2, constantValue := 0 }]
  methods := #[k14m0, k14m1, k14m2, k14m3]
  instanceTypes := #[]
  staticTypes := #[.int, .int, .boolean]
  resolved := Array.replicate 1029 none
  statics := none }

def pool15 : Array CpInfo := pool [(2, .class_ 4), (1, u "java/lang/Object"), (0, u "<init>"), (0, u "()V"), (1, .class_ 10), (1, u "java/lang/System"), (0, u "allowSecurityManager"), (0, u "I"), (16, u "cons"), (0, u "Ljava/io/Console;"), (77, .class_ 110), (1, u "java/lang/System$CallersHolder"), (43, u "initialErrStream"), (0, u "Ljava/io/PrintStream;"), (19, u "security"), (0, u "Ljava/lang/SecurityManager;"), (31, .class_ 209), (0, u "java/lang/System$1"), (7, u "props"), (0, u "Ljava/util/Properties;"), (2, u "lineSeparator"), (0, u "Ljava/lang/String;"), (96, .class_ 321), (1, u "java/lang/System$LoggerFinder"), (5, .class_ 328), (0, u "java/lang/System$Logger"), (67, u "err"), (2, u "out"), (91, u "notSupportedJnuEncoding"), (15, u "in"), (17, u "initialIn"), (0, u "Ljava/io/InputStream;"), (35, u "bootLayer"), (0, u "Ljava/lang/ModuleLayer;"), (99, .class_ 664), (0, u "java/lang/System$2"), (9, u "NEVER"), (2, u "MAYBE"), (49, u "arraycopy"), (0, u "(Ljava/lang/Object;ILjava/lang/Object;II)V"), (72, .class_ 802), (0, u "java/lang/System$Logger$Level")] 31

def k15m0 : Method := { name := "<init>", desc := "()V", sig := { parameters := [], returnType := none }, accessFlags := 2, code := none }
def k15m1 : Method := { name := "arraycopy", desc := "(Ljava/lang/Object;ILjava/lang/Object;II)V", sig := { parameters := [(.object "java/lang/Object"), .int, (.object "java/lang/Object"), .int, .int], returnType := none }, accessFlags := 265, code := none }
/-- java/lang/System -/
def k15 : Class := { plain "java/lang/System" (some 0) with
  accessFlags := 49
  interfaces := #[]
  cf := some (fileOf pool15 8 #[.nestMembers #[319, 327, 801, 108, 663, 208]] #[{ accessFlags := 2, nameIndex := 5, descriptorIndex := 6, attributes := #[] }, { accessFlags := 265, nameIndex := 727, descriptorIndex := 728, attributes := #[] }] 49 2 #[] #[{ accessFlags := 25, nameIndex := 507, descriptorIndex := 526, attributes := #[] }, { accessFlags := 25, nameIndex := 399, descriptorIndex := 155, attributes := #[] }, { accessFlags := 25, nameIndex := 396, descriptorIndex := 155, attributes := #[] }, { accessFlags := 10, nameIndex := 525, descriptorIndex := 526, attributes := #[] }, { accessFlags := 26, nameIndex := 674, descriptorIndex := 12, attributes := #[] }, { accessFlags := 26, nameIndex := 677, descriptorIndex := 12, attributes := #[] }, { accessFlags := 10, nameIndex := 11, descriptorIndex := 12, attributes := #[] }, { accessFlags := 74, nameIndex := 175, descriptorIndex := 176, attributes := #[] }, { accessFlags := 10, nameIndex := 491, descriptorIndex := 222, attributes := #[] }, { accessFlags := 74, nameIndex := 29, descriptorIndex := 30, attributes := #[] }, { accessFlags := 74, nameIndex := 154, descriptorIndex := 155, attributes := #[] }, { accessFlags := 10, nameIndex := 217, descriptorIndex := 218, attributes := #[] }, { accessFlags := 10, nameIndex := 221, descriptorIndex := 222, attributes := #[] }, { accessFlags := 8, nameIndex := 562, descriptorIndex := 563, attributes := #[] }])
  fields := #[{ name := "in", type := (.object "java/io/InputStream"), accessFlags := 25, slot := 0, constantValue := 0 }, { name := "out", type := (.object "java/io/PrintStream"), accessFlags := 25, slot := 1, constantValue := 0 }, { name := "err", type := (.object "java/io/PrintStream"), accessFlags := 25, slot := 2, constantValue := 0 }, { name := "initialIn", type := (.object "java/io/InputStream"), accessFlags := 10, slot := 3, constantValue := 0 }, { name := "NEVER", type := .int, accessFlags := 26, slot := 4, constantValue := 0 }, { name := "MAYBE", type := .int, accessFlags := 26, slot := 5, constantValue := 0 }, { name := "allowSecurityManager", type := .int, accessFlags := 10, slot := 6, constantValue := 0 }, { name := "security", type := (.object "java/lang/SecurityManager"), accessFlags := 74, slot := 7, constantValue := 0 }, { name := "notSupportedJnuEncoding", type := (.object "java/lang/String"), accessFlags := 10, slot := 8, constantValue := 0 }, { name := "cons", type := (.object "java/io/Console"), accessFlags := 74, slot := 9, constantValue := 0 }, { name := "initialErrStream", type := (.object "java/io/PrintStream"), accessFlags := 74, slot := 10, constantValue := 0 }, { name := "props", type := (.object "java/util/Properties"), accessFlags := 10, slot := 11, constantValue := 0 }, { name := "lineSeparator", type := (.object "java/lang/String"), accessFlags := 10, slot := 12, constantValue := 0 }, { name := "bootLayer", type := (.object "java/lang/ModuleLayer"), accessFlags := 8, slot := 13, constantValue := 0 }]
  methods := #[k15m0, k15m1]
  instanceTypes := #[]
  staticTypes := #[(.object "java/io/InputStream"), (.object "java/io/PrintStream"), (.object "java/io/PrintStream"), (.object "java/io/InputStream"), .int, .int, .int, (.object "java/lang/SecurityManager"), (.object "java/lang/String"), (.object "java/io/Console"), (.object "java/io/PrintStream"), (.object "java/util/Properties"), (.object "java/lang/String"), (.object "java/lang/ModuleLayer")]
  resolved := Array.replicate 834 none
  statics := none }

def pool16 : Array CpInfo := pool [(9, u "<init>"), (6, .class_ 18), (1, u "java/lang/Object"), (0, u "()V"), (1, .class_ 23), (1, u "jdk/internal/util/ArraysSupport"), (0, u "LOG2_ARRAY_LONG_INDEX_SCALE"), (0, u "I"), (2, u "U"), (0, u "Ljdk/internal/misc/Unsafe;"), (8, u "BIG_ENDIAN"), (0, u "Z"), (8, u "LOG2_BYTE_BIT_SIZE"), (4, u "LOG2_ARRAY_INT_INDEX_SCALE"), (54, u "JLA"), (0, u "Ljdk/internal/access/JavaLangAccess;"), (11, u "LOG2_ARRAY_BOOLEAN_INDEX_SCALE"), (9, u "LOG2_ARRAY_BYTE_INDEX_SCALE"), (5, u "LOG2_ARRAY_CHAR_INDEX_SCALE"), (5, u "LOG2_ARRAY_SHORT_INDEX_SCALE"), (18, u "LOG2_ARRAY_FLOAT_INDEX_SCALE"), (24, u "LOG2_ARRAY_DOUBLE_INDEX_SCALE"), (89, u "T_BOOLEAN"), (2, u "T_CHAR"), (1, u "T_FLOAT"), (1, u "T_DOUBLE"), (1, u "T_BYTE"), (1, u "T_SHORT"), (1, u "T_INT"), (1, u "T_LONG"), (1, u "SOFT_MAX_ARRAY_LENGTH")] 83

def k16m0 : Method := { name := "<init>", desc := "()V", sig := { parameters := [], returnType := none }, accessFlags := 2, code := none }
/-- jdk/internal/util/ArraysSupport -/
def k16 : Class := { plain "jdk/internal/util/ArraysSupport" (some 0) with
  accessFlags := 33
  interfaces := #[]
  cf := some (fileOf pool16 21 #[] #[{ accessFlags := 2, nameIndex := 9, descriptorIndex := 19, attributes := #[] }] 33 16 #[] #[{ accessFlags := 24, nameIndex := 28, descriptorIndex := 29, attributes := #[] }, { accessFlags := 26, nameIndex := 38, descriptorIndex := 39, attributes := #[] }, { accessFlags := 25, nameIndex := 121, descriptorIndex := 25, attributes := #[] }, { accessFlags := 25, nameIndex := 131, descriptorIndex := 25, attributes := #[] }, { accessFlags := 25, nameIndex := 137, descriptorIndex := 25, attributes := #[] }, { accessFlags := 25, nameIndex := 143, descriptorIndex := 25, attributes := #[] }, { accessFlags := 25, nameIndex := 53, descriptorIndex := 25, attributes := #[] }, { accessFlags := 25, nameIndex := 24, descriptorIndex := 25, attributes := #[] }, { accessFlags := 25, nameIndex := 162, descriptorIndex := 25, attributes := #[] }, { accessFlags := 25, nameIndex := 187, descriptorIndex := 25, attributes := #[] }, { accessFlags := 26, nameIndex := 48, descriptorIndex := 25, attributes := #[] }, { accessFlags := 25, nameIndex := 277, descriptorIndex := 25, attributes := #[] }, { accessFlags := 25, nameIndex := 280, descriptorIndex := 25, attributes := #[] }, { accessFlags := 25, nameIndex := 282, descriptorIndex := 25, attributes := #[] }, { accessFlags := 25, nameIndex := 284, descriptorIndex := 25, attributes := #[] }, { accessFlags := 25, nameIndex := 286, descriptorIndex := 25, attributes := #[] }, { accessFlags := 25, nameIndex := 288, descriptorIndex := 25, attributes := #[] }, { accessFlags := 25, nameIndex := 290, descriptorIndex := 25, attributes := #[] }, { accessFlags := 25, nameIndex := 292, descriptorIndex := 25, attributes := #[] }, { accessFlags := 26, nameIndex := 108, descriptorIndex := 109, attributes := #[] }, { accessFlags := 25, nameIndex := 294, descriptorIndex := 25, attributes := #[] }])
  fields := #[{ name := "U", type := (.object "jdk/internal/misc/Unsafe"), accessFlags := 24, slot := 0, constantValue := 0 }, { name := "BIG_ENDIAN", type := .boolean, accessFlags := 26, slot := 1, constantValue := 0 }, { name := "LOG2_ARRAY_BOOLEAN_INDEX_SCALE", type := .int, accessFlags := 25, slot := 2, constantValue := 0 }, { name := "LOG2_ARRAY_BYTE_INDEX_SCALE", type := .int, accessFlags := 25, slot := 3, constantValue := 0 }, { name := "LOG2_ARRAY_CHAR_INDEX_SCALE", type := .int, accessFlags := 25, slot := 4, constantValue := 0 }, { name := "LOG2_ARRAY_SHORT_INDEX_SCALE", type := .int, accessFlags := 25, slot := 5, constantValue := 0 }, { name := "LOG2_ARRAY_INT_INDEX_SCALE", type := .int, accessFlags := 25, slot := 6, constantValue := 0 }, { name := "LOG2_ARRAY_LONG_INDEX_SCALE", type := .int, accessFlags := 25, slot := 7, constantValue := 0 }, { name := "LOG2_ARRAY_FLOAT_INDEX_SCALE", type := .int, accessFlags := 25, slot := 8, constantValue := 0 }, { name := "LOG2_ARRAY_DOUBLE_INDEX_SCALE", type := .int, accessFlags := 25, slot := 9, constantValue := 0 }, { name := "LOG2_BYTE_BIT_SIZE", type := .int, accessFlags := 26, slot := 10, constantValue := 0 }, { name := "T_BOOLEAN", type := .int, accessFlags := 25, slot := 11, constantValue := 0 }, { name := "T_CHAR", type := .int, accessFlags := 25, slot := 12, constantValue := 0 }, { name := "T_FLOAT", type := .int, accessFlags := 25, slot := 13, constantValue := 0 }, { name := "T_DOUBLE", type := .int, accessFlags := 25, slot := 14, constantValue := 0 }, { name := "T_BYTE", type := .int, accessFlags := 25, slot := 15, constantValue := 0 }, { name := "T_SHORT", type := .int, accessFlags := 25, slot := 16, constantValue := 0 }, { name := "T_INT", type := .int, accessFlags := 25, slot := 17, constantValue := 0 }, { name := "T_LONG", type := .int, accessFlags := 25, slot := 18, constantValue := 0 }, { name := "JLA", type := (.object "jdk/internal/access/JavaLangAccess"), accessFlags := 26, slot := 19, constantValue := 0 }, { name := "SOFT_MAX_ARRAY_LENGTH", type := .int, accessFlags := 25, slot := 20, constantValue := 0 }]
  methods := #[k16m0]
  instanceTypes := #[]
  staticTypes := #[(.object "jdk/internal/misc/Unsafe"), .boolean, .int, .int, .int, .int, .int, .int, .int, .int, .int, .int, .int, .int, .int, .int, .int, .int, .int, (.object "jdk/internal/access/JavaLangAccess"), .int]
  resolved := Array.replicate 378 none
  statics := none }

def pool17 : Array CpInfo := pool [(1, u "java/lang/Cloneable"), (0, .class_ 1), (0, u "java/lang/Object"), (0, .class_ 3)] 3

/-- java/lang/Cloneable -/
def k17 : Class := { plain "java/lang/Cloneable" (some 0) with
  accessFlags := 1537
  interfaces := #[]
  cf := some (fileOf pool17 2 #[] #[] 1537 4 #[] #[])
  fields := #[]
  methods := #[]
  instanceTypes := #[]
  staticTypes := #[]
  resolved := Array.replicate 8 none
  statics := none }

/-- the primitive byte -/
def k18 : Class := { plain "byte" none with kind := .primitive 'B', accessFlags := 0x411 }
/-- [B -/
def k19 : Class := { plain "[B" (some 0) with kind := .array 18 .byte, interfaces := #[17, 2], accessFlags := 1041 }

/-- the primitive char -/
def k20 : Class := { plain "char" none with kind := .primitive 'C', accessFlags := 0x411 }
/-- [C -/
def k21 : Class := { plain "[C" (some 0) with kind := .array 20 .char, interfaces := #[17, 2], accessFlags := 1041 }

/-- the primitive int -/
def k22 : Class := { plain "int" none with kind := .primitive 'I', accessFlags := 0x411 }
/-- [I -/
def k23 : Class := { plain "[I" (some 0) with kind := .array 22 .int, interfaces := #[17, 2], accessFlags := 1041 }

def heap : Heap := #[{ cls := 7, slots := #[.long 0, .int 1, .null, .int 0, .null, .int 0, .int 0], vm := .statics 7 },
  { cls := 12, slots := #[.null, .null, .null], vm := .statics 12 }]
def classes : Array Class := #[k0, k1, k2, k3, k4, k5, k6, k7, k8, k9, k10, k11, k12, k13, k14, k15, k16, k17, k18, k19, k20, k21, k22, k23]
def interned : List (Array UInt16 × Addr) := []
def slotsUsed : Nat := 10
def theMethod : MethodId := ⟨1, 4⟩
def args0 : Array Value := #[.int 4, .int 0, .int 300, .int 0, .int 405]
def aboutOver (below : List Frame) : State where
  vm := { classes := classes, interned := interned.toArray }
  heap := heap
  slotsUsed := slotsUsed
  threads := #[{ frames := .invoking theMethod args0 :: below }]
def below0 : List Frame := [.native { method := ⟨0, 0⟩, args := #[] }]
def about1 : State := aboutOver below0
def p0 : Program := .bare "" "" ""
def e0 : Env := launch0.env 0 0 0
theorem w_frames : about1.frames = Frame.invoking theMethod args0 :: below0 := rfl
set_option maxRecDepth 65536 in
theorem w_args : argsFit about1.vm theMethod args0 = true := by decide +kernel
set_option maxRecDepth 65536 in
theorem w_heap : heapFits about1 = true := by decide +kernel
set_option maxRecDepth 65536 in
theorem w_runnable : about1.curStatus? = some .runnable := by decide +kernel
set_option maxRecDepth 65536 in
theorem w_alone : about1.alone = true := by decide +kernel
set_option maxRecDepth 65536 in
theorem w_named : about1.methodNamed? x = some theMethod := by decide +kernel
set_option maxRecDepth 65536 in
theorem w_hears : about1.hears theMethod below0 = true := by decide +kernel
set_option maxRecDepth 65536 in
theorem w_ripe : about1.ripe theMethod args0 below0 = true := by decide +kernel
theorem w_running : about1.status = .running := rfl
set_option maxRecDepth 65536 in
theorem w_room : about1.hasRoom e0.platform room_1 = true :=
  launch0.hasRoom_least _ room_1 (by decide +kernel) (by decide +kernel) (by decide +kernel) (by decide +kernel) (by decide +kernel) (by decide +kernel)
theorem allAtoms_all (ts : List Jvm.Cond) (a : Array Jvm.Value) (st : Jvm.State) : (allAtoms ts).before a st = ts.all (fun c => c.before a st) := by
  induction ts with
  | nil => rfl
  | cons c t ih =>
    show (Jvm.Cond.and c (allAtoms t)).before a st = _
    rw [Jvm.Cond.before_and, ih, List.all_cons]
def words1 : List Jvm.Cond := Jvm.Cond.code x code maxLocals ret :: tables_1
/-- a 'code' word, met by the world's own term for the bytes: nothing is compared byte by byte -/
theorem code_word {y : MethodName} {bytes : ByteArray} {mx : Nat} {rt : Option FieldType} {a : Array Value} {s : State} {m : MethodId} {meth : Method} {c : Code} (h1 : s.methodNamed? y = some m) (h2 : s.vm.method? m = some meth) (h3 : meth.code = some c) (h4 : c.code = bytes)
    (h5 : (c.maxLocals == mx && c.exceptionTable.isEmpty && decide (c.maxStack ≤ mostOperands) && decide (meth.sig.returnType = rt) && !meth.locks && decide (parseMethodDescriptor y.desc = some meth.sig)) = true) : (Jvm.Cond.code y bytes mx rt).before a s = true := by
  simp only [Bool.and_eq_true, beq_iff_eq, Bool.not_eq_true', decide_eq_true_eq] at h5
  obtain ⟨⟨⟨⟨⟨g1, g2⟩, g3⟩, g4⟩, g5⟩, g6⟩ := h5
  simp [Cond.before, Cond.holds, Cond.value, h1, h2, h3, h4, g1, g2, g3, g4, g5, g6]
def isCode : Jvm.Cond → Bool
  | .code _ _ _ _ => true
  | _ => false
theorem all_split {L : List Jvm.Cond} {P : Jvm.Cond → Bool} (h1 : L.all (fun c => isCode c || P c) = true) (h2 : ∀ c ∈ L.filter isCode, P c = true) : L.all P = true := by
  refine List.all_eq_true.mpr fun c hc => ?_
  have h := List.all_eq_true.mp h1 c hc
  rcases Bool.eq_false_or_eq_true (isCode c) with hi | hi
  · exact h2 c (List.mem_filter.mpr ⟨hc, hi⟩)
  · simpa [hi] using h
set_option maxRecDepth 65536 in
theorem w_c0 : (Jvm.Cond.code x code maxLocals ret).before args0 about1 = true := code_word (m := ⟨1, 4⟩) (meth := k1m4) (c := k1c4) (by decide +kernel) rfl rfl rfl (by decide +kernel)
set_option maxRecDepth 65536 in
theorem w_c1 : (Jvm.Cond.code ({ cls := "com/example/guildhall/guildhall/FqanNameOfPinLaw", name := "ch", desc := "(I)C" } : Jvm.MethodName) method_2_code (1 : Nat) (Option.some Jvm.ClassFile.FieldType.char)).before args0 about1 = true := code_word (m := ⟨1, 1⟩) (meth := k1m1) (c := k1c1) (by decide +kernel) rfl rfl rfl (by decide +kernel)
set_option maxRecDepth 65536 in
theorem w_c2 : (Jvm.Cond.code ({ cls := "com/example/guildhall/guildhall/FqanNameOfPinLaw", name := "make", desc := "(ICCCC)Ljava/lang/String;" } : Jvm.MethodName) method_3_code (5 : Nat) (Option.some (Jvm.ClassFile.FieldType.object "java/lang/String"))).before args0 about1 = true := code_word (m := ⟨1, 2⟩) (meth := k1m2) (c := k1c2) (by decide +kernel) rfl rfl rfl (by decide +kernel)
set_option maxRecDepth 65536 in
theorem w_c3 : (Jvm.Cond.code ({ cls := "java/lang/String", name := "<init>", desc := "([C)V" } : Jvm.MethodName) jdk_42_method_3_code (2 : Nat) (Option.none : Option Jvm.ClassFile.FieldType)).before args0 about1 = true := code_word (m := ⟨7, 1⟩) (meth := k7m1) (c := k7c1) (by decide +kernel) rfl rfl rfl (by decide +kernel)
set_option maxRecDepth 65536 in
theorem w_c4 : (Jvm.Cond.code ({ cls := "java/lang/String", name := "<init>", desc := "([CIILjava/lang/Void;)V" } : Jvm.MethodName) jdk_42_method_149_code (6 : Nat) (Option.none : Option Jvm.ClassFile.FieldType)).before args0 about1 = true := code_word (m := ⟨7, 8⟩) (meth := k7m8) (c := k7c8) (by decide +kernel) rfl rfl rfl (by decide +kernel)
set_option maxRecDepth 65536 in
theorem w_c5 : (Jvm.Cond.code ({ cls := "java/lang/Object", name := "<init>", desc := "()V" } : Jvm.MethodName) object_method_1_code (1 : Nat) (Option.none : Option Jvm.ClassFile.FieldType)).before args0 about1 = true := code_word (m := ⟨0, 0⟩) (meth := k0m0) (c := k0c0) (by decide +kernel) rfl rfl rfl (by decide +kernel)
set_option maxRecDepth 65536 in
theorem w_c6 : (Jvm.Cond.code ({ cls := "com/example/guildhall/guildhall/Fqan", name := "nameOf", desc := "(Ljava/lang/String;)Ljava/lang/String;" } : Jvm.MethodName) prog_18_method_7_code (1 : Nat) (Option.some (Jvm.ClassFile.FieldType.object "java/lang/String"))).before args0 about1 = true := code_word (m := ⟨9, 0⟩) (meth := k9m0) (c := k9c0) (by decide +kernel) rfl rfl rfl (by decide +kernel)
set_option maxRecDepth 65536 in
theorem w_c7 : (Jvm.Cond.code ({ cls := "java/lang/String", name := "lastIndexOf", desc := "(I)I" } : Jvm.MethodName) jdk_42_method_82_code (2 : Nat) (Option.some Jvm.ClassFile.FieldType.int)).before args0 about1 = true := code_word (m := ⟨7, 4⟩) (meth := k7m4) (c := k7c4) (by decide +kernel) rfl rfl rfl (by decide +kernel)
set_option maxRecDepth 65536 in
theorem w_c8 : (Jvm.Cond.code ({ cls := "java/lang/String", name := "length", desc := "()I" } : Jvm.MethodName) jdk_42_method_54_code (1 : Nat) (Option.some Jvm.ClassFile.FieldType.int)).before args0 about1 = true := code_word (m := ⟨7, 2⟩) (meth := k7m2) (c := k7c2) (by decide +kernel) rfl rfl rfl (by decide +kernel)
set_option maxRecDepth 65536 in
theorem w_c9 : (Jvm.Cond.code ({ cls := "java/lang/String", name := "coder", desc := "()B" } : Jvm.MethodName) jdk_42_method_152_code (1 : Nat) (Option.some Jvm.ClassFile.FieldType.byte)).before args0 about1 = true := code_word (m := ⟨7, 10⟩) (meth := k7m10) (c := k7c10) (by decide +kernel) rfl rfl rfl (by decide +kernel)
set_option maxRecDepth 65536 in
theorem w_c10 : (Jvm.Cond.code ({ cls := "java/lang/String", name := "lastIndexOf", desc := "(II)I" } : Jvm.MethodName) jdk_42_method_83_code (3 : Nat) (Option.some Jvm.ClassFile.FieldType.int)).before args0 about1 = true := code_word (m := ⟨7, 5⟩) (meth := k7m5) (c := k7c5) (by decide +kernel) rfl rfl rfl (by decide +kernel)
set_option maxRecDepth 65536 in
theorem w_c11 : (Jvm.Cond.code ({ cls := "java/lang/String", name := "isLatin1", desc := "()Z" } : Jvm.MethodName) jdk_42_method_154_code (1 : Nat) (Option.some Jvm.ClassFile.FieldType.boolean)).before args0 about1 = true := code_word (m := ⟨7, 11⟩) (meth := k7m11) (c := k7c11) (by decide +kernel) rfl rfl rfl (by decide +kernel)
set_option maxRecDepth 65536 in
theorem w_c12 : (Jvm.Cond.code ({ cls := "java/lang/StringLatin1", name := "lastIndexOf", desc := "([BII)I" } : Jvm.MethodName) jdk_43_method_27_code (4 : Nat) (Option.some Jvm.ClassFile.FieldType.int)).before args0 about1 = true := code_word (m := ⟨10, 3⟩) (meth := k10m3) (c := k10c3) (by decide +kernel) rfl rfl rfl (by decide +kernel)
set_option maxRecDepth 65536 in
theorem w_c13 : (Jvm.Cond.code ({ cls := "java/lang/StringLatin1", name := "canEncode", desc := "(I)Z" } : Jvm.MethodName) jdk_43_method_4_code (1 : Nat) (Option.some Jvm.ClassFile.FieldType.boolean)).before args0 about1 = true := code_word (m := ⟨10, 2⟩) (meth := k10m2) (c := k10c2) (by decide +kernel) rfl rfl rfl (by decide +kernel)
set_option maxRecDepth 65536 in
theorem w_c14 : (Jvm.Cond.code ({ cls := "java/lang/Math", name := "min", desc := "(II)I" } : Jvm.MethodName) jdk_29_method_69_code (2 : Nat) (Option.some Jvm.ClassFile.FieldType.int)).before args0 about1 = true := code_word (m := ⟨11, 1⟩) (meth := k11m1) (c := k11c1) (by decide +kernel) rfl rfl rfl (by decide +kernel)
set_option maxRecDepth 65536 in
theorem w_c15 : (Jvm.Cond.code ({ cls := "java/lang/String", name := "substring", desc := "(I)Ljava/lang/String;" } : Jvm.MethodName) jdk_42_method_91_code (2 : Nat) (Option.some (Jvm.ClassFile.FieldType.object "java/lang/String"))).before args0 about1 = true := code_word (m := ⟨7, 6⟩) (meth := k7m6) (c := k7c6) (by decide +kernel) rfl rfl rfl (by decide +kernel)
set_option maxRecDepth 65536 in
theorem w_c16 : (Jvm.Cond.code ({ cls := "java/lang/String", name := "substring", desc := "(II)Ljava/lang/String;" } : Jvm.MethodName) jdk_42_method_92_code (5 : Nat) (Option.some (Jvm.ClassFile.FieldType.object "java/lang/String"))).before args0 about1 = true := code_word (m := ⟨7, 7⟩) (meth := k7m7) (c := k7c7) (by decide +kernel) rfl rfl rfl (by decide +kernel)
set_option maxRecDepth 65536 in
theorem w_c17 : (Jvm.Cond.code ({ cls := "java/lang/String", name := "checkBoundsBeginEnd", desc := "(III)V" } : Jvm.MethodName) jdk_42_method_158_code (3 : Nat) (Option.none : Option Jvm.ClassFile.FieldType)).before args0 about1 = true := code_word (m := ⟨7, 13⟩) (meth := k7m13) (c := k7c13) (by decide +kernel) rfl rfl rfl (by decide +kernel)
set_option maxRecDepth 65536 in
theorem w_c18 : (Jvm.Cond.code ({ cls := "jdk/internal/util/Preconditions", name := "checkFromToIndex", desc := "(IIILjava/util/function/BiFunction;)I" } : Jvm.MethodName) jdk_41_method_12_code (4 : Nat) (Option.some Jvm.ClassFile.FieldType.int)).before args0 about1 = true := code_word (m := ⟨12, 2⟩) (meth := k12m2) (c := k12c2) (by decide +kernel) rfl rfl rfl (by decide +kernel)
set_option maxRecDepth 65536 in
theorem w_c19 : (Jvm.Cond.code ({ cls := "java/lang/StringUTF16", name := "compress", desc := "([CII)[B" } : Jvm.MethodName) jdk_52_method_16_code (6 : Nat) (Option.some (Jvm.ClassFile.FieldType.array Jvm.ClassFile.FieldType.byte))).before args0 about1 = true := code_word (m := ⟨13, 2⟩) (meth := k13m2) (c := k13c2) (by decide +kernel) rfl rfl rfl (by decide +kernel)
set_option maxRecDepth 65536 in
theorem w_c20 : (Jvm.Cond.code ({ cls := "java/lang/StringUTF16", name := "compress", desc := "([CI[BII)I" } : Jvm.MethodName) jdk_52_method_21_code (7 : Nat) (Option.some Jvm.ClassFile.FieldType.int)).before args0 about1 = true := code_word (m := ⟨13, 3⟩) (meth := k13m3) (c := k13c3) (by decide +kernel) rfl rfl rfl (by decide +kernel)
set_option maxRecDepth 65536 in
theorem w_c21 : (Jvm.Cond.code ({ cls := "java/lang/StringUTF16", name := "coderFromArrayLen", desc := "([BI)B" } : Jvm.MethodName) jdk_52_method_15_code (2 : Nat) (Option.some Jvm.ClassFile.FieldType.byte)).before args0 about1 = true := code_word (m := ⟨13, 1⟩) (meth := k13m1) (c := k13c1) (by decide +kernel) rfl rfl rfl (by decide +kernel)
set_option maxRecDepth 65536 in
theorem w_c22 : (Jvm.Cond.code ({ cls := "java/lang/StringLatin1", name := "newString", desc := "([BII)Ljava/lang/String;" } : Jvm.MethodName) jdk_43_method_47_code (3 : Nat) (Option.some (Jvm.ClassFile.FieldType.object "java/lang/String"))).before args0 about1 = true := code_word (m := ⟨10, 4⟩) (meth := k10m4) (c := k10c4) (by decide +kernel) rfl rfl rfl (by decide +kernel)
set_option maxRecDepth 65536 in
theorem w_c23 : (Jvm.Cond.code ({ cls := "java/util/Arrays", name := "copyOfRange", desc := "([BII)[B" } : Jvm.MethodName) jdk_65_method_132_code (3 : Nat) (Option.some (Jvm.ClassFile.FieldType.array Jvm.ClassFile.FieldType.byte))).before args0 about1 = true := code_word (m := ⟨14, 2⟩) (meth := k14m2) (c := k14c2) (by decide +kernel) rfl rfl rfl (by decide +kernel)
set_option maxRecDepth 65536 in
theorem w_c24 : (Jvm.Cond.code ({ cls := "java/util/Arrays", name := "copyOfRangeByte", desc := "([BII)[B" } : Jvm.MethodName) jdk_65_method_133_code (5 : Nat) (Option.some (Jvm.ClassFile.FieldType.array Jvm.ClassFile.FieldType.byte))).before args0 about1 = true := code_word (m := ⟨14, 3⟩) (meth := k14m3) (c := k14c3) (by decide +kernel) rfl rfl rfl (by decide +kernel)
set_option maxRecDepth 65536 in
theorem w_c25 : (Jvm.Cond.code ({ cls := "java/util/Arrays", name := "checkLength", desc := "(II)V" } : Jvm.MethodName) jdk_65_method_131_code (2 : Nat) (Option.none : Option Jvm.ClassFile.FieldType)).before args0 about1 = true := code_word (m := ⟨14, 1⟩) (meth := k14m1) (c := k14c1) (by decide +kernel) rfl rfl rfl (by decide +kernel)
set_option maxRecDepth 65536 in
theorem w_c26 : (Jvm.Cond.code ({ cls := "java/lang/String", name := "<init>", desc := "([BB)V" } : Jvm.MethodName) jdk_42_method_151_code (3 : Nat) (Option.none : Option Jvm.ClassFile.FieldType)).before args0 about1 = true := code_word (m := ⟨7, 9⟩) (meth := k7m9) (c := k7c9) (by decide +kernel) rfl rfl rfl (by decide +kernel)
set_option maxRecDepth 65536 in
theorem w_c27 : (Jvm.Cond.code ({ cls := "java/lang/String", name := "charAt", desc := "(I)C" } : Jvm.MethodName) jdk_42_method_56_code (2 : Nat) (Option.some Jvm.ClassFile.FieldType.char)).before args0 about1 = true := code_word (m := ⟨7, 3⟩) (meth := k7m3) (c := k7c3) (by decide +kernel) rfl rfl rfl (by decide +kernel)
set_option maxRecDepth 65536 in
theorem w_c28 : (Jvm.Cond.code ({ cls := "java/lang/StringLatin1", name := "charAt", desc := "([BI)C" } : Jvm.MethodName) jdk_43_method_2_code (2 : Nat) (Option.some Jvm.ClassFile.FieldType.char)).before args0 about1 = true := code_word (m := ⟨10, 1⟩) (meth := k10m1) (c := k10c1) (by decide +kernel) rfl rfl rfl (by decide +kernel)
set_option maxRecDepth 65536 in
theorem w_c29 : (Jvm.Cond.code ({ cls := "java/lang/String", name := "checkIndex", desc := "(II)V" } : Jvm.MethodName) jdk_42_method_155_code (2 : Nat) (Option.none : Option Jvm.ClassFile.FieldType)).before args0 about1 = true := code_word (m := ⟨7, 12⟩) (meth := k7m12) (c := k7c12) (by decide +kernel) rfl rfl rfl (by decide +kernel)
set_option maxRecDepth 65536 in
theorem w_c30 : (Jvm.Cond.code ({ cls := "jdk/internal/util/Preconditions", name := "checkIndex", desc := "(IILjava/util/function/BiFunction;)I" } : Jvm.MethodName) jdk_41_method_11_code (3 : Nat) (Option.some Jvm.ClassFile.FieldType.int)).before args0 about1 = true := code_word (m := ⟨12, 1⟩) (meth := k12m1) (c := k12c1) (by decide +kernel) rfl rfl rfl (by decide +kernel)
set_option maxRecDepth 65536 in
theorem w_c31 : (Jvm.Cond.code ({ cls := "com/example/guildhall/guildhall/FqanNameOfPinLaw", name := "pick", desc := "(ICCCC)C" } : Jvm.MethodName) method_4_code (5 : Nat) (Option.some Jvm.ClassFile.FieldType.char)).before args0 about1 = true := code_word (m := ⟨1, 3⟩) (meth := k1m3) (c := k1c3) (by decide +kernel) rfl rfl rfl (by decide +kernel)
def codes1 : List Jvm.Cond := [Jvm.Cond.code x code maxLocals ret, Jvm.Cond.code ({ cls := "com/example/guildhall/guildhall/FqanNameOfPinLaw", name := "ch", desc := "(I)C" } : Jvm.MethodName) method_2_code (1 : Nat) (Option.some Jvm.ClassFile.FieldType.char), Jvm.Cond.code ({ cls := "com/example/guildhall/guildhall/FqanNameOfPinLaw", name := "make", desc := "(ICCCC)Ljava/lang/String;" } : Jvm.MethodName) method_3_code (5 : Nat) (Option.some (Jvm.ClassFile.FieldType.object "java/lang/String")), Jvm.Cond.code ({ cls := "java/lang/String", name := "<init>", desc := "([C)V" } : Jvm.MethodName) jdk_42_method_3_code (2 : Nat) (Option.none : Option Jvm.ClassFile.FieldType), Jvm.Cond.code ({ cls := "java/lang/String", name := "<init>", desc := "([CIILjava/lang/Void;)V" } : Jvm.MethodName) jdk_42_method_149_code (6 : Nat) (Option.none : Option Jvm.ClassFile.FieldType), Jvm.Cond.code ({ cls := "java/lang/Object", name := "<init>", desc := "()V" } : Jvm.MethodName) object_method_1_code (1 : Nat) (Option.none : Option Jvm.ClassFile.FieldType), Jvm.Cond.code ({ cls := "com/example/guildhall/guildhall/Fqan", name := "nameOf", desc := "(Ljava/lang/String;)Ljava/lang/String;" } : Jvm.MethodName) prog_18_method_7_code (1 : Nat) (Option.some (Jvm.ClassFile.FieldType.object "java/lang/String")), Jvm.Cond.code ({ cls := "java/lang/String", name := "lastIndexOf", desc := "(I)I" } : Jvm.MethodName) jdk_42_method_82_code (2 : Nat) (Option.some Jvm.ClassFile.FieldType.int), Jvm.Cond.code ({ cls := "java/lang/String", name := "length", desc := "()I" } : Jvm.MethodName) jdk_42_method_54_code (1 : Nat) (Option.some Jvm.ClassFile.FieldType.int), Jvm.Cond.code ({ cls := "java/lang/String", name := "coder", desc := "()B" } : Jvm.MethodName) jdk_42_method_152_code (1 : Nat) (Option.some Jvm.ClassFile.FieldType.byte), Jvm.Cond.code ({ cls := "java/lang/String", name := "lastIndexOf", desc := "(II)I" } : Jvm.MethodName) jdk_42_method_83_code (3 : Nat) (Option.some Jvm.ClassFile.FieldType.int), Jvm.Cond.code ({ cls := "java/lang/String", name := "isLatin1", desc := "()Z" } : Jvm.MethodName) jdk_42_method_154_code (1 : Nat) (Option.some Jvm.ClassFile.FieldType.boolean), Jvm.Cond.code ({ cls := "java/lang/StringLatin1", name := "lastIndexOf", desc := "([BII)I" } : Jvm.MethodName) jdk_43_method_27_code (4 : Nat) (Option.some Jvm.ClassFile.FieldType.int), Jvm.Cond.code ({ cls := "java/lang/StringLatin1", name := "canEncode", desc := "(I)Z" } : Jvm.MethodName) jdk_43_method_4_code (1 : Nat) (Option.some Jvm.ClassFile.FieldType.boolean), Jvm.Cond.code ({ cls := "java/lang/Math", name := "min", desc := "(II)I" } : Jvm.MethodName) jdk_29_method_69_code (2 : Nat) (Option.some Jvm.ClassFile.FieldType.int), Jvm.Cond.code ({ cls := "java/lang/String", name := "substring", desc := "(I)Ljava/lang/String;" } : Jvm.MethodName) jdk_42_method_91_code (2 : Nat) (Option.some (Jvm.ClassFile.FieldType.object "java/lang/String")), Jvm.Cond.code ({ cls := "java/lang/String", name := "substring", desc := "(II)Ljava/lang/String;" } : Jvm.MethodName) jdk_42_method_92_code (5 : Nat) (Option.some (Jvm.ClassFile.FieldType.object "java/lang/String")), Jvm.Cond.code ({ cls := "java/lang/String", name := "checkBoundsBeginEnd", desc := "(III)V" } : Jvm.MethodName) jdk_42_method_158_code (3 : Nat) (Option.none : Option Jvm.ClassFile.FieldType), Jvm.Cond.code ({ cls := "jdk/internal/util/Preconditions", name := "checkFromToIndex", desc := "(IIILjava/util/function/BiFunction;)I" } : Jvm.MethodName) jdk_41_method_12_code (4 : Nat) (Option.some Jvm.ClassFile.FieldType.int), Jvm.Cond.code ({ cls := "java/lang/StringUTF16", name := "compress", desc := "([CII)[B" } : Jvm.MethodName) jdk_52_method_16_code (6 : Nat) (Option.some (Jvm.ClassFile.FieldType.array Jvm.ClassFile.FieldType.byte)), Jvm.Cond.code ({ cls := "java/lang/StringUTF16", name := "compress", desc := "([CI[BII)I" } : Jvm.MethodName) jdk_52_method_21_code (7 : Nat) (Option.some Jvm.ClassFile.FieldType.int), Jvm.Cond.code ({ cls := "java/lang/StringUTF16", name := "coderFromArrayLen", desc := "([BI)B" } : Jvm.MethodName) jdk_52_method_15_code (2 : Nat) (Option.some Jvm.ClassFile.FieldType.byte), Jvm.Cond.code ({ cls := "java/lang/StringLatin1", name := "newString", desc := "([BII)Ljava/lang/String;" } : Jvm.MethodName) jdk_43_method_47_code (3 : Nat) (Option.some (Jvm.ClassFile.FieldType.object "java/lang/String")), Jvm.Cond.code ({ cls := "java/util/Arrays", name := "copyOfRange", desc := "([BII)[B" } : Jvm.MethodName) jdk_65_method_132_code (3 : Nat) (Option.some (Jvm.ClassFile.FieldType.array Jvm.ClassFile.FieldType.byte)), Jvm.Cond.code ({ cls := "java/util/Arrays", name := "copyOfRangeByte", desc := "([BII)[B" } : Jvm.MethodName) jdk_65_method_133_code (5 : Nat) (Option.some (Jvm.ClassFile.FieldType.array Jvm.ClassFile.FieldType.byte)), Jvm.Cond.code ({ cls := "java/util/Arrays", name := "checkLength", desc := "(II)V" } : Jvm.MethodName) jdk_65_method_131_code (2 : Nat) (Option.none : Option Jvm.ClassFile.FieldType), Jvm.Cond.code ({ cls := "java/lang/String", name := "<init>", desc := "([BB)V" } : Jvm.MethodName) jdk_42_method_151_code (3 : Nat) (Option.none : Option Jvm.ClassFile.FieldType), Jvm.Cond.code ({ cls := "java/lang/String", name := "charAt", desc := "(I)C" } : Jvm.MethodName) jdk_42_method_56_code (2 : Nat) (Option.some Jvm.ClassFile.FieldType.char), Jvm.Cond.code ({ cls := "java/lang/StringLatin1", name := "charAt", desc := "([BI)C" } : Jvm.MethodName) jdk_43_method_2_code (2 : Nat) (Option.some Jvm.ClassFile.FieldType.char), Jvm.Cond.code ({ cls := "java/lang/String", name := "checkIndex", desc := "(II)V" } : Jvm.MethodName) jdk_42_method_155_code (2 : Nat) (Option.none : Option Jvm.ClassFile.FieldType), Jvm.Cond.code ({ cls := "jdk/internal/util/Preconditions", name := "checkIndex", desc := "(IILjava/util/function/BiFunction;)I" } : Jvm.MethodName) jdk_41_method_11_code (3 : Nat) (Option.some Jvm.ClassFile.FieldType.int), Jvm.Cond.code ({ cls := "com/example/guildhall/guildhall/FqanNameOfPinLaw", name := "pick", desc := "(ICCCC)C" } : Jvm.MethodName) method_4_code (5 : Nat) (Option.some Jvm.ClassFile.FieldType.char)]
set_option maxRecDepth 65536 in
theorem codes_eq : words1.filter isCode = codes1 := rfl
theorem w_codes : ∀ c ∈ words1.filter isCode, c.before args0 about1 = true := by
  rw [codes_eq]
  intro c hc
  simp only [codes1, List.mem_cons, List.not_mem_nil, or_false] at hc
  rcases hc with rfl | rfl | rfl | rfl | rfl | rfl | rfl | rfl | rfl | rfl | rfl | rfl | rfl | rfl | rfl | rfl | rfl | rfl | rfl | rfl | rfl | rfl | rfl | rfl | rfl | rfl | rfl | rfl | rfl | rfl | rfl | rfl
  · exact w_c0
  · exact w_c1
  · exact w_c2
  · exact w_c3
  · exact w_c4
  · exact w_c5
  · exact w_c6
  · exact w_c7
  · exact w_c8
  · exact w_c9
  · exact w_c10
  · exact w_c11
  · exact w_c12
  · exact w_c13
  · exact w_c14
  · exact w_c15
  · exact w_c16
  · exact w_c17
  · exact w_c18
  · exact w_c19
  · exact w_c20
  · exact w_c21
  · exact w_c22
  · exact w_c23
  · exact w_c24
  · exact w_c25
  · exact w_c26
  · exact w_c27
  · exact w_c28
  · exact w_c29
  · exact w_c30
  · exact w_c31
set_option maxRecDepth 65536 in
theorem w_t1 : (words1.take 24).all (fun c => isCode c || c.before args0 about1) = true := by decide +kernel
set_option maxRecDepth 65536 in
theorem w_t2 : ((words1.drop 24).take 24).all (fun c => isCode c || c.before args0 about1) = true := by decide +kernel
set_option maxRecDepth 65536 in
theorem w_t3 : (((words1.drop 24).drop 24).take 24).all (fun c => isCode c || c.before args0 about1) = true := by decide +kernel
set_option maxRecDepth 65536 in
theorem w_t4 : ((((words1.drop 24).drop 24).drop 24).take 24).all (fun c => isCode c || c.before args0 about1) = true := by decide +kernel
set_option maxRecDepth 65536 in
theorem w_t5 : (((((words1.drop 24).drop 24).drop 24).drop 24).take 24).all (fun c => isCode c || c.before args0 about1) = true := by decide +kernel
set_option maxRecDepth 65536 in
theorem w_t6 : (((((words1.drop 24).drop 24).drop 24).drop 24).drop 24).all (fun c => isCode c || c.before args0 about1) = true := by decide +kernel
theorem w_tables : (allAtoms (Jvm.Cond.code x code maxLocals ret :: tables_1)).before args0 about1 = true := by
  rw [allAtoms_all]
  show words1.all (fun c => c.before args0 about1) = true
  refine all_split ?_ w_codes
  rw [← List.take_append_drop 24 words1, List.all_append, w_t1, ← List.take_append_drop 24 (words1.drop 24), List.all_append, w_t2, ← List.take_append_drop 24 ((words1.drop 24).drop 24), List.all_append, w_t3, ← List.take_append_drop 24 (((words1.drop 24).drop 24).drop 24), List.all_append, w_t4, ← List.take_append_drop 24 ((((words1.drop 24).drop 24).drop 24).drop 24), List.all_append, w_t5, w_t6]
  rfl
set_option maxRecDepth 65536 in
theorem w_rest : rest_1_c.before args0 about1 = true := by decide +kernel
set_option maxRecDepth 65536 in
theorem w_case : (Jvm.Cond.and given_1 narrow_1).before args0 about1 = true := by decide +kernel
set_option maxRecDepth 65536 in
theorem w_consts : constsHeld consts_1 about1 := Jvm.Lit.constsHeldB_iff.mp (by decide +kernel)
theorem w_applies : (headSpec (Jvm.Cond.code x code maxLocals ret :: tables_1) room_1).applies x e0.platform about1 = true :=
  (Spec.applies_iff w_frames).mpr ⟨w_running, w_runnable, w_alone, w_named, w_hears, w_ripe, w_room, w_tables⟩
theorem atStart : AtStart classFile x code maxLocals ret World_1 tables_1 room_1 Calls_1 rest_1 Pre_1 launch0 p0 e0 about1 theMethod args0 below0 :=
  ⟨lists_1, trivial, launch0.admits_env _ _ _, launch0.least_env, fairChoices_fair.cas, fairChoices_fair.clock, w_frames, w_args, w_heap, w_applies, ⟨w_consts, trivial⟩, w_rest, w_case⟩
end start1
theorem witness_1 : WitnessClaimed_1 := ⟨start1.p0, start1.e0, start1.about1, start1.theMethod, start1.args0, start1.below0, start1.atStart⟩
end Jvm.Pilot.@@N@@
