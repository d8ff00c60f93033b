import JvmDerived
import JvmDerived.Pilot.@@N@@Statement
import JvmDerived.Pilot.@@N@@Code
set_option linter.unusedVariables false
set_option linter.unusedSimpArgs false
namespace Jvm.OwnKit
open Sem ClassFile Op Lib Jvm.Stand Jvm.Free Jvm.LawKit Jvm.RoadKit
def Go (tb : Tables) (e : Env) (below : List Frame) (P : State → Outcome → Prop) (S : State) : Prop :=
  ∃ s₂ o, Steps tb e below S s₂ ∧ s₂.status = .running ∧ Ended s₂ below o ∧ P s₂ o
theorem go {tb : Tables} {e : Env} {below : List Frame} {P : State → Outcome → Prop} {S S' : State} (h : ∀ t, Steps tb e below S' t → Steps tb e below S t) (k : Go tb e below P S') : Go tb e below P S := by
  obtain ⟨s₂, o, h1, h2⟩ := k
  exact ⟨s₂, o, h _ h1, h2⟩
theorem goT {tb : Tables} {e : Env} {below : List Frame} {P : State → Outcome → Prop} {S S' : State} (h : Steps tb e below S S') (k : Go tb e below P S') : Go tb e below P S := go (fun _ q => h.trans q) k
def Done (s : State) (Q : Option Value → Heap → List Loc → Prop) (k n : Nat) (t : State) (o : Outcome) : Prop := ∃ v L, o = .returned v ∧ Q v t.heap L ∧ FrameEnd s o t L k n
/-- a body's contract: called with just these arguments, over this heap -/
def Con (l : Launch) (Z : State) (y : MethodName) (bytes : ByteArray) (maxL : Nat) (rt : Option FieldType) (ws : List Jvm.Cond) (rm : Room) (as' : Array Value) (h : Heap) (k n : Nat) (Q : Option Value → Heap → List Loc → Prop) : Prop :=
  MetFree l y (head1 (Jvm.Cond.code y bytes maxL rt :: ws) rm) (fun a U => a = as' ∧ Z.Warmed39 U.vm ∧ U.heap = h) (fun _ _ _ _ _ => True) (fun _ U o U' => ∃ v L, o = .returned v ∧ Q v U'.heap L ∧ FrameEnd U o U' L k n)
theorem Con.of {l : Launch} {Z : State} {y : MethodName} {bytes : ByteArray} {maxL : Nat} {rt : Option FieldType} {ws : List Jvm.Cond} {rm : Room} {as' : Array Value} {h : Heap} {k n : Nat} {Q : Option Value → Heap → List Loc → Prop} (hp : plainName y.cls = true)
    (body : ∀ (p : Program) (e : Env) (s : State) (m : MethodId) (below : List Frame) (meth : Method) (c : Code) (s₁ : State), p.tables.exec = Jvm.exec → c.code = bytes → c.maxLocals = maxL → s.vm.findClass y.cls = some m.cls → meth.name = y.name → meth.sig.returnType = rt → meth.locks = false → Z.Warmed39 s.vm →
      Stand p l e rm s m as' below meth c s₁ [] 0 0 → s₁.heap = h → Go p.tables e below (Done s Q k n) (s₁.setTop (entryFrame m as' maxL))) : Con l Z y bytes maxL rt ws rm as' h k n Q := by
  refine MetFree.of_bodySF (plainFor_of_name hp) hisR ?_
  intro p e s m args below meth c s₁ Bd hml0 hP hK
  obtain ⟨rfl, hZ, hh⟩ := hP
  exact body p e s m below meth c s₁ Bd.exec Bd.bytes hml0 (findClass_of_methodNamed Bd.named) (name_of_methodNamed Bd.named Bd.method).1 Bd.returns Bd.notSynchronized hZ (Stand.of_body Bd) (by rw [← hh, Bd.state]; rfl)
section Steps1
variable {p : Program} {l : Launch} {e : Env} {R : Room} {s : State} {m : MethodId} {args : Array Value} {below : List Frame} {meth : Method} {c : Code} {T : State} {locs : List Loc} {cells slots : Nat} {P : State → Outcome → Prop} {pc q : Nat} {L L' : Array Slot} {S : List Value}
theorem goE {args' : Array Value} {n : Nat} (hq : entryFrame m args' n = mkF m 0 L []) (K : Go p.tables e below P (T.setTop (mkF m 0 L []))) : Go p.tables e below P (T.setTop (entryFrame m args' n)) := go (fun _ k => castTop hq k) K
theorem gIloadN (X : Stand p l e R s m args below meth c T locs cells slots) (hx : p.tables.exec = Jvm.exec) {k : Fin 4} {v : Int32} (hd : decode c.code pc = .ok (.iload_n k, 1)) (hq : pc + 1 = q) (hl : L[k.val]? = some (.val (.int v))) (K : Go p.tables e below P (T.setTop (mkF m q L (.int v :: S)))) : Go p.tables e below P (T.setTop (mkF m pc L (S))) := by subst hq; exact go (fun t k => XS.iloadN X.here hx rfl hd hl k) K
theorem gIload (X : Stand p l e R s m args below meth c T locs cells slots) (hx : p.tables.exec = Jvm.exec) {k : Nat} {v : Int32} (hd : decode c.code pc = .ok (.iload k, 2)) (hq : pc + 2 = q) (hl : L[k]? = some (.val (.int v))) (K : Go p.tables e below P (T.setTop (mkF m q L (.int v :: S)))) : Go p.tables e below P (T.setTop (mkF m pc L (S))) := by subst hq; exact go (fun t k => XS.iload X.here hx rfl hd hl k) K
theorem gLloadN (X : Stand p l e R s m args below meth c T locs cells slots) (hx : p.tables.exec = Jvm.exec) {k : Fin 4} {v : Int64} (hd : decode c.code pc = .ok (.lload_n k, 1)) (hq : pc + 1 = q) (hl : L[k.val]? = some (.val (.long v))) (K : Go p.tables e below P (T.setTop (mkF m q L (.long v :: S)))) : Go p.tables e below P (T.setTop (mkF m pc L (S))) := by subst hq; exact go (fun t k => XT.lloadN X.here hx rfl hd hl k) K
theorem gLload (X : Stand p l e R s m args below meth c T locs cells slots) (hx : p.tables.exec = Jvm.exec) {k : Nat} {v : Int64} (hd : decode c.code pc = .ok (.lload k, 2)) (hq : pc + 2 = q) (hl : L[k]? = some (.val (.long v))) (K : Go p.tables e below P (T.setTop (mkF m q L (.long v :: S)))) : Go p.tables e below P (T.setTop (mkF m pc L (S))) := by subst hq; exact go (fun t k => XT.lload X.here hx rfl hd hl k) K
theorem gAloadN (X : Stand p l e R s m args below meth c T locs cells slots) (hx : p.tables.exec = Jvm.exec) {k : Fin 4} {v : Value} (hd : decode c.code pc = .ok (.aload_n k, 1)) (hq : pc + 1 = q) (hl : L[k.val]? = some (.val v)) (hv : v.isRef = true) (K : Go p.tables e below P (T.setTop (mkF m q L (v :: S)))) : Go p.tables e below P (T.setTop (mkF m pc L (S))) := by subst hq; exact go (fun t k => XS.aloadN X.here hx rfl hd hl hv k) K
theorem gAload (X : Stand p l e R s m args below meth c T locs cells slots) (hx : p.tables.exec = Jvm.exec) {k : Nat} {v : Value} (hd : decode c.code pc = .ok (.aload k, 2)) (hq : pc + 2 = q) (hl : L[k]? = some (.val v)) (hv : v.isRef = true) (K : Go p.tables e below P (T.setTop (mkF m q L (v :: S)))) : Go p.tables e below P (T.setTop (mkF m pc L (S))) := by subst hq; exact go (fun t k => XS.aload X.here hx rfl hd hl hv k) K
theorem gIconst (X : Stand p l e R s m args below meth c T locs cells slots) (hx : p.tables.exec = Jvm.exec) {i : Int} (v : Int32) (hd : decode c.code pc = .ok (.iconst i, 1)) (hq : pc + 1 = q) (hv : Int32.ofInt i = v) (K : Go p.tables e below P (T.setTop (mkF m q L (.int v :: S)))) : Go p.tables e below P (T.setTop (mkF m pc L (S))) := by subst hq; exact go (fun t k => XT.iconstV X.here hx rfl v hd hv k) K
theorem gBipush (X : Stand p l e R s m args below meth c T locs cells slots) (hx : p.tables.exec = Jvm.exec) {i : Int} (v : Int32) (hd : decode c.code pc = .ok (.bipush i, 2)) (hq : pc + 2 = q) (hv : (Int8.ofInt i).toInt32 = v) (K : Go p.tables e below P (T.setTop (mkF m q L (.int v :: S)))) : Go p.tables e below P (T.setTop (mkF m pc L (S))) := by subst hq; exact go (fun t k => XT.bipushV X.here hx rfl v hd hv k) K
theorem gSipush (X : Stand p l e R s m args below meth c T locs cells slots) (hx : p.tables.exec = Jvm.exec) {i : Int} (v : Int32) (hd : decode c.code pc = .ok (.sipush i, 3)) (hq : pc + 3 = q) (hv : (Int16.ofInt i).toInt32 = v) (K : Go p.tables e below P (T.setTop (mkF m q L (.int v :: S)))) : Go p.tables e below P (T.setTop (mkF m pc L (S))) := by subst hq; exact go (fun t k => XT.sipushV X.here hx rfl v hd hv k) K
theorem gLconst (X : Stand p l e R s m args below meth c T locs cells slots) (hx : p.tables.exec = Jvm.exec) {k : Fin 2} (v : Int64) (hd : decode c.code pc = .ok (.lconst k, 1)) (hq : pc + 1 = q) (hv : Int64.ofNat k = v) (K : Go p.tables e below P (T.setTop (mkF m q L (.long v :: S)))) : Go p.tables e below P (T.setTop (mkF m pc L (S))) := by subst hq; exact go (fun t k => XT.lconstV X.here hx rfl v hd hv k) K
theorem gNull (X : Stand p l e R s m args below meth c T locs cells slots) (hx : p.tables.exec = Jvm.exec)  (hd : decode c.code pc = .ok (.aconst_null, 1)) (hq : pc + 1 = q)  (K : Go p.tables e below P (T.setTop (mkF m q L (.null :: S)))) : Go p.tables e below P (T.setTop (mkF m pc L (S))) := by subst hq; exact go (fun t k => XS.aconstNull X.here hx rfl hd  k) K
theorem gLdc (X : Stand p l e R s m args below meth c T locs cells slots) (hx : p.tables.exec = Jvm.exec) {Z : State} {a0 : Array Value} (hZ : Z.Warmed39 s.vm) {own : String} {i : Nat} {v : Int32} (hown : s.vm.findClass own = some m.cls) (w : (Jvm.Cond.constant own i v).before a0 Z = true) (hd : decode c.code pc = .ok (.ldc i, 2)) (hq : pc + 2 = q) (K : Go p.tables e below P (T.setTop (mkF m q L (.int v :: S)))) : Go p.tables e below P (T.setTop (mkF m pc L (S))) := by subst hq; exact go (fun t k => Stand.ldcI X hx hown (mvT hZ w) rfl hd k) K
theorem gLdcW (X : Stand p l e R s m args below meth c T locs cells slots) (hx : p.tables.exec = Jvm.exec) {Z : State} {a0 : Array Value} (hZ : Z.Warmed39 s.vm) {own : String} {i : Nat} {v : Int32} (hown : s.vm.findClass own = some m.cls) (w : (Jvm.Cond.constant own i v).before a0 Z = true) (hd : decode c.code pc = .ok (.ldc_w i, 3)) (hq : pc + 3 = q) (K : Go p.tables e below P (T.setTop (mkF m q L (.int v :: S)))) : Go p.tables e below P (T.setTop (mkF m pc L (S))) := by subst hq; exact go (fun t k => Stand.ldcWI X hx hown (mvT hZ w) rfl hd k) K
theorem gLdc2 (X : Stand p l e R s m args below meth c T locs cells slots) (hx : p.tables.exec = Jvm.exec) {Z : State} {a0 : Array Value} (hZ : Z.Warmed39 s.vm) {own : String} {i : Nat} {v : Int64} (hown : s.vm.findClass own = some m.cls) (w : (Jvm.Cond.constantLong own i v).before a0 Z = true) (hd : decode c.code pc = .ok (.ldc2_w i, 3)) (hq : pc + 3 = q) (K : Go p.tables e below P (T.setTop (mkF m q L (.long v :: S)))) : Go p.tables e below P (T.setTop (mkF m pc L (S))) := by subst hq; exact go (fun t k => Stand.ldc2J X hx hown (mvT hZ w) rfl hd k) K
theorem gIadd (X : Stand p l e R s m args below meth c T locs cells slots) (hx : p.tables.exec = Jvm.exec) {x y : Int32} (hd : decode c.code pc = .ok (.iadd, 1)) (hq : pc + 1 = q)  (K : Go p.tables e below P (T.setTop (mkF m q L (.int (x + y) :: S)))) : Go p.tables e below P (T.setTop (mkF m pc L (.int y :: .int x :: S))) := by subst hq; exact go (fun t k => XS.iadd X.here hx rfl hd rfl  k) K
theorem gIsub (X : Stand p l e R s m args below meth c T locs cells slots) (hx : p.tables.exec = Jvm.exec) {x y : Int32} (hd : decode c.code pc = .ok (.isub, 1)) (hq : pc + 1 = q)  (K : Go p.tables e below P (T.setTop (mkF m q L (.int (x - y) :: S)))) : Go p.tables e below P (T.setTop (mkF m pc L (.int y :: .int x :: S))) := by subst hq; exact go (fun t k => XS.isub X.here hx rfl hd rfl  k) K
theorem gIand (X : Stand p l e R s m args below meth c T locs cells slots) (hx : p.tables.exec = Jvm.exec) {x y : Int32} (hd : decode c.code pc = .ok (.iand, 1)) (hq : pc + 1 = q)  (K : Go p.tables e below P (T.setTop (mkF m q L (.int (x &&& y) :: S)))) : Go p.tables e below P (T.setTop (mkF m pc L (.int y :: .int x :: S))) := by subst hq; exact go (fun t k => XS.iand X.here hx rfl hd rfl  k) K
theorem gImul (X : Stand p l e R s m args below meth c T locs cells slots) (hx : p.tables.exec = Jvm.exec) {x y : Int32} (hd : decode c.code pc = .ok (.imul, 1)) (hq : pc + 1 = q)  (K : Go p.tables e below P (T.setTop (mkF m q L (.int (x * y) :: S)))) : Go p.tables e below P (T.setTop (mkF m pc L (.int y :: .int x :: S))) := by subst hq; exact go (fun t k => XS.imul X.here hx rfl hd rfl  k) K
theorem gIxor (X : Stand p l e R s m args below meth c T locs cells slots) (hx : p.tables.exec = Jvm.exec) {x y : Int32} (hd : decode c.code pc = .ok (.ixor, 1)) (hq : pc + 1 = q)  (K : Go p.tables e below P (T.setTop (mkF m q L (.int (x ^^^ y) :: S)))) : Go p.tables e below P (T.setTop (mkF m pc L (.int y :: .int x :: S))) := by subst hq; exact go (fun t k => XT.ixor X.here hx rfl hd rfl  k) K
theorem gIor (X : Stand p l e R s m args below meth c T locs cells slots) (hx : p.tables.exec = Jvm.exec) {x y : Int32} (hd : decode c.code pc = .ok (.ior, 1)) (hq : pc + 1 = q)  (K : Go p.tables e below P (T.setTop (mkF m q L (.int (x ||| y) :: S)))) : Go p.tables e below P (T.setTop (mkF m pc L (.int y :: .int x :: S))) := by subst hq; exact go (fun t k => XT.ior X.here hx rfl hd rfl  k) K
theorem gIshl (X : Stand p l e R s m args below meth c T locs cells slots) (hx : p.tables.exec = Jvm.exec) {x y : Int32} (hd : decode c.code pc = .ok (.ishl, 1)) (hq : pc + 1 = q)  (K : Go p.tables e below P (T.setTop (mkF m q L (.int (x <<< (y &&& 31)) :: S)))) : Go p.tables e below P (T.setTop (mkF m pc L (.int y :: .int x :: S))) := by subst hq; exact go (fun t k => XT.ishl X.here hx rfl hd rfl  k) K
theorem gIshr (X : Stand p l e R s m args below meth c T locs cells slots) (hx : p.tables.exec = Jvm.exec) {x y : Int32} (hd : decode c.code pc = .ok (.ishr, 1)) (hq : pc + 1 = q)  (K : Go p.tables e below P (T.setTop (mkF m q L (.int (x >>> (y &&& 31)) :: S)))) : Go p.tables e below P (T.setTop (mkF m pc L (.int y :: .int x :: S))) := by subst hq; exact go (fun t k => XT.ishr X.here hx rfl hd rfl  k) K
theorem gIushr (X : Stand p l e R s m args below meth c T locs cells slots) (hx : p.tables.exec = Jvm.exec) {x y : Int32} (hd : decode c.code pc = .ok (.iushr, 1)) (hq : pc + 1 = q)  (K : Go p.tables e below P (T.setTop (mkF m q L (.int (XT.ushr x y) :: S)))) : Go p.tables e below P (T.setTop (mkF m pc L (.int y :: .int x :: S))) := by subst hq; exact go (fun t k => XT.iushr X.here hx rfl hd rfl  k) K
theorem gIdiv (X : Stand p l e R s m args below meth c T locs cells slots) (hx : p.tables.exec = Jvm.exec) {x y : Int32} (hd : decode c.code pc = .ok (.idiv, 1)) (hq : pc + 1 = q) (hy : y ≠ 0) (K : Go p.tables e below P (T.setTop (mkF m q L (.int (x / y) :: S)))) : Go p.tables e below P (T.setTop (mkF m pc L (.int y :: .int x :: S))) := by subst hq; exact go (fun t k => XS.idiv X.here hx rfl hd rfl hy k) K
theorem gIrem (X : Stand p l e R s m args below meth c T locs cells slots) (hx : p.tables.exec = Jvm.exec) {x y : Int32} (hd : decode c.code pc = .ok (.irem, 1)) (hq : pc + 1 = q) (hy : y ≠ 0) (K : Go p.tables e below P (T.setTop (mkF m q L (.int (x % y) :: S)))) : Go p.tables e below P (T.setTop (mkF m pc L (.int y :: .int x :: S))) := by subst hq; exact go (fun t k => iremM X hx rfl hd rfl hy k) K
theorem gIneg (X : Stand p l e R s m args below meth c T locs cells slots) (hx : p.tables.exec = Jvm.exec) {x : Int32} (hd : decode c.code pc = .ok (.ineg, 1)) (hq : pc + 1 = q)  (K : Go p.tables e below P (T.setTop (mkF m q L (.int (-x) :: S)))) : Go p.tables e below P (T.setTop (mkF m pc L (.int x :: S))) := by subst hq; exact go (fun t k => XS.ineg X.here hx rfl hd rfl  k) K
theorem gLadd (X : Stand p l e R s m args below meth c T locs cells slots) (hx : p.tables.exec = Jvm.exec) {x y : Int64} (hd : decode c.code pc = .ok (.ladd, 1)) (hq : pc + 1 = q)  (K : Go p.tables e below P (T.setTop (mkF m q L (.long (x + y) :: S)))) : Go p.tables e below P (T.setTop (mkF m pc L (.long y :: .long x :: S))) := by subst hq; exact go (fun t k => XT.ladd X.here hx rfl hd rfl  k) K
theorem gLsub (X : Stand p l e R s m args below meth c T locs cells slots) (hx : p.tables.exec = Jvm.exec) {x y : Int64} (hd : decode c.code pc = .ok (.lsub, 1)) (hq : pc + 1 = q)  (K : Go p.tables e below P (T.setTop (mkF m q L (.long (x - y) :: S)))) : Go p.tables e below P (T.setTop (mkF m pc L (.long y :: .long x :: S))) := by subst hq; exact go (fun t k => XT.lsub X.here hx rfl hd rfl  k) K
theorem gLmul (X : Stand p l e R s m args below meth c T locs cells slots) (hx : p.tables.exec = Jvm.exec) {x y : Int64} (hd : decode c.code pc = .ok (.lmul, 1)) (hq : pc + 1 = q)  (K : Go p.tables e below P (T.setTop (mkF m q L (.long (x * y) :: S)))) : Go p.tables e below P (T.setTop (mkF m pc L (.long y :: .long x :: S))) := by subst hq; exact go (fun t k => XT.lmul X.here hx rfl hd rfl  k) K
theorem gLand (X : Stand p l e R s m args below meth c T locs cells slots) (hx : p.tables.exec = Jvm.exec) {x y : Int64} (hd : decode c.code pc = .ok (.land, 1)) (hq : pc + 1 = q)  (K : Go p.tables e below P (T.setTop (mkF m q L (.long (x &&& y) :: S)))) : Go p.tables e below P (T.setTop (mkF m pc L (.long y :: .long x :: S))) := by subst hq; exact go (fun t k => XT.land X.here hx rfl hd rfl  k) K
theorem gLor (X : Stand p l e R s m args below meth c T locs cells slots) (hx : p.tables.exec = Jvm.exec) {x y : Int64} (hd : decode c.code pc = .ok (.lor, 1)) (hq : pc + 1 = q)  (K : Go p.tables e below P (T.setTop (mkF m q L (.long (x ||| y) :: S)))) : Go p.tables e below P (T.setTop (mkF m pc L (.long y :: .long x :: S))) := by subst hq; exact go (fun t k => XT.lor X.here hx rfl hd rfl  k) K
theorem gLxor (X : Stand p l e R s m args below meth c T locs cells slots) (hx : p.tables.exec = Jvm.exec) {x y : Int64} (hd : decode c.code pc = .ok (.lxor, 1)) (hq : pc + 1 = q)  (K : Go p.tables e below P (T.setTop (mkF m q L (.long (x ^^^ y) :: S)))) : Go p.tables e below P (T.setTop (mkF m pc L (.long y :: .long x :: S))) := by subst hq; exact go (fun t k => XT.lxor X.here hx rfl hd rfl  k) K
theorem gLcmp (X : Stand p l e R s m args below meth c T locs cells slots) (hx : p.tables.exec = Jvm.exec) {x y : Int64} (hd : decode c.code pc = .ok (.lcmp, 1)) (hq : pc + 1 = q)  (K : Go p.tables e below P (T.setTop (mkF m q L (.int (XT.cmpL x y) :: S)))) : Go p.tables e below P (T.setTop (mkF m pc L (.long y :: .long x :: S))) := by subst hq; exact go (fun t k => XT.lcmp X.here hx rfl hd rfl  k) K
theorem gLneg (X : Stand p l e R s m args below meth c T locs cells slots) (hx : p.tables.exec = Jvm.exec) {x : Int64} (hd : decode c.code pc = .ok (.lneg, 1)) (hq : pc + 1 = q)  (K : Go p.tables e below P (T.setTop (mkF m q L (.long (-x) :: S)))) : Go p.tables e below P (T.setTop (mkF m pc L (.long x :: S))) := by subst hq; exact go (fun t k => XT.lneg X.here hx rfl hd rfl  k) K
theorem gI2l (X : Stand p l e R s m args below meth c T locs cells slots) (hx : p.tables.exec = Jvm.exec) {x : Int32} (hd : decode c.code pc = .ok (.i2l, 1)) (hq : pc + 1 = q)  (K : Go p.tables e below P (T.setTop (mkF m q L (.long x.toInt64 :: S)))) : Go p.tables e below P (T.setTop (mkF m pc L (.int x :: S))) := by subst hq; exact go (fun t k => XT.i2l X.here hx rfl hd rfl  k) K
theorem gL2i (X : Stand p l e R s m args below meth c T locs cells slots) (hx : p.tables.exec = Jvm.exec) {x : Int64} (hd : decode c.code pc = .ok (.l2i, 1)) (hq : pc + 1 = q)  (K : Go p.tables e below P (T.setTop (mkF m q L (.int x.toInt32 :: S)))) : Go p.tables e below P (T.setTop (mkF m pc L (.long x :: S))) := by subst hq; exact go (fun t k => XT.l2i X.here hx rfl hd rfl  k) K
theorem gI2c (X : Stand p l e R s m args below meth c T locs cells slots) (hx : p.tables.exec = Jvm.exec) {x : Int32} (hd : decode c.code pc = .ok (.i2c, 1)) (hq : pc + 1 = q)  (K : Go p.tables e below P (T.setTop (mkF m q L (.int x.toUInt32.toUInt16.toUInt32.toInt32 :: S)))) : Go p.tables e below P (T.setTop (mkF m pc L (.int x :: S))) := by subst hq; exact go (fun t k => XT.i2c X.here hx rfl hd rfl  k) K
theorem gI2b (X : Stand p l e R s m args below meth c T locs cells slots) (hx : p.tables.exec = Jvm.exec) {x : Int32} (hd : decode c.code pc = .ok (.i2b, 1)) (hq : pc + 1 = q)  (K : Go p.tables e below P (T.setTop (mkF m q L (.int x.toInt8.toInt32 :: S)))) : Go p.tables e below P (T.setTop (mkF m pc L (.int x :: S))) := by subst hq; exact go (fun t k => XT.i2b X.here hx rfl hd rfl  k) K
theorem gLdiv (X : Stand p l e R s m args below meth c T locs cells slots) (hx : p.tables.exec = Jvm.exec) {x y : Int64} (hd : decode c.code pc = .ok (.ldiv, 1)) (hq : pc + 1 = q) (hy : y ≠ 0) (K : Go p.tables e below P (T.setTop (mkF m q L (.long (x / y) :: S)))) : Go p.tables e below P (T.setTop (mkF m pc L (.long y :: .long x :: S))) := by subst hq; exact go (fun t k => XT.ldiv X.here hx rfl hd rfl hy k) K
theorem gLshl (X : Stand p l e R s m args below meth c T locs cells slots) (hx : p.tables.exec = Jvm.exec) {x : Int64} {y : Int32} (hd : decode c.code pc = .ok (.lshl, 1)) (hq : pc + 1 = q)  (K : Go p.tables e below P (T.setTop (mkF m q L (.long (x <<< (y.toInt64 &&& 63)) :: S)))) : Go p.tables e below P (T.setTop (mkF m pc L (.int y :: .long x :: S))) := by subst hq; exact go (fun t k => XT.lshl X.here hx rfl hd rfl  k) K
theorem gLshr (X : Stand p l e R s m args below meth c T locs cells slots) (hx : p.tables.exec = Jvm.exec) {x : Int64} {y : Int32} (hd : decode c.code pc = .ok (.lshr, 1)) (hq : pc + 1 = q)  (K : Go p.tables e below P (T.setTop (mkF m q L (.long (x >>> (y.toInt64 &&& 63)) :: S)))) : Go p.tables e below P (T.setTop (mkF m pc L (.int y :: .long x :: S))) := by subst hq; exact go (fun t k => XT.lshr X.here hx rfl hd rfl  k) K
theorem gLushr (X : Stand p l e R s m args below meth c T locs cells slots) (hx : p.tables.exec = Jvm.exec) {x : Int64} {y : Int32} (hd : decode c.code pc = .ok (.lushr, 1)) (hq : pc + 1 = q)  (K : Go p.tables e below P (T.setTop (mkF m q L (.long (XT.ushrL x y) :: S)))) : Go p.tables e below P (T.setTop (mkF m pc L (.int y :: .long x :: S))) := by subst hq; exact go (fun t k => XT.lushr X.here hx rfl hd rfl  k) K
theorem gLrem (X : Stand p l e R s m args below meth c T locs cells slots) (hx : p.tables.exec = Jvm.exec) {x y : Int64} (hd : decode c.code pc = .ok (.lrem, 1)) (hq : pc + 1 = q) (hy : y ≠ 0) (K : Go p.tables e below P (T.setTop (mkF m q L (.long (x - (x / y) * y) :: S)))) : Go p.tables e below P (T.setTop (mkF m pc L (.long y :: .long x :: S))) := by subst hq; exact go (fun t k => XT.lrem X.here hx rfl hd rfl hy k) K
theorem gIstoreN (X : Stand p l e R s m args below meth c T locs cells slots) (hx : p.tables.exec = Jvm.exec) {k : Fin 4} {x : Int32} (hd : decode c.code pc = .ok (.istore_n k, 1)) (hq : pc + 1 = q) (hl : storeLocals L k.val (.int x) = some L') (K : Go p.tables e below P (T.setTop (mkF m q L' (S)))) : Go p.tables e below P (T.setTop (mkF m pc L (.int x :: S))) := by subst hq; exact go (fun t k => XS.istoreN X.here hx rfl hd rfl hl k) K
theorem gIstore (X : Stand p l e R s m args below meth c T locs cells slots) (hx : p.tables.exec = Jvm.exec) {k : Nat} {x : Int32} (hd : decode c.code pc = .ok (.istore k, 2)) (hq : pc + 2 = q) (hl : storeLocals L k (.int x) = some L') (K : Go p.tables e below P (T.setTop (mkF m q L' (S)))) : Go p.tables e below P (T.setTop (mkF m pc L (.int x :: S))) := by subst hq; exact go (fun t k => XS.istore X.here hx rfl hd rfl hl k) K
theorem gLstoreN (X : Stand p l e R s m args below meth c T locs cells slots) (hx : p.tables.exec = Jvm.exec) {k : Fin 4} {x : Int64} (hd : decode c.code pc = .ok (.lstore_n k, 1)) (hq : pc + 1 = q) (hl : storeLocals L k.val (.long x) = some L') (K : Go p.tables e below P (T.setTop (mkF m q L' (S)))) : Go p.tables e below P (T.setTop (mkF m pc L (.long x :: S))) := by subst hq; exact go (fun t k => XT.lstoreN X.here hx rfl hd rfl hl k) K
theorem gLstore (X : Stand p l e R s m args below meth c T locs cells slots) (hx : p.tables.exec = Jvm.exec) {k : Nat} {x : Int64} (hd : decode c.code pc = .ok (.lstore k, 2)) (hq : pc + 2 = q) (hl : storeLocals L k (.long x) = some L') (K : Go p.tables e below P (T.setTop (mkF m q L' (S)))) : Go p.tables e below P (T.setTop (mkF m pc L (.long x :: S))) := by subst hq; exact go (fun t k => XT.lstore X.here hx rfl hd rfl hl k) K
theorem gAstoreN (X : Stand p l e R s m args below meth c T locs cells slots) (hx : p.tables.exec = Jvm.exec) {k : Fin 4} {x : Value} (hd : decode c.code pc = .ok (.astore_n k, 1)) (hq : pc + 1 = q) (hv : x.isRef = true) (hl : storeLocals L k.val x = some L') (K : Go p.tables e below P (T.setTop (mkF m q L' (S)))) : Go p.tables e below P (T.setTop (mkF m pc L (x :: S))) := by subst hq; exact go (fun t k => XS.astoreN X.here hx rfl hd rfl hv hl k) K
theorem gAstore (X : Stand p l e R s m args below meth c T locs cells slots) (hx : p.tables.exec = Jvm.exec) {k : Nat} {x : Value} (hd : decode c.code pc = .ok (.astore k, 2)) (hq : pc + 2 = q) (hv : x.isRef = true) (hl : storeLocals L k x = some L') (K : Go p.tables e below P (T.setTop (mkF m q L' (S)))) : Go p.tables e below P (T.setTop (mkF m pc L (x :: S))) := by subst hq; exact go (fun t k => XS.astore X.here hx rfl hd rfl hv hl k) K
theorem gIinc (X : Stand p l e R s m args below meth c T locs cells slots) (hx : p.tables.exec = Jvm.exec) {k : Nat} {cst : Int} {x : Int32} (v : Int32) (hd : decode c.code pc = .ok (.iinc k cst, 3)) (hq : pc + 3 = q) (hv : Int32.ofInt cst = v) (hl : L[k]? = some (.val (.int x))) (hl' : storeLocals L k (.int (x + v)) = some L') (K : Go p.tables e below P (T.setTop (mkF m q L' (S)))) : Go p.tables e below P (T.setTop (mkF m pc L (S))) := by subst hq; exact go (fun t k => XT.iincV X.here hx rfl v hd hv hl hl' k) K
theorem gDup (X : Stand p l e R s m args below meth c T locs cells slots) (hx : p.tables.exec = Jvm.exec) {x : Value} (hd : decode c.code pc = .ok (.dup, 1)) (hq : pc + 1 = q) (hc : x.category = 1) (K : Go p.tables e below P (T.setTop (mkF m q L (x :: x :: S)))) : Go p.tables e below P (T.setTop (mkF m pc L (x :: S))) := by subst hq; exact go (fun t k => XS.dup X.here hx rfl hd rfl hc k) K
theorem gPop (X : Stand p l e R s m args below meth c T locs cells slots) (hx : p.tables.exec = Jvm.exec) {x : Value} (hd : decode c.code pc = .ok (.pop, 1)) (hq : pc + 1 = q) (hc : x.category = 1) (K : Go p.tables e below P (T.setTop (mkF m q L (S)))) : Go p.tables e below P (T.setTop (mkF m pc L (x :: S))) := by subst hq; exact go (fun t k => XT.pop X.here hx rfl hd rfl hc k) K
theorem gDupX1 (X : Stand p l e R s m args below meth c T locs cells slots) (hx : p.tables.exec = Jvm.exec) {x y : Value} (hd : decode c.code pc = .ok (.dup_x1, 1)) (hq : pc + 1 = q) (hc : x.category = 1) (hc' : y.category = 1) (K : Go p.tables e below P (T.setTop (mkF m q L (x :: y :: x :: S)))) : Go p.tables e below P (T.setTop (mkF m pc L (x :: y :: S))) := by subst hq; exact go (fun t k => XT.dupX1 X.here hx rfl hd rfl hc hc' k) K
theorem gDup2 (X : Stand p l e R s m args below meth c T locs cells slots) (hx : p.tables.exec = Jvm.exec) {x y : Value} (hd : decode c.code pc = .ok (.dup2, 1)) (hq : pc + 1 = q) (hc : x.category = 1) (hc' : y.category = 1) (K : Go p.tables e below P (T.setTop (mkF m q L (x :: y :: x :: y :: S)))) : Go p.tables e below P (T.setTop (mkF m pc L (x :: y :: S))) := by subst hq; exact go (fun t k => XT.dup2 X.here hx rfl hd rfl hc hc' k) K
theorem gDup2L (X : Stand p l e R s m args below meth c T locs cells slots) (hx : p.tables.exec = Jvm.exec) {x : Int64} (hd : decode c.code pc = .ok (.dup2, 1)) (hq : pc + 1 = q)  (K : Go p.tables e below P (T.setTop (mkF m q L (.long x :: .long x :: S)))) : Go p.tables e below P (T.setTop (mkF m pc L (.long x :: S))) := by subst hq; exact go (fun t k => XT.dup2L X.here hx rfl hd rfl  k) K
theorem gGoto (X : Stand p l e R s m args below meth c T locs cells slots) (hx : p.tables.exec = Jvm.exec) {o : Int} (hd : decode c.code pc = .ok (.goto o, 3)) (ho : 0 ≤ (pc : Int) + o) (hq : ((pc : Int) + o).toNat = q) (K : Go p.tables e below P (T.setTop (mkF m q L (S)))) : Go p.tables e below P (T.setTop (mkF m pc L (S))) := go (fun t k => XS.goto X.here hx rfl rfl hd ho hq k) K
theorem gIfY (X : Stand p l e R s m args below meth c T locs cells slots) (hx : p.tables.exec = Jvm.exec) {cd : ClassFile.Cond} {x : Int32} {o : Int} (hd : decode c.code pc = .ok (.ifCond cd o, 3)) (ho : 0 ≤ (pc : Int) + o) (hq : ((pc : Int) + o).toNat = q) (hc : ifCond.holds cd x = true) (K : Go p.tables e below P (T.setTop (mkF m q L (S)))) : Go p.tables e below P (T.setTop (mkF m pc L (.int x :: S))) := go (fun t k => XS.ifYes X.here hx rfl rfl hd rfl hc ho hq k) K
theorem gIfN (X : Stand p l e R s m args below meth c T locs cells slots) (hx : p.tables.exec = Jvm.exec) {cd : ClassFile.Cond} {x : Int32} {o : Int} (hd : decode c.code pc = .ok (.ifCond cd o, 3)) (hq : pc + 3 = q) (hc : ifCond.holds cd x = false) (K : Go p.tables e below P (T.setTop (mkF m q L (S)))) : Go p.tables e below P (T.setTop (mkF m pc L (.int x :: S))) := by subst hq; exact go (fun t k => XS.ifNo X.here hx rfl hd rfl hc k) K
theorem gIcmpY (X : Stand p l e R s m args below meth c T locs cells slots) (hx : p.tables.exec = Jvm.exec) {cd : ClassFile.Cond} {x y : Int32} {o : Int} (hd : decode c.code pc = .ok (.if_icmp cd o, 3)) (ho : 0 ≤ (pc : Int) + o) (hq : ((pc : Int) + o).toNat = q) (hc : if_icmp.holds cd x y = true) (K : Go p.tables e below P (T.setTop (mkF m q L (S)))) : Go p.tables e below P (T.setTop (mkF m pc L (.int y :: .int x :: S))) := go (fun t k => XS.icmpYes X.here hx rfl rfl hd rfl hc ho hq k) K
theorem gIcmpN (X : Stand p l e R s m args below meth c T locs cells slots) (hx : p.tables.exec = Jvm.exec) {cd : ClassFile.Cond} {x y : Int32} {o : Int} (hd : decode c.code pc = .ok (.if_icmp cd o, 3)) (hq : pc + 3 = q) (hc : if_icmp.holds cd x y = false) (K : Go p.tables e below P (T.setTop (mkF m q L (S)))) : Go p.tables e below P (T.setTop (mkF m pc L (.int y :: .int x :: S))) := by subst hq; exact go (fun t k => XS.icmpNo X.here hx rfl hd rfl hc k) K
theorem gAcmpY (X : Stand p l e R s m args below meth c T locs cells slots) (hx : p.tables.exec = Jvm.exec) {cd : ClassFile.ACond} {x y : Value} {o : Int} (hd : decode c.code pc = .ok (.if_acmp cd o, 3)) (ho : 0 ≤ (pc : Int) + o) (hq : ((pc : Int) + o).toNat = q) (h1 : x.isRef = true) (h2 : y.isRef = true) (hc : XT.acmp cd x y = true) (K : Go p.tables e below P (T.setTop (mkF m q L (S)))) : Go p.tables e below P (T.setTop (mkF m pc L (y :: x :: S))) := go (fun t k => XT.acmpYes X.here hx rfl rfl hd rfl h1 h2 hc ho hq k) K
theorem gAcmpN (X : Stand p l e R s m args below meth c T locs cells slots) (hx : p.tables.exec = Jvm.exec) {cd : ClassFile.ACond} {x y : Value} {o : Int} (hd : decode c.code pc = .ok (.if_acmp cd o, 3)) (hq : pc + 3 = q) (h1 : x.isRef = true) (h2 : y.isRef = true) (hc : XT.acmp cd x y = false) (K : Go p.tables e below P (T.setTop (mkF m q L (S)))) : Go p.tables e below P (T.setTop (mkF m pc L (y :: x :: S))) := by subst hq; exact go (fun t k => XT.acmpNo X.here hx rfl hd rfl h1 h2 hc k) K
theorem gNullY (X : Stand p l e R s m args below meth c T locs cells slots) (hx : p.tables.exec = Jvm.exec) {v : Value} {o : Int} (hd : decode c.code pc = .ok (.ifnull o, 3)) (ho : 0 ≤ (pc : Int) + o) (hq : ((pc : Int) + o).toNat = q) (hv : v = .null) (K : Go p.tables e below P (T.setTop (mkF m q L (S)))) : Go p.tables e below P (T.setTop (mkF m pc L (v :: S))) := go (fun t k => XT.nullYes X.here hx rfl rfl hd rfl hv ho hq k) K
theorem gNullN (X : Stand p l e R s m args below meth c T locs cells slots) (hx : p.tables.exec = Jvm.exec) {v : Value} {o : Int} (hd : decode c.code pc = .ok (.ifnull o, 3)) (hq : pc + 3 = q) (hr : v.isRef = true) (hv : ¬ v = .null) (K : Go p.tables e below P (T.setTop (mkF m q L (S)))) : Go p.tables e below P (T.setTop (mkF m pc L (v :: S))) := by subst hq; exact go (fun t k => XT.nullNo X.here hx rfl hd rfl hr hv k) K
theorem gNonY (X : Stand p l e R s m args below meth c T locs cells slots) (hx : p.tables.exec = Jvm.exec) {v : Value} {o : Int} (hd : decode c.code pc = .ok (.ifnonnull o, 3)) (ho : 0 ≤ (pc : Int) + o) (hq : ((pc : Int) + o).toNat = q) (hr : v.isRef = true) (hv : ¬ v = .null) (K : Go p.tables e below P (T.setTop (mkF m q L (S)))) : Go p.tables e below P (T.setTop (mkF m pc L (v :: S))) := go (fun t k => XT.nonnullYes X.here hx rfl rfl hd rfl hr hv ho hq k) K
theorem gNonN (X : Stand p l e R s m args below meth c T locs cells slots) (hx : p.tables.exec = Jvm.exec) {v : Value} {o : Int} (hd : decode c.code pc = .ok (.ifnonnull o, 3)) (hq : pc + 3 = q) (hv : v = .null) (K : Go p.tables e below P (T.setTop (mkF m q L (S)))) : Go p.tables e below P (T.setTop (mkF m pc L (v :: S))) := by subst hq; exact go (fun t k => XT.nonnullNo X.here hx rfl hd rfl hv k) K
theorem gRet (X : Stand p l e R s m args below meth c T locs cells slots) (hx : p.tables.exec = Jvm.exec) {Q : Option Value → Heap → List Loc → Prop} {k n : Nat} {w : Value} {t : FieldType} {i : Instr} (hlk : meth.locks = false) (hret : meth.sig.returnType = some t) (hn : narrow t w = w)
    (hi : (i = .ireturn ∧ (t = .int ∨ t = .boolean ∨ t = .byte ∨ t = .char ∨ t = .short) ∧ ∃ z, w = .int z) ∨ (i = .lreturn ∧ t = .long ∧ ∃ z, w = .long z) ∨ (i = .dreturn ∧ t = .double ∧ ∃ z, w = .double z) ∨ (i = .freturn ∧ t = .float ∧ ∃ z, w = .float z) ∨ (i = .areturn ∧ t.isReference = true ∧ w.isRef = true))
    (hd : decode c.code pc = .ok (i, 1)) (hk : cells ≤ k) (hs : slots ≤ n) (hQ : Q (some w) T.heap locs) : Go p.tables e below (Done s Q k n) (T.setTop (mkF m pc L (w :: S))) := by
  obtain ⟨fs, hr, hrun, hended, hW, hsame⟩ := X.leave (v := some w) (fun h => by rw [hret] at h; cases h) hlk
  exact ⟨_, _, retOut X hx hret hn hi hd hr, hrun, hended, _, _, rfl, hQ, ⟨_, rfl⟩, hW, hsame.mono hk hs⟩
theorem gRetI (X : Stand p l e R s m args below meth c T locs cells slots) (hx : p.tables.exec = Jvm.exec) {Q : Option Value → Heap → List Loc → Prop} {k n : Nat} {z : Int32} (hlk : meth.locks = false) (hret : meth.sig.returnType = some .int) (hd : decode c.code pc = .ok (.ireturn, 1)) (hk : cells ≤ k) (hs : slots ≤ n) (hQ : Q (some (.int z)) T.heap locs) : Go p.tables e below (Done s Q k n) (T.setTop (mkF m pc L (.int z :: S))) :=
  gRet X hx hlk hret rfl (Or.inl ⟨rfl, Or.inl rfl, _, rfl⟩) hd hk hs hQ
theorem gRetZ (X : Stand p l e R s m args below meth c T locs cells slots) (hx : p.tables.exec = Jvm.exec) {Q : Option Value → Heap → List Loc → Prop} {k n : Nat} {z : Int32} (hlk : meth.locks = false) (hret : meth.sig.returnType = some .boolean) (hd : decode c.code pc = .ok (.ireturn, 1)) (hk : cells ≤ k) (hs : slots ≤ n) (hz : z = 0 ∨ z = 1) (hQ : Q (some (.int z)) T.heap locs) : Go p.tables e below (Done s Q k n) (T.setTop (mkF m pc L (.int z :: S))) :=
  gRet X hx hlk hret (by rcases hz with rfl | rfl <;> rfl) (Or.inl ⟨rfl, Or.inr (Or.inl rfl), _, rfl⟩) hd hk hs hQ
theorem gRetJ (X : Stand p l e R s m args below meth c T locs cells slots) (hx : p.tables.exec = Jvm.exec) {Q : Option Value → Heap → List Loc → Prop} {k n : Nat} {z : Int64} (hlk : meth.locks = false) (hret : meth.sig.returnType = some .long) (hd : decode c.code pc = .ok (.lreturn, 1)) (hk : cells ≤ k) (hs : slots ≤ n) (hQ : Q (some (.long z)) T.heap locs) : Go p.tables e below (Done s Q k n) (T.setTop (mkF m pc L (.long z :: S))) :=
  gRet X hx hlk hret rfl (Or.inr (Or.inl ⟨rfl, rfl, _, rfl⟩)) hd hk hs hQ
theorem gRetA (X : Stand p l e R s m args below meth c T locs cells slots) (hx : p.tables.exec = Jvm.exec) {Q : Option Value → Heap → List Loc → Prop} {k n : Nat} {w : Value} {t : FieldType} (hlk : meth.locks = false) (hret : meth.sig.returnType = some t) (ht : t.isReference = true) (hw : w.isRef = true) (hd : decode c.code pc = .ok (.areturn, 1)) (hk : cells ≤ k) (hs : slots ≤ n) (hQ : Q (some w) T.heap locs) : Go p.tables e below (Done s Q k n) (T.setTop (mkF m pc L (w :: S))) :=
  gRet X hx hlk hret (by cases t <;> simp [FieldType.isReference] at ht <;> cases w <;> simp [Value.isRef] at hw <;> rfl) (Or.inr (Or.inr (Or.inr (Or.inr ⟨rfl, ht, hw⟩)))) hd hk hs hQ
theorem gRetV (X : Stand p l e R s m args below meth c T locs cells slots) (hx : p.tables.exec = Jvm.exec) {Q : Option Value → Heap → List Loc → Prop} {k n : Nat} (hlk : meth.locks = false) (hret : meth.sig.returnType = none) (hd : decode c.code pc = .ok (.return_, 1)) (hk : cells ≤ k) (hs : slots ≤ n) (hQ : Q none T.heap locs) : Go p.tables e below (Done s Q k n) (T.setTop (mkF m pc L [])) := by
  obtain ⟨fs, hr, hrun, hended, hW, hsame⟩ := X.leave (v := none) (fun _ => rfl) hlk
  exact ⟨_, _, X.returnOut hx hret hd hr, hrun, hended, _, _, rfl, hQ, ⟨_, rfl⟩, hW, hsame.mono hk hs⟩
end Steps1
section Steps2
variable {p : Program} {l : Launch} {e : Env} {R : Room} {s : State} {m : MethodId} {args : Array Value} {below : List Frame} {meth : Method} {c : Code} {T : State} {locs : List Loc} {cells slots : Nat} {P : State → Outcome → Prop} {pc q : Nat} {L L' : Array Slot} {S : List Value} {Z : State} {a0 : Array Value} {h : Heap}
theorem gGetF (X : Stand p l e R s m args below meth c T locs cells slots) (hx : p.tables.exec = Jvm.exec) (hZ : Z.Warmed39 s.vm) {own R0 O n d host : String} {i : Nat} (hown : s.vm.findClass own = some m.cls) (w : (Jvm.Cond.fieldLink own i R0 n d).before a0 Z = true ∨ (Jvm.Cond.fieldLinkNest own i R0 n d host).before a0 Z = true) (via : Via Z R0 O n d)
    (eT : T.heap = h) {a : Addr} {v : Value} (F : Fld Z h a O n d v) (hd : decode c.code pc = .ok (.getfield i, 3)) (hq : pc + 3 = q)
    (K : ∀ T', Stand p l e R s m args below meth c T' locs cells slots → T'.heap = h → Go p.tables e below P (T'.setTop (mkF m q L (v :: S)))) : Go p.tables e below P (T.setTop (mkF m pc L (.ref a :: S))) := by
  subst hq
  obtain ⟨T', X', e', st⟩ := getF X hx hZ hown w via eT F (g := mkF m pc L (.ref a :: S)) rfl rfl hd
  exact go st (K T' X' e')
theorem gGetS (X : Stand p l e R s m args below meth c T locs cells slots) (hx : p.tables.exec = Jvm.exec) (hZ : Z.Warmed39 s.vm) {own R0 O n d : String} {i : Nat} (hown : s.vm.findClass own = some m.cls) (w : (Jvm.Cond.fieldLink own i R0 n d).before a0 Z = true) (via : Via Z R0 O n d)
    (eT : T.heap = h) {v : Value} (F : Sta Z h O n d v) (hd : decode c.code pc = .ok (.getstatic i, 3)) (hq : pc + 3 = q)
    (K : ∀ T', Stand p l e R s m args below meth c T' locs cells slots → T'.heap = h → Go p.tables e below P (T'.setTop (mkF m q L (v :: S)))) : Go p.tables e below P (T.setTop (mkF m pc L S)) := by
  subst hq
  obtain ⟨T', X', e', st⟩ := getS X hx hZ (host := "") hown w via eT F (g := mkF m pc L S) rfl hd
  exact go st (K T' X' e')
theorem gPutF (X : Stand p l e R s m args below meth c T locs cells slots) (hx : p.tables.exec = Jvm.exec) (hZ : Z.Warmed39 s.vm) {own R0 O n d host C : String} {i kk : Nat} {ty : FieldType} (hown : s.vm.findClass own = some m.cls) (w : (Jvm.Cond.fieldLink own i R0 n d).before a0 Z = true ∨ (Jvm.Cond.fieldLinkNest own i R0 n d host).before a0 Z = true) (via : Via Z R0 O n d)
    (eT : T.heap = h) {a : Addr} {v old : Value} (F : Fld Z h a O n d old) (E : Exa Z h a C) (Ly : (Jvm.Cond.lays C O n d).before a0 Z = true ∨ ((Jvm.Cond.laysFinal C O n d).before a0 Z = true ∧ own = O ∧ meth.name = "<init>")) (wi : (Jvm.Cond.instantiable C kk).before a0 Z = true)
    (hty : parseFieldDescriptor d = some ty) (hn : narrow ty v = v) (hf : fits ty v = true) (hd : decode c.code pc = .ok (.putfield i, 3)) (hq : pc + 3 = q)
    (K : ∀ T' h', Stand p l e R s m args below meth c T' (locs ++ [⟨a, Jvm.RoadKit.slotOf Z O n d⟩]) cells slots → T'.heap = h' → Wr h h' a (Jvm.RoadKit.slotOf Z O n d) v → Go p.tables e below P (T'.setTop (mkF m q L S))) : Go p.tables e below P (T.setTop (mkF m pc L (v :: .ref a :: S))) := by
  subst hq
  obtain ⟨T', h', X', e', W', st⟩ := putF X hx hZ hown w via eT F E Ly wi hty hn hf (g := mkF m pc L (v :: .ref a :: S)) rfl rfl hd
  exact go st (K T' h' X' e' W')
theorem gNewO (X : Stand p l e R s m args below meth c T locs cells slots) (hx : p.tables.exec = Jvm.exec) (hZ : Z.Warmed39 s.vm) {own C : String} {i n : Nat} (hown : s.vm.findClass own = some m.cls) (w : (Jvm.Cond.classLink own i C).before a0 Z = true) (wi : (Jvm.Cond.instantiable C n).before a0 Z = true) (wz : (Jvm.Cond.initialized C).before a0 Z = true) (eT : T.heap = h)
    (hd : decode c.code pc = .ok (.new i, 3)) (hq : pc + 3 = q) (hc : cells + 1 ≤ R.cells) (hl : slots + n ≤ R.slots)
    (K : ∀ T' h' a, Stand p l e R s m args below meth c T' locs (cells + 1) (slots + n) → T'.heap = h' → a = h.size → Ext h h' → Exa Z h' a C → (∀ {O nm d : String} {ty : FieldType}, Laid Z a0 C O nm d → parseFieldDescriptor d = some ty → Fld Z h' a O nm d (defaultValue ty)) → Go p.tables e below P (T'.setTop (mkF m q L (.ref a :: S)))) : Go p.tables e below P (T.setTop (mkF m pc L S)) := by
  subst hq
  obtain ⟨T', h', X', e', E', A', D', -, st⟩ := newO X hx hZ hown w wi wz eT (g := mkF m pc L S) rfl hd hc hl
  exact go st (K T' h' _ X' e' rfl E' A' D')
theorem gInitO (X : Stand p l e R s m args below meth c T locs cells slots) (hx : p.tables.exec = Jvm.exec) (hZ : Z.Warmed39 s.vm) {own : String} {i : Nat} (hown : s.vm.findClass own = some m.cls) (w1 : (Jvm.Cond.methodLink own i Lib.objectInit).before a0 Z = true) (w2 : (Jvm.Cond.instanceMethod Lib.objectInit).before a0 Z = true) (w3 : (Jvm.Cond.code Lib.objectInit ⟨#[0xb1]⟩ 1 none).before a0 Z = true) (eT : T.heap = h)
    (hsize : L.size = c.maxLocals) {a : Addr} (hd : decode c.code pc = .ok (.invokespecial i, 3)) (hq : pc + 3 = q) (hf : 1 ≤ R.frames) {W : Nat} (hW : (S.map fun v => v.category).sum ≤ W) (hl : W + 12 ≤ R.locals)
    (K : ∀ T', Stand p l e R s m args below meth c T' locs cells slots → T'.heap = h → Go p.tables e below P (T'.setTop (mkF m q L S))) : Go p.tables e below P (T.setTop (mkF m pc L (.ref a :: S))) := by
  subst hq
  obtain ⟨T', X', e', st⟩ := initO X hx hZ hown w1 w2 w3 eT (g := mkF m pc L (.ref a :: S)) rfl hsize rfl hd hf (W := W) (by show 2 * 0 + _ ≤ _; rw [Nat.mul_zero, Nat.zero_add]; exact hW) hl
  exact go st (K T' X' e')
/-! calls by a contract -/
theorem gCallS (X : Stand p l e R s m args below meth c T locs cells slots) (hx : p.tables.exec = Jvm.exec) (hZ : Z.Warmed39 s.vm) {own : String} {i : Nat} {y : MethodName} {bytes : ByteArray} {maxL : Nat} {rt : Option FieldType} {rm : Room} {as' : Array Value} {Q : Option Value → Heap → List Loc → Prop} (hown : s.vm.findClass own = some m.cls)
    (w1 : (Jvm.Cond.methodLink own i y).before a0 Z = true) (w2 : (Jvm.Cond.static y).before a0 Z = true) (w3 : (Jvm.Cond.initialized y.cls).before a0 Z = true) (w4 : (Jvm.Cond.code y bytes maxL rt).before a0 Z = true) (hy : y.cls ≠ "java/lang/invoke/MethodHandle" ∧ y.cls ≠ "java/lang/invoke/VarHandle")
    (hM : Con l Z y bytes maxL rt [] rm as' h rm.cells rm.slots Q) {W : Nat} (hf : rm.frames + 1 ≤ R.frames) (hlo : W + (maxL + 11) + rm.locals ≤ R.locals) (eT : T.heap = h) (hsize : L.size = c.maxLocals)
    {S0 : List Value} (argsL : List Value) (hlen : ∀ sig, parseMethodDescriptor y.desc = some sig → argsL.length = sig.parameters.length) (has : argsL.toArray = as') (hst : S0 = argsL.reverse ++ S) (hW : (S.map fun v => v.category).sum ≤ W) (hd : decode c.code pc = .ok (.invokestatic i, 3)) (hq : pc + 3 = q)
    (hc : cells + rm.cells ≤ R.cells) (hs : slots + rm.slots ≤ R.slots)
    (K : ∀ v T' Lc, Stand p l e R s m args below meth c T' (locs ++ Lc) (cells + rm.cells) (slots + rm.slots) → Q v T'.heap Lc → Go p.tables e below P (T'.setTop (mkF m q L (v.toList ++ S)))) : Go p.tables e below P (T.setTop (mkF m pc L S0)) := by
  subst hq has hst
  obtain ⟨v, _, ⟨T', L1, k1, n1⟩, -, X', ⟨Lc, hQ, h1, h2, h3⟩, st⟩ := Jvm.LawKit.callS X hx hown (mvT hZ w1) (mvT hZ w2) (mvT hZ w3) (mvT hZ w4) hy (backOf (W := W) hM hZ w4 w3 hf hlo) (g := mkF m pc L (argsL.reverse ++ S)) rfl hsize (argsL := argsL) (rest := S) hlen rfl (by show 2 * 0 + _ ≤ _; rw [Nat.mul_zero, Nat.zero_add]; exact hW) hd (fun _ _ => ⟨rfl, eT, hc, hs⟩)
  dsimp only [Pt.U, Pt.locs, Pt.cells, Pt.slots] at X' h1 h2 h3 st hQ
  subst h1 h2 h3
  exact go st (K v T' Lc X' hQ)
theorem gCallSN (X : Stand p l e R s m args below meth c T locs cells slots) (hx : p.tables.exec = Jvm.exec) (hZ : Z.Warmed39 s.vm) {own host : String} {i : Nat} {y : MethodName} {bytes : ByteArray} {maxL : Nat} {rt : Option FieldType} {rm : Room} {as' : Array Value} {Q : Option Value → Heap → List Loc → Prop} (hown : s.vm.findClass own = some m.cls)
    (w1 : (Jvm.Cond.methodLinkNest own i y host).before a0 Z = true) (w2 : (Jvm.Cond.static y).before a0 Z = true) (w3 : (Jvm.Cond.initialized y.cls).before a0 Z = true) (w4 : (Jvm.Cond.code y bytes maxL rt).before a0 Z = true) (hy : y.cls ≠ "java/lang/invoke/MethodHandle" ∧ y.cls ≠ "java/lang/invoke/VarHandle")
    (hM : Con l Z y bytes maxL rt [] rm as' h rm.cells rm.slots Q) {W : Nat} (hf : rm.frames + 1 ≤ R.frames) (hlo : W + (maxL + 11) + rm.locals ≤ R.locals) (eT : T.heap = h) (hsize : L.size = c.maxLocals)
    {S0 : List Value} (argsL : List Value) (hlen : ∀ sig, parseMethodDescriptor y.desc = some sig → argsL.length = sig.parameters.length) (has : argsL.toArray = as') (hst : S0 = argsL.reverse ++ S) (hW : (S.map fun v => v.category).sum ≤ W) (hd : decode c.code pc = .ok (.invokestatic i, 3)) (hq : pc + 3 = q)
    (hc : cells + rm.cells ≤ R.cells) (hs : slots + rm.slots ≤ R.slots)
    (K : ∀ v T' Lc, Stand p l e R s m args below meth c T' (locs ++ Lc) (cells + rm.cells) (slots + rm.slots) → Q v T'.heap Lc → Go p.tables e below P (T'.setTop (mkF m q L (v.toList ++ S)))) : Go p.tables e below P (T.setTop (mkF m pc L S0)) := by
  subst hq has hst
  obtain ⟨v, _, ⟨T', L1, k1, n1⟩, -, X', ⟨Lc, hQ, h1, h2, h3⟩, st⟩ := callSN X hx hown (Cond.methodLinkNest_wide hZ w1 :) (mvT hZ w2) (mvT hZ w3) (mvT hZ w4) hy (backOf (W := W) hM hZ w4 w3 hf hlo) (g := mkF m pc L (argsL.reverse ++ S)) rfl hsize (argsL := argsL) (rest := S) hlen rfl (by show 2 * 0 + _ ≤ _; rw [Nat.mul_zero, Nat.zero_add]; exact hW) hd (fun _ _ => ⟨rfl, eT, hc, hs⟩)
  dsimp only [Pt.U, Pt.locs, Pt.cells, Pt.slots] at X' h1 h2 h3 st hQ
  subst h1 h2 h3
  exact goT st (K v T' Lc X' hQ)
theorem gCallN (X : Stand p l e R s m args below meth c T locs cells slots) (hx : p.tables.exec = Jvm.exec) (hZ : Z.Warmed39 s.vm) {own : String} {i : Nat} {y : MethodName} {bytes : ByteArray} {maxL : Nat} {rm : Room} {as' : Array Value} {Q : Option Value → Heap → List Loc → Prop} (hy1 : y.name = "<init>") (hown : s.vm.findClass own = some m.cls)
    (w1 : (Jvm.Cond.methodLink own i y).before a0 Z = true) (w2 : (Jvm.Cond.instanceMethod y).before a0 Z = true) (w3 : (Jvm.Cond.initialized y.cls).before a0 Z = true) (w4 : (Jvm.Cond.code y bytes maxL none).before a0 Z = true) (hy : y.cls ≠ "java/lang/invoke/MethodHandle" ∧ y.cls ≠ "java/lang/invoke/VarHandle")
    (hM : Con l Z y bytes maxL none [] rm as' h rm.cells rm.slots Q) {W : Nat} (hf : rm.frames + 1 ≤ R.frames) (hlo : W + (maxL + 11) + rm.locals ≤ R.locals) (eT : T.heap = h) (hsize : L.size = c.maxLocals)
    {S0 : List Value} {a : Addr} (argsL : List Value) (hlen : ∀ sig, parseMethodDescriptor y.desc = some sig → argsL.length = sig.parameters.length) (has : (.ref a :: argsL).toArray = as') (hst : S0 = argsL.reverse ++ .ref a :: S) (hW : (S.map fun v => v.category).sum ≤ W) (hd : decode c.code pc = .ok (.invokespecial i, 3)) (hq : pc + 3 = q)
    (hc : cells + rm.cells ≤ R.cells) (hs : slots + rm.slots ≤ R.slots)
    (K : ∀ v T' Lc, Stand p l e R s m args below meth c T' (locs ++ Lc) (cells + rm.cells) (slots + rm.slots) → Q v T'.heap Lc → Go p.tables e below P (T'.setTop (mkF m q L (v.toList ++ S)))) : Go p.tables e below P (T.setTop (mkF m pc L S0)) := by
  subst hq has hst
  obtain ⟨v, _, ⟨T', L1, k1, n1⟩, -, X', ⟨Lc, hQ, h1, h2, h3⟩, st⟩ := X.specialBack hx hy1 hown (mvT hZ w1) (mvT hZ w2) (mvT hZ w4) hy (backOf (W := W) hM hZ w4 w3 hf hlo) (g := mkF m pc L (argsL.reverse ++ .ref a :: S)) rfl hsize (Steps.refl _) (a := a) (argsL := argsL) (rest := S) hlen rfl (by show 2 * 0 + _ ≤ _; rw [Nat.mul_zero, Nat.zero_add]; exact hW) hd (fun _ _ => ⟨rfl, eT, hc, hs⟩)
  dsimp only [Pt.U, Pt.locs, Pt.cells, Pt.slots] at X' h1 h2 h3 st hQ
  subst h1 h2 h3
  exact goT st (K v T' Lc X' hQ)
theorem gCallV (X : Stand p l e R s m args below meth c T locs cells slots) (hx : p.tables.exec = Jvm.exec) (hZ : Z.Warmed39 s.vm) {own C : String} {i : Nat} {y z : MethodName} {bytes : ByteArray} {maxL : Nat} {rt : Option FieldType} {rm : Room} {as' : Array Value} {Q : Option Value → Heap → List Loc → Prop} (hown : s.vm.findClass own = some m.cls)
    (w1 : (Jvm.Cond.methodLink own i y).before a0 Z = true) (w2 : (Jvm.Cond.declares y).before a0 Z = true) (w5 : (Jvm.Cond.selects C y z).before a0 Z = true) (w6 : (Jvm.Cond.instanceMethod z).before a0 Z = true) (w3 : (Jvm.Cond.initialized z.cls).before a0 Z = true) (w4 : (Jvm.Cond.code z bytes maxL rt).before a0 Z = true) (hnf : NotFace s y) (hy : y.cls ≠ "java/lang/invoke/MethodHandle" ∧ y.cls ≠ "java/lang/invoke/VarHandle")
    (hM : Con l Z z bytes maxL rt [] rm as' h rm.cells rm.slots Q) {W : Nat} (hf : rm.frames + 1 ≤ R.frames) (hlo : W + (maxL + 11) + rm.locals ≤ R.locals) (eT : T.heap = h) (hsize : L.size = c.maxLocals)
    {S0 : List Value} {a : Addr} (E : Exa Z h a C) (argsL : List Value) (hlen : ∀ sig, parseMethodDescriptor y.desc = some sig → argsL.length = sig.parameters.length) (has : (.ref a :: argsL).toArray = as') (hst : S0 = argsL.reverse ++ .ref a :: S) (hW : (S.map fun v => v.category).sum ≤ W) (hd : decode c.code pc = .ok (.invokevirtual i, 3)) (hq : pc + 3 = q)
    (hc : cells + rm.cells ≤ R.cells) (hs : slots + rm.slots ≤ R.slots)
    (K : ∀ v T' Lc, Stand p l e R s m args below meth c T' (locs ++ Lc) (cells + rm.cells) (slots + rm.slots) → Q v T'.heap Lc → Go p.tables e below P (T'.setTop (mkF m q L (v.toList ++ S)))) : Go p.tables e below P (T.setTop (mkF m pc L S0)) := by
  subst hq has hst
  obtain ⟨cq, kq, q1, q2, q3⟩ := isOf hZ eT E
  obtain ⟨v, _, ⟨T', L1, k1, n1⟩, -, X', ⟨Lc, hQ, h1, h2, h3⟩, st⟩ := X.virtualBack hx hown (mvT hZ w1) (mvT hZ w2) hnf (mvT hZ w5) (mvT hZ w6) hy (backOf (W := W) hM hZ w4 w3 hf hlo) q1 q3 (g := mkF m pc L (argsL.reverse ++ .ref a :: S)) rfl hsize (Steps.refl _) (argsL := argsL) (rest := S) hlen rfl (by show 2 * 0 + _ ≤ _; rw [Nat.mul_zero, Nat.zero_add]; exact hW) hd (fun _ _ => ⟨rfl, eT, hc, hs⟩)
  dsimp only [Pt.U, Pt.locs, Pt.cells, Pt.slots] at X' h1 h2 h3 st hQ
  subst h1 h2 h3
  exact goT st (K v T' Lc X' hQ)
end Steps2
end Jvm.OwnKit
namespace Jvm.OwnKit
open Sem ClassFile Op Lib Jvm.Stand Jvm.Free Jvm.LawKit Jvm.RoadKit
theorem own_fldI {args : Array Value} {Z : State} {t : Term} {C n d : String} {x : Addr} {k : Int32} (ev : t.eval args Z none [] Z = some (.ref x)) (h : (Jvm.Cond.eq (Term.field t C n d) (Term.int k)).value args Z none Z [] = some true) : Fld Z Z.heap x C n d (.int k) := by
  obtain ⟨u, w, h1, h2, h3, h4⟩ := cmp_v (Or.inl h)
  obtain rfl : w = .int k := Option.some.inj (h2.symm.trans (Term.int_eval k))
  obtain ⟨z, rfl⟩ := h4
  have hz : z = k := gotT (Cond.eq_ints h1 h2) h
  subst hz
  exact Fld.start ((fld_at ev).symm.trans h1)
end Jvm.OwnKit
namespace Jvm.Pilot.@@N@@
open Jvm Jvm.ClassFile Sem Op Lib Jvm.Free Jvm.Stand Jvm.LawKit Jvm.RoadKit Bundle Jvm.OwnKit Jvm.Pilot.@@N@@.Jvm.D
def own_pick (x0 : Int32) (r0 r1 r2 r3 r4 r5 r6 : Addr) : Addr := (if x0 = (0 : Int32) then r0 else if x0 = 1 then r2 else if x0 = 2 then r3 else if x0 = 3 then r1 else if x0 = 4 then r6 else if x0 = 5 then r4 else r5)
theorem d1_0 : decode method_2_code 0 = .ok (.iload_n 0, 1) := by decide +kernel
theorem d1_1 : decode method_2_code 1 = .ok (.ifCond .ne 7, 3) := by decide +kernel
theorem d1_4 : decode method_2_code 4 = .ok (.getstatic 7, 3) := by decide +kernel
theorem d1_7 : decode method_2_code 7 = .ok (.areturn, 1) := by decide +kernel
theorem d1_8 : decode method_2_code 8 = .ok (.iload_n 0, 1) := by decide +kernel
theorem d1_9 : decode method_2_code 9 = .ok (.iconst 1, 1) := by decide +kernel
theorem d1_10 : decode method_2_code 10 = .ok (.if_icmp .ne 7, 3) := by decide +kernel
theorem d1_13 : decode method_2_code 13 = .ok (.getstatic 13, 3) := by decide +kernel
theorem d1_16 : decode method_2_code 16 = .ok (.areturn, 1) := by decide +kernel
theorem d1_17 : decode method_2_code 17 = .ok (.iload_n 0, 1) := by decide +kernel
theorem d1_18 : decode method_2_code 18 = .ok (.iconst 2, 1) := by decide +kernel
theorem d1_19 : decode method_2_code 19 = .ok (.if_icmp .ne 7, 3) := by decide +kernel
theorem d1_22 : decode method_2_code 22 = .ok (.getstatic 16, 3) := by decide +kernel
theorem d1_25 : decode method_2_code 25 = .ok (.areturn, 1) := by decide +kernel
theorem d1_26 : decode method_2_code 26 = .ok (.iload_n 0, 1) := by decide +kernel
theorem d1_27 : decode method_2_code 27 = .ok (.iconst 3, 1) := by decide +kernel
theorem d1_28 : decode method_2_code 28 = .ok (.if_icmp .ne 7, 3) := by decide +kernel
theorem d1_31 : decode method_2_code 31 = .ok (.getstatic 19, 3) := by decide +kernel
theorem d1_34 : decode method_2_code 34 = .ok (.areturn, 1) := by decide +kernel
theorem d1_35 : decode method_2_code 35 = .ok (.iload_n 0, 1) := by decide +kernel
theorem d1_36 : decode method_2_code 36 = .ok (.iconst 4, 1) := by decide +kernel
theorem d1_37 : decode method_2_code 37 = .ok (.if_icmp .ne 7, 3) := by decide +kernel
theorem d1_40 : decode method_2_code 40 = .ok (.getstatic 22, 3) := by decide +kernel
theorem d1_43 : decode method_2_code 43 = .ok (.areturn, 1) := by decide +kernel
theorem d1_44 : decode method_2_code 44 = .ok (.iload_n 0, 1) := by decide +kernel
theorem d1_45 : decode method_2_code 45 = .ok (.iconst 5, 1) := by decide +kernel
theorem d1_46 : decode method_2_code 46 = .ok (.if_icmp .ne 7, 3) := by decide +kernel
theorem d1_49 : decode method_2_code 49 = .ok (.getstatic 25, 3) := by decide +kernel
theorem d1_52 : decode method_2_code 52 = .ok (.areturn, 1) := by decide +kernel
theorem d1_53 : decode method_2_code 53 = .ok (.getstatic 28, 3) := by decide +kernel
theorem d1_56 : decode method_2_code 56 = .ok (.areturn, 1) := by decide +kernel
theorem pn0 : plainName "com/example/scrutineer/scrutineer/KindActsOnRowPinLaw" = true := by first | (simp [plainName, overriddenIn]; done) | decide +kernel
theorem ef0 (m : MethodId) (x0 : Int32) : entryFrame m #[(.int x0)] 1 = mkF m 0 #[.val (.int x0)] [] := by first | (simp [entryFrame, mkF, argsToLocals, Value.category]; done) | rfl
def Q_rmPick (Z : State) (x0 : Int32) (r0 : Addr) (r1 : Addr) (r2 : Addr) (r3 : Addr) (r4 : Addr) (r5 : Addr) (r6 : Addr) (h0 : Heap) (n0 : Nat) (v : Option Value) (h : Heap) (L : List Loc) : Prop := v = some (.ref (own_pick x0 r0 r1 r2 r3 r4 r5 r6)) ∧ Fr n0 L ∧ h = h0
set_option maxRecDepth 65536 in
set_option maxHeartbeats 40000000 in
theorem rmPick (l : Launch) (Z : State) (a0 : Array Value) (hw : ∀ d ∈ tables_1, d.before a0 Z = true) (ws : List Jvm.Cond) (x0 : Int32) (r0 : Addr) (r1 : Addr) (r2 : Addr) (r3 : Addr) (r4 : Addr) (r5 : Addr) (r6 : Addr) (h0 : Heap) (n0 : Nat) (Z0 : n0 ≤ h0.size) (S_r0 : Sta Z h0 "com/example/scrutineer/scrutineer/Operation$Kind" "INSERT" "Lcom/example/scrutineer/scrutineer/Operation$Kind;" (.ref r0)) (S_r1 : Sta Z h0 "com/example/scrutineer/scrutineer/Operation$Kind" "DELETE_RANGE" "Lcom/example/scrutineer/scrutineer/Operation$Kind;" (.ref r1)) (S_r2 : Sta Z h0 "com/example/scrutineer/scrutineer/Operation$Kind" "UPDATE" "Lcom/example/scrutineer/scrutineer/Operation$Kind;" (.ref r2)) (S_r3 : Sta Z h0 "com/example/scrutineer/scrutineer/Operation$Kind" "DELETE_ROW" "Lcom/example/scrutineer/scrutineer/Operation$Kind;" (.ref r3)) (S_r4 : Sta Z h0 "com/example/scrutineer/scrutineer/Operation$Kind" "DELETE_COLUMN" "Lcom/example/scrutineer/scrutineer/Operation$Kind;" (.ref r4)) (S_r5 : Sta Z h0 "com/example/scrutineer/scrutineer/Operation$Kind" "DELETE_STATIC" "Lcom/example/scrutineer/scrutineer/Operation$Kind;" (.ref r5)) (S_r6 : Sta Z h0 "com/example/scrutineer/scrutineer/Operation$Kind" "DELETE_PARTITION" "Lcom/example/scrutineer/scrutineer/Operation$Kind;" (.ref r6)) :
    Con l Z (⟨"com/example/scrutineer/scrutineer/KindActsOnRowPinLaw", "pick", "(I)Lcom/example/scrutineer/scrutineer/Operation$Kind;"⟩ : MethodName) method_2_code 1 (some (.object "com/example/scrutineer/scrutineer/Operation$Kind")) ws ({ frames := 0, cells := 0, slots := 0, locals := 0 } : Room) #[(.int x0)] h0 (({ frames := 0, cells := 0, slots := 0, locals := 0 } : Room).cells) (({ frames := 0, cells := 0, slots := 0, locals := 0 } : Room).slots) (Q_rmPick Z x0 r0 r1 r2 r3 r4 r5 r6 h0 n0) := by
  refine Con.of pn0 ?_
  intro p e s m below meth c s₁ hx hby hml hown hnm hret hlk hZ X0 e0
  have N0 := Fr.nil n0
  refine goE (L := #[.val (.int x0)]) (ef0 m x0) ?_
  refine gIloadN X0 hx (hb hby d1_0) (q := 1) rfl rfl ?_
  by_cases c1 : x0 = (0 : Int32)
  · refine gIfN X0 hx (hb hby d1_1) (q := 4) rfl (XT.i0_ne_f c1) ?_
    refine gGetS X0 hx hZ hown (hw _ (List.mem_of_getElem? (i := 5) rfl)) Via.refl e0 S_r0 (hb hby d1_4) (q := 7) rfl (fun T2 X2 e2 => ?_)
    exact gRetA X2 hx hlk hret rfl rfl (hb hby d1_7) (by decide) (by decide) ⟨by simp only [own_pick, if_pos c1], N0, e2⟩
  · refine gIfY X0 hx (hb hby d1_1) (q := 8) (by decide) (by decide) (XT.i0_ne_t c1) ?_
    refine gIloadN X0 hx (hb hby d1_8) (q := 9) rfl rfl ?_
    refine gIconst X0 hx (1 : Int32) (hb hby d1_9) (q := 10) rfl (by decide) ?_
    by_cases c3 : x0 = (1 : Int32)
    · refine gIcmpN X0 hx (hb hby d1_10) (q := 13) rfl (XT.ii_ne_f c3) ?_
      refine gGetS X0 hx hZ hown (hw _ (List.mem_of_getElem? (i := 28) rfl)) Via.refl e0 S_r2 (hb hby d1_13) (q := 16) rfl (fun T4 X4 e4 => ?_)
      exact gRetA X4 hx hlk hret rfl rfl (hb hby d1_16) (by decide) (by decide) ⟨by simp only [own_pick, if_neg c1, if_pos c3], N0, e4⟩
    · refine gIcmpY X0 hx (hb hby d1_10) (q := 17) (by decide) (by decide) (XT.ii_ne_t c3) ?_
      refine gIloadN X0 hx (hb hby d1_17) (q := 18) rfl rfl ?_
      refine gIconst X0 hx (2 : Int32) (hb hby d1_18) (q := 19) rfl (by decide) ?_
      by_cases c5 : x0 = (2 : Int32)
      · refine gIcmpN X0 hx (hb hby d1_19) (q := 22) rfl (XT.ii_ne_f c5) ?_
        refine gGetS X0 hx hZ hown (hw _ (List.mem_of_getElem? (i := 27) rfl)) Via.refl e0 S_r3 (hb hby d1_22) (q := 25) rfl (fun T6 X6 e6 => ?_)
        exact gRetA X6 hx hlk hret rfl rfl (hb hby d1_25) (by decide) (by decide) ⟨by simp only [own_pick, if_neg c1, if_neg c3, if_pos c5], N0, e6⟩
      · refine gIcmpY X0 hx (hb hby d1_19) (q := 26) (by decide) (by decide) (XT.ii_ne_t c5) ?_
        refine gIloadN X0 hx (hb hby d1_26) (q := 27) rfl rfl ?_
        refine gIconst X0 hx (3 : Int32) (hb hby d1_27) (q := 28) rfl (by decide) ?_
        by_cases c7 : x0 = (3 : Int32)
        · refine gIcmpN X0 hx (hb hby d1_28) (q := 31) rfl (XT.ii_ne_f c7) ?_
          refine gGetS X0 hx hZ hown (hw _ (List.mem_of_getElem? (i := 14) rfl)) Via.refl e0 S_r1 (hb hby d1_31) (q := 34) rfl (fun T8 X8 e8 => ?_)
          exact gRetA X8 hx hlk hret rfl rfl (hb hby d1_34) (by decide) (by decide) ⟨by simp only [own_pick, if_neg c1, if_neg c3, if_neg c5, if_pos c7], N0, e8⟩
        · refine gIcmpY X0 hx (hb hby d1_28) (q := 35) (by decide) (by decide) (XT.ii_ne_t c7) ?_
          refine gIloadN X0 hx (hb hby d1_35) (q := 36) rfl rfl ?_
          refine gIconst X0 hx (4 : Int32) (hb hby d1_36) (q := 37) rfl (by decide) ?_
          by_cases c9 : x0 = (4 : Int32)
          · refine gIcmpN X0 hx (hb hby d1_37) (q := 40) rfl (XT.ii_ne_f c9) ?_
            refine gGetS X0 hx hZ hown (hw _ (List.mem_of_getElem? (i := 25) rfl)) Via.refl e0 S_r6 (hb hby d1_40) (q := 43) rfl (fun T10 X10 e10 => ?_)
            exact gRetA X10 hx hlk hret rfl rfl (hb hby d1_43) (by decide) (by decide) ⟨by simp only [own_pick, if_neg c1, if_neg c3, if_neg c5, if_neg c7, if_pos c9], N0, e10⟩
          · refine gIcmpY X0 hx (hb hby d1_37) (q := 44) (by decide) (by decide) (XT.ii_ne_t c9) ?_
            refine gIloadN X0 hx (hb hby d1_44) (q := 45) rfl rfl ?_
            refine gIconst X0 hx (5 : Int32) (hb hby d1_45) (q := 46) rfl (by decide) ?_
            by_cases c11 : x0 = (5 : Int32)
            · refine gIcmpN X0 hx (hb hby d1_46) (q := 49) rfl (XT.ii_ne_f c11) ?_
              refine gGetS X0 hx hZ hown (hw _ (List.mem_of_getElem? (i := 22) rfl)) Via.refl e0 S_r4 (hb hby d1_49) (q := 52) rfl (fun T12 X12 e12 => ?_)
              exact gRetA X12 hx hlk hret rfl rfl (hb hby d1_52) (by decide) (by decide) ⟨by simp only [own_pick, if_neg c1, if_neg c3, if_neg c5, if_neg c7, if_neg c9, if_pos c11], N0, e12⟩
            · refine gIcmpY X0 hx (hb hby d1_46) (q := 53) (by decide) (by decide) (XT.ii_ne_t c11) ?_
              refine gGetS X0 hx hZ hown (hw _ (List.mem_of_getElem? (i := 23) rfl)) Via.refl e0 S_r5 (hb hby d1_53) (q := 56) rfl (fun T13 X13 e13 => ?_)
              exact gRetA X13 hx hlk hret rfl rfl (hb hby d1_56) (by decide) (by decide) ⟨by simp only [own_pick, if_neg c1, if_neg c3, if_neg c5, if_neg c7, if_neg c9, if_neg c11], N0, e13⟩
theorem d2_0 : decode prog_8_method_5_code 0 = .ok (.aload_n 0, 1) := by decide +kernel
theorem d2_1 : decode prog_8_method_5_code 1 = .ok (.getstatic 3, 3) := by decide +kernel
theorem d2_4 : decode prog_8_method_5_code 4 = .ok (.if_acmp .eq 24, 3) := by decide +kernel
theorem d2_7 : decode prog_8_method_5_code 7 = .ok (.aload_n 0, 1) := by decide +kernel
theorem d2_8 : decode prog_8_method_5_code 8 = .ok (.getstatic 7, 3) := by decide +kernel
theorem d2_11 : decode prog_8_method_5_code 11 = .ok (.if_acmp .eq 17, 3) := by decide +kernel
theorem d2_14 : decode prog_8_method_5_code 14 = .ok (.aload_n 0, 1) := by decide +kernel
theorem d2_15 : decode prog_8_method_5_code 15 = .ok (.getstatic 10, 3) := by decide +kernel
theorem d2_18 : decode prog_8_method_5_code 18 = .ok (.if_acmp .eq 10, 3) := by decide +kernel
theorem d2_21 : decode prog_8_method_5_code 21 = .ok (.aload_n 0, 1) := by decide +kernel
theorem d2_22 : decode prog_8_method_5_code 22 = .ok (.getstatic 19, 3) := by decide +kernel
theorem d2_25 : decode prog_8_method_5_code 25 = .ok (.if_acmp .ne 7, 3) := by decide +kernel
theorem d2_28 : decode prog_8_method_5_code 28 = .ok (.iconst 1, 1) := by decide +kernel
theorem d2_29 : decode prog_8_method_5_code 29 = .ok (.goto 4, 3) := by decide +kernel
theorem d2_32 : decode prog_8_method_5_code 32 = .ok (.iconst 0, 1) := by decide +kernel
theorem d2_33 : decode prog_8_method_5_code 33 = .ok (.ireturn, 1) := by decide +kernel
theorem pn1 : plainName "com/example/scrutineer/scrutineer/Operation$Kind" = true := by first | (simp [plainName, overriddenIn]; done) | decide +kernel
theorem ef1 (m : MethodId) (x0 : Addr) : entryFrame m #[(.ref x0)] 1 = mkF m 0 #[.val (.ref x0)] [] := by first | (simp [entryFrame, mkF, argsToLocals, Value.category]; done) | rfl
def Q_rmActs (Z : State) (a : Addr) (r0 : Addr) (r2 : Addr) (r3 : Addr) (r4 : Addr) (h0 : Heap) (n0 : Nat) (v : Option Value) (h : Heap) (L : List Loc) : Prop := v = some (.int (if (.ref a : Value) = (.ref r0 : Value) then (1 : Int32) else (if (.ref a : Value) = (.ref r2 : Value) then (1 : Int32) else (if (.ref a : Value) = (.ref r3 : Value) then (1 : Int32) else (if (.ref a : Value) = (.ref r4 : Value) then (1 : Int32) else (0 : Int32)))))) ∧ Fr n0 L ∧ h = h0
set_option maxRecDepth 65536 in
set_option maxHeartbeats 40000000 in
theorem rmActs (l : Launch) (Z : State) (a0 : Array Value) (hw : ∀ d ∈ tables_1, d.before a0 Z = true) (ws : List Jvm.Cond) (a : Addr) (r0 : Addr) (r2 : Addr) (r3 : Addr) (r4 : Addr) (h0 : Heap) (n0 : Nat) (Z0 : n0 ≤ h0.size) (S_r0 : Sta Z h0 "com/example/scrutineer/scrutineer/Operation$Kind" "INSERT" "Lcom/example/scrutineer/scrutineer/Operation$Kind;" (.ref r0)) (S_r2 : Sta Z h0 "com/example/scrutineer/scrutineer/Operation$Kind" "UPDATE" "Lcom/example/scrutineer/scrutineer/Operation$Kind;" (.ref r2)) (S_r3 : Sta Z h0 "com/example/scrutineer/scrutineer/Operation$Kind" "DELETE_ROW" "Lcom/example/scrutineer/scrutineer/Operation$Kind;" (.ref r3)) (S_r4 : Sta Z h0 "com/example/scrutineer/scrutineer/Operation$Kind" "DELETE_COLUMN" "Lcom/example/scrutineer/scrutineer/Operation$Kind;" (.ref r4)) :
    Con l Z (⟨"com/example/scrutineer/scrutineer/Operation$Kind", "actsOnRow", "()Z"⟩ : MethodName) prog_8_method_5_code 1 (some (.boolean)) ws ({ frames := 0, cells := 0, slots := 0, locals := 0 } : Room) #[(.ref a)] h0 (({ frames := 0, cells := 0, slots := 0, locals := 0 } : Room).cells) (({ frames := 0, cells := 0, slots := 0, locals := 0 } : Room).slots) (Q_rmActs Z a r0 r2 r3 r4 h0 n0) := by
  refine Con.of pn1 ?_
  intro p e s m below meth c s₁ hx hby hml hown hnm hret hlk hZ X0 e0
  have N0 := Fr.nil n0
  refine goE (L := #[.val (.ref a)]) (ef1 m a) ?_
  refine gAloadN X0 hx (hb hby d2_0) (q := 1) rfl rfl rfl ?_
  refine gGetS X0 hx hZ hown (hw _ (List.mem_of_getElem? (i := 13) rfl)) Via.refl e0 S_r0 (hb hby d2_1) (q := 4) rfl (fun T1 X1 e1 => ?_)
  have J4_4 : ∀ (T5 : State) (L5 : List Loc), Stand p l e ({ frames := 0, cells := 0, slots := 0, locals := 0 } : Room) s m #[(.ref a)] below meth c T5 L5 0 0 → T5.heap = h0 → Fr n0 L5 → ∀ v3 : Int32, v3 = (if (.ref a : Value) = (.ref r0 : Value) then (1 : Int32) else (if (.ref a : Value) = (.ref r2 : Value) then (1 : Int32) else (if (.ref a : Value) = (.ref r3 : Value) then (1 : Int32) else (if (.ref a : Value) = (.ref r4 : Value) then (1 : Int32) else (0 : Int32))))) → Go p.tables e below (Done s (Q_rmActs Z a r0 r2 r3 r4 h0 n0) (({ frames := 0, cells := 0, slots := 0, locals := 0 } : Room).cells) (({ frames := 0, cells := 0, slots := 0, locals := 0 } : Room).slots)) (T5.setTop (mkF m 33 #[.val (.ref a)] [(.int v3)])) := by
    intro T5 L5 X5 e5 N5 v3 hv3
    exact gRetZ X5 hx hlk hret (hb hby d2_33) (by decide) (by decide) (by rw [hv3]; (repeat' split) <;> first | exact Or.inl rfl | exact Or.inr rfl) ⟨by rw [hv3], N5, e5⟩
  by_cases c2 : (.ref a : Value) = (.ref r0 : Value)
  · refine gAcmpY X1 hx (hb hby d2_4) (q := 28) (by decide) (by decide) rfl rfl (XT.aa_eq_t c2) ?_
    refine gIconst X1 hx (1 : Int32) (hb hby d2_28) (q := 29) rfl (by decide) ?_
    refine gGoto X1 hx (hb hby d2_29) (q := 33) (by decide) (by decide) ?_
    exact J4_4 T1 _ X1 e1 N0 _ (by first | rfl | (simp only [if_pos c2]; done) | (simp only [if_pos c2]; done))
  · refine gAcmpN X1 hx (hb hby d2_4) (q := 7) rfl rfl rfl (XT.aa_eq_f c2) ?_
    refine gAloadN X1 hx (hb hby d2_7) (q := 8) rfl rfl rfl ?_
    refine gGetS X1 hx hZ hown (hw _ (List.mem_of_getElem? (i := 16) rfl)) Via.refl e1 S_r2 (hb hby d2_8) (q := 11) rfl (fun T6 X6 e6 => ?_)
    by_cases c7 : (.ref a : Value) = (.ref r2 : Value)
    · refine gAcmpY X6 hx (hb hby d2_11) (q := 28) (by decide) (by decide) rfl rfl (XT.aa_eq_t c7) ?_
      refine gIconst X6 hx (1 : Int32) (hb hby d2_28) (q := 29) rfl (by decide) ?_
      refine gGoto X6 hx (hb hby d2_29) (q := 33) (by decide) (by decide) ?_
      exact J4_4 T6 _ X6 e6 N0 _ (by first | rfl | (simp only [if_neg c2, if_pos c7]; done) | (simp only [if_neg c2, if_pos c7]; done))
    · refine gAcmpN X6 hx (hb hby d2_11) (q := 14) rfl rfl rfl (XT.aa_eq_f c7) ?_
      refine gAloadN X6 hx (hb hby d2_14) (q := 15) rfl rfl rfl ?_
      refine gGetS X6 hx hZ hown (hw _ (List.mem_of_getElem? (i := 18) rfl)) Via.refl e6 S_r3 (hb hby d2_15) (q := 18) rfl (fun T8 X8 e8 => ?_)
      by_cases c9 : (.ref a : Value) = (.ref r3 : Value)
      · refine gAcmpY X8 hx (hb hby d2_18) (q := 28) (by decide) (by decide) rfl rfl (XT.aa_eq_t c9) ?_
        refine gIconst X8 hx (1 : Int32) (hb hby d2_28) (q := 29) rfl (by decide) ?_
        refine gGoto X8 hx (hb hby d2_29) (q := 33) (by decide) (by decide) ?_
        exact J4_4 T8 _ X8 e8 N0 _ (by first | rfl | (simp only [if_neg c2, if_neg c7, if_pos c9]; done) | (simp only [if_neg c2, if_neg c7, if_pos c9]; done))
      · refine gAcmpN X8 hx (hb hby d2_18) (q := 21) rfl rfl rfl (XT.aa_eq_f c9) ?_
        refine gAloadN X8 hx (hb hby d2_21) (q := 22) rfl rfl rfl ?_
        refine gGetS X8 hx hZ hown (hw _ (List.mem_of_getElem? (i := 20) rfl)) Via.refl e8 S_r4 (hb hby d2_22) (q := 25) rfl (fun T10 X10 e10 => ?_)
        by_cases c11 : (.ref a : Value) = (.ref r4 : Value)
        · refine gAcmpN X10 hx (hb hby d2_25) (q := 28) rfl rfl rfl (XT.aa_ne_f c11) ?_
          refine gIconst X10 hx (1 : Int32) (hb hby d2_28) (q := 29) rfl (by decide) ?_
          refine gGoto X10 hx (hb hby d2_29) (q := 33) (by decide) (by decide) ?_
          exact J4_4 T10 _ X10 e10 N0 _ (by first | rfl | (simp only [if_neg c2, if_neg c7, if_neg c9, if_pos c11]; done) | (simp only [if_neg c2, if_neg c7, if_neg c9, if_pos c11]; done))
        · refine gAcmpY X10 hx (hb hby d2_25) (q := 32) (by decide) (by decide) rfl rfl (XT.aa_ne_t c11) ?_
          refine gIconst X10 hx (0 : Int32) (hb hby d2_32) (q := 33) rfl (by decide) ?_
          exact J4_4 T10 _ X10 e10 N0 _ (by first | rfl | (simp only [if_neg c2, if_neg c7, if_neg c9, if_neg c11]; done) | (simp only [if_neg c2, if_neg c7, if_neg c9, if_neg c11]; done))
theorem own_pickE {Z : State} {h0 : Heap} (x0 : Int32) {r0 r1 r2 r3 r4 r5 r6 : Addr} (E0 : Exa Z h0 r0 "com/example/scrutineer/scrutineer/Operation$Kind") (E1 : Exa Z h0 r2 "com/example/scrutineer/scrutineer/Operation$Kind") (E2 : Exa Z h0 r3 "com/example/scrutineer/scrutineer/Operation$Kind") (E3 : Exa Z h0 r1 "com/example/scrutineer/scrutineer/Operation$Kind") (E4 : Exa Z h0 r6 "com/example/scrutineer/scrutineer/Operation$Kind") (E5 : Exa Z h0 r4 "com/example/scrutineer/scrutineer/Operation$Kind") (E6 : Exa Z h0 r5 "com/example/scrutineer/scrutineer/Operation$Kind") : Exa Z h0 (own_pick x0 r0 r1 r2 r3 r4 r5 r6) "com/example/scrutineer/scrutineer/Operation$Kind" := by
  unfold own_pick; repeat' split
  all_goals assumption

theorem ef2 (m : MethodId) (x0 : Int32) : entryFrame m #[(.int x0)] maxLocals = mkF m 0 #[.val (.int x0), .unset, .unset, .unset] [] := by first | (simp [entryFrame, mkF, argsToLocals, Value.category, maxLocals]; done) | rfl
def Q_rm0 (Z : State) (x0 : Int32) (r0 : Addr) (r1 : Addr) (r2 : Addr) (r3 : Addr) (r4 : Addr) (r5 : Addr) (r6 : Addr) (h0 : Heap) (n0 : Nat) (v : Option Value) (h : Heap) (L : List Loc) : Prop := v = some (.int 1) ∧ Fr n0 L
theorem pd0 : parseMethodDescriptor "(I)Lcom/example/scrutineer/scrutineer/Operation$Kind;" = some ⟨[.int], some (.object "com/example/scrutineer/scrutineer/Operation$Kind")⟩ := by decide +kernel
theorem pd1 : parseMethodDescriptor "()Z" = some ⟨[], some (.boolean)⟩ := by decide +kernel
set_option maxRecDepth 65536 in
set_option maxHeartbeats 40000000 in
theorem own_law (x0 : Int32) (r0 : Addr) (r1 : Addr) (r2 : Addr) (r3 : Addr) (r4 : Addr) (r5 : Addr) (r6 : Addr) (pk : Addr) (u1 : Int32) (hu1 : ((x0 &&& (2147483647 : Int32)) % (7 : Int32)) = u1) (v5 : Int32) (hv5 : v5 = (if u1 = (0 : Int32) then (1 : Int32) else (if u1 = (1 : Int32) then (1 : Int32) else (if u1 = (2 : Int32) then (1 : Int32) else (if u1 = (5 : Int32) then (1 : Int32) else (0 : Int32)))))) (got : Int32) (hgot : (if (.ref pk : Value) = (.ref r0 : Value) then (1 : Int32) else (if (.ref pk : Value) = (.ref r2 : Value) then (1 : Int32) else (if (.ref pk : Value) = (.ref r3 : Value) then (1 : Int32) else (if (.ref pk : Value) = (.ref r4 : Value) then (1 : Int32) else (0 : Int32))))) = got) (v10 : Int32) (hv10 : v10 = (if got = v5 then (1 : Int32) else (0 : Int32))) (hpk : own_pick u1 r0 r1 r2 r3 r4 r5 r6 = pk) (ne_r2_r0 : r2 ≠ r0) (ne_r3_r0 : r3 ≠ r0) (ne_r1_r0 : r1 ≠ r0) (ne_r6_r0 : r6 ≠ r0) (ne_r4_r0 : r4 ≠ r0) (ne_r5_r0 : r5 ≠ r0) (ne_r0_r2 : r0 ≠ r2) (ne_r3_r2 : r3 ≠ r2) (ne_r1_r2 : r1 ≠ r2) (ne_r6_r2 : r6 ≠ r2) (ne_r4_r2 : r4 ≠ r2) (ne_r5_r2 : r5 ≠ r2) (ne_r0_r3 : r0 ≠ r3) (ne_r2_r3 : r2 ≠ r3) (ne_r1_r3 : r1 ≠ r3) (ne_r6_r3 : r6 ≠ r3) (ne_r4_r3 : r4 ≠ r3) (ne_r5_r3 : r5 ≠ r3) (ne_r0_r4 : r0 ≠ r4) (ne_r2_r4 : r2 ≠ r4) (ne_r3_r4 : r3 ≠ r4) (ne_r1_r4 : r1 ≠ r4) (ne_r6_r4 : r6 ≠ r4) (ne_r5_r4 : r5 ≠ r4) : v10 = 1 := by
  clear hu1
  subst hpk
  rw [hv10]
  refine if_pos ?_
  rw [← hgot, hv5]
  unfold own_pick
  by_cases k0 : u1 = 0 <;> by_cases k1 : u1 = 1 <;> by_cases k2 : u1 = 2 <;> by_cases k3 : u1 = 3 <;> by_cases k4 : u1 = 4 <;> by_cases k5 : u1 = 5 <;> simp_all
set_option maxRecDepth 65536 in
set_option maxHeartbeats 40000000 in
theorem rm0 (l : Launch) (Z : State) (a0 : Array Value) (hw : ∀ d ∈ tables_1, d.before a0 Z = true) (ws : List Jvm.Cond) (x0 : Int32) (r0 : Addr) (r1 : Addr) (r2 : Addr) (r3 : Addr) (r4 : Addr) (r5 : Addr) (r6 : Addr) (h0 : Heap) (n0 : Nat) (Z0 : n0 ≤ h0.size) (S_r0 : Sta Z h0 "com/example/scrutineer/scrutineer/Operation$Kind" "INSERT" "Lcom/example/scrutineer/scrutineer/Operation$Kind;" (.ref r0)) (E_r0 : Exa Z h0 r0 "com/example/scrutineer/scrutineer/Operation$Kind") (Fordinal_r0 : Fld Z h0 r0 "java/lang/Enum" "ordinal" "I" (.int 0)) (S_r1 : Sta Z h0 "com/example/scrutineer/scrutineer/Operation$Kind" "DELETE_RANGE" "Lcom/example/scrutineer/scrutineer/Operation$Kind;" (.ref r1)) (E_r1 : Exa Z h0 r1 "com/example/scrutineer/scrutineer/Operation$Kind") (Fordinal_r1 : Fld Z h0 r1 "java/lang/Enum" "ordinal" "I" (.int 3)) (S_r2 : Sta Z h0 "com/example/scrutineer/scrutineer/Operation$Kind" "UPDATE" "Lcom/example/scrutineer/scrutineer/Operation$Kind;" (.ref r2)) (E_r2 : Exa Z h0 r2 "com/example/scrutineer/scrutineer/Operation$Kind") (Fordinal_r2 : Fld Z h0 r2 "java/lang/Enum" "ordinal" "I" (.int 1)) (S_r3 : Sta Z h0 "com/example/scrutineer/scrutineer/Operation$Kind" "DELETE_ROW" "Lcom/example/scrutineer/scrutineer/Operation$Kind;" (.ref r3)) (E_r3 : Exa Z h0 r3 "com/example/scrutineer/scrutineer/Operation$Kind") (Fordinal_r3 : Fld Z h0 r3 "java/lang/Enum" "ordinal" "I" (.int 2)) (S_r4 : Sta Z h0 "com/example/scrutineer/scrutineer/Operation$Kind" "DELETE_COLUMN" "Lcom/example/scrutineer/scrutineer/Operation$Kind;" (.ref r4)) (E_r4 : Exa Z h0 r4 "com/example/scrutineer/scrutineer/Operation$Kind") (Fordinal_r4 : Fld Z h0 r4 "java/lang/Enum" "ordinal" "I" (.int 5)) (S_r5 : Sta Z h0 "com/example/scrutineer/scrutineer/Operation$Kind" "DELETE_STATIC" "Lcom/example/scrutineer/scrutineer/Operation$Kind;" (.ref r5)) (E_r5 : Exa Z h0 r5 "com/example/scrutineer/scrutineer/Operation$Kind") (Fordinal_r5 : Fld Z h0 r5 "java/lang/Enum" "ordinal" "I" (.int 6)) (S_r6 : Sta Z h0 "com/example/scrutineer/scrutineer/Operation$Kind" "DELETE_PARTITION" "Lcom/example/scrutineer/scrutineer/Operation$Kind;" (.ref r6)) (E_r6 : Exa Z h0 r6 "com/example/scrutineer/scrutineer/Operation$Kind") (Fordinal_r6 : Fld Z h0 r6 "java/lang/Enum" "ordinal" "I" (.int 4)) :
    Con l Z x code maxLocals ret ws room_1 #[(.int x0)] h0 (room_1.cells) (room_1.slots) (Q_rm0 Z x0 r0 r1 r2 r3 r4 r5 r6 h0 n0) := by
  refine Con.of pn0 ?_
  intro p e s m below meth c s₁ hx hby hml hown hnm hret hlk hZ X0 e0
  have N0 := Fr.nil n0
  refine goE (L := #[.val (.int x0), .unset, .unset, .unset]) (ef2 m x0) ?_
  refine gIloadN X0 hx (hb hby at_0) (q := 1) rfl rfl ?_
  refine gLdc X0 hx hZ hown (hw _ (List.mem_of_getElem? (i := 0) rfl)) (hb hby at_1) (q := 3) rfl ?_
  refine gIand X0 hx (hb hby at_3) (q := 4) rfl ?_
  refine gBipush X0 hx (7 : Int32) (hb hby at_4) (q := 6) rfl (by decide) ?_
  refine gIrem X0 hx (hb hby at_6) (q := 7) rfl (by decide) ?_
  generalize hu1 : ((x0 &&& (2147483647 : Int32)) % (7 : Int32)) = u1
  refine gIstoreN X0 hx (hb hby at_7) (q := 8) rfl (L' := #[.val (.int x0), .val (.int u1), .unset, .unset]) rfl ?_
  refine gIloadN X0 hx (hb hby at_8) (q := 9) rfl rfl ?_
  refine gCallS X0 hx hZ hown (hw _ (List.mem_of_getElem? (i := 1) rfl)) (hw _ (List.mem_of_getElem? (i := 2) rfl)) (hw _ (List.mem_of_getElem? (i := 3) rfl)) (hw _ (List.mem_of_getElem? (i := 4) rfl)) (by decide) (rmPick l Z a0 hw [] u1 r0 r1 r2 r3 r4 r5 r6 h0 n0 Z0 S_r0 S_r1 S_r2 S_r3 S_r4 S_r5 S_r6) (W := 0) (by decide) (by decide) e0 (by rw [hml]; rfl) [(.int u1)] (lenOf pd0 rfl) rfl (S := []) rfl (Nat.le_of_eq rfl) (hb hby at_9) (q := 12) rfl (by decide) (by decide) (fun r2 T2 M2 X2 q2 => ?_)
  obtain ⟨rfl, M2n, e2⟩ := q2
  have N3 := Fr.app N0 M2n
  dsimp only [Option.toList, List.cons_append, List.nil_append]
  have EP := own_pickE u1 E_r0 E_r2 E_r3 E_r1 E_r6 E_r4 E_r5
  generalize hpk : own_pick u1 r0 r1 r2 r3 r4 r5 r6 = pk at EP ⊢
  refine gAstoreN X2 hx (hb hby at_12) (q := 13) rfl rfl (L' := #[.val (.int x0), .val (.int u1), .val (.ref pk), .unset]) rfl ?_
  refine gIloadN X2 hx (hb hby at_13) (q := 14) rfl rfl ?_
  have J14_6 : ∀ v5 : Int32, v5 = (if u1 = (0 : Int32) then (1 : Int32) else (if u1 = (1 : Int32) then (1 : Int32) else (if u1 = (2 : Int32) then (1 : Int32) else (if u1 = (5 : Int32) then (1 : Int32) else (0 : Int32))))) → Go p.tables e below (Done s (Q_rm0 Z x0 r0 r1 r2 r3 r4 r5 r6 h0 n0) (room_1.cells) (room_1.slots)) (T2.setTop (mkF m 37 #[.val (.int x0), .val (.int u1), .val (.ref pk), .unset] [(.int v5)])) := by
    intro v5 hv5
    refine gIstoreN X2 hx (hb hby at_37) (q := 38) rfl (L' := #[.val (.int x0), .val (.int u1), .val (.ref pk), .val (.int v5)]) rfl ?_
    refine gAloadN X2 hx (hb hby at_38) (q := 39) rfl rfl rfl ?_
    refine gCallV X2 hx hZ hown (hw _ (List.mem_of_getElem? (i := 8) rfl)) (hw _ (List.mem_of_getElem? (i := 9) rfl)) (hw _ (List.mem_of_getElem? (i := 11) rfl)) (hw _ (List.mem_of_getElem? (i := 10) rfl)) (hw _ (List.mem_of_getElem? (i := 6) rfl)) (hw _ (List.mem_of_getElem? (i := 12) rfl)) (notFace_of_selects (args := #[]) (mvT hZ (hw _ (List.mem_of_getElem? (i := 11) rfl)))) (by decide) (rmActs l Z a0 hw [] pk r0 r2 r3 r4 h0 n0 Z0 S_r0 S_r2 S_r3 S_r4) (W := 0) (by decide) (by decide) e2 (by rw [hml]; rfl) EP [] (lenOf pd1 rfl) rfl (S := []) rfl (Nat.le_of_eq rfl) (hb hby at_39) (q := 42) rfl (by decide) (by decide) (fun r7 T7 M7 X7 q7 => ?_)
    obtain ⟨rfl, M7n, e7⟩ := q7
    have N8 := Fr.app N3 M7n
    dsimp only [Option.toList, List.cons_append, List.nil_append]
    generalize hgot : (if (.ref pk : Value) = (.ref r0 : Value) then (1 : Int32) else (if (.ref pk : Value) = (.ref r2 : Value) then (1 : Int32) else (if (.ref pk : Value) = (.ref r3 : Value) then (1 : Int32) else (if (.ref pk : Value) = (.ref r4 : Value) then (1 : Int32) else (0 : Int32))))) = got
    refine gIloadN X7 hx (hb hby at_42) (q := 43) rfl rfl ?_
    have J43_11 : ∀ v10 : Int32, v10 = (if got = v5 then (1 : Int32) else (0 : Int32)) → Go p.tables e below (Done s (Q_rm0 Z x0 r0 r1 r2 r3 r4 r5 r6 h0 n0) (room_1.cells) (room_1.slots)) (T7.setTop (mkF m 51 #[.val (.int x0), .val (.int u1), .val (.ref pk), .val (.int v5)] [(.int v10)])) := by
      intro v10 hv10
      have ne_r2_r0 : r2 ≠ r0 := Fld.ne Fordinal_r2 Fordinal_r0 (by decide)
      have ne_r3_r0 : r3 ≠ r0 := Fld.ne Fordinal_r3 Fordinal_r0 (by decide)
      have ne_r1_r0 : r1 ≠ r0 := Fld.ne Fordinal_r1 Fordinal_r0 (by decide)
      have ne_r6_r0 : r6 ≠ r0 := Fld.ne Fordinal_r6 Fordinal_r0 (by decide)
      have ne_r4_r0 : r4 ≠ r0 := Fld.ne Fordinal_r4 Fordinal_r0 (by decide)
      have ne_r5_r0 : r5 ≠ r0 := Fld.ne Fordinal_r5 Fordinal_r0 (by decide)
      have ne_r0_r2 : r0 ≠ r2 := Fld.ne Fordinal_r0 Fordinal_r2 (by decide)
      have ne_r3_r2 : r3 ≠ r2 := Fld.ne Fordinal_r3 Fordinal_r2 (by decide)
      have ne_r1_r2 : r1 ≠ r2 := Fld.ne Fordinal_r1 Fordinal_r2 (by decide)
      have ne_r6_r2 : r6 ≠ r2 := Fld.ne Fordinal_r6 Fordinal_r2 (by decide)
      have ne_r4_r2 : r4 ≠ r2 := Fld.ne Fordinal_r4 Fordinal_r2 (by decide)
      have ne_r5_r2 : r5 ≠ r2 := Fld.ne Fordinal_r5 Fordinal_r2 (by decide)
      have ne_r0_r3 : r0 ≠ r3 := Fld.ne Fordinal_r0 Fordinal_r3 (by decide)
      have ne_r2_r3 : r2 ≠ r3 := Fld.ne Fordinal_r2 Fordinal_r3 (by decide)
      have ne_r1_r3 : r1 ≠ r3 := Fld.ne Fordinal_r1 Fordinal_r3 (by decide)
      have ne_r6_r3 : r6 ≠ r3 := Fld.ne Fordinal_r6 Fordinal_r3 (by decide)
      have ne_r4_r3 : r4 ≠ r3 := Fld.ne Fordinal_r4 Fordinal_r3 (by decide)
      have ne_r5_r3 : r5 ≠ r3 := Fld.ne Fordinal_r5 Fordinal_r3 (by decide)
      have ne_r0_r4 : r0 ≠ r4 := Fld.ne Fordinal_r0 Fordinal_r4 (by decide)
      have ne_r2_r4 : r2 ≠ r4 := Fld.ne Fordinal_r2 Fordinal_r4 (by decide)
      have ne_r3_r4 : r3 ≠ r4 := Fld.ne Fordinal_r3 Fordinal_r4 (by decide)
      have ne_r1_r4 : r1 ≠ r4 := Fld.ne Fordinal_r1 Fordinal_r4 (by decide)
      have ne_r6_r4 : r6 ≠ r4 := Fld.ne Fordinal_r6 Fordinal_r4 (by decide)
      have ne_r5_r4 : r5 ≠ r4 := Fld.ne Fordinal_r5 Fordinal_r4 (by decide)
      have hone : v10 = 1 := own_law x0 r0 r1 r2 r3 r4 r5 r6 pk u1 hu1 v5 hv5 got hgot v10 hv10 hpk ne_r2_r0 ne_r3_r0 ne_r1_r0 ne_r6_r0 ne_r4_r0 ne_r5_r0 ne_r0_r2 ne_r3_r2 ne_r1_r2 ne_r6_r2 ne_r4_r2 ne_r5_r2 ne_r0_r3 ne_r2_r3 ne_r1_r3 ne_r6_r3 ne_r4_r3 ne_r5_r3 ne_r0_r4 ne_r2_r4 ne_r3_r4 ne_r1_r4 ne_r6_r4 ne_r5_r4
      exact gRetZ X7 hx hlk hret (hb hby at_51) (by decide) (by decide) (Or.inr hone) ⟨by rw [hone], N8⟩
    by_cases c9 : got = v5
    · refine gIcmpN X7 hx (hb hby at_43) (q := 46) rfl (XT.ii_ne_f c9) ?_
      refine gIconst X7 hx (1 : Int32) (hb hby at_46) (q := 47) rfl (by decide) ?_
      refine gGoto X7 hx (hb hby at_47) (q := 51) (by decide) (by decide) ?_
      exact J43_11 _ (by first | rfl | (simp only [if_pos c9]; done) | (simp only [if_pos c9]; done))
    · refine gIcmpY X7 hx (hb hby at_43) (q := 50) (by decide) (by decide) (XT.ii_ne_t c9) ?_
      refine gIconst X7 hx (0 : Int32) (hb hby at_50) (q := 51) rfl (by decide) ?_
      exact J43_11 _ (by first | rfl | (simp only [if_neg c9]; done) | (simp only [if_neg c9]; done))
  by_cases c4 : u1 = (0 : Int32)
  · refine gIfY X2 hx (hb hby at_14) (q := 32) (by decide) (by decide) (XT.i0_eq_t c4) ?_
    refine gIconst X2 hx (1 : Int32) (hb hby at_32) (q := 33) rfl (by decide) ?_
    refine gGoto X2 hx (hb hby at_33) (q := 37) (by decide) (by decide) ?_
    exact J14_6 _ (by first | rfl | (simp only [if_pos c4]; done) | (simp only [if_pos c4]; done))
  · refine gIfN X2 hx (hb hby at_14) (q := 17) rfl (XT.i0_eq_f c4) ?_
    refine gIloadN X2 hx (hb hby at_17) (q := 18) rfl rfl ?_
    refine gIconst X2 hx (1 : Int32) (hb hby at_18) (q := 19) rfl (by decide) ?_
    by_cases c12 : u1 = (1 : Int32)
    · refine gIcmpY X2 hx (hb hby at_19) (q := 32) (by decide) (by decide) (XT.ii_eq_t c12) ?_
      refine gIconst X2 hx (1 : Int32) (hb hby at_32) (q := 33) rfl (by decide) ?_
      refine gGoto X2 hx (hb hby at_33) (q := 37) (by decide) (by decide) ?_
      exact J14_6 _ (by first | rfl | (simp only [if_neg c4, if_pos c12]; done) | (simp only [if_neg c4, if_pos c12]; done))
    · refine gIcmpN X2 hx (hb hby at_19) (q := 22) rfl (XT.ii_eq_f c12) ?_
      refine gIloadN X2 hx (hb hby at_22) (q := 23) rfl rfl ?_
      refine gIconst X2 hx (2 : Int32) (hb hby at_23) (q := 24) rfl (by decide) ?_
      by_cases c13 : u1 = (2 : Int32)
      · refine gIcmpY X2 hx (hb hby at_24) (q := 32) (by decide) (by decide) (XT.ii_eq_t c13) ?_
        refine gIconst X2 hx (1 : Int32) (hb hby at_32) (q := 33) rfl (by decide) ?_
        refine gGoto X2 hx (hb hby at_33) (q := 37) (by decide) (by decide) ?_
        exact J14_6 _ (by first | rfl | (simp only [if_neg c4, if_neg c12, if_pos c13]; done) | (simp only [if_neg c4, if_neg c12, if_pos c13]; done))
      · refine gIcmpN X2 hx (hb hby at_24) (q := 27) rfl (XT.ii_eq_f c13) ?_
        refine gIloadN X2 hx (hb hby at_27) (q := 28) rfl rfl ?_
        refine gIconst X2 hx (5 : Int32) (hb hby at_28) (q := 29) rfl (by decide) ?_
        by_cases c14 : u1 = (5 : Int32)
        · refine gIcmpN X2 hx (hb hby at_29) (q := 32) rfl (XT.ii_ne_f c14) ?_
          refine gIconst X2 hx (1 : Int32) (hb hby at_32) (q := 33) rfl (by decide) ?_
          refine gGoto X2 hx (hb hby at_33) (q := 37) (by decide) (by decide) ?_
          exact J14_6 _ (by first | rfl | (simp only [if_neg c4, if_neg c12, if_neg c13, if_pos c14]; done) | (simp only [if_neg c4, if_neg c12, if_neg c13, if_pos c14]; done))
        · refine gIcmpY X2 hx (hb hby at_29) (q := 36) (by decide) (by decide) (XT.ii_ne_t c14) ?_
          refine gIconst X2 hx (0 : Int32) (hb hby at_36) (q := 37) rfl (by decide) ?_
          exact J14_6 _ (by first | rfl | (simp only [if_neg c4, if_neg c12, if_neg c13, if_neg c14]; done) | (simp only [if_neg c4, if_neg c12, if_neg c13, if_neg c14]; done))
set_option maxRecDepth 65536 in
set_option maxHeartbeats 40000000 in
theorem comes_1 {Post : Tables → Env → Array Value → State → Outcome → State → Prop} (hpost : ∀ tb e args s v u, (limb_1_1.after args s (.returned v) u = true ∧ limb_1_2.after args s (.returned v) u = true ∧ True) → FrameEnd s (.returned v) u (Jvm.fieldLocs frame_1_writes args s ++ Jvm.arrayLocs frame_1_arrays args s ++ Jvm.staticLocs frame_1_statics s) 0 0 → Post tb e args s (.returned v) u) :
    ArmFor flags0 classFile x code maxLocals ret World_1 tables_1 room_1 Calls_1 rest_1 Pre_1 Post := by
  intro l hfl _ _ p e ha hc hk s m args below hf hA hF happ hP
  obtain ⟨hcalls, hrest, hpre⟩ := hP
  obtain ⟨-, -, -, hnamed, -, -, -, hat⟩ := (Spec.applies_iff hf).mp happ
  obtain ⟨hg, hn⟩ := and_e (Cond.before_iff.mp (show (Jvm.Cond.and given_1 narrow_1).before args s = true from hpre))
  obtain ⟨hcount, hg⟩ := and_e hg
  have hk0 := hg
  obtain ⟨w0, rfl⟩ : ∃ w0 : Value, args = #[w0] := by
    have hs : args.size = 1 := by simpa [Cond.value, given_1] using hcount
    obtain ⟨L⟩ := args
    match L, hs with
    | [w0], _ => exact ⟨w0, rfl⟩
  have hw := fun d (hd : d ∈ tables_1) => atoms_spec (ws := Jvm.Cond.code x code maxLocals ret :: tables_1) hat d (List.mem_cons_of_mem _ hd)
  have hfit : Fit s := fun {y c} hc i hi => by
    obtain ⟨ha, rfl⟩ := Array.getElem?_eq_some_iff.mp hc
    have q := List.all_eq_true.mp ((Array.all_eq_true_iff_forall_mem.mp hF) _ (Array.getElem_mem ha)) i (List.mem_range.mpr hi)
    simpa [Array.getElem?_eq_getElem hi] using q
  obtain ⟨i0, hi0⟩ := is_v hk0
  obtain rfl : w0 = (.int i0) := Option.some.inj hi0
  obtain ⟨na0, hn⟩ := and_e hn
  obtain ⟨na1, hn⟩ := and_e hn
  obtain ⟨na2, hn⟩ := and_e hn
  obtain ⟨na3, hn⟩ := and_e hn
  obtain ⟨na4, hn⟩ := and_e hn
  obtain ⟨na5, hn⟩ := and_e hn
  obtain ⟨na6, hn⟩ := and_e hn
  obtain ⟨na7, hn⟩ := and_e hn
  obtain ⟨na8, hn⟩ := and_e hn
  obtain ⟨na9, hn⟩ := and_e hn
  obtain ⟨na10, hn⟩ := and_e hn
  obtain ⟨na11, hn⟩ := and_e hn
  obtain ⟨na12, hn⟩ := and_e hn
  have na13 := hn
  obtain ⟨r0, ev_r0⟩ := exa_v na0
  have E_r0 := Exa.start ev_r0 na0
  have S_r0 : Sta s s.heap "com/example/scrutineer/scrutineer/Operation$Kind" "INSERT" "Lcom/example/scrutineer/scrutineer/Operation$Kind;" (.ref r0) := Sta.start ev_r0 (Or.inr ⟨(hw _ (List.mem_of_getElem? (i := 6) rfl)), (hw _ (List.mem_of_getElem? (i := 7) rfl))⟩)
  obtain ⟨r1, ev_r1⟩ := exa_v na1
  have E_r1 := Exa.start ev_r1 na1
  have S_r1 : Sta s s.heap "com/example/scrutineer/scrutineer/Operation$Kind" "DELETE_RANGE" "Lcom/example/scrutineer/scrutineer/Operation$Kind;" (.ref r1) := Sta.start ev_r1 (Or.inr ⟨(hw _ (List.mem_of_getElem? (i := 6) rfl)), (hw _ (List.mem_of_getElem? (i := 15) rfl))⟩)
  obtain ⟨r2, ev_r2⟩ := exa_v na4
  have E_r2 := Exa.start ev_r2 na4
  have S_r2 : Sta s s.heap "com/example/scrutineer/scrutineer/Operation$Kind" "UPDATE" "Lcom/example/scrutineer/scrutineer/Operation$Kind;" (.ref r2) := Sta.start ev_r2 (Or.inr ⟨(hw _ (List.mem_of_getElem? (i := 6) rfl)), (hw _ (List.mem_of_getElem? (i := 17) rfl))⟩)
  obtain ⟨r3, ev_r3⟩ := exa_v na6
  have E_r3 := Exa.start ev_r3 na6
  have S_r3 : Sta s s.heap "com/example/scrutineer/scrutineer/Operation$Kind" "DELETE_ROW" "Lcom/example/scrutineer/scrutineer/Operation$Kind;" (.ref r3) := Sta.start ev_r3 (Or.inr ⟨(hw _ (List.mem_of_getElem? (i := 6) rfl)), (hw _ (List.mem_of_getElem? (i := 19) rfl))⟩)
  obtain ⟨r4, ev_r4⟩ := exa_v na8
  have E_r4 := Exa.start ev_r4 na8
  have S_r4 : Sta s s.heap "com/example/scrutineer/scrutineer/Operation$Kind" "DELETE_COLUMN" "Lcom/example/scrutineer/scrutineer/Operation$Kind;" (.ref r4) := Sta.start ev_r4 (Or.inr ⟨(hw _ (List.mem_of_getElem? (i := 6) rfl)), (hw _ (List.mem_of_getElem? (i := 21) rfl))⟩)
  obtain ⟨r5, ev_r5⟩ := exa_v na10
  have E_r5 := Exa.start ev_r5 na10
  have S_r5 : Sta s s.heap "com/example/scrutineer/scrutineer/Operation$Kind" "DELETE_STATIC" "Lcom/example/scrutineer/scrutineer/Operation$Kind;" (.ref r5) := Sta.start ev_r5 (Or.inr ⟨(hw _ (List.mem_of_getElem? (i := 6) rfl)), (hw _ (List.mem_of_getElem? (i := 24) rfl))⟩)
  obtain ⟨r6, ev_r6⟩ := exa_v na12
  have E_r6 := Exa.start ev_r6 na12
  have S_r6 : Sta s s.heap "com/example/scrutineer/scrutineer/Operation$Kind" "DELETE_PARTITION" "Lcom/example/scrutineer/scrutineer/Operation$Kind;" (.ref r6) := Sta.start ev_r6 (Or.inr ⟨(hw _ (List.mem_of_getElem? (i := 6) rfl)), (hw _ (List.mem_of_getElem? (i := 26) rfl))⟩)
  have Fordinal_r1 := own_fldI ev_r1 na2
  have Fordinal_r0 := own_fldI ev_r0 na3
  have Fordinal_r2 := own_fldI ev_r2 na5
  have Fordinal_r3 := own_fldI ev_r3 na7
  have Fordinal_r4 := own_fldI ev_r4 na9
  have Fordinal_r5 := own_fldI ev_r5 na11
  have Fordinal_r6 := own_fldI ev_r6 na13
  obtain ⟨n, o, h1, h2, h3, _, L, rfl, ⟨rfl, N⟩, hq⟩ := rm0 l s _ hw tables_1 i0 r0 r1 r2 r3 r4 r5 r6 s.heap s.heap.size (Nat.le_refl _) S_r0 E_r0 Fordinal_r0 S_r1 E_r1 Fordinal_r1 S_r2 E_r2 Fordinal_r2 S_r3 E_r3 Fordinal_r3 S_r4 E_r4 Fordinal_r4 S_r5 E_r5 Fordinal_r5 S_r6 E_r6 Fordinal_r6 p e ha hc hk s m _ below hf ((Spec.applies_iff_loose hf).mp happ).1 ⟨rfl, State.Warmed39.refl s, rfl⟩ trivial
  refine ⟨n, _, h1, h2, h3, hpost _ _ _ _ _ _ ⟨Cond.after_iff.mpr rfl, Cond.after_iff.mpr (eq_i res_at (Term.int_eval (1)) rfl), trivial⟩ ⟨hq.1, hq.2.1, (hq.2.2.sift fun y hy => Or.inr (N y hy)).mono (by decide) (by decide)⟩⟩
theorem main_1_1 : Claimed_1_1 := comes_1 fun _ _ _ _ _ _ h hF => ⟨h.1, hF⟩
theorem main_1_2 : Claimed_1_2 := comes_1 fun _ _ _ _ _ _ h hF => ⟨h.2.1, hF⟩
end Jvm.Pilot.@@N@@
namespace Jvm.Pilot.@@N@@
open Jvm Jvm.ClassFile Sem Op Lib Jvm.Free Jvm.Stand Jvm.Pilot.@@N@@.Jvm.D
/-! MADE BY PROGRAM (witnessworld.py) out of the Statement's table words and the real class files: 12 classes; the members and pool entries that the words name. The judged class is class 1, her method 2. -/
namespace start1
open Jvm.ClassFile
def u (s : String) : CpInfo := .utf8 (stringToUtf16 s)
/-- a pool by its gaps: so many unusable entries, then the entry; so many at the end -/
def gap : Nat → List CpInfo → List CpInfo
  | 0, r => r
  | n + 1, r => .unusable :: gap n r
def poolList (es : List (Nat × CpInfo)) (last : Nat) : List CpInfo := es.foldr (fun e r => gap e.1 (e.2 :: r)) (gap last [])
def pool (es : List (Nat × CpInfo)) (last : Nat) : Array CpInfo := ⟨poolList es last⟩
def fileOf (pool : Array CpInfo) (this : Nat) (attrs : Array Attribute := #[]) (ms : Array MethodInfo := #[]) (fl : Nat := 33) (sup : Nat := 0) (ifs : Array Nat := #[]) (fds : Array FieldInfo := #[]) : ClassFile where
  minorVersion := 0
  majorVersion := 65
  constantPool := pool
  accessFlags := fl
  thisClass := this
  superClass := sup
  interfaces := ifs
  fields := fds
  methods := ms
  attributes := attrs
def plain (name : String) (sup : Option ClassId) : Class where
  name := name
  kind := .ordinary
  loader := none
  accessFlags := 33
  super := sup
  interfaces := #[]
  cf := none
  fields := #[]
  methods := #[]
  instanceTypes := #[]
  staticTypes := #[]
  resolved := #[]
  callSites := []
  init := .initialized
  statics := none
  mirror := none

def pool0 : Array CpInfo := pool [(5, u "<init>"), (0, u "()V"), (1, .class_ 10), (1, u "java/lang/Object")] 113

def k0m0 : Method := { name := "<init>", desc := "()V", sig := { parameters := [], returnType := none }, accessFlags := 1, code := none }
/-- java/lang/Object -/
def k0 : Class := { plain "java/lang/Object" none with
  accessFlags := 33
  interfaces := #[]
  cf := some (fileOf pool0 8 #[] #[{ accessFlags := 1, nameIndex := 5, descriptorIndex := 6, attributes := #[] }] 33 0 #[] #[])
  fields := #[]
  methods := #[k0m0]
  instanceTypes := #[]
  staticTypes := #[]
  resolved := Array.replicate 124 none
  statics := none }

def pool1 : Array CpInfo := pool [(2, .class_ 4), (1, u "java/lang/Object"), (0, u "<init>"), (0, u "()V"), (0, .fieldref 8 9), (0, .class_ 10), (0, .nameAndType 11 12), (0, u "com/example/scrutineer/scrutineer/Operation$Kind"), (0, u "INSERT"), (0, u "Lcom/example/scrutineer/scrutineer/Operation$Kind;"), (0, .fieldref 8 14), (0, .nameAndType 15 12), (0, u "UPDATE"), (0, .fieldref 8 17), (0, .nameAndType 18 12), (0, u "DELETE_ROW"), (0, .fieldref 8 20), (0, .nameAndType 21 12), (0, u "DELETE_RANGE"), (0, .fieldref 8 23), (0, .nameAndType 24 12), (0, u "DELETE_PARTITION"), (0, .fieldref 8 26), (0, .nameAndType 27 12), (0, u "DELETE_COLUMN"), (0, .fieldref 8 29), (0, .nameAndType 30 12), (0, u "DELETE_STATIC"), (0, .integer 2147483647), (0, .methodref 33 34), (0, .class_ 35), (0, .nameAndType 36 37), (0, u "com/example/scrutineer/scrutineer/KindActsOnRowPinLaw"), (0, u "pick"), (0, u "(I)Lcom/example/scrutineer/scrutineer/Operation$Kind;"), (0, .methodref 8 39), (0, .nameAndType 40 41), (0, u "actsOnRow"), (0, u "()Z"), (3, u "law"), (0, u "(I)Z")] 6

def k1m0 : Method := { name := "<init>", desc := "()V", sig := { parameters := [], returnType := none }, accessFlags := 1, code := none }
def k1c1 : Code := { maxStack := 2, maxLocals := 1, code := method_2_code, exceptionTable := #[], attributes := #[] }
def k1m1 : Method := { name := "pick", desc := "(I)Lcom/example/scrutineer/scrutineer/Operation$Kind;", sig := { parameters := [.int], returnType := some (.object "com/example/scrutineer/scrutineer/Operation$Kind") }, accessFlags := 10, code := some k1c1 }
def k1c2 : Code := { maxStack := 2, maxLocals := 4, code := code, exceptionTable := #[], attributes := #[] }
def k1m2 : Method := { name := "law", desc := "(I)Z", sig := { parameters := [.int], returnType := some .boolean }, accessFlags := 9, code := some k1c2 }
/-- com/example/scrutineer/scrutineer/KindActsOnRowPinLaw -/
def k1 : Class := { plain "com/example/scrutineer/scrutineer/KindActsOnRowPinLaw" (some 0) with
  accessFlags := 49
  interfaces := #[]
  cf := some (fileOf pool1 33 #[] #[{ accessFlags := 1, nameIndex := 5, descriptorIndex := 6, attributes := #[] }, { accessFlags := 10, nameIndex := 36, descriptorIndex := 37, attributes := #[] }, { accessFlags := 9, nameIndex := 45, descriptorIndex := 46, attributes := #[] }] 49 2 #[] #[])
  fields := #[]
  methods := #[k1m0, k1m1, k1m2]
  instanceTypes := #[]
  staticTypes := #[]
  resolved := Array.replicate 53 none
  statics := none }

def pool2 : Array CpInfo := pool [(1, .class_ 2), (0, u "java/lang/constant/Constable"), (0, .class_ 4), (0, u "java/lang/Object")] 6

/-- java/lang/constant/Constable -/
def k2 : Class := { plain "java/lang/constant/Constable" (some 0) with
  accessFlags := 1537
  interfaces := #[]
  cf := some (fileOf pool2 1 #[] #[] 1537 3 #[] #[])
  fields := #[]
  methods := #[]
  instanceTypes := #[]
  staticTypes := #[]
  resolved := Array.replicate 11 none
  statics := none }

def pool3 : Array CpInfo := pool [(1, .class_ 2), (0, u "java/lang/Comparable"), (0, .class_ 4), (0, u "java/lang/Object")] 7

/-- java/lang/Comparable -/
def k3 : Class := { plain "java/lang/Comparable" (some 0) with
  accessFlags := 1537
  interfaces := #[]
  cf := some (fileOf pool3 1 #[] #[] 1537 3 #[] #[])
  fields := #[]
  methods := #[]
  instanceTypes := #[]
  staticTypes := #[]
  resolved := Array.replicate 12 none
  statics := none }

def pool4 : Array CpInfo := pool [(1, .class_ 2), (0, u "java/io/Serializable"), (0, .class_ 4), (0, u "java/lang/Object")] 2

/-- java/io/Serializable -/
def k4 : Class := { plain "java/io/Serializable" (some 0) with
  accessFlags := 1537
  interfaces := #[]
  cf := some (fileOf pool4 1 #[] #[] 1537 3 #[] #[])
  fields := #[]
  methods := #[]
  instanceTypes := #[]
  staticTypes := #[]
  resolved := Array.replicate 7 none
  statics := none }

def pool5 : Array CpInfo := pool [(2, .class_ 4), (1, u "java/lang/Enum"), (0, u "name"), (0, u "Ljava/lang/String;"), (2, u "ordinal"), (0, u "I"), (1, .class_ 14), (1, u "java/lang/Object"), (4, u "hash"), (86, .class_ 108), (1, u "java/lang/Enum$EnumDesc"), (2, .class_ 112), (0, u "java/lang/constant/Constable"), (0, .class_ 114), (0, u "java/lang/Comparable"), (0, .class_ 116), (0, u "java/io/Serializable")] 87

/-- java/lang/Enum -/
def k5 : Class := { plain "java/lang/Enum" (some 0) with
  accessFlags := 1057
  interfaces := #[2, 3, 4]
  cf := some (fileOf pool5 2 #[.nestMembers #[106]] #[] 1057 12 #[111, 113, 115] #[{ accessFlags := 18, nameIndex := 5, descriptorIndex := 6, attributes := #[] }, { accessFlags := 18, nameIndex := 9, descriptorIndex := 10, attributes := #[] }, { accessFlags := 2, nameIndex := 19, descriptorIndex := 10, attributes := #[] }])
  fields := #[{ name := "name", type := (.object "java/lang/String"), accessFlags := 18, slot := 0, constantValue := 0 }, { name := "ordinal", type := .int, accessFlags := 18, slot := 1, constantValue := 0 }, { name := "hash", type := .int, accessFlags := 2, slot := 2, constantValue := 0 }]
  methods := #[]
  instanceTypes := #[(.object "java/lang/String"), .int, .int]
  staticTypes := #[]
  resolved := Array.replicate 204 none
  statics := none }

def pool6 : Array CpInfo := pool [(1, .class_ 2), (0, u "com/example/scrutineer/scrutineer/Operation$Kind"), (0, .fieldref 1 4), (0, .nameAndType 5 6), (0, u "INSERT"), (0, u "Lcom/example/scrutineer/scrutineer/Operation$Kind;"), (0, .fieldref 1 8), (0, .nameAndType 9 6), (0, u "UPDATE"), (0, .fieldref 1 11), (0, .nameAndType 12 6), (0, u "DELETE_ROW"), (2, u "DELETE_RANGE"), (2, u "DELETE_PARTITION"), (0, .fieldref 1 20), (0, .nameAndType 21 6), (0, u "DELETE_COLUMN"), (2, u "DELETE_STATIC"), (2, u "$VALUES"), (0, u "[Lcom/example/scrutineer/scrutineer/Operation$Kind;"), (6, .class_ 37), (1, u "java/lang/Enum"), (26, u "()Z"), (1, u "actsOnRow"), (5, .class_ 73), (0, u "com/example/scrutineer/scrutineer/Operation")] 2

def k6c0 : Code := { maxStack := 2, maxLocals := 1, code := prog_8_method_5_code, exceptionTable := #[], attributes := #[] }
def k6m0 : Method := { name := "actsOnRow", desc := "()Z", sig := { parameters := [], returnType := some .boolean }, accessFlags := 1, code := some k6c0 }
/-- com/example/scrutineer/scrutineer/Operation$Kind -/
def k6 : Class := { plain "com/example/scrutineer/scrutineer/Operation$Kind" (some 5) with
  accessFlags := 16433
  interfaces := #[]
  cf := some (fileOf pool6 1 #[.nestHost 72] #[{ accessFlags := 1, nameIndex := 66, descriptorIndex := 64, attributes := #[] }] 16433 35 #[] #[{ accessFlags := 16409, nameIndex := 5, descriptorIndex := 6, attributes := #[] }, { accessFlags := 16409, nameIndex := 9, descriptorIndex := 6, attributes := #[] }, { accessFlags := 16409, nameIndex := 12, descriptorIndex := 6, attributes := #[] }, { accessFlags := 16409, nameIndex := 15, descriptorIndex := 6, attributes := #[] }, { accessFlags := 16409, nameIndex := 18, descriptorIndex := 6, attributes := #[] }, { accessFlags := 16409, nameIndex := 21, descriptorIndex := 6, attributes := #[] }, { accessFlags := 16409, nameIndex := 24, descriptorIndex := 6, attributes := #[] }, { accessFlags := 4122, nameIndex := 27, descriptorIndex := 28, attributes := #[] }])
  fields := #[{ name := "INSERT", type := (.object "com/example/scrutineer/scrutineer/Operation$Kind"), accessFlags := 16409, slot := 0, constantValue := 0 }, { name := "UPDATE", type := (.object "com/example/scrutineer/scrutineer/Operation$Kind"), accessFlags := 16409, slot := 1, constantValue := 0 }, { name := "DELETE_ROW", type := (.object "com/example/scrutineer/scrutineer/Operation$Kind"), accessFlags := 16409, slot := 2, constantValue := 0 }, { name := "DELETE_RANGE", type := (.object "com/example/scrutineer/scrutineer/Operation$Kind"), accessFlags := 16409, slot := 3, constantValue := 0 }, { name := "DELETE_PARTITION", type := (.object "com/example/scrutineer/scrutineer/Operation$Kind"), accessFlags := 16409, slot := 4, constantValue := 0 }, { name := "DELETE_COLUMN", type := (.object "com/example/scrutineer/scrutineer/Operation$Kind"), accessFlags := 16409, slot := 5, constantValue := 0 }, { name := "DELETE_STATIC", type := (.object "com/example/scrutineer/scrutineer/Operation$Kind"), accessFlags := 16409, slot := 6, constantValue := 0 }, { name := "$VALUES", type := (.array (.object "com/example/scrutineer/scrutineer/Operation$Kind")), accessFlags := 4122, slot := 7, constantValue := 0 }]
  methods := #[k6m0]
  instanceTypes := #[(.object "java/lang/String"), .int, .int]
  staticTypes := #[(.object "com/example/scrutineer/scrutineer/Operation$Kind"), (.object "com/example/scrutineer/scrutineer/Operation$Kind"), (.object "com/example/scrutineer/scrutineer/Operation$Kind"), (.object "com/example/scrutineer/scrutineer/Operation$Kind"), (.object "com/example/scrutineer/scrutineer/Operation$Kind"), (.object "com/example/scrutineer/scrutineer/Operation$Kind"), (.object "com/example/scrutineer/scrutineer/Operation$Kind"), (.array (.object "com/example/scrutineer/scrutineer/Operation$Kind"))]
  resolved := Array.replicate 76 none
  statics := some 0 }

def pool7 : Array CpInfo := pool [(1, u "java/lang/Cloneable"), (0, .class_ 1), (0, u "java/lang/Object"), (0, .class_ 3)] 3

/-- java/lang/Cloneable -/
def k7 : Class := { plain "java/lang/Cloneable" (some 0) with
  accessFlags := 1537
  interfaces := #[]
  cf := some (fileOf pool7 2 #[] #[] 1537 4 #[] #[])
  fields := #[]
  methods := #[]
  instanceTypes := #[]
  staticTypes := #[]
  resolved := Array.replicate 8 none
  statics := none }

/-- the primitive byte -/
def k8 : Class := { plain "byte" none with kind := .primitive 'B', accessFlags := 0x411 }
/-- [B -/
def k9 : Class := { plain "[B" (some 0) with kind := .array 8 .byte, interfaces := #[7, 4], accessFlags := 1041 }

/-- the primitive int -/
def k10 : Class := { plain "int" none with kind := .primitive 'I', accessFlags := 0x411 }
/-- [I -/
def k11 : Class := { plain "[I" (some 0) with kind := .array 10 .int, interfaces := #[7, 4], accessFlags := 1041 }

def heap : Heap := #[{ cls := 6, slots := #[.ref 1, .ref 3, .ref 4, .ref 2, .ref 7, .ref 5, .ref 6, .null], vm := .statics 6 },
  { cls := 6, slots := #[.null, .int 0, .int 0], vm := .none },
  { cls := 6, slots := #[.null, .int 3, .int 0], vm := .none },
  { cls := 6, slots := #[.null, .int 1, .int 0], vm := .none },
  { cls := 6, slots := #[.null, .int 2, .int 0], vm := .none },
  { cls := 6, slots := #[.null, .int 5, .int 0], vm := .none },
  { cls := 6, slots := #[.null, .int 6, .int 0], vm := .none },
  { cls := 6, slots := #[.null, .int 4, .int 0], vm := .none }]
def classes : Array Class := #[k0, k1, k2, k3, k4, k5, k6, k7, k8, k9, k10, k11]
def interned : List (Array UInt16 × Addr) := []
def slotsUsed : Nat := 29
def theMethod : MethodId := ⟨1, 2⟩
def args0 : Array Value := #[.int 5]
def aboutOver (below : List Frame) : State where
  vm := { classes := classes, interned := interned.toArray }
  heap := heap
  slotsUsed := slotsUsed
  threads := #[{ frames := .invoking theMethod args0 :: below }]
def below0 : List Frame := [.native { method := ⟨0, 0⟩, args := #[] }]
def about1 : State := aboutOver below0
def p0 : Program := .bare "" "" ""
def e0 : Env := launch0.env 0 0 0
theorem w_frames : about1.frames = Frame.invoking theMethod args0 :: below0 := rfl
set_option maxRecDepth 65536 in
theorem w_args : argsFit about1.vm theMethod args0 = true := by decide +kernel
set_option maxRecDepth 65536 in
theorem w_heap : heapFits about1 = true := by decide +kernel
set_option maxRecDepth 65536 in
theorem w_runnable : about1.curStatus? = some .runnable := by decide +kernel
set_option maxRecDepth 65536 in
theorem w_alone : about1.alone = true := by decide +kernel
set_option maxRecDepth 65536 in
theorem w_named : about1.methodNamed? x = some theMethod := by decide +kernel
set_option maxRecDepth 65536 in
theorem w_hears : about1.hears theMethod below0 = true := by decide +kernel
set_option maxRecDepth 65536 in
theorem w_ripe : about1.ripe theMethod args0 below0 = true := by decide +kernel
theorem w_running : about1.status = .running := rfl
set_option maxRecDepth 65536 in
theorem w_room : about1.hasRoom e0.platform room_1 = true :=
  launch0.hasRoom_least _ room_1 (by decide +kernel) (by decide +kernel) (by decide +kernel) (by decide +kernel) (by decide +kernel) (by decide +kernel)
theorem allAtoms_all (ts : List Jvm.Cond) (a : Array Jvm.Value) (st : Jvm.State) : (allAtoms ts).before a st = ts.all (fun c => c.before a st) := by
  induction ts with
  | nil => rfl
  | cons c t ih =>
    show (Jvm.Cond.and c (allAtoms t)).before a st = _
    rw [Jvm.Cond.before_and, ih, List.all_cons]
def words1 : List Jvm.Cond := Jvm.Cond.code x code maxLocals ret :: tables_1
/-- a 'code' word, met by the world's own term for the bytes: nothing is compared byte by byte -/
theorem code_word {y : MethodName} {bytes : ByteArray} {mx : Nat} {rt : Option FieldType} {a : Array Value} {s : State} {m : MethodId} {meth : Method} {c : Code} (h1 : s.methodNamed? y = some m) (h2 : s.vm.method? m = some meth) (h3 : meth.code = some c) (h4 : c.code = bytes)
    (h5 : (c.maxLocals == mx && c.exceptionTable.isEmpty && decide (c.maxStack ≤ mostOperands) && decide (meth.sig.returnType = rt) && !meth.locks && decide (parseMethodDescriptor y.desc = some meth.sig)) = true) : (Jvm.Cond.code y bytes mx rt).before a s = true := by
  simp only [Bool.and_eq_true, beq_iff_eq, Bool.not_eq_true', decide_eq_true_eq] at h5
  obtain ⟨⟨⟨⟨⟨g1, g2⟩, g3⟩, g4⟩, g5⟩, g6⟩ := h5
  simp [Cond.before, Cond.holds, Cond.value, h1, h2, h3, h4, g1, g2, g3, g4, g5, g6]
def isCode : Jvm.Cond → Bool
  | .code _ _ _ _ => true
  | _ => false
theorem all_split {L : List Jvm.Cond} {P : Jvm.Cond → Bool} (h1 : L.all (fun c => isCode c || P c) = true) (h2 : ∀ c ∈ L.filter isCode, P c = true) : L.all P = true := by
  refine List.all_eq_true.mpr fun c hc => ?_
  have h := List.all_eq_true.mp h1 c hc
  rcases Bool.eq_false_or_eq_true (isCode c) with hi | hi
  · exact h2 c (List.mem_filter.mpr ⟨hc, hi⟩)
  · simpa [hi] using h
set_option maxRecDepth 65536 in
theorem w_c0 : (Jvm.Cond.code x code maxLocals ret).before args0 about1 = true := code_word (m := ⟨1, 2⟩) (meth := k1m2) (c := k1c2) (by decide +kernel) rfl rfl rfl (by decide +kernel)
set_option maxRecDepth 65536 in
theorem w_c1 : (Jvm.Cond.code ({ cls := "com/example/scrutineer/scrutineer/KindActsOnRowPinLaw", name := "pick", desc := "(I)Lcom/example/scrutineer/scrutineer/Operation$Kind;" } : Jvm.MethodName) method_2_code (1 : Nat) (Option.some (Jvm.ClassFile.FieldType.object "com/example/scrutineer/scrutineer/Operation$Kind"))).before args0 about1 = true := code_word (m := ⟨1, 1⟩) (meth := k1m1) (c := k1c1) (by decide +kernel) rfl rfl rfl (by decide +kernel)
set_option maxRecDepth 65536 in
theorem w_c2 : (Jvm.Cond.code ({ cls := "com/example/scrutineer/scrutineer/Operation$Kind", name := "actsOnRow", desc := "()Z" } : Jvm.MethodName) prog_8_method_5_code (1 : Nat) (Option.some Jvm.ClassFile.FieldType.boolean)).before args0 about1 = true := code_word (m := ⟨6, 0⟩) (meth := k6m0) (c := k6c0) (by decide +kernel) rfl rfl rfl (by decide +kernel)
def codes1 : List Jvm.Cond := [Jvm.Cond.code x code maxLocals ret, Jvm.Cond.code ({ cls := "com/example/scrutineer/scrutineer/KindActsOnRowPinLaw", name := "pick", desc := "(I)Lcom/example/scrutineer/scrutineer/Operation$Kind;" } : Jvm.MethodName) method_2_code (1 : Nat) (Option.some (Jvm.ClassFile.FieldType.object "com/example/scrutineer/scrutineer/Operation$Kind")), Jvm.Cond.code ({ cls := "com/example/scrutineer/scrutineer/Operation$Kind", name := "actsOnRow", desc := "()Z" } : Jvm.MethodName) prog_8_method_5_code (1 : Nat) (Option.some Jvm.ClassFile.FieldType.boolean)]
set_option maxRecDepth 65536 in
theorem codes_eq : words1.filter isCode = codes1 := rfl
theorem w_codes : ∀ c ∈ words1.filter isCode, c.before args0 about1 = true := by
  rw [codes_eq]
  intro c hc
  simp only [codes1, List.mem_cons, List.not_mem_nil, or_false] at hc
  rcases hc with rfl | rfl | rfl
  · exact w_c0
  · exact w_c1
  · exact w_c2
set_option maxRecDepth 65536 in
theorem w_t1 : (words1.take 24).all (fun c => isCode c || c.before args0 about1) = true := by decide +kernel
set_option maxRecDepth 65536 in
theorem w_t2 : (words1.drop 24).all (fun c => isCode c || c.before args0 about1) = true := by decide +kernel
theorem w_tables : (allAtoms (Jvm.Cond.code x code maxLocals ret :: tables_1)).before args0 about1 = true := by
  rw [allAtoms_all]
  show words1.all (fun c => c.before args0 about1) = true
  refine all_split ?_ w_codes
  rw [← List.take_append_drop 24 words1, List.all_append, w_t1, w_t2]
  rfl
set_option maxRecDepth 65536 in
theorem w_case : (Jvm.Cond.and given_1 narrow_1).before args0 about1 = true := by decide +kernel
theorem w_applies : (headSpec (Jvm.Cond.code x code maxLocals ret :: tables_1) room_1).applies x e0.platform about1 = true :=
  (Spec.applies_iff w_frames).mpr ⟨w_running, w_runnable, w_alone, w_named, w_hears, w_ripe, w_room, w_tables⟩
theorem atStart : AtStart classFile x code maxLocals ret World_1 tables_1 room_1 Calls_1 rest_1 Pre_1 launch0 p0 e0 about1 theMethod args0 below0 :=
  ⟨lists_1, trivial, launch0.admits_env _ _ _, launch0.least_env, fairChoices_fair.cas, fairChoices_fair.clock, w_frames, w_args, w_heap, w_applies, trivial, trivial, w_case⟩
end start1
theorem witness_1 : WitnessClaimed_1 := ⟨start1.p0, start1.e0, start1.about1, start1.theMethod, start1.args0, start1.below0, start1.atStart⟩
end Jvm.Pilot.@@N@@
