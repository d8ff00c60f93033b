import JvmDerived
import JvmDerived.Pilot.@@N@@Statement
import JvmDerived.Pilot.@@N@@Code
set_option linter.unusedVariables false
set_option linter.unusedSimpArgs false
namespace Jvm.OwnKit
open Sem ClassFile Op Lib Jvm.Stand Jvm.Free Jvm.LawKit Jvm.RoadKit
def Go (tb : Tables) (e : Env) (below : List Frame) (P : State → Outcome → Prop) (S : State) : Prop :=
  ∃ s₂ o, Steps tb e below S s₂ ∧ s₂.status = .running ∧ Ended s₂ below o ∧ P s₂ o
theorem go {tb : Tables} {e : Env} {below : List Frame} {P : State → Outcome → Prop} {S S' : State} (h : ∀ t, Steps tb e below S' t → Steps tb e below S t) (k : Go tb e below P S') : Go tb e below P S := by
  obtain ⟨s₂, o, h1, h2⟩ := k
  exact ⟨s₂, o, h _ h1, h2⟩
theorem goT {tb : Tables} {e : Env} {below : List Frame} {P : State → Outcome → Prop} {S S' : State} (h : Steps tb e below S S') (k : Go tb e below P S') : Go tb e below P S := go (fun _ q => h.trans q) k
def Done (s : State) (Q : Option Value → Heap → List Loc → Prop) (k n : Nat) (t : State) (o : Outcome) : Prop := ∃ v L, o = .returned v ∧ Q v t.heap L ∧ FrameEnd s o t L k n
/-- a body's contract: called with just these arguments, over this heap -/
def Con (l : Launch) (Z : State) (y : MethodName) (bytes : ByteArray) (maxL : Nat) (rt : Option FieldType) (ws : List Jvm.Cond) (rm : Room) (as' : Array Value) (h : Heap) (k n : Nat) (Q : Option Value → Heap → List Loc → Prop) : Prop :=
  MetFree l y (head1 (Jvm.Cond.code y bytes maxL rt :: ws) rm) (fun a U => a = as' ∧ Z.Warmed39 U.vm ∧ U.heap = h) (fun _ _ _ _ _ => True) (fun _ U o U' => ∃ v L, o = .returned v ∧ Q v U'.heap L ∧ FrameEnd U o U' L k n)
theorem Con.of {l : Launch} {Z : State} {y : MethodName} {bytes : ByteArray} {maxL : Nat} {rt : Option FieldType} {ws : List Jvm.Cond} {rm : Room} {as' : Array Value} {h : Heap} {k n : Nat} {Q : Option Value → Heap → List Loc → Prop} (hp : plainFor y = true)
    (body : ∀ (p : Program) (e : Env) (s : State) (m : MethodId) (below : List Frame) (meth : Method) (c : Code) (s₁ : State), p.tables.exec = Jvm.exec → c.code = bytes → c.maxLocals = maxL → s.vm.findClass y.cls = some m.cls → meth.name = y.name → meth.sig.returnType = rt → meth.locks = false → Z.Warmed39 s.vm →
      Stand p l e rm s m as' below meth c s₁ [] 0 0 → s₁.heap = h → Go p.tables e below (Done s Q k n) (s₁.setTop (entryFrame m as' maxL))) : Con l Z y bytes maxL rt ws rm as' h k n Q := by
  refine MetFree.of_bodySF hp hisR ?_
  intro p e s m args below meth c s₁ Bd hml0 hP hK
  obtain ⟨rfl, hZ, hh⟩ := hP
  exact body p e s m below meth c s₁ Bd.exec Bd.bytes hml0 (findClass_of_methodNamed Bd.named) (name_of_methodNamed Bd.named Bd.method).1 Bd.returns Bd.notSynchronized hZ (Stand.of_body Bd) (by rw [← hh, Bd.state]; rfl)
section Steps1
variable {p : Program} {l : Launch} {e : Env} {R : Room} {s : State} {m : MethodId} {args : Array Value} {below : List Frame} {meth : Method} {c : Code} {T : State} {locs : List Loc} {cells slots : Nat} {P : State → Outcome → Prop} {pc q : Nat} {L L' : Array Slot} {S : List Value}
theorem goE {args' : Array Value} {n : Nat} (hq : entryFrame m args' n = mkF m 0 L []) (K : Go p.tables e below P (T.setTop (mkF m 0 L []))) : Go p.tables e below P (T.setTop (entryFrame m args' n)) := go (fun _ k => castTop hq k) K
theorem gIloadN (X : Stand p l e R s m args below meth c T locs cells slots) (hx : p.tables.exec = Jvm.exec) {k : Fin 4} {v : Int32} (hd : decode c.code pc = .ok (.iload_n k, 1)) (hq : pc + 1 = q) (hl : L[k.val]? = some (.val (.int v))) (K : Go p.tables e below P (T.setTop (mkF m q L (.int v :: S)))) : Go p.tables e below P (T.setTop (mkF m pc L (S))) := by subst hq; exact go (fun t k => XS.iloadN X.here hx rfl hd hl k) K
theorem gIload (X : Stand p l e R s m args below meth c T locs cells slots) (hx : p.tables.exec = Jvm.exec) {k : Nat} {v : Int32} (hd : decode c.code pc = .ok (.iload k, 2)) (hq : pc + 2 = q) (hl : L[k]? = some (.val (.int v))) (K : Go p.tables e below P (T.setTop (mkF m q L (.int v :: S)))) : Go p.tables e below P (T.setTop (mkF m pc L (S))) := by subst hq; exact go (fun t k => XS.iload X.here hx rfl hd hl k) K
theorem gLloadN (X : Stand p l e R s m args below meth c T locs cells slots) (hx : p.tables.exec = Jvm.exec) {k : Fin 4} {v : Int64} (hd : decode c.code pc = .ok (.lload_n k, 1)) (hq : pc + 1 = q) (hl : L[k.val]? = some (.val (.long v))) (K : Go p.tables e below P (T.setTop (mkF m q L (.long v :: S)))) : Go p.tables e below P (T.setTop (mkF m pc L (S))) := by subst hq; exact go (fun t k => XT.lloadN X.here hx rfl hd hl k) K
theorem gLload (X : Stand p l e R s m args below meth c T locs cells slots) (hx : p.tables.exec = Jvm.exec) {k : Nat} {v : Int64} (hd : decode c.code pc = .ok (.lload k, 2)) (hq : pc + 2 = q) (hl : L[k]? = some (.val (.long v))) (K : Go p.tables e below P (T.setTop (mkF m q L (.long v :: S)))) : Go p.tables e below P (T.setTop (mkF m pc L (S))) := by subst hq; exact go (fun t k => XT.lload X.here hx rfl hd hl k) K
theorem gAloadN (X : Stand p l e R s m args below meth c T locs cells slots) (hx : p.tables.exec = Jvm.exec) {k : Fin 4} {v : Value} (hd : decode c.code pc = .ok (.aload_n k, 1)) (hq : pc + 1 = q) (hl : L[k.val]? = some (.val v)) (hv : v.isRef = true) (K : Go p.tables e below P (T.setTop (mkF m q L (v :: S)))) : Go p.tables e below P (T.setTop (mkF m pc L (S))) := by subst hq; exact go (fun t k => XS.aloadN X.here hx rfl hd hl hv k) K
theorem gAload (X : Stand p l e R s m args below meth c T locs cells slots) (hx : p.tables.exec = Jvm.exec) {k : Nat} {v : Value} (hd : decode c.code pc = .ok (.aload k, 2)) (hq : pc + 2 = q) (hl : L[k]? = some (.val v)) (hv : v.isRef = true) (K : Go p.tables e below P (T.setTop (mkF m q L (v :: S)))) : Go p.tables e below P (T.setTop (mkF m pc L (S))) := by subst hq; exact go (fun t k => XS.aload X.here hx rfl hd hl hv k) K
theorem gIconst (X : Stand p l e R s m args below meth c T locs cells slots) (hx : p.tables.exec = Jvm.exec) {i : Int} (v : Int32) (hd : decode c.code pc = .ok (.iconst i, 1)) (hq : pc + 1 = q) (hv : Int32.ofInt i = v) (K : Go p.tables e below P (T.setTop (mkF m q L (.int v :: S)))) : Go p.tables e below P (T.setTop (mkF m pc L (S))) := by subst hq; exact go (fun t k => XT.iconstV X.here hx rfl v hd hv k) K
theorem gBipush (X : Stand p l e R s m args below meth c T locs cells slots) (hx : p.tables.exec = Jvm.exec) {i : Int} (v : Int32) (hd : decode c.code pc = .ok (.bipush i, 2)) (hq : pc + 2 = q) (hv : (Int8.ofInt i).toInt32 = v) (K : Go p.tables e below P (T.setTop (mkF m q L (.int v :: S)))) : Go p.tables e below P (T.setTop (mkF m pc L (S))) := by subst hq; exact go (fun t k => XT.bipushV X.here hx rfl v hd hv k) K
theorem gSipush (X : Stand p l e R s m args below meth c T locs cells slots) (hx : p.tables.exec = Jvm.exec) {i : Int} (v : Int32) (hd : decode c.code pc = .ok (.sipush i, 3)) (hq : pc + 3 = q) (hv : (Int16.ofInt i).toInt32 = v) (K : Go p.tables e below P (T.setTop (mkF m q L (.int v :: S)))) : Go p.tables e below P (T.setTop (mkF m pc L (S))) := by subst hq; exact go (fun t k => XT.sipushV X.here hx rfl v hd hv k) K
theorem gLconst (X : Stand p l e R s m args below meth c T locs cells slots) (hx : p.tables.exec = Jvm.exec) {k : Fin 2} (v : Int64) (hd : decode c.code pc = .ok (.lconst k, 1)) (hq : pc + 1 = q) (hv : Int64.ofNat k = v) (K : Go p.tables e below P (T.setTop (mkF m q L (.long v :: S)))) : Go p.tables e below P (T.setTop (mkF m pc L (S))) := by subst hq; exact go (fun t k => XT.lconstV X.here hx rfl v hd hv k) K
theorem gNull (X : Stand p l e R s m args below meth c T locs cells slots) (hx : p.tables.exec = Jvm.exec)  (hd : decode c.code pc = .ok (.aconst_null, 1)) (hq : pc + 1 = q)  (K : Go p.tables e below P (T.setTop (mkF m q L (.null :: S)))) : Go p.tables e below P (T.setTop (mkF m pc L (S))) := by subst hq; exact go (fun t k => XS.aconstNull X.here hx rfl hd  k) K
theorem gLdc (X : Stand p l e R s m args below meth c T locs cells slots) (hx : p.tables.exec = Jvm.exec) {Z : State} {a0 : Array Value} (hZ : Z.Warmed39 s.vm) {own : String} {i : Nat} {v : Int32} (hown : s.vm.findClass own = some m.cls) (w : (Jvm.Cond.constant own i v).before a0 Z = true) (hd : decode c.code pc = .ok (.ldc i, 2)) (hq : pc + 2 = q) (K : Go p.tables e below P (T.setTop (mkF m q L (.int v :: S)))) : Go p.tables e below P (T.setTop (mkF m pc L (S))) := by subst hq; exact go (fun t k => Stand.ldcI X hx hown (mvT hZ w) rfl hd k) K
theorem gLdcW (X : Stand p l e R s m args below meth c T locs cells slots) (hx : p.tables.exec = Jvm.exec) {Z : State} {a0 : Array Value} (hZ : Z.Warmed39 s.vm) {own : String} {i : Nat} {v : Int32} (hown : s.vm.findClass own = some m.cls) (w : (Jvm.Cond.constant own i v).before a0 Z = true) (hd : decode c.code pc = .ok (.ldc_w i, 3)) (hq : pc + 3 = q) (K : Go p.tables e below P (T.setTop (mkF m q L (.int v :: S)))) : Go p.tables e below P (T.setTop (mkF m pc L (S))) := by subst hq; exact go (fun t k => Stand.ldcWI X hx hown (mvT hZ w) rfl hd k) K
theorem gLdc2 (X : Stand p l e R s m args below meth c T locs cells slots) (hx : p.tables.exec = Jvm.exec) {Z : State} {a0 : Array Value} (hZ : Z.Warmed39 s.vm) {own : String} {i : Nat} {v : Int64} (hown : s.vm.findClass own = some m.cls) (w : (Jvm.Cond.constantLong own i v).before a0 Z = true) (hd : decode c.code pc = .ok (.ldc2_w i, 3)) (hq : pc + 3 = q) (K : Go p.tables e below P (T.setTop (mkF m q L (.long v :: S)))) : Go p.tables e below P (T.setTop (mkF m pc L (S))) := by subst hq; exact go (fun t k => Stand.ldc2J X hx hown (mvT hZ w) rfl hd k) K
theorem gIadd (X : Stand p l e R s m args below meth c T locs cells slots) (hx : p.tables.exec = Jvm.exec) {x y : Int32} (hd : decode c.code pc = .ok (.iadd, 1)) (hq : pc + 1 = q)  (K : Go p.tables e below P (T.setTop (mkF m q L (.int (x + y) :: S)))) : Go p.tables e below P (T.setTop (mkF m pc L (.int y :: .int x :: S))) := by subst hq; exact go (fun t k => XS.iadd X.here hx rfl hd rfl  k) K
theorem gIsub (X : Stand p l e R s m args below meth c T locs cells slots) (hx : p.tables.exec = Jvm.exec) {x y : Int32} (hd : decode c.code pc = .ok (.isub, 1)) (hq : pc + 1 = q)  (K : Go p.tables e below P (T.setTop (mkF m q L (.int (x - y) :: S)))) : Go p.tables e below P (T.setTop (mkF m pc L (.int y :: .int x :: S))) := by subst hq; exact go (fun t k => XS.isub X.here hx rfl hd rfl  k) K
theorem gIand (X : Stand p l e R s m args below meth c T locs cells slots) (hx : p.tables.exec = Jvm.exec) {x y : Int32} (hd : decode c.code pc = .ok (.iand, 1)) (hq : pc + 1 = q)  (K : Go p.tables e below P (T.setTop (mkF m q L (.int (x &&& y) :: S)))) : Go p.tables e below P (T.setTop (mkF m pc L (.int y :: .int x :: S))) := by subst hq; exact go (fun t k => XS.iand X.here hx rfl hd rfl  k) K
theorem gImul (X : Stand p l e R s m args below meth c T locs cells slots) (hx : p.tables.exec = Jvm.exec) {x y : Int32} (hd : decode c.code pc = .ok (.imul, 1)) (hq : pc + 1 = q)  (K : Go p.tables e below P (T.setTop (mkF m q L (.int (x * y) :: S)))) : Go p.tables e below P (T.setTop (mkF m pc L (.int y :: .int x :: S))) := by subst hq; exact go (fun t k => XS.imul X.here hx rfl hd rfl  k) K
theorem gIxor (X : Stand p l e R s m args below meth c T locs cells slots) (hx : p.tables.exec = Jvm.exec) {x y : Int32} (hd : decode c.code pc = .ok (.ixor, 1)) (hq : pc + 1 = q)  (K : Go p.tables e below P (T.setTop (mkF m q L (.int (x ^^^ y) :: S)))) : Go p.tables e below P (T.setTop (mkF m pc L (.int y :: .int x :: S))) := by subst hq; exact go (fun t k => XT.ixor X.here hx rfl hd rfl  k) K
theorem gIor (X : Stand p l e R s m args below meth c T locs cells slots) (hx : p.tables.exec = Jvm.exec) {x y : Int32} (hd : decode c.code pc = .ok (.ior, 1)) (hq : pc + 1 = q)  (K : Go p.tables e below P (T.setTop (mkF m q L (.int (x ||| y) :: S)))) : Go p.tables e below P (T.setTop (mkF m pc L (.int y :: .int x :: S))) := by subst hq; exact go (fun t k => XT.ior X.here hx rfl hd rfl  k) K
theorem gIshl (X : Stand p l e R s m args below meth c T locs cells slots) (hx : p.tables.exec = Jvm.exec) {x y : Int32} (hd : decode c.code pc = .ok (.ishl, 1)) (hq : pc + 1 = q)  (K : Go p.tables e below P (T.setTop (mkF m q L (.int (x <<< (y &&& 31)) :: S)))) : Go p.tables e below P (T.setTop (mkF m pc L (.int y :: .int x :: S))) := by subst hq; exact go (fun t k => XT.ishl X.here hx rfl hd rfl  k) K
theorem gIshr (X : Stand p l e R s m args below meth c T locs cells slots) (hx : p.tables.exec = Jvm.exec) {x y : Int32} (hd : decode c.code pc = .ok (.ishr, 1)) (hq : pc + 1 = q)  (K : Go p.tables e below P (T.setTop (mkF m q L (.int (x >>> (y &&& 31)) :: S)))) : Go p.tables e below P (T.setTop (mkF m pc L (.int y :: .int x :: S))) := by subst hq; exact go (fun t k => XT.ishr X.here hx rfl hd rfl  k) K
theorem gIushr (X : Stand p l e R s m args below meth c T locs cells slots) (hx : p.tables.exec = Jvm.exec) {x y : Int32} (hd : decode c.code pc = .ok (.iushr, 1)) (hq : pc + 1 = q)  (K : Go p.tables e below P (T.setTop (mkF m q L (.int (XT.ushr x y) :: S)))) : Go p.tables e below P (T.setTop (mkF m pc L (.int y :: .int x :: S))) := by subst hq; exact go (fun t k => XT.iushr X.here hx rfl hd rfl  k) K
theorem gIdiv (X : Stand p l e R s m args below meth c T locs cells slots) (hx : p.tables.exec = Jvm.exec) {x y : Int32} (hd : decode c.code pc = .ok (.idiv, 1)) (hq : pc + 1 = q) (hy : y ≠ 0) (K : Go p.tables e below P (T.setTop (mkF m q L (.int (x / y) :: S)))) : Go p.tables e below P (T.setTop (mkF m pc L (.int y :: .int x :: S))) := by subst hq; exact go (fun t k => XS.idiv X.here hx rfl hd rfl hy k) K
theorem gIrem (X : Stand p l e R s m args below meth c T locs cells slots) (hx : p.tables.exec = Jvm.exec) {x y : Int32} (hd : decode c.code pc = .ok (.irem, 1)) (hq : pc + 1 = q) (hy : y ≠ 0) (K : Go p.tables e below P (T.setTop (mkF m q L (.int (x % y) :: S)))) : Go p.tables e below P (T.setTop (mkF m pc L (.int y :: .int x :: S))) := by subst hq; exact go (fun t k => iremM X hx rfl hd rfl hy k) K
theorem gIneg (X : Stand p l e R s m args below meth c T locs cells slots) (hx : p.tables.exec = Jvm.exec) {x : Int32} (hd : decode c.code pc = .ok (.ineg, 1)) (hq : pc + 1 = q)  (K : Go p.tables e below P (T.setTop (mkF m q L (.int (-x) :: S)))) : Go p.tables e below P (T.setTop (mkF m pc L (.int x :: S))) := by subst hq; exact go (fun t k => XS.ineg X.here hx rfl hd rfl  k) K
theorem gLadd (X : Stand p l e R s m args below meth c T locs cells slots) (hx : p.tables.exec = Jvm.exec) {x y : Int64} (hd : decode c.code pc = .ok (.ladd, 1)) (hq : pc + 1 = q)  (K : Go p.tables e below P (T.setTop (mkF m q L (.long (x + y) :: S)))) : Go p.tables e below P (T.setTop (mkF m pc L (.long y :: .long x :: S))) := by subst hq; exact go (fun t k => XT.ladd X.here hx rfl hd rfl  k) K
theorem gLsub (X : Stand p l e R s m args below meth c T locs cells slots) (hx : p.tables.exec = Jvm.exec) {x y : Int64} (hd : decode c.code pc = .ok (.lsub, 1)) (hq : pc + 1 = q)  (K : Go p.tables e below P (T.setTop (mkF m q L (.long (x - y) :: S)))) : Go p.tables e below P (T.setTop (mkF m pc L (.long y :: .long x :: S))) := by subst hq; exact go (fun t k => XT.lsub X.here hx rfl hd rfl  k) K
theorem gLmul (X : Stand p l e R s m args below meth c T locs cells slots) (hx : p.tables.exec = Jvm.exec) {x y : Int64} (hd : decode c.code pc = .ok (.lmul, 1)) (hq : pc + 1 = q)  (K : Go p.tables e below P (T.setTop (mkF m q L (.long (x * y) :: S)))) : Go p.tables e below P (T.setTop (mkF m pc L (.long y :: .long x :: S))) := by subst hq; exact go (fun t k => XT.lmul X.here hx rfl hd rfl  k) K
theorem gLand (X : Stand p l e R s m args below meth c T locs cells slots) (hx : p.tables.exec = Jvm.exec) {x y : Int64} (hd : decode c.code pc = .ok (.land, 1)) (hq : pc + 1 = q)  (K : Go p.tables e below P (T.setTop (mkF m q L (.long (x &&& y) :: S)))) : Go p.tables e below P (T.setTop (mkF m pc L (.long y :: .long x :: S))) := by subst hq; exact go (fun t k => XT.land X.here hx rfl hd rfl  k) K
theorem gLor (X : Stand p l e R s m args below meth c T locs cells slots) (hx : p.tables.exec = Jvm.exec) {x y : Int64} (hd : decode c.code pc = .ok (.lor, 1)) (hq : pc + 1 = q)  (K : Go p.tables e below P (T.setTop (mkF m q L (.long (x ||| y) :: S)))) : Go p.tables e below P (T.setTop (mkF m pc L (.long y :: .long x :: S))) := by subst hq; exact go (fun t k => XT.lor X.here hx rfl hd rfl  k) K
theorem gLxor (X : Stand p l e R s m args below meth c T locs cells slots) (hx : p.tables.exec = Jvm.exec) {x y : Int64} (hd : decode c.code pc = .ok (.lxor, 1)) (hq : pc + 1 = q)  (K : Go p.tables e below P (T.setTop (mkF m q L (.long (x ^^^ y) :: S)))) : Go p.tables e below P (T.setTop (mkF m pc L (.long y :: .long x :: S))) := by subst hq; exact go (fun t k => XT.lxor X.here hx rfl hd rfl  k) K
theorem gLcmp (X : Stand p l e R s m args below meth c T locs cells slots) (hx : p.tables.exec = Jvm.exec) {x y : Int64} (hd : decode c.code pc = .ok (.lcmp, 1)) (hq : pc + 1 = q)  (K : Go p.tables e below P (T.setTop (mkF m q L (.int (XT.cmpL x y) :: S)))) : Go p.tables e below P (T.setTop (mkF m pc L (.long y :: .long x :: S))) := by subst hq; exact go (fun t k => XT.lcmp X.here hx rfl hd rfl  k) K
theorem gLneg (X : Stand p l e R s m args below meth c T locs cells slots) (hx : p.tables.exec = Jvm.exec) {x : Int64} (hd : decode c.code pc = .ok (.lneg, 1)) (hq : pc + 1 = q)  (K : Go p.tables e below P (T.setTop (mkF m q L (.long (-x) :: S)))) : Go p.tables e below P (T.setTop (mkF m pc L (.long x :: S))) := by subst hq; exact go (fun t k => XT.lneg X.here hx rfl hd rfl  k) K
theorem gI2l (X : Stand p l e R s m args below meth c T locs cells slots) (hx : p.tables.exec = Jvm.exec) {x : Int32} (hd : decode c.code pc = .ok (.i2l, 1)) (hq : pc + 1 = q)  (K : Go p.tables e below P (T.setTop (mkF m q L (.long x.toInt64 :: S)))) : Go p.tables e below P (T.setTop (mkF m pc L (.int x :: S))) := by subst hq; exact go (fun t k => XT.i2l X.here hx rfl hd rfl  k) K
theorem gL2i (X : Stand p l e R s m args below meth c T locs cells slots) (hx : p.tables.exec = Jvm.exec) {x : Int64} (hd : decode c.code pc = .ok (.l2i, 1)) (hq : pc + 1 = q)  (K : Go p.tables e below P (T.setTop (mkF m q L (.int x.toInt32 :: S)))) : Go p.tables e below P (T.setTop (mkF m pc L (.long x :: S))) := by subst hq; exact go (fun t k => XT.l2i X.here hx rfl hd rfl  k) K
theorem gI2c (X : Stand p l e R s m args below meth c T locs cells slots) (hx : p.tables.exec = Jvm.exec) {x : Int32} (hd : decode c.code pc = .ok (.i2c, 1)) (hq : pc + 1 = q)  (K : Go p.tables e below P (T.setTop (mkF m q L (.int x.toUInt32.toUInt16.toUInt32.toInt32 :: S)))) : Go p.tables e below P (T.setTop (mkF m pc L (.int x :: S))) := by subst hq; exact go (fun t k => XT.i2c X.here hx rfl hd rfl  k) K
theorem gI2b (X : Stand p l e R s m args below meth c T locs cells slots) (hx : p.tables.exec = Jvm.exec) {x : Int32} (hd : decode c.code pc = .ok (.i2b, 1)) (hq : pc + 1 = q)  (K : Go p.tables e below P (T.setTop (mkF m q L (.int x.toInt8.toInt32 :: S)))) : Go p.tables e below P (T.setTop (mkF m pc L (.int x :: S))) := by subst hq; exact go (fun t k => XT.i2b X.here hx rfl hd rfl  k) K
theorem gLdiv (X : Stand p l e R s m args below meth c T locs cells slots) (hx : p.tables.exec = Jvm.exec) {x y : Int64} (hd : decode c.code pc = .ok (.ldiv, 1)) (hq : pc + 1 = q) (hy : y ≠ 0) (K : Go p.tables e below P (T.setTop (mkF m q L (.long (x / y) :: S)))) : Go p.tables e below P (T.setTop (mkF m pc L (.long y :: .long x :: S))) := by subst hq; exact go (fun t k => XT.ldiv X.here hx rfl hd rfl hy k) K
theorem gLshl (X : Stand p l e R s m args below meth c T locs cells slots) (hx : p.tables.exec = Jvm.exec) {x : Int64} {y : Int32} (hd : decode c.code pc = .ok (.lshl, 1)) (hq : pc + 1 = q)  (K : Go p.tables e below P (T.setTop (mkF m q L (.long (x <<< (y.toInt64 &&& 63)) :: S)))) : Go p.tables e below P (T.setTop (mkF m pc L (.int y :: .long x :: S))) := by subst hq; exact go (fun t k => XT.lshl X.here hx rfl hd rfl  k) K
theorem gLshr (X : Stand p l e R s m args below meth c T locs cells slots) (hx : p.tables.exec = Jvm.exec) {x : Int64} {y : Int32} (hd : decode c.code pc = .ok (.lshr, 1)) (hq : pc + 1 = q)  (K : Go p.tables e below P (T.setTop (mkF m q L (.long (x >>> (y.toInt64 &&& 63)) :: S)))) : Go p.tables e below P (T.setTop (mkF m pc L (.int y :: .long x :: S))) := by subst hq; exact go (fun t k => XT.lshr X.here hx rfl hd rfl  k) K
theorem gLushr (X : Stand p l e R s m args below meth c T locs cells slots) (hx : p.tables.exec = Jvm.exec) {x : Int64} {y : Int32} (hd : decode c.code pc = .ok (.lushr, 1)) (hq : pc + 1 = q)  (K : Go p.tables e below P (T.setTop (mkF m q L (.long (XT.ushrL x y) :: S)))) : Go p.tables e below P (T.setTop (mkF m pc L (.int y :: .long x :: S))) := by subst hq; exact go (fun t k => XT.lushr X.here hx rfl hd rfl  k) K
theorem gLrem (X : Stand p l e R s m args below meth c T locs cells slots) (hx : p.tables.exec = Jvm.exec) {x y : Int64} (hd : decode c.code pc = .ok (.lrem, 1)) (hq : pc + 1 = q) (hy : y ≠ 0) (K : Go p.tables e below P (T.setTop (mkF m q L (.long (x - (x / y) * y) :: S)))) : Go p.tables e below P (T.setTop (mkF m pc L (.long y :: .long x :: S))) := by subst hq; exact go (fun t k => XT.lrem X.here hx rfl hd rfl hy k) K
theorem gIstoreN (X : Stand p l e R s m args below meth c T locs cells slots) (hx : p.tables.exec = Jvm.exec) {k : Fin 4} {x : Int32} (hd : decode c.code pc = .ok (.istore_n k, 1)) (hq : pc + 1 = q) (hl : storeLocals L k.val (.int x) = some L') (K : Go p.tables e below P (T.setTop (mkF m q L' (S)))) : Go p.tables e below P (T.setTop (mkF m pc L (.int x :: S))) := by subst hq; exact go (fun t k => XS.istoreN X.here hx rfl hd rfl hl k) K
theorem gIstore (X : Stand p l e R s m args below meth c T locs cells slots) (hx : p.tables.exec = Jvm.exec) {k : Nat} {x : Int32} (hd : decode c.code pc = .ok (.istore k, 2)) (hq : pc + 2 = q) (hl : storeLocals L k (.int x) = some L') (K : Go p.tables e below P (T.setTop (mkF m q L' (S)))) : Go p.tables e below P (T.setTop (mkF m pc L (.int x :: S))) := by subst hq; exact go (fun t k => XS.istore X.here hx rfl hd rfl hl k) K
theorem gLstoreN (X : Stand p l e R s m args below meth c T locs cells slots) (hx : p.tables.exec = Jvm.exec) {k : Fin 4} {x : Int64} (hd : decode c.code pc = .ok (.lstore_n k, 1)) (hq : pc + 1 = q) (hl : storeLocals L k.val (.long x) = some L') (K : Go p.tables e below P (T.setTop (mkF m q L' (S)))) : Go p.tables e below P (T.setTop (mkF m pc L (.long x :: S))) := by subst hq; exact go (fun t k => XT.lstoreN X.here hx rfl hd rfl hl k) K
theorem gLstore (X : Stand p l e R s m args below meth c T locs cells slots) (hx : p.tables.exec = Jvm.exec) {k : Nat} {x : Int64} (hd : decode c.code pc = .ok (.lstore k, 2)) (hq : pc + 2 = q) (hl : storeLocals L k (.long x) = some L') (K : Go p.tables e below P (T.setTop (mkF m q L' (S)))) : Go p.tables e below P (T.setTop (mkF m pc L (.long x :: S))) := by subst hq; exact go (fun t k => XT.lstore X.here hx rfl hd rfl hl k) K
theorem gAstoreN (X : Stand p l e R s m args below meth c T locs cells slots) (hx : p.tables.exec = Jvm.exec) {k : Fin 4} {x : Value} (hd : decode c.code pc = .ok (.astore_n k, 1)) (hq : pc + 1 = q) (hv : x.isRef = true) (hl : storeLocals L k.val x = some L') (K : Go p.tables e below P (T.setTop (mkF m q L' (S)))) : Go p.tables e below P (T.setTop (mkF m pc L (x :: S))) := by subst hq; exact go (fun t k => XS.astoreN X.here hx rfl hd rfl hv hl k) K
theorem gAstore (X : Stand p l e R s m args below meth c T locs cells slots) (hx : p.tables.exec = Jvm.exec) {k : Nat} {x : Value} (hd : decode c.code pc = .ok (.astore k, 2)) (hq : pc + 2 = q) (hv : x.isRef = true) (hl : storeLocals L k x = some L') (K : Go p.tables e below P (T.setTop (mkF m q L' (S)))) : Go p.tables e below P (T.setTop (mkF m pc L (x :: S))) := by subst hq; exact go (fun t k => XS.astore X.here hx rfl hd rfl hv hl k) K
theorem gIinc (X : Stand p l e R s m args below meth c T locs cells slots) (hx : p.tables.exec = Jvm.exec) {k : Nat} {cst : Int} {x : Int32} (v : Int32) (hd : decode c.code pc = .ok (.iinc k cst, 3)) (hq : pc + 3 = q) (hv : Int32.ofInt cst = v) (hl : L[k]? = some (.val (.int x))) (hl' : storeLocals L k (.int (x + v)) = some L') (K : Go p.tables e below P (T.setTop (mkF m q L' (S)))) : Go p.tables e below P (T.setTop (mkF m pc L (S))) := by subst hq; exact go (fun t k => XT.iincV X.here hx rfl v hd hv hl hl' k) K
theorem gDup (X : Stand p l e R s m args below meth c T locs cells slots) (hx : p.tables.exec = Jvm.exec) {x : Value} (hd : decode c.code pc = .ok (.dup, 1)) (hq : pc + 1 = q) (hc : x.category = 1) (K : Go p.tables e below P (T.setTop (mkF m q L (x :: x :: S)))) : Go p.tables e below P (T.setTop (mkF m pc L (x :: S))) := by subst hq; exact go (fun t k => XS.dup X.here hx rfl hd rfl hc k) K
theorem gPop (X : Stand p l e R s m args below meth c T locs cells slots) (hx : p.tables.exec = Jvm.exec) {x : Value} (hd : decode c.code pc = .ok (.pop, 1)) (hq : pc + 1 = q) (hc : x.category = 1) (K : Go p.tables e below P (T.setTop (mkF m q L (S)))) : Go p.tables e below P (T.setTop (mkF m pc L (x :: S))) := by subst hq; exact go (fun t k => XT.pop X.here hx rfl hd rfl hc k) K
theorem gDupX1 (X : Stand p l e R s m args below meth c T locs cells slots) (hx : p.tables.exec = Jvm.exec) {x y : Value} (hd : decode c.code pc = .ok (.dup_x1, 1)) (hq : pc + 1 = q) (hc : x.category = 1) (hc' : y.category = 1) (K : Go p.tables e below P (T.setTop (mkF m q L (x :: y :: x :: S)))) : Go p.tables e below P (T.setTop (mkF m pc L (x :: y :: S))) := by subst hq; exact go (fun t k => XT.dupX1 X.here hx rfl hd rfl hc hc' k) K
theorem gDup2 (X : Stand p l e R s m args below meth c T locs cells slots) (hx : p.tables.exec = Jvm.exec) {x y : Value} (hd : decode c.code pc = .ok (.dup2, 1)) (hq : pc + 1 = q) (hc : x.category = 1) (hc' : y.category = 1) (K : Go p.tables e below P (T.setTop (mkF m q L (x :: y :: x :: y :: S)))) : Go p.tables e below P (T.setTop (mkF m pc L (x :: y :: S))) := by subst hq; exact go (fun t k => XT.dup2 X.here hx rfl hd rfl hc hc' k) K
theorem gDup2L (X : Stand p l e R s m args below meth c T locs cells slots) (hx : p.tables.exec = Jvm.exec) {x : Int64} (hd : decode c.code pc = .ok (.dup2, 1)) (hq : pc + 1 = q)  (K : Go p.tables e below P (T.setTop (mkF m q L (.long x :: .long x :: S)))) : Go p.tables e below P (T.setTop (mkF m pc L (.long x :: S))) := by subst hq; exact go (fun t k => XT.dup2L X.here hx rfl hd rfl  k) K
theorem gGoto (X : Stand p l e R s m args below meth c T locs cells slots) (hx : p.tables.exec = Jvm.exec) {o : Int} (hd : decode c.code pc = .ok (.goto o, 3)) (ho : 0 ≤ (pc : Int) + o) (hq : ((pc : Int) + o).toNat = q) (K : Go p.tables e below P (T.setTop (mkF m q L (S)))) : Go p.tables e below P (T.setTop (mkF m pc L (S))) := go (fun t k => XS.goto X.here hx rfl rfl hd ho hq k) K
theorem gIfY (X : Stand p l e R s m args below meth c T locs cells slots) (hx : p.tables.exec = Jvm.exec) {cd : ClassFile.Cond} {x : Int32} {o : Int} (hd : decode c.code pc = .ok (.ifCond cd o, 3)) (ho : 0 ≤ (pc : Int) + o) (hq : ((pc : Int) + o).toNat = q) (hc : ifCond.holds cd x = true) (K : Go p.tables e below P (T.setTop (mkF m q L (S)))) : Go p.tables e below P (T.setTop (mkF m pc L (.int x :: S))) := go (fun t k => XS.ifYes X.here hx rfl rfl hd rfl hc ho hq k) K
theorem gIfN (X : Stand p l e R s m args below meth c T locs cells slots) (hx : p.tables.exec = Jvm.exec) {cd : ClassFile.Cond} {x : Int32} {o : Int} (hd : decode c.code pc = .ok (.ifCond cd o, 3)) (hq : pc + 3 = q) (hc : ifCond.holds cd x = false) (K : Go p.tables e below P (T.setTop (mkF m q L (S)))) : Go p.tables e below P (T.setTop (mkF m pc L (.int x :: S))) := by subst hq; exact go (fun t k => XS.ifNo X.here hx rfl hd rfl hc k) K
theorem gIcmpY (X : Stand p l e R s m args below meth c T locs cells slots) (hx : p.tables.exec = Jvm.exec) {cd : ClassFile.Cond} {x y : Int32} {o : Int} (hd : decode c.code pc = .ok (.if_icmp cd o, 3)) (ho : 0 ≤ (pc : Int) + o) (hq : ((pc : Int) + o).toNat = q) (hc : if_icmp.holds cd x y = true) (K : Go p.tables e below P (T.setTop (mkF m q L (S)))) : Go p.tables e below P (T.setTop (mkF m pc L (.int y :: .int x :: S))) := go (fun t k => XS.icmpYes X.here hx rfl rfl hd rfl hc ho hq k) K
theorem gIcmpN (X : Stand p l e R s m args below meth c T locs cells slots) (hx : p.tables.exec = Jvm.exec) {cd : ClassFile.Cond} {x y : Int32} {o : Int} (hd : decode c.code pc = .ok (.if_icmp cd o, 3)) (hq : pc + 3 = q) (hc : if_icmp.holds cd x y = false) (K : Go p.tables e below P (T.setTop (mkF m q L (S)))) : Go p.tables e below P (T.setTop (mkF m pc L (.int y :: .int x :: S))) := by subst hq; exact go (fun t k => XS.icmpNo X.here hx rfl hd rfl hc k) K
theorem gAcmpY (X : Stand p l e R s m args below meth c T locs cells slots) (hx : p.tables.exec = Jvm.exec) {cd : ClassFile.ACond} {x y : Value} {o : Int} (hd : decode c.code pc = .ok (.if_acmp cd o, 3)) (ho : 0 ≤ (pc : Int) + o) (hq : ((pc : Int) + o).toNat = q) (h1 : x.isRef = true) (h2 : y.isRef = true) (hc : XT.acmp cd x y = true) (K : Go p.tables e below P (T.setTop (mkF m q L (S)))) : Go p.tables e below P (T.setTop (mkF m pc L (y :: x :: S))) := go (fun t k => XT.acmpYes X.here hx rfl rfl hd rfl h1 h2 hc ho hq k) K
theorem gAcmpN (X : Stand p l e R s m args below meth c T locs cells slots) (hx : p.tables.exec = Jvm.exec) {cd : ClassFile.ACond} {x y : Value} {o : Int} (hd : decode c.code pc = .ok (.if_acmp cd o, 3)) (hq : pc + 3 = q) (h1 : x.isRef = true) (h2 : y.isRef = true) (hc : XT.acmp cd x y = false) (K : Go p.tables e below P (T.setTop (mkF m q L (S)))) : Go p.tables e below P (T.setTop (mkF m pc L (y :: x :: S))) := by subst hq; exact go (fun t k => XT.acmpNo X.here hx rfl hd rfl h1 h2 hc k) K
theorem gNullY (X : Stand p l e R s m args below meth c T locs cells slots) (hx : p.tables.exec = Jvm.exec) {v : Value} {o : Int} (hd : decode c.code pc = .ok (.ifnull o, 3)) (ho : 0 ≤ (pc : Int) + o) (hq : ((pc : Int) + o).toNat = q) (hv : v = .null) (K : Go p.tables e below P (T.setTop (mkF m q L (S)))) : Go p.tables e below P (T.setTop (mkF m pc L (v :: S))) := go (fun t k => XT.nullYes X.here hx rfl rfl hd rfl hv ho hq k) K
theorem gNullN (X : Stand p l e R s m args below meth c T locs cells slots) (hx : p.tables.exec = Jvm.exec) {v : Value} {o : Int} (hd : decode c.code pc = .ok (.ifnull o, 3)) (hq : pc + 3 = q) (hr : v.isRef = true) (hv : ¬ v = .null) (K : Go p.tables e below P (T.setTop (mkF m q L (S)))) : Go p.tables e below P (T.setTop (mkF m pc L (v :: S))) := by subst hq; exact go (fun t k => XT.nullNo X.here hx rfl hd rfl hr hv k) K
theorem gNonY (X : Stand p l e R s m args below meth c T locs cells slots) (hx : p.tables.exec = Jvm.exec) {v : Value} {o : Int} (hd : decode c.code pc = .ok (.ifnonnull o, 3)) (ho : 0 ≤ (pc : Int) + o) (hq : ((pc : Int) + o).toNat = q) (hr : v.isRef = true) (hv : ¬ v = .null) (K : Go p.tables e below P (T.setTop (mkF m q L (S)))) : Go p.tables e below P (T.setTop (mkF m pc L (v :: S))) := go (fun t k => XT.nonnullYes X.here hx rfl rfl hd rfl hr hv ho hq k) K
theorem gNonN (X : Stand p l e R s m args below meth c T locs cells slots) (hx : p.tables.exec = Jvm.exec) {v : Value} {o : Int} (hd : decode c.code pc = .ok (.ifnonnull o, 3)) (hq : pc + 3 = q) (hv : v = .null) (K : Go p.tables e below P (T.setTop (mkF m q L (S)))) : Go p.tables e below P (T.setTop (mkF m pc L (v :: S))) := by subst hq; exact go (fun t k => XT.nonnullNo X.here hx rfl hd rfl hv k) K
theorem gRet (X : Stand p l e R s m args below meth c T locs cells slots) (hx : p.tables.exec = Jvm.exec) {Q : Option Value → Heap → List Loc → Prop} {k n : Nat} {w : Value} {t : FieldType} {i : Instr} (hlk : meth.locks = false) (hret : meth.sig.returnType = some t) (hn : narrow t w = w)
    (hi : (i = .ireturn ∧ (t = .int ∨ t = .boolean ∨ t = .byte ∨ t = .char ∨ t = .short) ∧ ∃ z, w = .int z) ∨ (i = .lreturn ∧ t = .long ∧ ∃ z, w = .long z) ∨ (i = .dreturn ∧ t = .double ∧ ∃ z, w = .double z) ∨ (i = .freturn ∧ t = .float ∧ ∃ z, w = .float z) ∨ (i = .areturn ∧ t.isReference = true ∧ w.isRef = true))
    (hd : decode c.code pc = .ok (i, 1)) (hk : cells ≤ k) (hs : slots ≤ n) (hQ : Q (some w) T.heap locs) : Go p.tables e below (Done s Q k n) (T.setTop (mkF m pc L (w :: S))) := by
  obtain ⟨fs, hr, hrun, hended, hW, hsame⟩ := X.leave (v := some w) (fun h => by rw [hret] at h; cases h) hlk
  exact ⟨_, _, retOut X hx hret hn hi hd hr, hrun, hended, _, _, rfl, hQ, ⟨_, rfl⟩, hW, hsame.mono hk hs⟩
theorem gRetI (X : Stand p l e R s m args below meth c T locs cells slots) (hx : p.tables.exec = Jvm.exec) {Q : Option Value → Heap → List Loc → Prop} {k n : Nat} {z : Int32} (hlk : meth.locks = false) (hret : meth.sig.returnType = some .int) (hd : decode c.code pc = .ok (.ireturn, 1)) (hk : cells ≤ k) (hs : slots ≤ n) (hQ : Q (some (.int z)) T.heap locs) : Go p.tables e below (Done s Q k n) (T.setTop (mkF m pc L (.int z :: S))) :=
  gRet X hx hlk hret rfl (Or.inl ⟨rfl, Or.inl rfl, _, rfl⟩) hd hk hs hQ
theorem gRetZ (X : Stand p l e R s m args below meth c T locs cells slots) (hx : p.tables.exec = Jvm.exec) {Q : Option Value → Heap → List Loc → Prop} {k n : Nat} {z : Int32} (hlk : meth.locks = false) (hret : meth.sig.returnType = some .boolean) (hd : decode c.code pc = .ok (.ireturn, 1)) (hk : cells ≤ k) (hs : slots ≤ n) (hz : z = 0 ∨ z = 1) (hQ : Q (some (.int z)) T.heap locs) : Go p.tables e below (Done s Q k n) (T.setTop (mkF m pc L (.int z :: S))) :=
  gRet X hx hlk hret (by rcases hz with rfl | rfl <;> rfl) (Or.inl ⟨rfl, Or.inr (Or.inl rfl), _, rfl⟩) hd hk hs hQ
theorem gRetJ (X : Stand p l e R s m args below meth c T locs cells slots) (hx : p.tables.exec = Jvm.exec) {Q : Option Value → Heap → List Loc → Prop} {k n : Nat} {z : Int64} (hlk : meth.locks = false) (hret : meth.sig.returnType = some .long) (hd : decode c.code pc = .ok (.lreturn, 1)) (hk : cells ≤ k) (hs : slots ≤ n) (hQ : Q (some (.long z)) T.heap locs) : Go p.tables e below (Done s Q k n) (T.setTop (mkF m pc L (.long z :: S))) :=
  gRet X hx hlk hret rfl (Or.inr (Or.inl ⟨rfl, rfl, _, rfl⟩)) hd hk hs hQ
theorem gRetA (X : Stand p l e R s m args below meth c T locs cells slots) (hx : p.tables.exec = Jvm.exec) {Q : Option Value → Heap → List Loc → Prop} {k n : Nat} {w : Value} {t : FieldType} (hlk : meth.locks = false) (hret : meth.sig.returnType = some t) (ht : t.isReference = true) (hw : w.isRef = true) (hd : decode c.code pc = .ok (.areturn, 1)) (hk : cells ≤ k) (hs : slots ≤ n) (hQ : Q (some w) T.heap locs) : Go p.tables e below (Done s Q k n) (T.setTop (mkF m pc L (w :: S))) :=
  gRet X hx hlk hret (by cases t <;> simp [FieldType.isReference] at ht <;> cases w <;> simp [Value.isRef] at hw <;> rfl) (Or.inr (Or.inr (Or.inr (Or.inr ⟨rfl, ht, hw⟩)))) hd hk hs hQ
theorem gRetV (X : Stand p l e R s m args below meth c T locs cells slots) (hx : p.tables.exec = Jvm.exec) {Q : Option Value → Heap → List Loc → Prop} {k n : Nat} (hlk : meth.locks = false) (hret : meth.sig.returnType = none) (hd : decode c.code pc = .ok (.return_, 1)) (hk : cells ≤ k) (hs : slots ≤ n) (hQ : Q none T.heap locs) : Go p.tables e below (Done s Q k n) (T.setTop (mkF m pc L [])) := by
  obtain ⟨fs, hr, hrun, hended, hW, hsame⟩ := X.leave (v := none) (fun _ => rfl) hlk
  exact ⟨_, _, X.returnOut hx hret hd hr, hrun, hended, _, _, rfl, hQ, ⟨_, rfl⟩, hW, hsame.mono hk hs⟩
end Steps1
section Steps2
variable {p : Program} {l : Launch} {e : Env} {R : Room} {s : State} {m : MethodId} {args : Array Value} {below : List Frame} {meth : Method} {c : Code} {T : State} {locs : List Loc} {cells slots : Nat} {P : State → Outcome → Prop} {pc q : Nat} {L L' : Array Slot} {S : List Value} {Z : State} {a0 : Array Value} {h : Heap}
theorem gGetF (X : Stand p l e R s m args below meth c T locs cells slots) (hx : p.tables.exec = Jvm.exec) (hZ : Z.Warmed39 s.vm) {own R0 O n d host : String} {i : Nat} (hown : s.vm.findClass own = some m.cls) (w : (Jvm.Cond.fieldLink own i R0 n d).before a0 Z = true ∨ (Jvm.Cond.fieldLinkNest own i R0 n d host).before a0 Z = true) (via : Via Z R0 O n d)
    (eT : T.heap = h) {a : Addr} {v : Value} (F : Fld Z h a O n d v) (hd : decode c.code pc = .ok (.getfield i, 3)) (hq : pc + 3 = q)
    (K : ∀ T', Stand p l e R s m args below meth c T' locs cells slots → T'.heap = h → Go p.tables e below P (T'.setTop (mkF m q L (v :: S)))) : Go p.tables e below P (T.setTop (mkF m pc L (.ref a :: S))) := by
  subst hq
  obtain ⟨T', X', e', st⟩ := getF X hx hZ hown w via eT F (g := mkF m pc L (.ref a :: S)) rfl rfl hd
  exact go st (K T' X' e')
theorem gGetS (X : Stand p l e R s m args below meth c T locs cells slots) (hx : p.tables.exec = Jvm.exec) (hZ : Z.Warmed39 s.vm) {own R0 O n d : String} {i : Nat} (hown : s.vm.findClass own = some m.cls) (w : (Jvm.Cond.fieldLink own i R0 n d).before a0 Z = true) (via : Via Z R0 O n d)
    (eT : T.heap = h) {v : Value} (F : Sta Z h O n d v) (hd : decode c.code pc = .ok (.getstatic i, 3)) (hq : pc + 3 = q)
    (K : ∀ T', Stand p l e R s m args below meth c T' locs cells slots → T'.heap = h → Go p.tables e below P (T'.setTop (mkF m q L (v :: S)))) : Go p.tables e below P (T.setTop (mkF m pc L S)) := by
  subst hq
  obtain ⟨T', X', e', st⟩ := getS X hx hZ (host := "") hown w via eT F (g := mkF m pc L S) rfl hd
  exact go st (K T' X' e')
theorem gPutF (X : Stand p l e R s m args below meth c T locs cells slots) (hx : p.tables.exec = Jvm.exec) (hZ : Z.Warmed39 s.vm) {own R0 O n d host C : String} {i kk : Nat} {ty : FieldType} (hown : s.vm.findClass own = some m.cls) (w : (Jvm.Cond.fieldLink own i R0 n d).before a0 Z = true ∨ (Jvm.Cond.fieldLinkNest own i R0 n d host).before a0 Z = true) (via : Via Z R0 O n d)
    (eT : T.heap = h) {a : Addr} {v old : Value} (F : Fld Z h a O n d old) (E : Exa Z h a C) (Ly : (Jvm.Cond.lays C O n d).before a0 Z = true ∨ ((Jvm.Cond.laysFinal C O n d).before a0 Z = true ∧ own = O ∧ meth.name = "<init>")) (wi : (Jvm.Cond.instantiable C kk).before a0 Z = true)
    (hty : parseFieldDescriptor d = some ty) (hn : narrow ty v = v) (hf : fits ty v = true) (hd : decode c.code pc = .ok (.putfield i, 3)) (hq : pc + 3 = q)
    (K : ∀ T' h', Stand p l e R s m args below meth c T' (locs ++ [⟨a, Jvm.RoadKit.slotOf Z O n d⟩]) cells slots → T'.heap = h' → Wr h h' a (Jvm.RoadKit.slotOf Z O n d) v → Go p.tables e below P (T'.setTop (mkF m q L S))) : Go p.tables e below P (T.setTop (mkF m pc L (v :: .ref a :: S))) := by
  subst hq
  obtain ⟨T', h', X', e', W', st⟩ := putF X hx hZ hown w via eT F E Ly wi hty hn hf (g := mkF m pc L (v :: .ref a :: S)) rfl rfl hd
  exact go st (K T' h' X' e' W')
theorem gNewO (X : Stand p l e R s m args below meth c T locs cells slots) (hx : p.tables.exec = Jvm.exec) (hZ : Z.Warmed39 s.vm) {own C : String} {i n : Nat} (hown : s.vm.findClass own = some m.cls) (w : (Jvm.Cond.classLink own i C).before a0 Z = true) (wi : (Jvm.Cond.instantiable C n).before a0 Z = true) (wz : (Jvm.Cond.initialized C).before a0 Z = true) (eT : T.heap = h)
    (hd : decode c.code pc = .ok (.new i, 3)) (hq : pc + 3 = q) (hc : cells + 1 ≤ R.cells) (hl : slots + n ≤ R.slots)
    (K : ∀ T' h' a, Stand p l e R s m args below meth c T' locs (cells + 1) (slots + n) → T'.heap = h' → a = h.size → Ext h h' → Exa Z h' a C → (∀ {O nm d : String} {ty : FieldType}, Laid Z a0 C O nm d → parseFieldDescriptor d = some ty → Fld Z h' a O nm d (defaultValue ty)) → Go p.tables e below P (T'.setTop (mkF m q L (.ref a :: S)))) : Go p.tables e below P (T.setTop (mkF m pc L S)) := by
  subst hq
  obtain ⟨T', h', X', e', E', A', D', -, st⟩ := newO X hx hZ hown w wi wz eT (g := mkF m pc L S) rfl hd hc hl
  exact go st (K T' h' _ X' e' rfl E' A' D')
theorem gInitO (X : Stand p l e R s m args below meth c T locs cells slots) (hx : p.tables.exec = Jvm.exec) (hZ : Z.Warmed39 s.vm) {own : String} {i : Nat} (hown : s.vm.findClass own = some m.cls) (w1 : (Jvm.Cond.methodLink own i Lib.objectInit).before a0 Z = true) (w2 : (Jvm.Cond.instanceMethod Lib.objectInit).before a0 Z = true) (w3 : (Jvm.Cond.code Lib.objectInit ⟨#[0xb1]⟩ 1 none).before a0 Z = true) (eT : T.heap = h)
    (hsize : L.size = c.maxLocals) {a : Addr} (hd : decode c.code pc = .ok (.invokespecial i, 3)) (hq : pc + 3 = q) (hf : 1 ≤ R.frames) {W : Nat} (hW : (S.map fun v => v.category).sum ≤ W) (hl : W + 12 ≤ R.locals)
    (K : ∀ T', Stand p l e R s m args below meth c T' locs cells slots → T'.heap = h → Go p.tables e below P (T'.setTop (mkF m q L S))) : Go p.tables e below P (T.setTop (mkF m pc L (.ref a :: S))) := by
  subst hq
  obtain ⟨T', X', e', st⟩ := initO X hx hZ hown w1 w2 w3 eT (g := mkF m pc L (.ref a :: S)) rfl hsize rfl hd hf (W := W) (by show 2 * 0 + _ ≤ _; rw [Nat.mul_zero, Nat.zero_add]; exact hW) hl
  exact go st (K T' X' e')
/-! calls by a contract -/
theorem gCallS (X : Stand p l e R s m args below meth c T locs cells slots) (hx : p.tables.exec = Jvm.exec) (hZ : Z.Warmed39 s.vm) {own : String} {i : Nat} {y : MethodName} {bytes : ByteArray} {maxL : Nat} {rt : Option FieldType} {rm : Room} {as' : Array Value} {Q : Option Value → Heap → List Loc → Prop} (hown : s.vm.findClass own = some m.cls)
    (w1 : (Jvm.Cond.methodLink own i y).before a0 Z = true) (w2 : (Jvm.Cond.static y).before a0 Z = true) (w3 : (Jvm.Cond.initialized y.cls).before a0 Z = true) (w4 : (Jvm.Cond.code y bytes maxL rt).before a0 Z = true) (hy : y.cls ≠ "java/lang/invoke/MethodHandle" ∧ y.cls ≠ "java/lang/invoke/VarHandle")
    (hM : Con l Z y bytes maxL rt [] rm as' h rm.cells rm.slots Q) {W : Nat} (hf : rm.frames + 1 ≤ R.frames) (hlo : W + (maxL + 11) + rm.locals ≤ R.locals) (eT : T.heap = h) (hsize : L.size = c.maxLocals)
    {S0 : List Value} (argsL : List Value) (hlen : ∀ sig, parseMethodDescriptor y.desc = some sig → argsL.length = sig.parameters.length) (has : argsL.toArray = as') (hst : S0 = argsL.reverse ++ S) (hW : (S.map fun v => v.category).sum ≤ W) (hd : decode c.code pc = .ok (.invokestatic i, 3)) (hq : pc + 3 = q)
    (hc : cells + rm.cells ≤ R.cells) (hs : slots + rm.slots ≤ R.slots)
    (K : ∀ v T' Lc, Stand p l e R s m args below meth c T' (locs ++ Lc) (cells + rm.cells) (slots + rm.slots) → Q v T'.heap Lc → Go p.tables e below P (T'.setTop (mkF m q L (v.toList ++ S)))) : Go p.tables e below P (T.setTop (mkF m pc L S0)) := by
  subst hq has hst
  obtain ⟨v, _, ⟨T', L1, k1, n1⟩, -, X', ⟨Lc, hQ, h1, h2, h3⟩, st⟩ := Jvm.LawKit.callS X hx hown (mvT hZ w1) (mvT hZ w2) (mvT hZ w3) (mvT hZ w4) hy (backOf (W := W) hM hZ w4 w3 hf hlo) (g := mkF m pc L (argsL.reverse ++ S)) rfl hsize (argsL := argsL) (rest := S) hlen rfl (by show 2 * 0 + _ ≤ _; rw [Nat.mul_zero, Nat.zero_add]; exact hW) hd (fun _ _ => ⟨rfl, eT, hc, hs⟩)
  dsimp only [Pt.U, Pt.locs, Pt.cells, Pt.slots] at X' h1 h2 h3 st hQ
  subst h1 h2 h3
  exact go st (K v T' Lc X' hQ)
theorem gCallSN (X : Stand p l e R s m args below meth c T locs cells slots) (hx : p.tables.exec = Jvm.exec) (hZ : Z.Warmed39 s.vm) {own host : String} {i : Nat} {y : MethodName} {bytes : ByteArray} {maxL : Nat} {rt : Option FieldType} {rm : Room} {as' : Array Value} {Q : Option Value → Heap → List Loc → Prop} (hown : s.vm.findClass own = some m.cls)
    (w1 : (Jvm.Cond.methodLinkNest own i y host).before a0 Z = true) (w2 : (Jvm.Cond.static y).before a0 Z = true) (w3 : (Jvm.Cond.initialized y.cls).before a0 Z = true) (w4 : (Jvm.Cond.code y bytes maxL rt).before a0 Z = true) (hy : y.cls ≠ "java/lang/invoke/MethodHandle" ∧ y.cls ≠ "java/lang/invoke/VarHandle")
    (hM : Con l Z y bytes maxL rt [] rm as' h rm.cells rm.slots Q) {W : Nat} (hf : rm.frames + 1 ≤ R.frames) (hlo : W + (maxL + 11) + rm.locals ≤ R.locals) (eT : T.heap = h) (hsize : L.size = c.maxLocals)
    {S0 : List Value} (argsL : List Value) (hlen : ∀ sig, parseMethodDescriptor y.desc = some sig → argsL.length = sig.parameters.length) (has : argsL.toArray = as') (hst : S0 = argsL.reverse ++ S) (hW : (S.map fun v => v.category).sum ≤ W) (hd : decode c.code pc = .ok (.invokestatic i, 3)) (hq : pc + 3 = q)
    (hc : cells + rm.cells ≤ R.cells) (hs : slots + rm.slots ≤ R.slots)
    (K : ∀ v T' Lc, Stand p l e R s m args below meth c T' (locs ++ Lc) (cells + rm.cells) (slots + rm.slots) → Q v T'.heap Lc → Go p.tables e below P (T'.setTop (mkF m q L (v.toList ++ S)))) : Go p.tables e below P (T.setTop (mkF m pc L S0)) := by
  subst hq has hst
  obtain ⟨v, _, ⟨T', L1, k1, n1⟩, -, X', ⟨Lc, hQ, h1, h2, h3⟩, st⟩ := callSN X hx hown (Cond.methodLinkNest_wide hZ w1 :) (mvT hZ w2) (mvT hZ w3) (mvT hZ w4) hy (backOf (W := W) hM hZ w4 w3 hf hlo) (g := mkF m pc L (argsL.reverse ++ S)) rfl hsize (argsL := argsL) (rest := S) hlen rfl (by show 2 * 0 + _ ≤ _; rw [Nat.mul_zero, Nat.zero_add]; exact hW) hd (fun _ _ => ⟨rfl, eT, hc, hs⟩)
  dsimp only [Pt.U, Pt.locs, Pt.cells, Pt.slots] at X' h1 h2 h3 st hQ
  subst h1 h2 h3
  exact goT st (K v T' Lc X' hQ)
theorem gCallN (X : Stand p l e R s m args below meth c T locs cells slots) (hx : p.tables.exec = Jvm.exec) (hZ : Z.Warmed39 s.vm) {own : String} {i : Nat} {y : MethodName} {bytes : ByteArray} {maxL : Nat} {rm : Room} {as' : Array Value} {Q : Option Value → Heap → List Loc → Prop} (hy1 : y.name = "<init>") (hown : s.vm.findClass own = some m.cls)
    (w1 : (Jvm.Cond.methodLink own i y).before a0 Z = true) (w2 : (Jvm.Cond.instanceMethod y).before a0 Z = true) (w3 : (Jvm.Cond.initialized y.cls).before a0 Z = true) (w4 : (Jvm.Cond.code y bytes maxL none).before a0 Z = true) (hy : y.cls ≠ "java/lang/invoke/MethodHandle" ∧ y.cls ≠ "java/lang/invoke/VarHandle")
    (hM : Con l Z y bytes maxL none [] rm as' h rm.cells rm.slots Q) {W : Nat} (hf : rm.frames + 1 ≤ R.frames) (hlo : W + (maxL + 11) + rm.locals ≤ R.locals) (eT : T.heap = h) (hsize : L.size = c.maxLocals)
    {S0 : List Value} {a : Addr} (argsL : List Value) (hlen : ∀ sig, parseMethodDescriptor y.desc = some sig → argsL.length = sig.parameters.length) (has : (.ref a :: argsL).toArray = as') (hst : S0 = argsL.reverse ++ .ref a :: S) (hW : (S.map fun v => v.category).sum ≤ W) (hd : decode c.code pc = .ok (.invokespecial i, 3)) (hq : pc + 3 = q)
    (hc : cells + rm.cells ≤ R.cells) (hs : slots + rm.slots ≤ R.slots)
    (K : ∀ v T' Lc, Stand p l e R s m args below meth c T' (locs ++ Lc) (cells + rm.cells) (slots + rm.slots) → Q v T'.heap Lc → Go p.tables e below P (T'.setTop (mkF m q L (v.toList ++ S)))) : Go p.tables e below P (T.setTop (mkF m pc L S0)) := by
  subst hq has hst
  obtain ⟨v, _, ⟨T', L1, k1, n1⟩, -, X', ⟨Lc, hQ, h1, h2, h3⟩, st⟩ := X.specialBack hx hy1 hown (mvT hZ w1) (mvT hZ w2) (mvT hZ w4) hy (backOf (W := W) hM hZ w4 w3 hf hlo) (g := mkF m pc L (argsL.reverse ++ .ref a :: S)) rfl hsize (Steps.refl _) (a := a) (argsL := argsL) (rest := S) hlen rfl (by show 2 * 0 + _ ≤ _; rw [Nat.mul_zero, Nat.zero_add]; exact hW) hd (fun _ _ => ⟨rfl, eT, hc, hs⟩)
  dsimp only [Pt.U, Pt.locs, Pt.cells, Pt.slots] at X' h1 h2 h3 st hQ
  subst h1 h2 h3
  exact goT st (K v T' Lc X' hQ)
theorem gCallV (X : Stand p l e R s m args below meth c T locs cells slots) (hx : p.tables.exec = Jvm.exec) (hZ : Z.Warmed39 s.vm) {own C : String} {i : Nat} {y z : MethodName} {bytes : ByteArray} {maxL : Nat} {rt : Option FieldType} {rm : Room} {as' : Array Value} {Q : Option Value → Heap → List Loc → Prop} (hown : s.vm.findClass own = some m.cls)
    (w1 : (Jvm.Cond.methodLink own i y).before a0 Z = true) (w2 : (Jvm.Cond.declares y).before a0 Z = true) (w5 : (Jvm.Cond.selects C y z).before a0 Z = true) (w6 : (Jvm.Cond.instanceMethod z).before a0 Z = true) (w3 : (Jvm.Cond.initialized z.cls).before a0 Z = true) (w4 : (Jvm.Cond.code z bytes maxL rt).before a0 Z = true) (hnf : NotFace s y) (hy : y.cls ≠ "java/lang/invoke/MethodHandle" ∧ y.cls ≠ "java/lang/invoke/VarHandle")
    (hM : Con l Z z bytes maxL rt [] rm as' h rm.cells rm.slots Q) {W : Nat} (hf : rm.frames + 1 ≤ R.frames) (hlo : W + (maxL + 11) + rm.locals ≤ R.locals) (eT : T.heap = h) (hsize : L.size = c.maxLocals)
    {S0 : List Value} {a : Addr} (E : Exa Z h a C) (argsL : List Value) (hlen : ∀ sig, parseMethodDescriptor y.desc = some sig → argsL.length = sig.parameters.length) (has : (.ref a :: argsL).toArray = as') (hst : S0 = argsL.reverse ++ .ref a :: S) (hW : (S.map fun v => v.category).sum ≤ W) (hd : decode c.code pc = .ok (.invokevirtual i, 3)) (hq : pc + 3 = q)
    (hc : cells + rm.cells ≤ R.cells) (hs : slots + rm.slots ≤ R.slots)
    (K : ∀ v T' Lc, Stand p l e R s m args below meth c T' (locs ++ Lc) (cells + rm.cells) (slots + rm.slots) → Q v T'.heap Lc → Go p.tables e below P (T'.setTop (mkF m q L (v.toList ++ S)))) : Go p.tables e below P (T.setTop (mkF m pc L S0)) := by
  subst hq has hst
  obtain ⟨cq, kq, q1, q2, q3⟩ := isOf hZ eT E
  obtain ⟨v, _, ⟨T', L1, k1, n1⟩, -, X', ⟨Lc, hQ, h1, h2, h3⟩, st⟩ := X.virtualBack hx hown (mvT hZ w1) (mvT hZ w2) hnf (mvT hZ w5) (mvT hZ w6) hy (backOf (W := W) hM hZ w4 w3 hf hlo) q1 q3 (g := mkF m pc L (argsL.reverse ++ .ref a :: S)) rfl hsize (Steps.refl _) (argsL := argsL) (rest := S) hlen rfl (by show 2 * 0 + _ ≤ _; rw [Nat.mul_zero, Nat.zero_add]; exact hW) hd (fun _ _ => ⟨rfl, eT, hc, hs⟩)
  dsimp only [Pt.U, Pt.locs, Pt.cells, Pt.slots] at X' h1 h2 h3 st hQ
  subst h1 h2 h3
  exact goT st (K v T' Lc X' hQ)
end Steps2
end Jvm.OwnKit
namespace Jvm.OwnKit
open Sem ClassFile Op Lib Jvm.Stand Jvm.Free Jvm.LawKit Jvm.RoadKit
theorem own_fldI {args : Array Value} {Z : State} {t : Term} {C n d : String} {x : Addr} {k : Int32} (ev : t.eval args Z none [] Z = some (.ref x)) (h : (Jvm.Cond.eq (Term.field t C n d) (Term.int k)).value args Z none Z [] = some true) : Fld Z Z.heap x C n d (.int k) := by
  obtain ⟨u, w, h1, h2, h3, h4⟩ := cmp_v (Or.inl h)
  obtain rfl : w = .int k := Option.some.inj (h2.symm.trans (Term.int_eval k))
  obtain ⟨z, rfl⟩ := h4
  have hz : z = k := gotT (Cond.eq_ints h1 h2) h
  subst hz
  exact Fld.start ((fld_at ev).symm.trans h1)
end Jvm.OwnKit
namespace Jvm.OwnKit
open Sem ClassFile Op Lib Jvm.Stand Jvm.Free Jvm.LawKit Jvm.RoadKit
/-- the array at a: its class, its element type, its values -/
def Ary (Z : State) (h : Heap) (a : Addr) (k : ClassId) (ty : FieldType) (vs : List Value) : Prop := ∃ c : Cell, Arr Z h a c ty ∧ c.cls = k ∧ c.slots.toList = vs
section Ary
variable {Z : State} {h h' : Heap} {a b : Addr} {k : ClassId} {ty : FieldType} {vs : List Value} {sl : Nat} {v : Value} {ws : List Addr}
theorem Ary.ext (E : Ext h h') (F : Ary Z h a k ty vs) : Ary Z h' a k ty vs := by obtain ⟨c, A, r⟩ := F; exact ⟨c, A.ext E, r⟩
theorem Ary.other (W : Wr h h' a sl v) (F : Ary Z h b k ty vs) (q : b ≠ a) : Ary Z h' b k ty vs := by obtain ⟨c, A, r⟩ := F; exact ⟨c, A.other W q, r⟩
theorem Ary.keep (F : Ary Z h a k ty vs) (K : Keep h h' ws) (q : a ∉ ws) : Ary Z h' a k ty vs := by obtain ⟨c, A, r⟩ := F; exact ⟨c, ⟨K.2.1 a c A.1 q, A.2⟩, r⟩
theorem Ary.lt (F : Ary Z h a k ty vs) : a < h.size := by obtain ⟨c, A, -⟩ := F; exact A.lt
theorem Ary.same (W : Wr h h' a sl v) (F : Ary Z h a k ty vs) : Ary Z h' a k ty (vs.set sl v) := by
  obtain ⟨c, A, r1, r2⟩ := F
  exact ⟨_, A.same W, r1, by subst r2; simp [Cell.setSlot]⟩
theorem Ary.new {n : Int32} (A : Arr Z h a (newA k ty n) ty) : Ary Z h a k ty (List.replicate n.toNatClampNeg (defaultValue ty)) := ⟨_, A, rfl, by simp [newA]⟩
theorem Ary.ne_exa {a0 : Array Value} {C : String} {n : Nat} (F : Ary Z h a k ty vs) (E : Exa Z h b C) (wi : (Jvm.Cond.instantiable C n).before a0 Z = true) : a ≠ b := by obtain ⟨c, A, -⟩ := F; exact (ne_arr E wi A).symm
end Ary
section Steps3
variable {p : Program} {l : Launch} {e : Env} {R : Room} {s : State} {m : MethodId} {args : Array Value} {below : List Frame} {meth : Method} {c : Code} {T : State} {locs : List Loc} {cells slots : Nat} {P : State → Outcome → Prop} {pc q : Nat} {L L' : Array Slot} {S : List Value} {Z : State} {a0 : Array Value} {h : Heap} {a : Addr} {k : ClassId} {vs : List Value}
theorem gIaload (X : Stand p l e R s m args below meth c T locs cells slots) (hx : p.tables.exec = Jvm.exec) (hZ : Z.Warmed39 s.vm) (eT : T.heap = h) (A : Ary Z h a k .int vs) {j : Int32} {v : Value} (hd : decode c.code pc = .ok (.iaload, 1)) (hq : pc + 1 = q) (hj : ¬ (j < 0 ∨ vs.length ≤ j.toNatClampNeg)) (hv : vs[j.toNatClampNeg]? = some v) (K : Go p.tables e below P (T.setTop (mkF m q L (v :: S)))) : Go p.tables e below P (T.setTop (mkF m pc L (.int j :: .ref a :: S))) := by
  subst hq eT
  obtain ⟨cl, A, -, rfl⟩ := A
  exact go (fun t k => X.iaload hx (j := j) (v := v) A.1 (State.isArrayOf_alike hZ.alike A.2.1) A.2.2 (by simpa using hj) (by simpa using hv) (g := mkF m pc L (.int j :: .ref a :: S)) rfl rfl hd _ k) K
theorem gLaload (X : Stand p l e R s m args below meth c T locs cells slots) (hx : p.tables.exec = Jvm.exec) (hZ : Z.Warmed39 s.vm) (eT : T.heap = h) (A : Ary Z h a k .long vs) {j : Int32} {v : Value} (hd : decode c.code pc = .ok (.laload, 1)) (hq : pc + 1 = q) (hj : ¬ (j < 0 ∨ vs.length ≤ j.toNatClampNeg)) (hv : vs[j.toNatClampNeg]? = some v) (K : Go p.tables e below P (T.setTop (mkF m q L (v :: S)))) : Go p.tables e below P (T.setTop (mkF m pc L (.int j :: .ref a :: S))) := by
  subst hq eT
  obtain ⟨cl, A, -, rfl⟩ := A
  exact go (fun t k => X.laload hx (j := j) (v := v) A.1 (State.isArrayOf_alike hZ.alike A.2.1) A.2.2 (by simpa using hj) (by simpa using hv) (g := mkF m pc L (.int j :: .ref a :: S)) rfl rfl hd _ k) K
theorem gCaload (X : Stand p l e R s m args below meth c T locs cells slots) (hx : p.tables.exec = Jvm.exec) (hZ : Z.Warmed39 s.vm) (eT : T.heap = h) (A : Ary Z h a k .char vs) {j : Int32} {v : Value} (hd : decode c.code pc = .ok (.caload, 1)) (hq : pc + 1 = q) (hj : ¬ (j < 0 ∨ vs.length ≤ j.toNatClampNeg)) (hv : vs[j.toNatClampNeg]? = some v) (K : Go p.tables e below P (T.setTop (mkF m q L (v :: S)))) : Go p.tables e below P (T.setTop (mkF m pc L (.int j :: .ref a :: S))) := by
  subst hq eT
  obtain ⟨cl, A, -, rfl⟩ := A
  exact go (fun t k => X.caload hx (j := j) (v := v) A.1 (State.isArrayOf_alike hZ.alike A.2.1) A.2.2 (by simpa using hj) (by simpa using hv) (g := mkF m pc L (.int j :: .ref a :: S)) rfl rfl hd _ k) K
theorem gAaload (X : Stand p l e R s m args below meth c T locs cells slots) (hx : p.tables.exec = Jvm.exec) (hZ : Z.Warmed39 s.vm) (eT : T.heap = h) {ty : FieldType} (A : Ary Z h a k ty vs) (ht : ty.isReference = true) {j : Int32} {v : Value} (hd : decode c.code pc = .ok (.aaload, 1)) (hq : pc + 1 = q) (hj : ¬ (j < 0 ∨ vs.length ≤ j.toNatClampNeg)) (hv : vs[j.toNatClampNeg]? = some v) (K : Go p.tables e below P (T.setTop (mkF m q L (v :: S)))) : Go p.tables e below P (T.setTop (mkF m pc L (.int j :: .ref a :: S))) := by
  subst hq eT
  obtain ⟨cl, A, -, rfl⟩ := A
  exact go (fun t k => X.aaload hx (j := j) (v := v) A.1 (State.isArrayOf_alike hZ.alike A.2.1) ht A.2.2 (by simpa using hj) (by simpa using hv) (g := mkF m pc L (.int j :: .ref a :: S)) rfl rfl hd _ k) K
theorem gLen (X : Stand p l e R s m args below meth c T locs cells slots) (hx : p.tables.exec = Jvm.exec) (hZ : Z.Warmed39 s.vm) (eT : T.heap = h) {ty : FieldType} (A : Ary Z h a k ty vs) {n : Int32} (hn : vs.length.toInt32 = n) (hd : decode c.code pc = .ok (.arraylength, 1)) (hq : pc + 1 = q) (K : Go p.tables e below P (T.setTop (mkF m q L (.int n :: S)))) : Go p.tables e below P (T.setTop (mkF m pc L (.ref a :: S))) := by
  subst hq eT hn
  obtain ⟨cl, A, -, rfl⟩ := A
  exact go (fun t k => X.arraylength hx A.1 (State.isArrayOf_alike hZ.alike A.2.1) (g := mkF m pc L (.ref a :: S)) rfl rfl hd _ (by simpa using k)) K
theorem gIastore (X : Stand p l e R s m args below meth c T locs cells slots) (hx : p.tables.exec = Jvm.exec) (hZ : Z.Warmed39 s.vm) (eT : T.heap = h) (A : Ary Z h a k .int vs) {j : Int32} {x : Int32} (hd : decode c.code pc = .ok (.iastore, 1)) (hq : pc + 1 = q) (hj : ¬ (j < 0 ∨ vs.length ≤ j.toNatClampNeg))
    (K : ∀ T' h', Stand p l e R s m args below meth c T' (locs ++ [⟨a, j.toNatClampNeg⟩]) cells slots → T'.heap = h' → Wr h h' a j.toNatClampNeg (.int x) → Ary Z h' a k .int (vs.set j.toNatClampNeg (.int x)) → Go p.tables e below P (T'.setTop (mkF m q L (S)))) : Go p.tables e below P (T.setTop (mkF m pc L (.int x :: .int j :: .ref a :: S))) := by
  subst hq
  have A' := A
  obtain ⟨cl, Ac, r1, r2⟩ := A'
  obtain ⟨T', h', X', e', W', st⟩ := stI X hx hZ eT Ac (j := j) (x := x) (by subst r2; simpa using hj) (g := mkF m pc L (.int x :: .int j :: .ref a :: S)) rfl rfl hd
  exact go st (K T' h' X' e' W' (Ary.same W' A))
theorem gLastore (X : Stand p l e R s m args below meth c T locs cells slots) (hx : p.tables.exec = Jvm.exec) (hZ : Z.Warmed39 s.vm) (eT : T.heap = h) (A : Ary Z h a k .long vs) {j : Int32} {x : Int64} (hd : decode c.code pc = .ok (.lastore, 1)) (hq : pc + 1 = q) (hj : ¬ (j < 0 ∨ vs.length ≤ j.toNatClampNeg))
    (K : ∀ T' h', Stand p l e R s m args below meth c T' (locs ++ [⟨a, j.toNatClampNeg⟩]) cells slots → T'.heap = h' → Wr h h' a j.toNatClampNeg (.long x) → Ary Z h' a k .long (vs.set j.toNatClampNeg (.long x)) → Go p.tables e below P (T'.setTop (mkF m q L (S)))) : Go p.tables e below P (T.setTop (mkF m pc L (.long x :: .int j :: .ref a :: S))) := by
  subst hq
  have A' := A
  obtain ⟨cl, Ac, r1, r2⟩ := A'
  obtain ⟨T', h', X', e', W', st⟩ := stJ X hx hZ eT Ac (j := j) (x := x) (by subst r2; simpa using hj) (g := mkF m pc L (.long x :: .int j :: .ref a :: S)) rfl rfl hd
  exact go st (K T' h' X' e' W' (Ary.same W' A))
theorem gCastore (X : Stand p l e R s m args below meth c T locs cells slots) (hx : p.tables.exec = Jvm.exec) (hZ : Z.Warmed39 s.vm) (eT : T.heap = h) (A : Ary Z h a k .char vs) {j x : Int32} (hd : decode c.code pc = .ok (.castore, 1)) (hq : pc + 1 = q) (hj : ¬ (j < 0 ∨ vs.length ≤ j.toNatClampNeg))
    (K : ∀ T' h', Stand p l e R s m args below meth c T' (locs ++ [⟨a, j.toNatClampNeg⟩]) cells slots → T'.heap = h' → Wr h h' a j.toNatClampNeg (.int (nar .char x)) → Ary Z h' a k .char (vs.set j.toNatClampNeg (.int (nar .char x))) → Go p.tables e below P (T'.setTop (mkF m q L (S)))) : Go p.tables e below P (T.setTop (mkF m pc L (.int x :: .int j :: .ref a :: S))) := by
  subst hq
  have A' := A
  obtain ⟨cl, Ac, r1, r2⟩ := A'
  obtain ⟨T', h', X', e', W', st⟩ := stC X hx hZ eT Ac (j := j) (x := x) (by subst r2; simpa using hj) (g := mkF m pc L (.int x :: .int j :: .ref a :: S)) rfl rfl hd
  exact go st (K T' h' X' e' W' (Ary.same W' A))
theorem gAastore (X : Stand p l e R s m args below meth c T locs cells slots) (hx : p.tables.exec = Jvm.exec) (hZ : Z.Warmed39 s.vm) (eT : T.heap = h) {ty : FieldType} (A : Ary Z h a k ty vs) (ht : ty.isReference = true) {j : Int32} {v : Value} (F : Sto Z h a v) (hd : decode c.code pc = .ok (.aastore, 1)) (hq : pc + 1 = q) (hj : ¬ (j < 0 ∨ vs.length ≤ j.toNatClampNeg))
    (K : ∀ T' h', Stand p l e R s m args below meth c T' (locs ++ [⟨a, j.toNatClampNeg⟩]) cells slots → T'.heap = h' → Wr h h' a j.toNatClampNeg v → Ary Z h' a k ty (vs.set j.toNatClampNeg v) → Go p.tables e below P (T'.setTop (mkF m q L (S)))) : Go p.tables e below P (T.setTop (mkF m pc L (v :: .int j :: .ref a :: S))) := by
  subst hq
  have A' := A
  obtain ⟨cl, Ac, r1, r2⟩ := A'
  obtain ⟨T', h', X', e', W', st⟩ := stR X hx hZ eT Ac (j := j) (by subst r2; simpa using hj) ht F (g := mkF m pc L (v :: .int j :: .ref a :: S)) rfl rfl hd
  exact go st (K T' h' X' e' W' (Ary.same W' A))
theorem Sto.ofA {Z : State} {h : Heap} {a y : Addr} {k : ClassId} {ty : FieldType} {vs : List Value} {C : String} (A : Ary Z h a k ty vs) (O : Ovr Z k C) (I : Ins Z h y C true) : Sto Z h a (.ref y) := by obtain ⟨c, Ac, r, -⟩ := A; exact Sto.ofV Ac r O I
theorem gNewP (X : Stand p l e R s m args below meth c T locs cells slots) (hx : p.tables.exec = Jvm.exec) (hZ : Z.Warmed39 s.vm) {aty : ArrayType} (w : (Jvm.Cond.arrayClass (newarray.typeOf aty)).before a0 Z = true) (eT : T.heap = h) (hd : decode c.code pc = .ok (.newarray aty, 2)) (hq : pc + 2 = q) {n : Int32} (hn : ¬ n < 0) {cap : Nat} (hcap : n.toNatClampNeg ≤ cap) (hb : cap * 8 ≤ 536870912) (hc : cells + 1 ≤ R.cells) (hl : slots + cap ≤ R.slots)
    (K : ∀ T' h' a cA, Stand p l e R s m args below meth c T' locs (cells + 1) (slots + cap) → T'.heap = h' → a = h.size → Ext h h' → Ary Z h' a cA (newarray.typeOf aty) (List.replicate n.toNatClampNeg (defaultValue (newarray.typeOf aty))) → Go p.tables e below P (T'.setTop (mkF m q L (.ref a :: S)))) : Go p.tables e below P (T.setTop (mkF m pc L (.int n :: S))) := by
  subst hq
  obtain ⟨T', h', cA, X', e', E', A', st⟩ := newP X hx hZ w eT (g := mkF m pc L (.int n :: S)) rfl hd rfl hn hcap hb hc hl
  exact go st (K T' h' _ cA X' e' rfl E' (Ary.new A'))
theorem gNewR (X : Stand p l e R s m args below meth c T locs cells slots) (hx : p.tables.exec = Jvm.exec) (hZ : Z.Warmed39 s.vm) {own C : String} {i : Nat} (hown : s.vm.findClass own = some m.cls) (w1 : (Jvm.Cond.classLink own i C).before a0 Z = true) (w2 : (Jvm.Cond.arrayOver (.object C)).before a0 Z = true) (eT : T.heap = h) (hd : decode c.code pc = .ok (.anewarray i, 3)) (hq : pc + 3 = q) {n : Int32} (hn : ¬ n < 0) {cap : Nat} (hcap : n.toNatClampNeg ≤ cap) (hb : cap * 8 ≤ 536870912) (hc : cells + 1 ≤ R.cells) (hl : slots + cap ≤ R.slots)
    (K : ∀ T' h' a cA, Stand p l e R s m args below meth c T' locs (cells + 1) (slots + cap) → T'.heap = h' → a = h.size → Ext h h' → Ary Z h' a cA (.object C) (List.replicate n.toNatClampNeg .null) → Ovr Z cA C → Go p.tables e below P (T'.setTop (mkF m q L (.ref a :: S)))) : Go p.tables e below P (T.setTop (mkF m pc L (.int n :: S))) := by
  subst hq
  obtain ⟨T', h', cA, X', e', E', A', O', st⟩ := newR X hx hZ hown w1 w2 eT (g := mkF m pc L (.int n :: S)) rfl hd rfl hn hcap hb hc hl
  exact go st (K T' h' _ cA X' e' rfl E' (Ary.new A') O')
end Steps3
end Jvm.OwnKit
namespace Jvm.OwnKit
open Sem ClassFile Op Lib Jvm.Stand Jvm.Free Jvm.LawKit Jvm.RoadKit
theorem own_inst {Z : State} {a0 : Array Value} {K : String} {n : Nat} (w : (Jvm.Cond.instantiable K n).before a0 Z = true) : ∃ t k, Z.vm.findClass K = some t ∧ Z.vm.classes[t]? = some k ∧ k.kind = .ordinary ∧ k.isInterface = false := by
  obtain ⟨t, k, h1, h2, h3, h4, -⟩ := Cond.instantiable_spec w
  exact ⟨t, k, h1, h2, h3, by simp only [Bool.or_eq_false_iff] at h4; exact h4.1⟩
theorem own_nsRoot {Z : State} {a0 : Array Value} {O K : String} {n : Nat} (w : (Jvm.Cond.noSuperclass O).before a0 Z = true) (wk : (Jvm.Cond.instantiable K n).before a0 Z = true) (hn : O ≠ K) : NS Z O K := by
  obtain ⟨c, k, h1, h2, h3, -, -⟩ := Cond.noSuperclass_spec w
  obtain ⟨t, k', g1, -⟩ := own_inst wk
  have ne := ids_ne h1 g1 hn
  refine ⟨c, t, h1, g1, fun fuel => ?_⟩
  cases fuel with
  | zero => rfl
  | succ f => simp [Vm.isSubclassAux, ne, h2, h3]
theorem own_nsNo {Z : State} {a0 : Array Value} {C S K : String} {n : Nat} (w : (Jvm.Cond.superclass C S).before a0 Z = true) (wk : (Jvm.Cond.instantiable K n).before a0 Z = true) (m : NS Z C K) (hn : C ≠ K) : ∃ c t, Z.vm.findClass C = some c ∧ Z.vm.findClass K = some t ∧ Z.vm.assignable c t = false := by
  obtain ⟨c, t, h0, g0, n3⟩ := m
  obtain ⟨p, k, kp, h1, h2, h3, h4, h5, -, h7⟩ := Cond.superclass_spec h0 w
  obtain ⟨t', k', g1, g2, g3, g4⟩ := own_inst wk
  cases g0.symm.trans g1
  have ne := ids_ne h0 g0 hn
  refine ⟨c, t, h0, g0, ?_⟩
  show Z.vm.assignableAux (255 + 1) c t = false
  simp [Vm.assignableAux, ne, h2, g2, h5, g3, g4, Vm.isSubclass, n3]
section Steps4
variable {p : Program} {l : Launch} {e : Env} {R : Room} {s : State} {m : MethodId} {args : Array Value} {below : List Frame} {meth : Method} {c : Code} {T : State} {locs : List Loc} {cells slots : Nat} {P : State → Outcome → Prop} {pc q : Nat} {L L' : Array Slot} {S : List Value} {Z : State} {a0 : Array Value} {h : Heap} {a : Addr}
theorem gInstY (X : Stand p l e R s m args below meth c T locs cells slots) (hx : p.tables.exec = Jvm.exec) (hZ : Z.Warmed39 s.vm) {own K : String} {i : Nat} (hown : s.vm.findClass own = some m.cls) (w : (Jvm.Cond.classLink own i K).before a0 Z = true) (eT : T.heap = h) (F : Ins Z h a K true) (hd : decode c.code pc = .ok (.instanceof i, 3)) (hq : pc + 3 = q)
    (K1 : ∀ T', Stand p l e R s m args below meth c T' locs cells slots → T'.heap = h → Go p.tables e below P (T'.setTop (mkF m q L (.int 1 :: S)))) : Go p.tables e below P (T.setTop (mkF m pc L (.ref a :: S))) := by
  subst hq
  obtain ⟨T', X', e', st⟩ := instY X hx hZ hown w eT F (g := mkF m pc L (.ref a :: S)) rfl rfl hd
  exact go st (K1 T' X' e')
theorem gInstNo (X : Stand p l e R s m args below meth c T locs cells slots) (hx : p.tables.exec = Jvm.exec) (hZ : Z.Warmed39 s.vm) {own K C : String} {i : Nat} (hown : s.vm.findClass own = some m.cls) (w : (Jvm.Cond.classLink own i K).before a0 Z = true) (eT : T.heap = h) (E : Exa Z h a C) (F : ∃ c t, Z.vm.findClass C = some c ∧ Z.vm.findClass K = some t ∧ Z.vm.assignable c t = false) (hd : decode c.code pc = .ok (.instanceof i, 3)) (hq : pc + 3 = q)
    (K1 : ∀ T', Stand p l e R s m args below meth c T' locs cells slots → T'.heap = h → Go p.tables e below P (T'.setTop (mkF m q L (.int 0 :: S)))) : Go p.tables e below P (T.setTop (mkF m pc L (.ref a :: S))) := by
  subst hq
  obtain ⟨T', X', e', st⟩ := instNo X hx hZ hown w eT E F (g := mkF m pc L (.ref a :: S)) rfl rfl hd
  exact go st (K1 T' X' e')
theorem gInstNull (X : Stand p l e R s m args below meth c T locs cells slots) (hx : p.tables.exec = Jvm.exec) {i : Nat} (hd : decode c.code pc = .ok (.instanceof i, 3)) (hq : pc + 3 = q) (K1 : Go p.tables e below P (T.setTop (mkF m q L (.int 0 :: S)))) : Go p.tables e below P (T.setTop (mkF m pc L (.null :: S))) := by
  subst hq
  exact go (fun t k => X.instanceofNull hx (g := mkF m pc L (.null :: S)) rfl rfl hd _ k) K1
theorem gCastY (X : Stand p l e R s m args below meth c T locs cells slots) (hx : p.tables.exec = Jvm.exec) (hZ : Z.Warmed39 s.vm) {own K : String} {i : Nat} (hown : s.vm.findClass own = some m.cls) (w : (Jvm.Cond.classLink own i K).before a0 Z = true) (eT : T.heap = h) (F : Ins Z h a K true) (hd : decode c.code pc = .ok (.checkcast i, 3)) (hq : pc + 3 = q)
    (K1 : ∀ T', Stand p l e R s m args below meth c T' locs cells slots → T'.heap = h → Go p.tables e below P (T'.setTop (mkF m q L (.ref a :: S)))) : Go p.tables e below P (T.setTop (mkF m pc L (.ref a :: S))) := by
  subst hq
  obtain ⟨T', X', e', st⟩ := castY X hx hZ hown w eT F (g := mkF m pc L (.ref a :: S)) rfl rfl hd
  exact go st (K1 T' X' e')
theorem gLdcF (X : Stand p l e R s m args below meth c T locs cells slots) (hx : p.tables.exec = Jvm.exec) (hZ : Z.Warmed39 s.vm) {own : String} {i : Nat} {b : UInt32} (hown : s.vm.findClass own = some m.cls) (w : (Jvm.Cond.constantFloat own i b).before a0 Z = true) (hd : decode c.code pc = .ok (.ldc i, 2)) (hq : pc + 2 = q) (K1 : Go p.tables e below P (T.setTop (mkF m q L (.float b :: S)))) : Go p.tables e below P (T.setTop (mkF m pc L (S))) := by
  subst hq; exact go (X.ldcFloatC hx hown (mvT hZ w) (g := mkF m pc L S) rfl hd) K1
end Steps4
end Jvm.OwnKit
namespace Jvm.OwnKit
open Sem ClassFile Op Lib Jvm.Stand Jvm.Free Jvm.LawKit Jvm.RoadKit
section Steps6
variable {p : Program} {l : Launch} {e : Env} {R : Room} {s : State} {m : MethodId} {args : Array Value} {below : List Frame} {meth : Method} {c : Code} {T : State} {locs : List Loc} {cells slots : Nat} {P : State → Outcome → Prop} {pc q : Nat} {L L' : Array Slot} {S : List Value} {Z : State} {a0 : Array Value} {h : Heap} {a : Addr} {k : ClassId} {vs : List Value}
theorem gBaload (X : Stand p l e R s m args below meth c T locs cells slots) (hx : p.tables.exec = Jvm.exec) (hZ : Z.Warmed39 s.vm) (eT : T.heap = h) (A : Ary Z h a k .byte vs) {j : Int32} {v : Value} (hd : decode c.code pc = .ok (.baload, 1)) (hq : pc + 1 = q) (hj : ¬ (j < 0 ∨ vs.length ≤ j.toNatClampNeg)) (hv : vs[j.toNatClampNeg]? = some v) (K : Go p.tables e below P (T.setTop (mkF m q L (v :: S)))) : Go p.tables e below P (T.setTop (mkF m pc L (.int j :: .ref a :: S))) := by
  subst hq eT
  obtain ⟨cl, A, -, rfl⟩ := A
  exact go (fun t k => X.baloadBytes hx (j := j) (v := v) A.1 (State.isArrayOf_alike hZ.alike A.2.1) A.2.2 (by simpa using hj) (by simpa using hv) (g := mkF m pc L (.int j :: .ref a :: S)) rfl rfl hd _ k) K
theorem gBastore (X : Stand p l e R s m args below meth c T locs cells slots) (hx : p.tables.exec = Jvm.exec) (hZ : Z.Warmed39 s.vm) (eT : T.heap = h) (A : Ary Z h a k .byte vs) {j x : Int32} (hd : decode c.code pc = .ok (.bastore, 1)) (hq : pc + 1 = q) (hj : ¬ (j < 0 ∨ vs.length ≤ j.toNatClampNeg))
    (K : ∀ T' h', Stand p l e R s m args below meth c T' (locs ++ [⟨a, j.toNatClampNeg⟩]) cells slots → T'.heap = h' → Wr h h' a j.toNatClampNeg (.int (nar .byte x)) → Ary Z h' a k .byte (vs.set j.toNatClampNeg (.int (nar .byte x))) → Go p.tables e below P (T'.setTop (mkF m q L (S)))) : Go p.tables e below P (T.setTop (mkF m pc L (.int x :: .int j :: .ref a :: S))) := by
  subst hq
  have A' := A
  obtain ⟨cl, Ac, r1, r2⟩ := A'
  obtain ⟨T', h', X', e', W', st⟩ := stB X hx hZ eT Ac (j := j) (x := x) (by subst r2; simpa using hj) (g := mkF m pc L (.int x :: .int j :: .ref a :: S)) rfl rfl hd
  exact go st (K T' h' X' e' W' (Ary.same W' A))
theorem gClone (X : Stand p l e R s m args below meth c T locs cells slots) (hx : p.tables.exec = Jvm.exec) (hZ : Z.Warmed39 s.vm) {own ad : String} {i : Nat} {ty : FieldType} (hown : s.vm.findClass own = some m.cls) (w1 : (Jvm.Cond.methodLink own i ⟨ad, "clone", "()Ljava/lang/Object;"⟩).before a0 Z = true) (w2 : (Jvm.Cond.sameMethod ad "java/lang/Object" "clone" "()Ljava/lang/Object;").before a0 Z = true) (w3 : (Jvm.Cond.native ⟨"java/lang/Object", "clone", "()Ljava/lang/Object;"⟩).before a0 Z = true) (w4 : (Jvm.Cond.instanceMethod ⟨"java/lang/Object", "clone", "()Ljava/lang/Object;"⟩).before a0 Z = true) (w5 : (Jvm.Cond.selects ad ⟨ad, "clone", "()Ljava/lang/Object;"⟩ ⟨"java/lang/Object", "clone", "()Ljava/lang/Object;"⟩).before a0 Z = true) (w6 : (Jvm.Cond.castable ad "java/lang/Cloneable").before a0 Z = true)
    (eT : T.heap = h) (A : Ary Z h a k ty vs) (E : Exa Z h a ad) (hfit : ∀ v ∈ vs, fits ty v = true) (hsize : L.size = c.maxLocals) (hd : decode c.code pc = .ok (.invokevirtual i, 3)) (hq : pc + 3 = q) (hf : 1 ≤ R.frames) {W cap : Nat} (hW : (S.map fun v => v.category).sum ≤ W) (hl : W + 14 ≤ R.locals) (hcap : vs.length ≤ cap) (hc : cells + 1 ≤ R.cells) (hsl : slots + cap ≤ R.slots)
    (K : ∀ T' h' b, Stand p l e R s m args below meth c T' locs (cells + 1) (slots + cap) → T'.heap = h' → b = h.size → Ext h h' → Ary Z h' b k ty vs → Exa Z h' b ad → Go p.tables e below P (T'.setTop (mkF m q L (.ref b :: S)))) : Go p.tables e below P (T.setTop (mkF m pc L (.ref a :: S))) := by
  subst hq
  obtain ⟨cl, Ac, r1, r2⟩ := A
  have FC : FitC Z cl := fitC_of Ac fun i hi v hv => hfit v (by rw [← r2]; rw [← Array.getElem?_toList] at hv; exact List.mem_of_getElem? hv)
  obtain ⟨T', h', X', e', ex, A', E', st⟩ := cloneA X hx hZ hown w1 w2 w3 w4 w5 w6 eT Ac E FC (g := mkF m pc L (.ref a :: S)) rfl hsize rfl hd hf (W := W) (cap := cap) (by show 2 * 0 + _ ≤ _; rw [Nat.mul_zero, Nat.zero_add]; exact hW) hl (by rw [← r2] at hcap; simpa using hcap) hc hsl
  exact go st (K T' h' _ X' e' rfl ex ⟨_, A', r1, r2⟩ E')
end Steps6
theorem gRetB {p : Program} {l : Launch} {e : Env} {R : Room} {s : State} {m : MethodId} {args : Array Value} {below : List Frame} {meth : Method} {c : Code} {T : State} {locs : List Loc} {cells slots : Nat} {pc : Nat} {L : Array Slot} {S : List Value} (X : Stand p l e R s m args below meth c T locs cells slots) (hx : p.tables.exec = Jvm.exec) {Q : Option Value → Heap → List Loc → Prop} {k n : Nat} {z : Int32} (hlk : meth.locks = false) (hret : meth.sig.returnType = some .byte) (hd : decode c.code pc = .ok (.ireturn, 1)) (hk : cells ≤ k) (hs : slots ≤ n) (hz : narrow .byte (.int z) = .int z) (hQ : Q (some (.int z)) T.heap locs) : Go p.tables e below (Done s Q k n) (T.setTop (mkF m pc L (.int z :: S))) :=
  gRet X hx hlk hret hz (Or.inl ⟨rfl, Or.inr (Or.inr (Or.inl rfl)), _, rfl⟩) hd hk hs hQ
section Start
variable {s : State} {args : Array Value} {t : Term} {a x y : Addr} {C n d : String}
theorem own_fldR (ev : t.eval args s none [] s = some (.ref x)) (ev2 : (Term.field t C n d).eval args s none [] s = some (.ref y)) : Fld s s.heap x C n d (.ref y) := Fld.start ((fld_at ev).symm.trans ev2)
theorem own_lenlt' {cl : Cell} {v : Value} (ev : t.eval args s none [] s = some (.ref a)) (hat : s.arrayAt? a = some cl) (h : (Term.length t).eval args s none [] s = some v) : cl.slots.size < 2 ^ 31 := by
  simp [Term.eval, ev, hat] at h
  exact h.1
theorem own_arr {ty : FieldType} {N : Int32} {M : Nat} (ev : t.eval args s none [] s = some (.ref a)) (w5 : (Jvm.Cond.arrayOf t ty).value args s none s [] = some true) (w6 : (Jvm.Cond.eq (Term.length t) (Term.int N)).value args s none s [] = some true) (hN : N.toInt = M) : ∃ cl, Arr s s.heap a cl ty ∧ cl.slots.toList.length = M := by
  obtain ⟨cl, A⟩ := Arr.start ev w5
  have hat := Arr.fin (Vm.Alike.refl _) A
  obtain ⟨u, w, g1, g2, g3, g4⟩ := cmp_v (Or.inl w6)
  obtain rfl : w = .int N := Option.some.inj (g2.symm.trans (Term.int_eval N))
  obtain ⟨z, rfl⟩ := g4
  have hz : z = N := gotT (Cond.eq_ints g1 g2) w6
  subst hz
  obtain ⟨b, cell, e1, e2, e3⟩ := Term.length_spec g1
  obtain rfl : a = b := Value.ref.inj (Option.some.inj (ev.symm.trans e1))
  obtain rfl : cl = cell := Option.some.inj (hat.symm.trans e2)
  have hlt := own_lenlt' ev hat g1
  refine ⟨cl, A, ?_⟩
  have e4 := congrArg Int32.toInt (Value.int.inj e3)
  rw [len_toInt hlt] at e4
  simp only [Array.length_toList]
  omega
theorem own_el {cl : Cell} {j b : Int32} {ty : FieldType} (ev : t.eval args s none [] s = some (.ref a)) (A : Arr s s.heap a cl ty) (h : (Jvm.Cond.eq (Term.elem t (Term.int j)) (Term.int b)).value args s none s [] = some true) : cl.slots.toList[j.toNatClampNeg]? = some (.int b) := by
  obtain ⟨u, w, g1, g2, g3, g4⟩ := cmp_v (Or.inl h)
  obtain rfl : w = .int b := Option.some.inj (g2.symm.trans (Term.int_eval b))
  obtain ⟨z, rfl⟩ := g4
  have hz : z = b := gotT (Cond.eq_ints g1 g2) h
  subst hz
  rw [Array.getElem?_toList]
  exact (elem_in g1 ev (Term.int_eval j) A.1).2
theorem own_elR {cl : Cell} {j : Int32} {ty : FieldType} {t2 : Term} {r : Addr} (ev : t.eval args s none [] s = some (.ref a)) (A : Arr s s.heap a cl ty) (ev2 : t2.eval args s none [] s = some (.ref r)) (h : (Jvm.Cond.eq (Term.elem t (Term.int j)) t2).value args s none s [] = some true) : cl.slots.toList[j.toNatClampNeg]? = some (.ref r) := by
  obtain ⟨u, w, g1, g2, g3, g4⟩ := cmp_v (Or.inl h)
  obtain rfl : w = .ref r := Option.some.inj (g2.symm.trans ev2)
  have hu : u.isRef = true := g4.2
  have hz : u = .ref r := gotT (eq_R g1 g2 hu rfl) h
  subst hz
  rw [Array.getElem?_toList]
  exact (elem_in g1 ev (Term.int_eval j) A.1).2
end Start
end Jvm.OwnKit
namespace Jvm.OwnKit
open Sem ClassFile Op Lib Bundle Jvm.Stand Jvm.Free Jvm.LawKit Jvm.RoadKit Jvm.Free.SB Jvm.Free.SBG
def DoneS (Z : State) (EL : List (String × Nat)) (s : State) (h : Heap) (Q : Option Value → Heap → List Loc → Prop) (k n : Nat) (t : State) (o : Outcome) : Prop := ∃ v L, o = .returned v ∧ Q v t.heap L ∧ CHr Z EL s.vm h t.vm t.heap ∧ ReturnedEndW s o t L k n
def ConS (l : Launch) (Z : State) (EL : List (String × Nat)) (y : MethodName) (bytes : ByteArray) (maxL : Nat) (rt : Option FieldType) (ws : List Jvm.Cond) (rm : Room) (as' : Array Value) (h : Heap) (k n : Nat) (Q : Option Value → Heap → List Loc → Prop) : Prop :=
  MetFree l y (head1 (Jvm.Cond.code y bytes maxL rt :: ws) rm) (fun a U => a = as' ∧ Z.Warmed39 U.vm ∧ U.heap = h ∧ CHv Z EL U.vm h) (fun _ _ _ _ _ => True) (fun _ U o U' => ∃ v L, o = .returned v ∧ Q v U'.heap L ∧ CHr Z EL U.vm U.heap U'.vm U'.heap ∧ ReturnedEndW U o U' L k n)
theorem ConS.of {l : Launch} {Z : State} {EL : List (String × Nat)} {y : MethodName} {bytes : ByteArray} {maxL : Nat} {rt : Option FieldType} {ws : List Jvm.Cond} {rm : Room} {as' : Array Value} {h : Heap} {k n : Nat} {Q : Option Value → Heap → List Loc → Prop} (hp : plainFor y = true)
    (body : ∀ (p : Program) (e : Env) (s : State) (m : MethodId) (below : List Frame) (meth : Method) (c : Code) (s₁ : State) (vm0 : Vm) (k0 : Nat), p.tables.exec = Jvm.exec → c.code = bytes → c.maxLocals = maxL → (s.setVm vm0).vm.findClass y.cls = some m.cls → meth.name = y.name → meth.sig.returnType = rt → meth.locks = false → Z.Warmed39 (s.setVm vm0).vm → s.Since vm0 k0 → k0 ≤ h.size → CHr Z EL s.vm h vm0 h →
      Stand p l e rm (s.setVm vm0) m as' below meth c s₁ [] 0 0 → s₁.heap = h → Go p.tables e below (DoneS Z EL s h Q k n) (s₁.setTop (entryFrame m as' maxL))) : ConS l Z EL y bytes maxL rt ws rm as' h k n Q := by
  refine MetFree.of_bodySF hp hisR ?_
  intro p e s m args below meth c s₁ Bd hml0 hP hK
  obtain ⟨rfl, hZ, rfl, hC⟩ := hP
  exact body p e s m below meth c s₁ s.vm s.heap.size Bd.exec Bd.bytes hml0 (findClass_of_methodNamed Bd.named) (name_of_methodNamed Bd.named Bd.method).1 Bd.returns Bd.notSynchronized hZ ((State.WarmedH.refl s).since _) (Nat.le_refl _) (CHr.refl hC) (Stand.of_body Bd) (by rw [Bd.state]; rfl)
section StepsS
variable {p : Program} {l : Launch} {e : Env} {R : Room} {s : State} {m : MethodId} {args : Array Value} {below : List Frame} {meth : Method} {c : Code} {T : State} {locs : List Loc} {cells slots : Nat} {P : State → Outcome → Prop} {pc q : Nat} {L L' : Array Slot} {S : List Value} {Z : State} {EL : List (String × Nat)} {a0 : Array Value} {h h0 : Heap} {a : Addr} {vm0 : Vm} {k0 : Nat}
theorem gRetS (X : Stand p l e R (s.setVm vm0) m args below meth c T locs cells slots) (hx : p.tables.exec = Jvm.exec) (hZ : Z.Warmed39 (s.setVm vm0).vm) (hS : s.Since vm0 k0) (hEL : EW Z a0 EL) {Q : Option Value → Heap → List Loc → Prop} {k n : Nat} {w : Value} {t : FieldType} {i : Instr} (hlk : meth.locks = false) (hret : meth.sig.returnType = some t) (hn : narrow t w = w)
    (hi : (i = .ireturn ∧ (t = .int ∨ t = .boolean ∨ t = .byte ∨ t = .char ∨ t = .short) ∧ ∃ z, w = .int z) ∨ (i = .lreturn ∧ t = .long ∧ ∃ z, w = .long z) ∨ (i = .dreturn ∧ t = .double ∧ ∃ z, w = .double z) ∨ (i = .freturn ∧ t = .float ∧ ∃ z, w = .float z) ∨ (i = .areturn ∧ t.isReference = true ∧ w.isRef = true))
    (hd : decode c.code pc = .ok (i, 1)) (hk : cells ≤ k) (hs : slots ≤ n) (eT : T.heap = h) (hkk : k0 ≤ h.size) (hC : CHr Z EL s.vm h0 vm0 h) (hQ : Q (some w) T.heap locs) : Go p.tables e below (DoneS Z EL s h0 Q k n) (T.setTop (mkF m pc L (w :: S))) := by
  subst eT
  obtain ⟨fs, hr, hrun, hended, hR⟩ := X.leaveW hS hkk (v := some w) (fun h => by rw [hret] at h; cases h) hlk
  exact ⟨_, _, retOut X hx hret hn hi hd hr, hrun, hended, _, _, rfl, hQ, (show CHr Z EL s.vm h0 T.vm T.heap from hC.trans (CHv.at X hZ hEL hC.1)), hR.1, hR.2.1, hR.2.2.1, hR.2.2.2.mono hk hs⟩
theorem gRetSA (X : Stand p l e R (s.setVm vm0) m args below meth c T locs cells slots) (hx : p.tables.exec = Jvm.exec) (hZ : Z.Warmed39 (s.setVm vm0).vm) (hS : s.Since vm0 k0) (hEL : EW Z a0 EL) {Q : Option Value → Heap → List Loc → Prop} {k n : Nat} {w : Value} {t : FieldType} (hlk : meth.locks = false) (hret : meth.sig.returnType = some t) (ht : t.isReference = true) (hw : w.isRef = true) (hd : decode c.code pc = .ok (.areturn, 1)) (hk : cells ≤ k) (hs : slots ≤ n) (eT : T.heap = h) (hkk : k0 ≤ h.size) (hC : CHr Z EL s.vm h0 vm0 h) (hQ : Q (some w) T.heap locs) : Go p.tables e below (DoneS Z EL s h0 Q k n) (T.setTop (mkF m pc L (w :: S))) :=
  gRetS X hx hZ hS hEL hlk hret (by cases t <;> simp [FieldType.isReference] at ht <;> cases w <;> simp [Value.isRef] at hw <;> rfl) (Or.inr (Or.inr (Or.inr (Or.inr ⟨rfl, ht, hw⟩)))) hd hk hs eT hkk hC hQ
theorem gRetSZ (X : Stand p l e R (s.setVm vm0) m args below meth c T locs cells slots) (hx : p.tables.exec = Jvm.exec) (hZ : Z.Warmed39 (s.setVm vm0).vm) (hS : s.Since vm0 k0) (hEL : EW Z a0 EL) {Q : Option Value → Heap → List Loc → Prop} {k n : Nat} {z : Int32} (hlk : meth.locks = false) (hret : meth.sig.returnType = some .boolean) (hd : decode c.code pc = .ok (.ireturn, 1)) (hk : cells ≤ k) (hs : slots ≤ n) (eT : T.heap = h) (hkk : k0 ≤ h.size) (hC : CHr Z EL s.vm h0 vm0 h) (hz : z = 0 ∨ z = 1) (hQ : Q (some (.int z)) T.heap locs) : Go p.tables e below (DoneS Z EL s h0 Q k n) (T.setTop (mkF m pc L (.int z :: S))) :=
  gRetS X hx hZ hS hEL hlk hret (by rcases hz with rfl | rfl <;> rfl) (Or.inl ⟨rfl, Or.inr (Or.inl rfl), _, rfl⟩) hd hk hs eT hkk hC hQ
theorem gRetSV (X : Stand p l e R (s.setVm vm0) m args below meth c T locs cells slots) (hx : p.tables.exec = Jvm.exec) (hZ : Z.Warmed39 (s.setVm vm0).vm) (hS : s.Since vm0 k0) (hEL : EW Z a0 EL) {Q : Option Value → Heap → List Loc → Prop} {k n : Nat} (hlk : meth.locks = false) (hret : meth.sig.returnType = none) (hd : decode c.code pc = .ok (.return_, 1)) (hk : cells ≤ k) (hs : slots ≤ n) (eT : T.heap = h) (hkk : k0 ≤ h.size) (hC : CHr Z EL s.vm h0 vm0 h) (hQ : Q none T.heap locs) : Go p.tables e below (DoneS Z EL s h0 Q k n) (T.setTop (mkF m pc L [])) := by
  subst eT
  obtain ⟨fs, hr, hrun, hended, hR⟩ := X.leaveW hS hkk (v := none) (fun _ => rfl) hlk
  exact ⟨_, _, X.returnOut hx hret hd hr, hrun, hended, _, _, rfl, hQ, (show CHr Z EL s.vm h0 T.vm T.heap from hC.trans (CHv.at X hZ hEL hC.1)), hR.1, hR.2.1, hR.2.2.1, hR.2.2.2.mono hk hs⟩
theorem gLdcE (X : Stand p l e R (s.setVm vm0) m args below meth c T locs cells slots) (hx : p.tables.exec = Jvm.exec) (hZ : Z.Warmed39 (s.setVm vm0).vm) (hS : s.Since vm0 k0) (hEL : EW Z a0 EL) {own text : String} {i : Nat} (hown : (s.setVm vm0).vm.findClass own = some m.cls) (w : (Jvm.Cond.stringLink own i text).before a0 Z = true) (wS : ∀ a ∈ Bundle.stringAtoms, a.before a0 Z = true) (hmem : (own, i) ∈ EL)
    (eT : T.heap = h) (hkk : k0 ≤ h.size) (hC : CHr Z EL s.vm h0 vm0 h) {vs : List Value} {z : Int32} (ht : (∀ c ∈ text.toList, c.toNat < 256) ∧ text.toList.map (fun c => Value.int (Jvm.Lit.byteI c.toNat.toUInt16)) = vs) (hz : ¬ z < 0) (hl : z.toNatClampNeg = vs.length)
    (hd : decode c.code pc = .ok (.ldc i, 2)) (hq : pc + 2 = q) {n : Nat} (hn : 4 * text.toList.length ≤ n) (hbig : n ≤ 536870912) (hc : cells + 2 ≤ R.cells) (hl' : slots + (n + 4) ≤ R.slots)
    (K : ∀ (T' : State) (h' : Heap) (k1 : Nat) (a b : Addr) (k : ClassId), Stand p l e R (s.setVm T'.vm) m args below meth c T' locs (cells + 2) (slots + (n + 4)) → T'.heap = h' → Ext h h' → s.Since T'.vm k1 → k1 ≤ h'.size → Z.Warmed39 (s.setVm T'.vm).vm → (s.setVm T'.vm).vm.findClass own = some m.cls → Exa Z h' a "java/lang/String" → Fld Z h' a "java/lang/String" "coder" "B" (.int 0) → Fld Z h' a "java/lang/String" "value" "[B" (.ref b) → Arv Z h' b k .byte z vs (.int 0) → CHr Z EL s.vm h0 T'.vm h' → (∀ x, x < h.size → Safe Z EL vm0 h x → Safe Z EL T'.vm h' x ∧ x ≠ a ∧ x ≠ b) → Go p.tables e below P (T'.setTop (mkF m q L (.ref a :: S)))) : Go p.tables e below P (T.setTop (mkF m pc L (S))) := by
  subst hq
  obtain ⟨a, T', h', k1, b, k, X', e', E, hS', hk', hZ', ho', r1, r2, r3, r4, r5, r6, C', -, sf, st⟩ := ldcCH X hx hZ hown w wS eT hS hkk hEL hmem hC.1 ht hz hl (g := mkF m pc L S) rfl hd hn hbig hc hl'
  exact go st (K T' h' k1 a b k X' e' E hS' hk' hZ' ho' r1 r2 r3 r4 (hC.trans C') fun x hx Sx => ⟨C'.safe hx Sx, sf x (C'.safe hx Sx)⟩)
theorem gCallSS (X : Stand p l e R (s.setVm vm0) m args below meth c T locs cells slots) (hx : p.tables.exec = Jvm.exec) (hZ : Z.Warmed39 (s.setVm vm0).vm) (hS : s.Since vm0 k0) (hEL : EW Z a0 EL) {own : String} {i : Nat} {y : MethodName} {bytes : ByteArray} {maxL : Nat} {rt : Option FieldType} {rm : Room} {as' : Array Value} {Q : Option Value → Heap → List Loc → Prop} (hown : (s.setVm vm0).vm.findClass own = some m.cls)
    (w1 : (Jvm.Cond.methodLink own i y).before a0 Z = true) (w2 : (Jvm.Cond.static y).before a0 Z = true) (w3 : (Jvm.Cond.initialized y.cls).before a0 Z = true) (w4 : (Jvm.Cond.code y bytes maxL rt).before a0 Z = true) (hy : y.cls ≠ "java/lang/invoke/MethodHandle" ∧ y.cls ≠ "java/lang/invoke/VarHandle")
    (hM : ConS l Z EL y bytes maxL rt [] rm as' h rm.cells rm.slots Q) {W : Nat} (hf : rm.frames + 1 ≤ R.frames) (hlo : W + (maxL + 11) + rm.locals ≤ R.locals) (eT : T.heap = h) (hkk : k0 ≤ h.size) (hC : CHr Z EL s.vm h0 vm0 h) (hsize : L.size = c.maxLocals)
    {S0 : List Value} (argsL : List Value) (hlen : ∀ sig, parseMethodDescriptor y.desc = some sig → argsL.length = sig.parameters.length) (has : argsL.toArray = as') (hst : S0 = argsL.reverse ++ S) (hW : (S.map fun v => v.category).sum ≤ W) (hd : decode c.code pc = .ok (.invokestatic i, 3)) (hq : pc + 3 = q)
    (hc : cells + rm.cells ≤ R.cells) (hs : slots + rm.slots ≤ R.slots)
    (K : ∀ v T' Lc, Stand p l e R (s.setVm T'.vm) m args below meth c T' (locs ++ Lc) (cells + rm.cells) (slots + rm.slots) → Q v T'.heap Lc → s.Since T'.vm T'.heap.size → Z.Warmed39 (s.setVm T'.vm).vm → (s.setVm T'.vm).vm.findClass own = some m.cls → CHr Z EL s.vm h0 T'.vm T'.heap → (∀ x, x < h.size → Safe Z EL vm0 h x → Safe Z EL T'.vm T'.heap x) → Go p.tables e below P (T'.setTop (mkF m q L (v.toList ++ S)))) : Go p.tables e below P (T.setTop (mkF m pc L S0)) := by
  subst hq has hst eT
  obtain ⟨v, _, ⟨T', L1, k1, n1⟩, -, X', h2, hg, ⟨Lc, hQ, e1, e2, e3, C'⟩, st⟩ := callSS X hx hown (mvT hZ w1) (mvT hZ w2) (mvT hZ w3) (mvT hZ w4) hy (backOfSH (W := W) hM hZ w4 w3 hf hlo hEL hC.1) (g := mkF m pc L (argsL.reverse ++ S)) rfl hsize (argsL := argsL) (rest := S) hlen rfl (by show 2 * 0 + _ ≤ _; rw [Nat.mul_zero, Nat.zero_add]; exact hW) hd (fun _ _ => ⟨rfl, rfl, hc, hs⟩)
  dsimp only [Pt.U, Pt.locs, Pt.cells, Pt.slots] at X' e1 e2 e3 st hQ h2 hg C'
  subst e1 e2 e3
  obtain ⟨X2, hS2, hZ2, ho2⟩ := rebS hS hkk X' h2 hg hZ hown
  exact goT st (K v T' Lc X2 hQ hS2 hZ2 ho2 (hC.trans C') fun x hx Sx => C'.safe hx Sx)
theorem gCallNS (X : Stand p l e R (s.setVm vm0) m args below meth c T locs cells slots) (hx : p.tables.exec = Jvm.exec) (hZ : Z.Warmed39 (s.setVm vm0).vm) (hS : s.Since vm0 k0) (hEL : EW Z a0 EL) {own : String} {i : Nat} {y : MethodName} {bytes : ByteArray} {maxL : Nat} {rm : Room} {as' : Array Value} {Q : Option Value → Heap → List Loc → Prop} (hy1 : y.name = "<init>") (hown : (s.setVm vm0).vm.findClass own = some m.cls)
    (w1 : (Jvm.Cond.methodLink own i y).before a0 Z = true) (w2 : (Jvm.Cond.instanceMethod y).before a0 Z = true) (w3 : (Jvm.Cond.initialized y.cls).before a0 Z = true) (w4 : (Jvm.Cond.code y bytes maxL none).before a0 Z = true) (hy : y.cls ≠ "java/lang/invoke/MethodHandle" ∧ y.cls ≠ "java/lang/invoke/VarHandle")
    (hM : ConS l Z EL y bytes maxL none [] rm as' h rm.cells rm.slots Q) {W : Nat} (hf : rm.frames + 1 ≤ R.frames) (hlo : W + (maxL + 11) + rm.locals ≤ R.locals) (eT : T.heap = h) (hkk : k0 ≤ h.size) (hC : CHr Z EL s.vm h0 vm0 h) (hsize : L.size = c.maxLocals)
    {S0 : List Value} {a : Addr} (argsL : List Value) (hlen : ∀ sig, parseMethodDescriptor y.desc = some sig → argsL.length = sig.parameters.length) (has : (.ref a :: argsL).toArray = as') (hst : S0 = argsL.reverse ++ .ref a :: S) (hW : (S.map fun v => v.category).sum ≤ W) (hd : decode c.code pc = .ok (.invokespecial i, 3)) (hq : pc + 3 = q)
    (hc : cells + rm.cells ≤ R.cells) (hs : slots + rm.slots ≤ R.slots)
    (K : ∀ v T' Lc, Stand p l e R (s.setVm T'.vm) m args below meth c T' (locs ++ Lc) (cells + rm.cells) (slots + rm.slots) → Q v T'.heap Lc → s.Since T'.vm T'.heap.size → Z.Warmed39 (s.setVm T'.vm).vm → (s.setVm T'.vm).vm.findClass own = some m.cls → CHr Z EL s.vm h0 T'.vm T'.heap → (∀ x, x < h.size → Safe Z EL vm0 h x → Safe Z EL T'.vm T'.heap x) → Go p.tables e below P (T'.setTop (mkF m q L (v.toList ++ S)))) : Go p.tables e below P (T.setTop (mkF m pc L S0)) := by
  subst hq has hst eT
  obtain ⟨v, _, ⟨T', L1, k1, n1⟩, -, X', h2, hg, ⟨Lc, hQ, e1, e2, e3, C'⟩, st⟩ := X.specialBackS hx hy1 hown (mvT hZ w1) (mvT hZ w2) (mvT hZ w4) hy (backOfSH (W := W) hM hZ w4 w3 hf hlo hEL hC.1) (g := mkF m pc L (argsL.reverse ++ .ref a :: S)) rfl hsize (Steps.refl _) (a := a) (argsL := argsL) (rest := S) hlen rfl (by show 2 * 0 + _ ≤ _; rw [Nat.mul_zero, Nat.zero_add]; exact hW) hd (fun _ _ => ⟨rfl, rfl, hc, hs⟩)
  dsimp only [Pt.U, Pt.locs, Pt.cells, Pt.slots] at X' e1 e2 e3 st hQ h2 hg C'
  subst e1 e2 e3
  obtain ⟨X2, hS2, hZ2, ho2⟩ := rebS hS hkk X' h2 hg hZ hown
  exact goT st (K v T' Lc X2 hQ hS2 hZ2 ho2 (hC.trans C') fun x hx Sx => C'.safe hx Sx)
theorem gCallVS (X : Stand p l e R (s.setVm vm0) m args below meth c T locs cells slots) (hx : p.tables.exec = Jvm.exec) (hZ : Z.Warmed39 (s.setVm vm0).vm) (hS : s.Since vm0 k0) (hEL : EW Z a0 EL) {own C : String} {i : Nat} {y z : MethodName} {bytes : ByteArray} {maxL : Nat} {rt : Option FieldType} {rm : Room} {as' : Array Value} {Q : Option Value → Heap → List Loc → Prop} (hown : (s.setVm vm0).vm.findClass own = some m.cls)
    (w1 : (Jvm.Cond.methodLink own i y).before a0 Z = true) (w2 : (Jvm.Cond.declares y).before a0 Z = true) (w5 : (Jvm.Cond.selects C y z).before a0 Z = true) (w6 : (Jvm.Cond.instanceMethod z).before a0 Z = true) (w3 : (Jvm.Cond.initialized z.cls).before a0 Z = true) (w4 : (Jvm.Cond.code z bytes maxL rt).before a0 Z = true) (hnf : NotFace (s.setVm vm0) y) (hy : y.cls ≠ "java/lang/invoke/MethodHandle" ∧ y.cls ≠ "java/lang/invoke/VarHandle")
    (hM : ConS l Z EL z bytes maxL rt [] rm as' h rm.cells rm.slots Q) {W : Nat} (hf : rm.frames + 1 ≤ R.frames) (hlo : W + (maxL + 11) + rm.locals ≤ R.locals) (eT : T.heap = h) (hkk : k0 ≤ h.size) (hC : CHr Z EL s.vm h0 vm0 h) (hsize : L.size = c.maxLocals)
    {S0 : List Value} {a : Addr} (E : Exa Z h a C) (argsL : List Value) (hlen : ∀ sig, parseMethodDescriptor y.desc = some sig → argsL.length = sig.parameters.length) (has : (.ref a :: argsL).toArray = as') (hst : S0 = argsL.reverse ++ .ref a :: S) (hW : (S.map fun v => v.category).sum ≤ W) (hd : decode c.code pc = .ok (.invokevirtual i, 3)) (hq : pc + 3 = q)
    (hc : cells + rm.cells ≤ R.cells) (hs : slots + rm.slots ≤ R.slots)
    (K : ∀ v T' Lc, Stand p l e R (s.setVm T'.vm) m args below meth c T' (locs ++ Lc) (cells + rm.cells) (slots + rm.slots) → Q v T'.heap Lc → s.Since T'.vm T'.heap.size → Z.Warmed39 (s.setVm T'.vm).vm → (s.setVm T'.vm).vm.findClass own = some m.cls → CHr Z EL s.vm h0 T'.vm T'.heap → (∀ x, x < h.size → Safe Z EL vm0 h x → Safe Z EL T'.vm T'.heap x) → Go p.tables e below P (T'.setTop (mkF m q L (v.toList ++ S)))) : Go p.tables e below P (T.setTop (mkF m pc L S0)) := by
  subst hq has hst eT
  obtain ⟨cq, kq, q1, q2, q3⟩ := isOf hZ rfl E
  obtain ⟨v, _, ⟨T', L1, k1, n1⟩, -, X', h2, hg, ⟨Lc, hQ, e1, e2, e3, C'⟩, st⟩ := X.virtualBackS hx hown (mvT hZ w1) (mvT hZ w2) hnf (mvT hZ w5) (mvT hZ w6) hy (backOfSH (W := W) hM hZ w4 w3 hf hlo hEL hC.1) q1 q3 (g := mkF m pc L (argsL.reverse ++ .ref a :: S)) rfl hsize (Steps.refl _) (argsL := argsL) (rest := S) hlen rfl (by show 2 * 0 + _ ≤ _; rw [Nat.mul_zero, Nat.zero_add]; exact hW) hd (fun _ _ => ⟨rfl, rfl, hc, hs⟩)
  dsimp only [Pt.U, Pt.locs, Pt.cells, Pt.slots] at X' e1 e2 e3 st hQ h2 hg C'
  subst e1 e2 e3
  obtain ⟨X2, hS2, hZ2, ho2⟩ := rebS hS hkk X' h2 hg hZ hown
  exact goT st (K v T' Lc X2 hQ hS2 hZ2 ho2 (hC.trans C') fun x hx Sx => C'.safe hx Sx)
end StepsS
/-- a String whose value is null is no booked one -/
theorem own_safeS {Z : State} {EL : List (String × Nat)} {vm : Vm} {h : Heap} {a : Addr} (hal : Z.vm.Alike vm) (E : Exa Z h a "java/lang/String") (F : Fld Z h a "java/lang/String" "value" "[B" .null) : Safe Z EL vm h a := fun B => by
  obtain ⟨p, -, u, x, -, q, -, Fq, rfl | rfl⟩ := B
  · obtain ⟨cell, cf, k, i, f, e1, e2, -, -, -, -, e3⟩ := F
    cases (show h[q.sa]? = some q.sC from Fq.ha).symm.trans e1
    obtain ⟨cS, ⟨⟨-, -, -, ⟨c1, k1, i1, f1, -⟩, -, -, -, v1, -⟩, -⟩, -⟩ := Fq
    obtain ⟨k3, q3, -⟩ := State.fieldFound?_setVm (s := ({ Z with heap := h } : State)) hal e2
    have q4 := (show (Wst Z vm h).fieldFound? _ _ _ = _ from q3).symm.trans f1
    simp only [Option.some.injEq, Prod.mk.injEq] at q4
    rw [← q4.2.2.2, e3] at v1
    cases v1
  · obtain ⟨cell, k, e1, e2, e3, -, -⟩ := E
    cases (show h[q.sd]? = some q.SA from Fq.hd).symm.trans e1
    obtain ⟨cS, -, -, f, -⟩ := Fq
    have f' : vm.findClass "[B" = some q.SA.cls := f
    rw [hal.findClass] at f'
    obtain ⟨k1, q1, q2⟩ := Vm.findClass_spec f'
    obtain ⟨k2, q3, q4⟩ := Vm.findClass_spec e2
    cases q1.symm.trans q3
    exact absurd (q2.symm.trans q4) (by decide)
end Jvm.OwnKit
namespace Jvm.Pilot.@@N@@
open Jvm Jvm.ClassFile Sem Op Lib Jvm.Free Jvm.Stand Jvm.LawKit Jvm.RoadKit Bundle Jvm.OwnKit Jvm.Pilot.@@N@@.Jvm.D
theorem own_EL_8_29 : (("com/example/tariffwright/tariffwright/Costs$Scope", 29) : String × Nat) ∈ consts_1 := by simp [consts_1]
theorem own_EL_2_7 : (("java/lang/String", 7) : String × Nat) ∈ consts_1 := by simp [consts_1]
theorem own_EL_3_7 : (("java/lang/String", 7) : String × Nat) ∈ consts_1 := by simp [consts_1]
theorem own_EL_9_7 : (("java/lang/String", 7) : String × Nat) ∈ consts_1 := by simp [consts_1]
theorem own_EL_10_7 : (("java/lang/String", 7) : String × Nat) ∈ consts_1 := by simp [consts_1]
theorem own_EL_11_7 : (("java/lang/String", 7) : String × Nat) ∈ consts_1 := by simp [consts_1]
theorem own_EL_12_7 : (("java/lang/String", 7) : String × Nat) ∈ consts_1 := by simp [consts_1]
theorem own_wS {Z : State} {a0 : Array Value} (hw : ∀ d ∈ tables_1, d.before a0 Z = true) : ∀ a ∈ Bundle.stringAtoms, a.before a0 Z = true := by
  intro a ha
  simp only [Bundle.stringAtoms, Bundle.sN, List.mem_cons, List.not_mem_nil, or_false] at ha
  rcases ha with rfl | rfl | rfl | rfl | rfl | rfl | rfl
  · exact (hw _ (List.mem_of_getElem? (i := 6) rfl))
  · exact (hw _ (List.mem_of_getElem? (i := 5) rfl))
  · exact (hw _ (List.mem_of_getElem? (i := 23) rfl))
  · exact (hw _ (List.mem_of_getElem? (i := 33) rfl))
  · exact (hw _ (List.mem_of_getElem? (i := 31) rfl))
  · exact (hw _ (List.mem_of_getElem? (i := 44) rfl))
  · exact (hw _ (List.mem_of_getElem? (i := 45) rfl))
theorem own_safeA {Z : State} {EL : List (String × Nat)} {vm : Vm} {h : Heap} {a : Addr} {k : ClassId} {ty : FieldType} {vs : List Value} (hal : Z.vm.Alike vm) (A : Ary Z h a k ty vs) (ht : ty ≠ .byte) : Safe Z EL vm h a := by
  obtain ⟨c, A, -⟩ := A
  exact Safe.arr hal A ht
theorem own_ary0 {Z : State} {h : Heap} {b : Addr} {k : ClassId} {d : Value} (A : Arv Z h b k .byte 0 [] d) : Ary Z h b k .byte [] := by
  obtain ⟨c, A, r1, r2, -⟩ := A
  refine ⟨c, A, r1, ?_⟩
  have : c.slots.size = 0 := r2
  exact List.eq_nil_of_length_eq_zero (by simpa using this)
theorem own_EW {Z : State} {a0 : Array Value} (hw : ∀ d ∈ tables_1, d.before a0 Z = true) : EW Z a0 consts_1 := EW.cons (hw _ (List.mem_of_getElem? (i := 43) rfl)) (by simp) (EW.cons (hw _ (List.mem_of_getElem? (i := 51) rfl)) (by simp) (EW.nil))
theorem own_narB (x : Int32) : nar .byte (x.toInt8.toInt32) = x.toInt8.toInt32 := by simp [nar]
theorem own_ch (x : Int32) : ¬ (255 : Int32) < (x &&& (255 : Int32)).toUInt32.toUInt16.toUInt32.toInt32 := by
  rw [i2c_mask]
  have e := c_mask x 255 8 (by decide) (by decide)
  have h : (255 : Int32).toInt = 255 := rfl
  rw [Int32.lt_iff_toInt_lt]
  omega
theorem own_chn (x : Int32) : nar .char (x &&& (255 : Int32)).toUInt32.toUInt16.toUInt32.toInt32 = (x &&& (255 : Int32)).toUInt32.toUInt16.toUInt32.toInt32 := by
  show ((x &&& (255 : Int32)).toUInt32.toUInt16.toUInt32.toInt32).toUInt32.toUInt16.toUInt32.toInt32 = _
  rw [i2c_mask, i2c_mask]
theorem own_n3 (x : Int32) (h0 : ¬ (x &&& (3 : Int32)) = 0) (h1 : ¬ (x &&& (3 : Int32)) = 1) (h2 : ¬ (x &&& (3 : Int32)) = 2) : (3 : Int32) = (x &&& (3 : Int32)) := by
  have e := c_mask x 3 2 (by decide) (by decide)
  have a0 : (0 : Int32).toInt = 0 := rfl
  have a1 : (1 : Int32).toInt = 1 := rfl
  have a2 : (2 : Int32).toInt = 2 := rfl
  have a3 : (3 : Int32).toInt = 3 := rfl
  rw [← Int32.toInt_inj] at h0 h1 h2 ⊢
  omega
theorem d6_0 : decode jdk_52_method_21_code 0 = .ok (.iconst 0, 1) := by decide +kernel
theorem d6_1 : decode jdk_52_method_21_code 1 = .ok (.istore 5, 2) := by decide +kernel
theorem d6_3 : decode jdk_52_method_21_code 3 = .ok (.iload 5, 2) := by decide +kernel
theorem d6_5 : decode jdk_52_method_21_code 5 = .ok (.iload 4, 2) := by decide +kernel
theorem d6_7 : decode jdk_52_method_21_code 7 = .ok (.if_icmp .ge 37, 3) := by decide +kernel
theorem d6_10 : decode jdk_52_method_21_code 10 = .ok (.aload_n 0, 1) := by decide +kernel
theorem d6_11 : decode jdk_52_method_21_code 11 = .ok (.iload_n 1, 1) := by decide +kernel
theorem d6_12 : decode jdk_52_method_21_code 12 = .ok (.caload, 1) := by decide +kernel
theorem d6_13 : decode jdk_52_method_21_code 13 = .ok (.istore 6, 2) := by decide +kernel
theorem d6_15 : decode jdk_52_method_21_code 15 = .ok (.iload 6, 2) := by decide +kernel
theorem d6_17 : decode jdk_52_method_21_code 17 = .ok (.sipush 255, 3) := by decide +kernel
theorem d6_20 : decode jdk_52_method_21_code 20 = .ok (.if_icmp .le 6, 3) := by decide +kernel
theorem d6_23 : decode jdk_52_method_21_code 23 = .ok (.iload 5, 2) := by decide +kernel
theorem d6_25 : decode jdk_52_method_21_code 25 = .ok (.ireturn, 1) := by decide +kernel
theorem d6_26 : decode jdk_52_method_21_code 26 = .ok (.aload_n 2, 1) := by decide +kernel
theorem d6_27 : decode jdk_52_method_21_code 27 = .ok (.iload_n 3, 1) := by decide +kernel
theorem d6_28 : decode jdk_52_method_21_code 28 = .ok (.iload 6, 2) := by decide +kernel
theorem d6_30 : decode jdk_52_method_21_code 30 = .ok (.i2b, 1) := by decide +kernel
theorem d6_31 : decode jdk_52_method_21_code 31 = .ok (.bastore, 1) := by decide +kernel
theorem d6_32 : decode jdk_52_method_21_code 32 = .ok (.iinc 1 1, 3) := by decide +kernel
theorem d6_35 : decode jdk_52_method_21_code 35 = .ok (.iinc 3 1, 3) := by decide +kernel
theorem d6_38 : decode jdk_52_method_21_code 38 = .ok (.iinc 5 1, 3) := by decide +kernel
theorem d6_41 : decode jdk_52_method_21_code 41 = .ok (.goto (-38), 3) := by decide +kernel
theorem d6_44 : decode jdk_52_method_21_code 44 = .ok (.iload 4, 2) := by decide +kernel
theorem d6_46 : decode jdk_52_method_21_code 46 = .ok (.ireturn, 1) := by decide +kernel
theorem pn0 : plainName "java/lang/StringUTF16" = true := by first | (simp [plainName, overriddenIn]; done) | decide +kernel
theorem ef0 (m : MethodId) (x0 : Addr) (x1 : Int32) (x2 : Addr) (x3 : Int32) (x4 : Int32) : entryFrame m #[(.ref x0), (.int x1), (.ref x2), (.int x3), (.int x4)] 7 = mkF m 0 #[.val (.ref x0), .val (.int x1), .val (.ref x2), .val (.int x3), .val (.int x4), .unset, .unset] [] := by first | (simp [entryFrame, mkF, argsToLocals, Value.category]; done) | rfl
def Q_rmC2A (Z : State) (kx1 : Addr) (kx2 : Addr) (kc : ClassId) (kd : ClassId) (y0 : Int32) (h0 : Heap) (n0 : Nat) (v : Option Value) (h : Heap) (L : List Loc) : Prop := v = some (.int (1 : Int32)) ∧ Fr n0 L ∧ Keep h0 h [kx2] ∧ Ary Z h kx2 kd .byte [(.int (y0.toInt8.toInt32))]
set_option maxRecDepth 65536 in
set_option maxHeartbeats 40000000 in
theorem rmC2A (l : Launch) (Z : State) (a0 : Array Value) (hw : ∀ d ∈ tables_1, d.before a0 Z = true) (ws : List Jvm.Cond) (kx1 : Addr) (kx2 : Addr) (kc : ClassId) (kd : ClassId) (y0 : Int32) (h0 : Heap) (n0 : Nat) (Z0 : n0 ≤ h0.size) (pA1 : Ary Z h0 kx1 kc .char [(.int y0)]) (pA2 : Ary Z h0 kx2 kd .byte [(.int (0 : Int32))]) (n12 : kx1 ≠ kx2) (lkx2 : n0 ≤ kx2) (hy0 : ¬ (255 : Int32) < y0) :
    Con l Z (⟨"java/lang/StringUTF16", "compress", "([CI[BII)I"⟩ : MethodName) jdk_52_method_21_code 7 (some (.int)) ws ({ frames := 0, cells := 0, slots := 0, locals := 0 } : Room) #[(.ref kx1), (.int (0 : Int32)), (.ref kx2), (.int (0 : Int32)), (.int (1 : Int32))] h0 (({ frames := 0, cells := 0, slots := 0, locals := 0 } : Room).cells) (({ frames := 0, cells := 0, slots := 0, locals := 0 } : Room).slots) (Q_rmC2A Z kx1 kx2 kc kd y0 h0 n0) := by
  refine Con.of (plainFor_of_name pn0) ?_
  intro p e s m below meth c s₁ hx hby hml hown hnm hret hlk hZ X0 e0
  have N0 := Fr.nil n0
  refine goE (L := #[.val (.ref kx1), .val (.int (0 : Int32)), .val (.ref kx2), .val (.int (0 : Int32)), .val (.int (1 : Int32)), .unset, .unset]) (ef0 m kx1 (0 : Int32) kx2 (0 : Int32) (1 : Int32)) ?_
  refine gIconst X0 hx (0 : Int32) (hb hby d6_0) (q := 1) rfl (by decide) ?_
  refine gIstore X0 hx (hb hby d6_1) (q := 3) rfl (L' := #[.val (.ref kx1), .val (.int (0 : Int32)), .val (.ref kx2), .val (.int (0 : Int32)), .val (.int (1 : Int32)), .val (.int (0 : Int32)), .unset]) rfl ?_
  refine gIload X0 hx (hb hby d6_3) (q := 5) rfl rfl ?_
  refine gIload X0 hx (hb hby d6_5) (q := 7) rfl rfl ?_
  refine gIcmpN X0 hx (hb hby d6_7) (q := 10) rfl (XT.ii_ge_f (by decide)) ?_
  refine gAloadN X0 hx (hb hby d6_10) (q := 11) rfl rfl rfl ?_
  refine gIloadN X0 hx (hb hby d6_11) (q := 12) rfl rfl ?_
  refine gCaload X0 hx hZ e0 pA1 (hb hby d6_12) (q := 13) rfl (show ¬ (((0 : Int32) : Int32) < 0 ∨ 1 ≤ ((0 : Int32) : Int32).toNatClampNeg) by decide) (v := .int y0) rfl ?_
  refine gIstore X0 hx (hb hby d6_13) (q := 15) rfl (L' := #[.val (.ref kx1), .val (.int (0 : Int32)), .val (.ref kx2), .val (.int (0 : Int32)), .val (.int (1 : Int32)), .val (.int (0 : Int32)), .val (.int y0)]) rfl ?_
  refine gIload X0 hx (hb hby d6_15) (q := 17) rfl rfl ?_
  refine gSipush X0 hx (255 : Int32) (hb hby d6_17) (q := 20) rfl (by decide) ?_
  refine gIcmpY X0 hx (hb hby d6_20) (q := 26) (by decide) (by decide) (XT.ii_le_t hy0) ?_
  refine gAloadN X0 hx (hb hby d6_26) (q := 27) rfl rfl rfl ?_
  refine gIloadN X0 hx (hb hby d6_27) (q := 28) rfl rfl ?_
  refine gIload X0 hx (hb hby d6_28) (q := 30) rfl rfl ?_
  refine gI2b X0 hx (hb hby d6_30) (q := 31) rfl ?_
  refine gBastore X0 hx hZ e0 pA2 (hb hby d6_31) (q := 32) rfl (show ¬ (((0 : Int32) : Int32) < 0 ∨ 1 ≤ ((0 : Int32) : Int32).toNatClampNeg) by decide) (fun T1 h1 X1 e1 W1 A1 => ?_)
  have B1 : Ary Z h1 kx2 kd (.byte) [(.int (y0.toInt8.toInt32))] := (by have zA := A1; rw [show nar .byte (y0.toInt8.toInt32) = (y0.toInt8.toInt32) from own_narB _] at zA; exact zA)
  have N2 := Fr.snoc X1 N0 lkx2
  have K3 := (Keep.refl h0 [kx2]).wr W1 (Or.inl (List.mem_of_getElem? (i := 0) rfl))
  have A4 := Ary.other W1 pA1 n12
  have Z6 : n0 ≤ h1.size := by rw [W1.size]; exact Z0
  refine gIinc X1 hx (1 : Int32) (hb hby d6_32) (q := 35) rfl (by decide) rfl (L' := #[.val (.ref kx1), .val (.int (1 : Int32)), .val (.ref kx2), .val (.int (0 : Int32)), .val (.int (1 : Int32)), .val (.int (0 : Int32)), .val (.int y0)]) rfl ?_
  refine gIinc X1 hx (1 : Int32) (hb hby d6_35) (q := 38) rfl (by decide) rfl (L' := #[.val (.ref kx1), .val (.int (1 : Int32)), .val (.ref kx2), .val (.int (1 : Int32)), .val (.int (1 : Int32)), .val (.int (0 : Int32)), .val (.int y0)]) rfl ?_
  refine gIinc X1 hx (1 : Int32) (hb hby d6_38) (q := 41) rfl (by decide) rfl (L' := #[.val (.ref kx1), .val (.int (1 : Int32)), .val (.ref kx2), .val (.int (1 : Int32)), .val (.int (1 : Int32)), .val (.int (1 : Int32)), .val (.int y0)]) rfl ?_
  refine gGoto X1 hx (hb hby d6_41) (q := 3) (by decide) (by decide) ?_
  refine gIload X1 hx (hb hby d6_3) (q := 5) rfl rfl ?_
  refine gIload X1 hx (hb hby d6_5) (q := 7) rfl rfl ?_
  refine gIcmpY X1 hx (hb hby d6_7) (q := 44) (by decide) (by decide) (XT.ii_ge_t (by decide)) ?_
  refine gIload X1 hx (hb hby d6_44) (q := 46) rfl rfl ?_
  exact gRetI X1 hx hlk hret (hb hby d6_46) (by decide) (by decide) (by rw [e1]; exact ⟨rfl, N2, K3, B1⟩)
theorem d5_0 : decode jdk_52_method_16_code 0 = .ok (.iload_n 2, 1) := by decide +kernel
theorem d5_1 : decode jdk_52_method_16_code 1 = .ok (.newarray .byte, 2) := by decide +kernel
theorem d5_3 : decode jdk_52_method_16_code 3 = .ok (.astore_n 3, 1) := by decide +kernel
theorem d5_4 : decode jdk_52_method_16_code 4 = .ok (.aload_n 0, 1) := by decide +kernel
theorem d5_5 : decode jdk_52_method_16_code 5 = .ok (.iload_n 1, 1) := by decide +kernel
theorem d5_6 : decode jdk_52_method_16_code 6 = .ok (.aload_n 3, 1) := by decide +kernel
theorem d5_7 : decode jdk_52_method_16_code 7 = .ok (.iconst 0, 1) := by decide +kernel
theorem d5_8 : decode jdk_52_method_16_code 8 = .ok (.iload_n 2, 1) := by decide +kernel
theorem d5_9 : decode jdk_52_method_16_code 9 = .ok (.invokestatic 115, 3) := by decide +kernel
theorem d5_12 : decode jdk_52_method_16_code 12 = .ok (.istore 4, 2) := by decide +kernel
theorem d5_14 : decode jdk_52_method_16_code 14 = .ok (.iload 4, 2) := by decide +kernel
theorem d5_16 : decode jdk_52_method_16_code 16 = .ok (.iload_n 2, 1) := by decide +kernel
theorem d5_17 : decode jdk_52_method_16_code 17 = .ok (.if_icmp .eq 40, 3) := by decide +kernel
theorem d5_20 : decode jdk_52_method_16_code 20 = .ok (.aload_n 0, 1) := by decide +kernel
theorem d5_21 : decode jdk_52_method_16_code 21 = .ok (.iload_n 1, 1) := by decide +kernel
theorem d5_22 : decode jdk_52_method_16_code 22 = .ok (.iload_n 2, 1) := by decide +kernel
theorem d5_23 : decode jdk_52_method_16_code 23 = .ok (.invokestatic 119, 3) := by decide +kernel
theorem d5_26 : decode jdk_52_method_16_code 26 = .ok (.astore 5, 2) := by decide +kernel
theorem d5_28 : decode jdk_52_method_16_code 28 = .ok (.aload 5, 2) := by decide +kernel
theorem d5_30 : decode jdk_52_method_16_code 30 = .ok (.iload 4, 2) := by decide +kernel
theorem d5_32 : decode jdk_52_method_16_code 32 = .ok (.invokestatic 71, 3) := by decide +kernel
theorem d5_35 : decode jdk_52_method_16_code 35 = .ok (.sipush 255, 3) := by decide +kernel
theorem d5_38 : decode jdk_52_method_16_code 38 = .ok (.if_icmp .gt 16, 3) := by decide +kernel
theorem d5_41 : decode jdk_52_method_16_code 41 = .ok (.aload 5, 2) := by decide +kernel
theorem d5_43 : decode jdk_52_method_16_code 43 = .ok (.iconst 0, 1) := by decide +kernel
theorem d5_44 : decode jdk_52_method_16_code 44 = .ok (.aload_n 3, 1) := by decide +kernel
theorem d5_45 : decode jdk_52_method_16_code 45 = .ok (.iconst 0, 1) := by decide +kernel
theorem d5_46 : decode jdk_52_method_16_code 46 = .ok (.iload_n 2, 1) := by decide +kernel
theorem d5_47 : decode jdk_52_method_16_code 47 = .ok (.invokestatic 123, 3) := by decide +kernel
theorem d5_50 : decode jdk_52_method_16_code 50 = .ok (.iload_n 2, 1) := by decide +kernel
theorem d5_51 : decode jdk_52_method_16_code 51 = .ok (.if_icmp .eq 6, 3) := by decide +kernel
theorem d5_54 : decode jdk_52_method_16_code 54 = .ok (.aload 5, 2) := by decide +kernel
theorem d5_56 : decode jdk_52_method_16_code 56 = .ok (.areturn, 1) := by decide +kernel
theorem d5_57 : decode jdk_52_method_16_code 57 = .ok (.aload_n 3, 1) := by decide +kernel
theorem d5_58 : decode jdk_52_method_16_code 58 = .ok (.areturn, 1) := by decide +kernel
theorem ef1 (m : MethodId) (x0 : Addr) (x1 : Int32) (x2 : Int32) : entryFrame m #[(.ref x0), (.int x1), (.int x2)] 6 = mkF m 0 #[.val (.ref x0), .val (.int x1), .val (.int x2), .unset, .unset, .unset] [] := by first | (simp [entryFrame, mkF, argsToLocals, Value.category]; done) | rfl
def Q_rmC1A (Z : State) (kx1 : Addr) (kc : ClassId) (y0 : Int32) (h0 : Heap) (n0 : Nat) (v : Option Value) (h : Heap) (L : List Loc) : Prop := ∃ r kd, v = some (.ref r) ∧ Fr n0 L ∧ Keep h0 h [] ∧ Ary Z h r kd .byte [(.int (y0.toInt8.toInt32))] ∧ h0.size ≤ r
theorem pd0 : parseMethodDescriptor "([CI[BII)I" = some ⟨[.array (.char), .int, .array (.byte), .int, .int], some (.int)⟩ := by decide +kernel
set_option maxRecDepth 65536 in
set_option maxHeartbeats 40000000 in
theorem rmC1A (l : Launch) (Z : State) (a0 : Array Value) (hw : ∀ d ∈ tables_1, d.before a0 Z = true) (ws : List Jvm.Cond) (kx1 : Addr) (kc : ClassId) (y0 : Int32) (h0 : Heap) (n0 : Nat) (Z0 : n0 ≤ h0.size) (pA1 : Ary Z h0 kx1 kc .char [(.int y0)]) (hy0 : ¬ (255 : Int32) < y0) :
    Con l Z (⟨"java/lang/StringUTF16", "compress", "([CII)[B"⟩ : MethodName) jdk_52_method_16_code 6 (some (.array (.byte))) ws ({ frames := 1, cells := 1, slots := 1, locals := 18 } : Room) #[(.ref kx1), (.int (0 : Int32)), (.int (1 : Int32))] h0 (({ frames := 1, cells := 1, slots := 1, locals := 18 } : Room).cells) (({ frames := 1, cells := 1, slots := 1, locals := 18 } : Room).slots) (Q_rmC1A Z kx1 kc y0 h0 n0) := by
  refine Con.of (plainFor_of_name pn0) ?_
  intro p e s m below meth c s₁ hx hby hml hown hnm hret hlk hZ X0 e0
  have N0 := Fr.nil n0
  refine goE (L := #[.val (.ref kx1), .val (.int (0 : Int32)), .val (.int (1 : Int32)), .unset, .unset, .unset]) (ef1 m kx1 (0 : Int32) (1 : Int32)) ?_
  refine gIloadN X0 hx (hb hby d5_0) (q := 1) rfl rfl ?_
  refine gNewP X0 hx hZ (hw _ (List.mem_of_getElem? (i := 23) rfl)) e0 (hb hby d5_1) (q := 3) rfl (by decide) (cap := 1) (by decide) (by decide) (by decide) (by decide) (fun T1 h1 a1 k1 X1 e1 g1 E1 A1 => ?_)
  have A2 := Ary.ext E1 pA1
  have ge_a1 : h0.size ≤ a1 := by rw [g1]; exact (Keep.refl h0 []).1
  have K3 := (Keep.refl h0 []).ext E1
  have le_a1 : n0 ≤ a1 := by rw [g1]; exact Z0
  have ne_kx1_a1 : kx1 ≠ a1 := by rw [g1]; exact Nat.ne_of_lt pA1.lt
  have Z4 := Nat.le_trans Z0 E1.1
  have B1 : Ary Z h1 a1 k1 (.byte) [(.int (0 : Int32))] := A1
  refine gAstoreN X1 hx (hb hby d5_3) (q := 4) rfl rfl (L' := #[.val (.ref kx1), .val (.int (0 : Int32)), .val (.int (1 : Int32)), .val (.ref a1), .unset, .unset]) rfl ?_
  refine gAloadN X1 hx (hb hby d5_4) (q := 5) rfl rfl rfl ?_
  refine gIloadN X1 hx (hb hby d5_5) (q := 6) rfl rfl ?_
  refine gAloadN X1 hx (hb hby d5_6) (q := 7) rfl rfl rfl ?_
  refine gIconst X1 hx (0 : Int32) (hb hby d5_7) (q := 8) rfl (by decide) ?_
  refine gIloadN X1 hx (hb hby d5_8) (q := 9) rfl rfl ?_
  refine gCallS X1 hx hZ hown (hw _ (List.mem_of_getElem? (i := 24) rfl)) (hw _ (List.mem_of_getElem? (i := 25) rfl)) (hw _ (List.mem_of_getElem? (i := 21) rfl)) (hw _ (List.mem_of_getElem? (i := 26) rfl)) (by decide) (rmC2A l Z a0 hw [] kx1 a1 kc k1 y0 h1 n0 Z4 A2 B1 ne_kx1_a1 le_a1 hy0) (W := 0) (by decide) (by decide) e1 (by rw [hml]; rfl) [(.ref kx1), (.int (0 : Int32)), (.ref a1), (.int (0 : Int32)), (.int (1 : Int32))] (lenOf pd0 rfl) rfl (S := []) rfl (Nat.le_of_eq rfl) (hb hby d5_9) (q := 12) rfl (by decide) (by decide) (fun r5 T5 M5 X5 q5 => ?_)
  obtain ⟨rfl, M5n, K5, P5a⟩ := q5
  have N6 := Fr.app N0 M5n
  have A7 := Ary.keep A2 K5 (ninS ne_kx1_a1 nin0)
  have Z8 := Nat.le_trans Z4 K5.1
  have KK9 := K3.trans K5 (allS (Or.inr ge_a1) all0)
  dsimp only [Option.toList, List.cons_append, List.nil_append]
  refine gIstore X5 hx (hb hby d5_12) (q := 14) rfl (L' := #[.val (.ref kx1), .val (.int (0 : Int32)), .val (.int (1 : Int32)), .val (.ref a1), .val (.int (1 : Int32)), .unset]) rfl ?_
  refine gIload X5 hx (hb hby d5_14) (q := 16) rfl rfl ?_
  refine gIloadN X5 hx (hb hby d5_16) (q := 17) rfl rfl ?_
  refine gIcmpY X5 hx (hb hby d5_17) (q := 57) (by decide) (by decide) (XT.ii_eq_t (by decide)) ?_
  refine gAloadN X5 hx (hb hby d5_57) (q := 58) rfl rfl rfl ?_
  exact gRetA X5 hx hlk hret rfl rfl (hb hby d5_58) (by decide) (by decide) (by exact ⟨_, _, rfl, N6, KK9, P5a, ge_a1⟩)
theorem d7_0 : decode jdk_52_method_15_code 0 = .ok (.iload_n 1, 1) := by decide +kernel
theorem d7_1 : decode jdk_52_method_15_code 1 = .ok (.aload_n 0, 1) := by decide +kernel
theorem d7_2 : decode jdk_52_method_15_code 2 = .ok (.arraylength, 1) := by decide +kernel
theorem d7_3 : decode jdk_52_method_15_code 3 = .ok (.isub, 1) := by decide +kernel
theorem d7_4 : decode jdk_52_method_15_code 4 = .ok (.bipush 31, 2) := by decide +kernel
theorem d7_6 : decode jdk_52_method_15_code 6 = .ok (.iushr, 1) := by decide +kernel
theorem d7_7 : decode jdk_52_method_15_code 7 = .ok (.i2b, 1) := by decide +kernel
theorem d7_8 : decode jdk_52_method_15_code 8 = .ok (.ireturn, 1) := by decide +kernel
theorem ef2 (m : MethodId) (x0 : Addr) (x1 : Int32) : entryFrame m #[(.ref x0), (.int x1)] 2 = mkF m 0 #[.val (.ref x0), .val (.int x1)] [] := by first | (simp [entryFrame, mkF, argsToLocals, Value.category]; done) | rfl
def Q_rmCdA (Z : State) (kx1 : Addr) (kd : ClassId) (y0 : Int32) (h0 : Heap) (n0 : Nat) (v : Option Value) (h : Heap) (L : List Loc) : Prop := v = some (.int (0 : Int32)) ∧ Fr n0 L ∧ h = h0
set_option maxRecDepth 65536 in
set_option maxHeartbeats 40000000 in
theorem rmCdA (l : Launch) (Z : State) (a0 : Array Value) (hw : ∀ d ∈ tables_1, d.before a0 Z = true) (ws : List Jvm.Cond) (kx1 : Addr) (kd : ClassId) (y0 : Int32) (h0 : Heap) (n0 : Nat) (Z0 : n0 ≤ h0.size) (pA1 : Ary Z h0 kx1 kd .byte [(.int (y0.toInt8.toInt32))]) :
    Con l Z (⟨"java/lang/StringUTF16", "coderFromArrayLen", "([BI)B"⟩ : MethodName) jdk_52_method_15_code 2 (some (.byte)) ws ({ frames := 0, cells := 0, slots := 0, locals := 0 } : Room) #[(.ref kx1), (.int (1 : Int32))] h0 (({ frames := 0, cells := 0, slots := 0, locals := 0 } : Room).cells) (({ frames := 0, cells := 0, slots := 0, locals := 0 } : Room).slots) (Q_rmCdA Z kx1 kd y0 h0 n0) := by
  refine Con.of (plainFor_of_name pn0) ?_
  intro p e s m below meth c s₁ hx hby hml hown hnm hret hlk hZ X0 e0
  have N0 := Fr.nil n0
  refine goE (L := #[.val (.ref kx1), .val (.int (1 : Int32))]) (ef2 m kx1 (1 : Int32)) ?_
  refine gIloadN X0 hx (hb hby d7_0) (q := 1) rfl rfl ?_
  refine gAloadN X0 hx (hb hby d7_1) (q := 2) rfl rfl rfl ?_
  refine gLen X0 hx hZ e0 pA1 (n := (1 : Int32)) rfl (hb hby d7_2) (q := 3) rfl ?_
  refine gIsub X0 hx (hb hby d7_3) (q := 4) rfl ?_
  rw [show ((1 : Int32) - (1 : Int32)) = (0 : Int32) from by decide]
  refine gBipush X0 hx (31 : Int32) (hb hby d7_4) (q := 6) rfl (by decide) ?_
  refine gIushr X0 hx (hb hby d7_6) (q := 7) rfl ?_
  rw [show (XT.ushr (0 : Int32) (31 : Int32)) = (0 : Int32) from by decide]
  refine gI2b X0 hx (hb hby d7_7) (q := 8) rfl ?_
  rw [show ((0 : Int32).toInt8.toInt32) = (0 : Int32) from by decide]
  exact gRetB X0 hx hlk hret (hb hby d7_8) (by decide) (by decide) rfl ⟨rfl, N0, e0⟩
theorem d3_0 : decode jdk_42_method_149_code 0 = .ok (.aload_n 0, 1) := by decide +kernel
theorem d3_1 : decode jdk_42_method_149_code 1 = .ok (.invokespecial 1, 3) := by decide +kernel
theorem d3_4 : decode jdk_42_method_149_code 4 = .ok (.iload_n 3, 1) := by decide +kernel
theorem d3_5 : decode jdk_42_method_149_code 5 = .ok (.ifCond .ne 22, 3) := by decide +kernel
theorem d3_8 : decode jdk_42_method_149_code 8 = .ok (.aload_n 0, 1) := by decide +kernel
theorem d3_9 : decode jdk_42_method_149_code 9 = .ok (.ldc 7, 2) := by decide +kernel
theorem d3_11 : decode jdk_42_method_149_code 11 = .ok (.getfield 9, 3) := by decide +kernel
theorem d3_14 : decode jdk_42_method_149_code 14 = .ok (.putfield 9, 3) := by decide +kernel
theorem d3_17 : decode jdk_42_method_149_code 17 = .ok (.aload_n 0, 1) := by decide +kernel
theorem d3_18 : decode jdk_42_method_149_code 18 = .ok (.ldc 7, 2) := by decide +kernel
theorem d3_20 : decode jdk_42_method_149_code 20 = .ok (.getfield 15, 3) := by decide +kernel
theorem d3_23 : decode jdk_42_method_149_code 23 = .ok (.putfield 15, 3) := by decide +kernel
theorem d3_26 : decode jdk_42_method_149_code 26 = .ok (.return_, 1) := by decide +kernel
theorem d3_27 : decode jdk_42_method_149_code 27 = .ok (.getstatic 38, 3) := by decide +kernel
theorem d3_30 : decode jdk_42_method_149_code 30 = .ok (.ifCond .eq 28, 3) := by decide +kernel
theorem d3_33 : decode jdk_42_method_149_code 33 = .ok (.aload_n 1, 1) := by decide +kernel
theorem d3_34 : decode jdk_42_method_149_code 34 = .ok (.iload_n 2, 1) := by decide +kernel
theorem d3_35 : decode jdk_42_method_149_code 35 = .ok (.iload_n 3, 1) := by decide +kernel
theorem d3_36 : decode jdk_42_method_149_code 36 = .ok (.invokestatic 177, 3) := by decide +kernel
theorem d3_39 : decode jdk_42_method_149_code 39 = .ok (.astore 5, 2) := by decide +kernel
theorem d3_41 : decode jdk_42_method_149_code 41 = .ok (.aload_n 0, 1) := by decide +kernel
theorem d3_42 : decode jdk_42_method_149_code 42 = .ok (.aload 5, 2) := by decide +kernel
theorem d3_44 : decode jdk_42_method_149_code 44 = .ok (.iload_n 3, 1) := by decide +kernel
theorem d3_45 : decode jdk_42_method_149_code 45 = .ok (.invokestatic 47, 3) := by decide +kernel
theorem d3_48 : decode jdk_42_method_149_code 48 = .ok (.putfield 15, 3) := by decide +kernel
theorem d3_51 : decode jdk_42_method_149_code 51 = .ok (.aload_n 0, 1) := by decide +kernel
theorem d3_52 : decode jdk_42_method_149_code 52 = .ok (.aload 5, 2) := by decide +kernel
theorem d3_54 : decode jdk_42_method_149_code 54 = .ok (.putfield 9, 3) := by decide +kernel
theorem d3_57 : decode jdk_42_method_149_code 57 = .ok (.return_, 1) := by decide +kernel
theorem d3_58 : decode jdk_42_method_149_code 58 = .ok (.aload_n 0, 1) := by decide +kernel
theorem d3_59 : decode jdk_42_method_149_code 59 = .ok (.iconst 1, 1) := by decide +kernel
theorem d3_60 : decode jdk_42_method_149_code 60 = .ok (.putfield 15, 3) := by decide +kernel
theorem d3_63 : decode jdk_42_method_149_code 63 = .ok (.aload_n 0, 1) := by decide +kernel
theorem d3_64 : decode jdk_42_method_149_code 64 = .ok (.aload_n 1, 1) := by decide +kernel
theorem d3_65 : decode jdk_42_method_149_code 65 = .ok (.iload_n 2, 1) := by decide +kernel
theorem d3_66 : decode jdk_42_method_149_code 66 = .ok (.iload_n 3, 1) := by decide +kernel
theorem d3_67 : decode jdk_42_method_149_code 67 = .ok (.invokestatic 180, 3) := by decide +kernel
theorem d3_70 : decode jdk_42_method_149_code 70 = .ok (.putfield 9, 3) := by decide +kernel
theorem d3_73 : decode jdk_42_method_149_code 73 = .ok (.return_, 1) := by decide +kernel
theorem pn1 : plainName "java/lang/String" = true := by first | (simp [plainName, overriddenIn]; done) | decide +kernel
theorem ef3 (m : MethodId) (x0 : Addr) (x1 : Addr) (x2 : Int32) (x3 : Int32) : entryFrame m #[(.ref x0), (.ref x1), (.int x2), (.int x3), (.null)] 6 = mkF m 0 #[.val (.ref x0), .val (.ref x1), .val (.int x2), .val (.int x3), .val (.null), .unset] [] := by first | (simp [entryFrame, mkF, argsToLocals, Value.category]; done) | rfl
def Q_rmI4A (Z : State) (a : Addr) (kx1 : Addr) (kc : ClassId) (ic : Int32) (y0 : Int32) (h0 : Heap) (n0 : Nat) (v : Option Value) (h : Heap) (L : List Loc) : Prop := v = none ∧ Fr n0 L ∧ Keep h0 h [a] ∧ Exa Z h a "java/lang/String" ∧ Fld Z h a "java/lang/String" "coder" "B" (.int (0 : Int32)) ∧ ∃ rb kb, Fld Z h a "java/lang/String" "value" "[B" (.ref rb) ∧ Ary Z h rb kb .byte [(.int (y0.toInt8.toInt32))] ∧ h0.size ≤ rb
theorem pd1 : parseMethodDescriptor "([CII)[B" = some ⟨[.array (.char), .int, .int], some (.array (.byte))⟩ := by decide +kernel
theorem pd2 : parseMethodDescriptor "([BI)B" = some ⟨[.array (.byte), .int], some (.byte)⟩ := by decide +kernel
set_option maxRecDepth 65536 in
set_option maxHeartbeats 40000000 in
theorem rmI4A (l : Launch) (Z : State) (a0 : Array Value) (hw : ∀ d ∈ tables_1, d.before a0 Z = true) (ws : List Jvm.Cond) (a : Addr) (kx1 : Addr) (kc : ClassId) (ic : Int32) (y0 : Int32) (h0 : Heap) (n0 : Nat) (Z0 : n0 ≤ h0.size) (pF1 : Fld Z h0 a "java/lang/String" "value" "[B" .null) (pF2 : Fld Z h0 a "java/lang/String" "coder" "B" (.int (0 : Int32))) (EXa : Exa Z h0 a "java/lang/String") (la : n0 ≤ a) (pA1 : Ary Z h0 kx1 kc .char [(.int y0)]) (n1a : kx1 ≠ a) (SCs : Sta Z Z.heap "java/lang/String" "COMPACT_STRINGS" "Z" (.int ic)) (hic : ¬ ic = (0 : Int32)) (O0 : Old Z n0 h0) (hy0 : ¬ (255 : Int32) < y0) :
    Con l Z (⟨"java/lang/String", "<init>", "([CIILjava/lang/Void;)V"⟩ : MethodName) jdk_42_method_149_code 6 none ws ({ frames := 2, cells := 1, slots := 1, locals := 36 } : Room) #[(.ref a), (.ref kx1), (.int (0 : Int32)), (.int (1 : Int32)), (.null)] h0 (({ frames := 2, cells := 1, slots := 1, locals := 36 } : Room).cells) (({ frames := 2, cells := 1, slots := 1, locals := 36 } : Room).slots) (Q_rmI4A Z a kx1 kc ic y0 h0 n0) := by
  refine Con.of (plainFor_of_name pn1) ?_
  intro p e s m below meth c s₁ hx hby hml hown hnm hret hlk hZ X0 e0
  have N0 := Fr.nil n0
  refine goE (L := #[.val (.ref a), .val (.ref kx1), .val (.int (0 : Int32)), .val (.int (1 : Int32)), .val (.null), .unset]) (ef3 m a kx1 (0 : Int32) (1 : Int32)) ?_
  refine gAloadN X0 hx (hb hby d3_0) (q := 1) rfl rfl rfl ?_
  refine gInitO X0 hx hZ hown (hw _ (List.mem_of_getElem? (i := 15) rfl)) (hw _ (List.mem_of_getElem? (i := 16) rfl)) (hw _ (List.mem_of_getElem? (i := 17) rfl)) e0 (by rw [hml]; rfl) (hb hby d3_1) (q := 4) rfl (by decide) (W := 0) (Nat.le_of_eq rfl) (by decide) (fun T1 X1 e1 => ?_)
  refine gIloadN X1 hx (hb hby d3_4) (q := 5) rfl rfl ?_
  refine gIfY X1 hx (hb hby d3_5) (q := 27) (by decide) (by decide) (XT.i0_ne_t (by decide)) ?_
  refine gGetS X1 hx hZ hown (hw _ (List.mem_of_getElem? (i := 18) rfl)) Via.refl e1 (Sta.ext O0.2 SCs) (hb hby d3_27) (q := 30) rfl (fun T2 X2 e2 => ?_)
  refine gIfN X2 hx (hb hby d3_30) (q := 33) rfl (XT.i0_eq_f hic) ?_
  refine gAloadN X2 hx (hb hby d3_33) (q := 34) rfl rfl rfl ?_
  refine gIloadN X2 hx (hb hby d3_34) (q := 35) rfl rfl ?_
  refine gIloadN X2 hx (hb hby d3_35) (q := 36) rfl rfl ?_
  refine gCallS X2 hx hZ hown (hw _ (List.mem_of_getElem? (i := 19) rfl)) (hw _ (List.mem_of_getElem? (i := 20) rfl)) (hw _ (List.mem_of_getElem? (i := 21) rfl)) (hw _ (List.mem_of_getElem? (i := 22) rfl)) (by decide) (rmC1A l Z a0 hw [] kx1 kc y0 h0 n0 Z0 pA1 hy0) (W := 0) (by decide) (by decide) e2 (by rw [hml]; rfl) [(.ref kx1), (.int (0 : Int32)), (.int (1 : Int32))] (lenOf pd1 rfl) rfl (S := []) rfl (Nat.le_of_eq rfl) (hb hby d3_36) (q := 39) rfl (by decide) (by decide) (fun r3 T3 M3 X3 q3 => ?_)
  obtain ⟨rb, kb, rfl, M3n, K3, Arb, grb⟩ := q3
  have N4 := Fr.app N0 M3n
  have lrb : n0 ≤ rb := Nat.le_trans Z0 grb
  have ne_a_rb : a ≠ rb := Nat.ne_of_lt (Nat.lt_of_lt_of_le EXa.lt grb)
  have ne_kx1_rb : kx1 ≠ rb := Nat.ne_of_lt (Nat.lt_of_lt_of_le pA1.lt grb)
  have g0rb : h0.size ≤ rb := Nat.le_trans (Keep.refl h0 [a]).1 grb
  have F5 := Fld.keep pF1 K3 nin0
  have F6 := Fld.keep pF2 K3 nin0
  have E7 := Exa.keep EXa K3
  have A8 := Ary.keep pA1 K3 nin0
  have O9 := O0.keep K3 all0
  have Z10 := Nat.le_trans Z0 K3.1
  have KK11 := (Keep.refl h0 [a]).trans K3 all0
  dsimp only [Option.toList, List.cons_append, List.nil_append]
  refine gAstore X3 hx (hb hby d3_39) (q := 41) rfl rfl (L' := #[.val (.ref a), .val (.ref kx1), .val (.int (0 : Int32)), .val (.int (1 : Int32)), .val (.null), .val (.ref rb)]) rfl ?_
  refine gAloadN X3 hx (hb hby d3_41) (q := 42) rfl rfl rfl ?_
  refine gAload X3 hx (hb hby d3_42) (q := 44) rfl rfl rfl ?_
  refine gIloadN X3 hx (hb hby d3_44) (q := 45) rfl rfl ?_
  refine gCallS X3 hx hZ hown (hw _ (List.mem_of_getElem? (i := 27) rfl)) (hw _ (List.mem_of_getElem? (i := 28) rfl)) (hw _ (List.mem_of_getElem? (i := 21) rfl)) (hw _ (List.mem_of_getElem? (i := 29) rfl)) (by decide) (rmCdA l Z a0 hw [] rb kb y0 T3.heap n0 Z10 Arb) (W := 1) (by decide) (by decide) rfl (by rw [hml]; rfl) [(.ref rb), (.int (1 : Int32))] (lenOf pd2 rfl) rfl (S := [(.ref a)]) rfl (Nat.le_of_eq rfl) (hb hby d3_45) (q := 48) rfl (by decide) (by decide) (fun r12 T12 M12 X12 q12 => ?_)
  obtain ⟨rfl, M12n, e12⟩ := q12
  have N13 := Fr.app N4 M12n
  dsimp only [Option.toList, List.cons_append, List.nil_append]
  refine gPutF X12 hx hZ (host := "") hown (Or.inl (hw _ (List.mem_of_getElem? (i := 30) rfl))) Via.refl e12 F6 E7 (Or.inr ⟨(hw _ (List.mem_of_getElem? (i := 31) rfl)), rfl, hnm⟩) (hw _ (List.mem_of_getElem? (i := 5) rfl)) (ty := .byte) (by decide) rfl rfl (hb hby d3_48) (q := 51) rfl (fun T14 h14 X14 e14 W14 => ?_)
  have N15 := Fr.snoc X14 N13 la
  have K16 := KK11.wr W14 (Or.inl (List.mem_of_getElem? (i := 0) rfl))
  have F17 := Fld.other W14 F5 (Or.inr (slot_ne (Or.inr (hw _ (List.mem_of_getElem? (i := 33) rfl))) (Or.inr (hw _ (List.mem_of_getElem? (i := 31) rfl))) (by decide) (t := .array (.byte)) (by decide) (t' := .byte) (by decide)))
  have F18 := Fld.same W14 F6
  have E19 := Exa.wr W14 E7
  have A20 := Ary.other W14 A8 n1a
  have A21 := Ary.other W14 Arb ne_a_rb.symm
  have O22 := O9.wr W14 la
  have Z23 : n0 ≤ h14.size := by rw [W14.size]; exact Z10
  refine gAloadN X14 hx (hb hby d3_51) (q := 52) rfl rfl rfl ?_
  refine gAload X14 hx (hb hby d3_52) (q := 54) rfl rfl rfl ?_
  refine gPutF X14 hx hZ (host := "") hown (Or.inl (hw _ (List.mem_of_getElem? (i := 32) rfl))) Via.refl e14 F17 E19 (Or.inr ⟨(hw _ (List.mem_of_getElem? (i := 33) rfl)), rfl, hnm⟩) (hw _ (List.mem_of_getElem? (i := 5) rfl)) (ty := .array (.byte)) (by decide) rfl rfl (hb hby d3_54) (q := 57) rfl (fun T24 h24 X24 e24 W24 => ?_)
  have N25 := Fr.snoc X24 N15 la
  have K26 := K16.wr W24 (Or.inl (List.mem_of_getElem? (i := 0) rfl))
  have F27 := Fld.same W24 F17
  have F28 := Fld.other W24 F18 (Or.inr (slot_ne (Or.inr (hw _ (List.mem_of_getElem? (i := 31) rfl))) (Or.inr (hw _ (List.mem_of_getElem? (i := 33) rfl))) (by decide) (t := .byte) (by decide) (t' := .array (.byte)) (by decide)))
  have E29 := Exa.wr W24 E19
  have A30 := Ary.other W24 A20 n1a
  have A31 := Ary.other W24 A21 ne_a_rb.symm
  have O32 := O22.wr W24 la
  have Z33 : n0 ≤ h24.size := by rw [W24.size]; exact Z23
  exact gRetV X24 hx hlk hret (hb hby d3_57) (by decide) (by decide) (by rw [e24]; exact ⟨rfl, N25, K26, E29, F28, _, _, F27, A31, g0rb⟩)
theorem d2_0 : decode jdk_42_method_3_code 0 = .ok (.aload_n 0, 1) := by decide +kernel
theorem d2_1 : decode jdk_42_method_3_code 1 = .ok (.aload_n 1, 1) := by decide +kernel
theorem d2_2 : decode jdk_42_method_3_code 2 = .ok (.iconst 0, 1) := by decide +kernel
theorem d2_3 : decode jdk_42_method_3_code 3 = .ok (.aload_n 1, 1) := by decide +kernel
theorem d2_4 : decode jdk_42_method_3_code 4 = .ok (.arraylength, 1) := by decide +kernel
theorem d2_5 : decode jdk_42_method_3_code 5 = .ok (.aconst_null, 1) := by decide +kernel
theorem d2_6 : decode jdk_42_method_3_code 6 = .ok (.invokespecial 27, 3) := by decide +kernel
theorem d2_9 : decode jdk_42_method_3_code 9 = .ok (.return_, 1) := by decide +kernel
theorem ef4 (m : MethodId) (x0 : Addr) (x1 : Addr) : entryFrame m #[(.ref x0), (.ref x1)] 2 = mkF m 0 #[.val (.ref x0), .val (.ref x1)] [] := by first | (simp [entryFrame, mkF, argsToLocals, Value.category]; done) | rfl
def Q_rmI1A (Z : State) (a : Addr) (kx1 : Addr) (kc : ClassId) (ic : Int32) (y0 : Int32) (h0 : Heap) (n0 : Nat) (v : Option Value) (h : Heap) (L : List Loc) : Prop := v = none ∧ Fr n0 L ∧ Keep h0 h [a] ∧ Exa Z h a "java/lang/String" ∧ Fld Z h a "java/lang/String" "coder" "B" (.int (0 : Int32)) ∧ ∃ rb kb, Fld Z h a "java/lang/String" "value" "[B" (.ref rb) ∧ Ary Z h rb kb .byte [(.int (y0.toInt8.toInt32))] ∧ h0.size ≤ rb
theorem pd3 : parseMethodDescriptor "([CIILjava/lang/Void;)V" = some ⟨[.array (.char), .int, .int, .object "java/lang/Void"], none⟩ := by decide +kernel
set_option maxRecDepth 65536 in
set_option maxHeartbeats 40000000 in
theorem rmI1A (l : Launch) (Z : State) (a0 : Array Value) (hw : ∀ d ∈ tables_1, d.before a0 Z = true) (ws : List Jvm.Cond) (a : Addr) (kx1 : Addr) (kc : ClassId) (ic : Int32) (y0 : Int32) (h0 : Heap) (n0 : Nat) (Z0 : n0 ≤ h0.size) (pF1 : Fld Z h0 a "java/lang/String" "value" "[B" .null) (pF2 : Fld Z h0 a "java/lang/String" "coder" "B" (.int (0 : Int32))) (EXa : Exa Z h0 a "java/lang/String") (la : n0 ≤ a) (pA1 : Ary Z h0 kx1 kc .char [(.int y0)]) (n1a : kx1 ≠ a) (SCs : Sta Z Z.heap "java/lang/String" "COMPACT_STRINGS" "Z" (.int ic)) (hic : ¬ ic = (0 : Int32)) (O0 : Old Z n0 h0) (hy0 : ¬ (255 : Int32) < y0) :
    Con l Z (⟨"java/lang/String", "<init>", "([C)V"⟩ : MethodName) jdk_42_method_3_code 2 none ws ({ frames := 3, cells := 1, slots := 1, locals := 53 } : Room) #[(.ref a), (.ref kx1)] h0 (({ frames := 3, cells := 1, slots := 1, locals := 53 } : Room).cells) (({ frames := 3, cells := 1, slots := 1, locals := 53 } : Room).slots) (Q_rmI1A Z a kx1 kc ic y0 h0 n0) := by
  refine Con.of (plainFor_of_name pn1) ?_
  intro p e s m below meth c s₁ hx hby hml hown hnm hret hlk hZ X0 e0
  have N0 := Fr.nil n0
  refine goE (L := #[.val (.ref a), .val (.ref kx1)]) (ef4 m a kx1) ?_
  refine gAloadN X0 hx (hb hby d2_0) (q := 1) rfl rfl rfl ?_
  refine gAloadN X0 hx (hb hby d2_1) (q := 2) rfl rfl rfl ?_
  refine gIconst X0 hx (0 : Int32) (hb hby d2_2) (q := 3) rfl (by decide) ?_
  refine gAloadN X0 hx (hb hby d2_3) (q := 4) rfl rfl rfl ?_
  refine gLen X0 hx hZ e0 pA1 (n := (1 : Int32)) rfl (hb hby d2_4) (q := 5) rfl ?_
  refine gNull X0 hx (hb hby d2_5) (q := 6) rfl ?_
  refine gCallN X0 hx hZ rfl hown (hw _ (List.mem_of_getElem? (i := 11) rfl)) (hw _ (List.mem_of_getElem? (i := 12) rfl)) (hw _ (List.mem_of_getElem? (i := 6) rfl)) (hw _ (List.mem_of_getElem? (i := 14) rfl)) (by decide) (rmI4A l Z a0 hw [] a kx1 kc ic y0 h0 n0 Z0 pF1 pF2 EXa la pA1 n1a SCs hic O0 hy0) (W := 0) (by decide) (by decide) e0 (by rw [hml]; rfl) [(.ref kx1), (.int (0 : Int32)), (.int (1 : Int32)), (.null)] (lenOf pd3 rfl) rfl (S := []) rfl (Nat.le_of_eq rfl) (hb hby d2_6) (q := 9) rfl (by decide) (by decide) (fun r1 T1 M1 X1 q1 => ?_)
  obtain ⟨rfl, M1n, K1, P1e, P1c, rb, kb, P1v, P1a, grb⟩ := q1
  have N2 := Fr.app N0 M1n
  dsimp only [Option.toList, List.cons_append, List.nil_append]
  exact gRetV X1 hx hlk hret (hb hby d2_9) (by decide) (by decide) ⟨rfl, N2, K1, P1e, P1c, _, _, P1v, P1a, grb⟩
theorem ef5 (m : MethodId) (x0 : Addr) (x1 : Int32) (x2 : Addr) (x3 : Int32) (x4 : Int32) : entryFrame m #[(.ref x0), (.int x1), (.ref x2), (.int x3), (.int x4)] 7 = mkF m 0 #[.val (.ref x0), .val (.int x1), .val (.ref x2), .val (.int x3), .val (.int x4), .unset, .unset] [] := by first | (simp [entryFrame, mkF, argsToLocals, Value.category]; done) | rfl
def Q_rmC2B (Z : State) (kx1 : Addr) (kx2 : Addr) (kc : ClassId) (kd : ClassId) (y0 : Int32) (y1 : Int32) (h0 : Heap) (n0 : Nat) (v : Option Value) (h : Heap) (L : List Loc) : Prop := v = some (.int (2 : Int32)) ∧ Fr n0 L ∧ Keep h0 h [kx2] ∧ Ary Z h kx2 kd .byte [(.int (y0.toInt8.toInt32)), (.int (y1.toInt8.toInt32))]
set_option maxRecDepth 65536 in
set_option maxHeartbeats 40000000 in
theorem rmC2B (l : Launch) (Z : State) (a0 : Array Value) (hw : ∀ d ∈ tables_1, d.before a0 Z = true) (ws : List Jvm.Cond) (kx1 : Addr) (kx2 : Addr) (kc : ClassId) (kd : ClassId) (y0 : Int32) (y1 : Int32) (h0 : Heap) (n0 : Nat) (Z0 : n0 ≤ h0.size) (pA1 : Ary Z h0 kx1 kc .char [(.int y0), (.int y1)]) (pA2 : Ary Z h0 kx2 kd .byte [(.int (0 : Int32)), (.int (0 : Int32))]) (n12 : kx1 ≠ kx2) (lkx2 : n0 ≤ kx2) (hy0 : ¬ (255 : Int32) < y0) (hy1 : ¬ (255 : Int32) < y1) :
    Con l Z (⟨"java/lang/StringUTF16", "compress", "([CI[BII)I"⟩ : MethodName) jdk_52_method_21_code 7 (some (.int)) ws ({ frames := 0, cells := 0, slots := 0, locals := 0 } : Room) #[(.ref kx1), (.int (0 : Int32)), (.ref kx2), (.int (0 : Int32)), (.int (2 : Int32))] h0 (({ frames := 0, cells := 0, slots := 0, locals := 0 } : Room).cells) (({ frames := 0, cells := 0, slots := 0, locals := 0 } : Room).slots) (Q_rmC2B Z kx1 kx2 kc kd y0 y1 h0 n0) := by
  refine Con.of (plainFor_of_name pn0) ?_
  intro p e s m below meth c s₁ hx hby hml hown hnm hret hlk hZ X0 e0
  have N0 := Fr.nil n0
  refine goE (L := #[.val (.ref kx1), .val (.int (0 : Int32)), .val (.ref kx2), .val (.int (0 : Int32)), .val (.int (2 : Int32)), .unset, .unset]) (ef5 m kx1 (0 : Int32) kx2 (0 : Int32) (2 : Int32)) ?_
  refine gIconst X0 hx (0 : Int32) (hb hby d6_0) (q := 1) rfl (by decide) ?_
  refine gIstore X0 hx (hb hby d6_1) (q := 3) rfl (L' := #[.val (.ref kx1), .val (.int (0 : Int32)), .val (.ref kx2), .val (.int (0 : Int32)), .val (.int (2 : Int32)), .val (.int (0 : Int32)), .unset]) rfl ?_
  refine gIload X0 hx (hb hby d6_3) (q := 5) rfl rfl ?_
  refine gIload X0 hx (hb hby d6_5) (q := 7) rfl rfl ?_
  refine gIcmpN X0 hx (hb hby d6_7) (q := 10) rfl (XT.ii_ge_f (by decide)) ?_
  refine gAloadN X0 hx (hb hby d6_10) (q := 11) rfl rfl rfl ?_
  refine gIloadN X0 hx (hb hby d6_11) (q := 12) rfl rfl ?_
  refine gCaload X0 hx hZ e0 pA1 (hb hby d6_12) (q := 13) rfl (show ¬ (((0 : Int32) : Int32) < 0 ∨ 2 ≤ ((0 : Int32) : Int32).toNatClampNeg) by decide) (v := .int y0) rfl ?_
  refine gIstore X0 hx (hb hby d6_13) (q := 15) rfl (L' := #[.val (.ref kx1), .val (.int (0 : Int32)), .val (.ref kx2), .val (.int (0 : Int32)), .val (.int (2 : Int32)), .val (.int (0 : Int32)), .val (.int y0)]) rfl ?_
  refine gIload X0 hx (hb hby d6_15) (q := 17) rfl rfl ?_
  refine gSipush X0 hx (255 : Int32) (hb hby d6_17) (q := 20) rfl (by decide) ?_
  refine gIcmpY X0 hx (hb hby d6_20) (q := 26) (by decide) (by decide) (XT.ii_le_t hy0) ?_
  refine gAloadN X0 hx (hb hby d6_26) (q := 27) rfl rfl rfl ?_
  refine gIloadN X0 hx (hb hby d6_27) (q := 28) rfl rfl ?_
  refine gIload X0 hx (hb hby d6_28) (q := 30) rfl rfl ?_
  refine gI2b X0 hx (hb hby d6_30) (q := 31) rfl ?_
  refine gBastore X0 hx hZ e0 pA2 (hb hby d6_31) (q := 32) rfl (show ¬ (((0 : Int32) : Int32) < 0 ∨ 2 ≤ ((0 : Int32) : Int32).toNatClampNeg) by decide) (fun T1 h1 X1 e1 W1 A1 => ?_)
  have B1 : Ary Z h1 kx2 kd (.byte) [(.int (y0.toInt8.toInt32)), (.int (0 : Int32))] := (by have zA := A1; rw [show nar .byte (y0.toInt8.toInt32) = (y0.toInt8.toInt32) from own_narB _] at zA; exact zA)
  have N2 := Fr.snoc X1 N0 lkx2
  have K3 := (Keep.refl h0 [kx2]).wr W1 (Or.inl (List.mem_of_getElem? (i := 0) rfl))
  have A4 := Ary.other W1 pA1 n12
  have Z6 : n0 ≤ h1.size := by rw [W1.size]; exact Z0
  refine gIinc X1 hx (1 : Int32) (hb hby d6_32) (q := 35) rfl (by decide) rfl (L' := #[.val (.ref kx1), .val (.int (1 : Int32)), .val (.ref kx2), .val (.int (0 : Int32)), .val (.int (2 : Int32)), .val (.int (0 : Int32)), .val (.int y0)]) rfl ?_
  refine gIinc X1 hx (1 : Int32) (hb hby d6_35) (q := 38) rfl (by decide) rfl (L' := #[.val (.ref kx1), .val (.int (1 : Int32)), .val (.ref kx2), .val (.int (1 : Int32)), .val (.int (2 : Int32)), .val (.int (0 : Int32)), .val (.int y0)]) rfl ?_
  refine gIinc X1 hx (1 : Int32) (hb hby d6_38) (q := 41) rfl (by decide) rfl (L' := #[.val (.ref kx1), .val (.int (1 : Int32)), .val (.ref kx2), .val (.int (1 : Int32)), .val (.int (2 : Int32)), .val (.int (1 : Int32)), .val (.int y0)]) rfl ?_
  refine gGoto X1 hx (hb hby d6_41) (q := 3) (by decide) (by decide) ?_
  refine gIload X1 hx (hb hby d6_3) (q := 5) rfl rfl ?_
  refine gIload X1 hx (hb hby d6_5) (q := 7) rfl rfl ?_
  refine gIcmpN X1 hx (hb hby d6_7) (q := 10) rfl (XT.ii_ge_f (by decide)) ?_
  refine gAloadN X1 hx (hb hby d6_10) (q := 11) rfl rfl rfl ?_
  refine gIloadN X1 hx (hb hby d6_11) (q := 12) rfl rfl ?_
  refine gCaload X1 hx hZ e1 A4 (hb hby d6_12) (q := 13) rfl (show ¬ (((1 : Int32) : Int32) < 0 ∨ 2 ≤ ((1 : Int32) : Int32).toNatClampNeg) by decide) (v := .int y1) rfl ?_
  refine gIstore X1 hx (hb hby d6_13) (q := 15) rfl (L' := #[.val (.ref kx1), .val (.int (1 : Int32)), .val (.ref kx2), .val (.int (1 : Int32)), .val (.int (2 : Int32)), .val (.int (1 : Int32)), .val (.int y1)]) rfl ?_
  refine gIload X1 hx (hb hby d6_15) (q := 17) rfl rfl ?_
  refine gSipush X1 hx (255 : Int32) (hb hby d6_17) (q := 20) rfl (by decide) ?_
  refine gIcmpY X1 hx (hb hby d6_20) (q := 26) (by decide) (by decide) (XT.ii_le_t hy1) ?_
  refine gAloadN X1 hx (hb hby d6_26) (q := 27) rfl rfl rfl ?_
  refine gIloadN X1 hx (hb hby d6_27) (q := 28) rfl rfl ?_
  refine gIload X1 hx (hb hby d6_28) (q := 30) rfl rfl ?_
  refine gI2b X1 hx (hb hby d6_30) (q := 31) rfl ?_
  refine gBastore X1 hx hZ e1 B1 (hb hby d6_31) (q := 32) rfl (show ¬ (((1 : Int32) : Int32) < 0 ∨ 2 ≤ ((1 : Int32) : Int32).toNatClampNeg) by decide) (fun T7 h7 X7 e7 W7 A7 => ?_)
  have B7 : Ary Z h7 kx2 kd (.byte) [(.int (y0.toInt8.toInt32)), (.int (y1.toInt8.toInt32))] := (by have zA := A7; rw [show nar .byte (y1.toInt8.toInt32) = (y1.toInt8.toInt32) from own_narB _] at zA; exact zA)
  have N8 := Fr.snoc X7 N2 lkx2
  have K9 := K3.wr W7 (Or.inl (List.mem_of_getElem? (i := 0) rfl))
  have A10 := Ary.other W7 A4 n12
  have Z12 : n0 ≤ h7.size := by rw [W7.size]; exact Z6
  refine gIinc X7 hx (1 : Int32) (hb hby d6_32) (q := 35) rfl (by decide) rfl (L' := #[.val (.ref kx1), .val (.int (2 : Int32)), .val (.ref kx2), .val (.int (1 : Int32)), .val (.int (2 : Int32)), .val (.int (1 : Int32)), .val (.int y1)]) rfl ?_
  refine gIinc X7 hx (1 : Int32) (hb hby d6_35) (q := 38) rfl (by decide) rfl (L' := #[.val (.ref kx1), .val (.int (2 : Int32)), .val (.ref kx2), .val (.int (2 : Int32)), .val (.int (2 : Int32)), .val (.int (1 : Int32)), .val (.int y1)]) rfl ?_
  refine gIinc X7 hx (1 : Int32) (hb hby d6_38) (q := 41) rfl (by decide) rfl (L' := #[.val (.ref kx1), .val (.int (2 : Int32)), .val (.ref kx2), .val (.int (2 : Int32)), .val (.int (2 : Int32)), .val (.int (2 : Int32)), .val (.int y1)]) rfl ?_
  refine gGoto X7 hx (hb hby d6_41) (q := 3) (by decide) (by decide) ?_
  refine gIload X7 hx (hb hby d6_3) (q := 5) rfl rfl ?_
  refine gIload X7 hx (hb hby d6_5) (q := 7) rfl rfl ?_
  refine gIcmpY X7 hx (hb hby d6_7) (q := 44) (by decide) (by decide) (XT.ii_ge_t (by decide)) ?_
  refine gIload X7 hx (hb hby d6_44) (q := 46) rfl rfl ?_
  exact gRetI X7 hx hlk hret (hb hby d6_46) (by decide) (by decide) (by rw [e7]; exact ⟨rfl, N8, K9, B7⟩)
theorem ef6 (m : MethodId) (x0 : Addr) (x1 : Int32) (x2 : Int32) : entryFrame m #[(.ref x0), (.int x1), (.int x2)] 6 = mkF m 0 #[.val (.ref x0), .val (.int x1), .val (.int x2), .unset, .unset, .unset] [] := by first | (simp [entryFrame, mkF, argsToLocals, Value.category]; done) | rfl
def Q_rmC1B (Z : State) (kx1 : Addr) (kc : ClassId) (y0 : Int32) (y1 : Int32) (h0 : Heap) (n0 : Nat) (v : Option Value) (h : Heap) (L : List Loc) : Prop := ∃ r kd, v = some (.ref r) ∧ Fr n0 L ∧ Keep h0 h [] ∧ Ary Z h r kd .byte [(.int (y0.toInt8.toInt32)), (.int (y1.toInt8.toInt32))] ∧ h0.size ≤ r
set_option maxRecDepth 65536 in
set_option maxHeartbeats 40000000 in
theorem rmC1B (l : Launch) (Z : State) (a0 : Array Value) (hw : ∀ d ∈ tables_1, d.before a0 Z = true) (ws : List Jvm.Cond) (kx1 : Addr) (kc : ClassId) (y0 : Int32) (y1 : Int32) (h0 : Heap) (n0 : Nat) (Z0 : n0 ≤ h0.size) (pA1 : Ary Z h0 kx1 kc .char [(.int y0), (.int y1)]) (hy0 : ¬ (255 : Int32) < y0) (hy1 : ¬ (255 : Int32) < y1) :
    Con l Z (⟨"java/lang/StringUTF16", "compress", "([CII)[B"⟩ : MethodName) jdk_52_method_16_code 6 (some (.array (.byte))) ws ({ frames := 1, cells := 1, slots := 2, locals := 18 } : Room) #[(.ref kx1), (.int (0 : Int32)), (.int (2 : Int32))] h0 (({ frames := 1, cells := 1, slots := 2, locals := 18 } : Room).cells) (({ frames := 1, cells := 1, slots := 2, locals := 18 } : Room).slots) (Q_rmC1B Z kx1 kc y0 y1 h0 n0) := by
  refine Con.of (plainFor_of_name pn0) ?_
  intro p e s m below meth c s₁ hx hby hml hown hnm hret hlk hZ X0 e0
  have N0 := Fr.nil n0
  refine goE (L := #[.val (.ref kx1), .val (.int (0 : Int32)), .val (.int (2 : Int32)), .unset, .unset, .unset]) (ef6 m kx1 (0 : Int32) (2 : Int32)) ?_
  refine gIloadN X0 hx (hb hby d5_0) (q := 1) rfl rfl ?_
  refine gNewP X0 hx hZ (hw _ (List.mem_of_getElem? (i := 23) rfl)) e0 (hb hby d5_1) (q := 3) rfl (by decide) (cap := 2) (by decide) (by decide) (by decide) (by decide) (fun T1 h1 a1 k1 X1 e1 g1 E1 A1 => ?_)
  have A2 := Ary.ext E1 pA1
  have ge_a1 : h0.size ≤ a1 := by rw [g1]; exact (Keep.refl h0 []).1
  have K3 := (Keep.refl h0 []).ext E1
  have le_a1 : n0 ≤ a1 := by rw [g1]; exact Z0
  have ne_kx1_a1 : kx1 ≠ a1 := by rw [g1]; exact Nat.ne_of_lt pA1.lt
  have Z4 := Nat.le_trans Z0 E1.1
  have B1 : Ary Z h1 a1 k1 (.byte) [(.int (0 : Int32)), (.int (0 : Int32))] := A1
  refine gAstoreN X1 hx (hb hby d5_3) (q := 4) rfl rfl (L' := #[.val (.ref kx1), .val (.int (0 : Int32)), .val (.int (2 : Int32)), .val (.ref a1), .unset, .unset]) rfl ?_
  refine gAloadN X1 hx (hb hby d5_4) (q := 5) rfl rfl rfl ?_
  refine gIloadN X1 hx (hb hby d5_5) (q := 6) rfl rfl ?_
  refine gAloadN X1 hx (hb hby d5_6) (q := 7) rfl rfl rfl ?_
  refine gIconst X1 hx (0 : Int32) (hb hby d5_7) (q := 8) rfl (by decide) ?_
  refine gIloadN X1 hx (hb hby d5_8) (q := 9) rfl rfl ?_
  refine gCallS X1 hx hZ hown (hw _ (List.mem_of_getElem? (i := 24) rfl)) (hw _ (List.mem_of_getElem? (i := 25) rfl)) (hw _ (List.mem_of_getElem? (i := 21) rfl)) (hw _ (List.mem_of_getElem? (i := 26) rfl)) (by decide) (rmC2B l Z a0 hw [] kx1 a1 kc k1 y0 y1 h1 n0 Z4 A2 B1 ne_kx1_a1 le_a1 hy0 hy1) (W := 0) (by decide) (by decide) e1 (by rw [hml]; rfl) [(.ref kx1), (.int (0 : Int32)), (.ref a1), (.int (0 : Int32)), (.int (2 : Int32))] (lenOf pd0 rfl) rfl (S := []) rfl (Nat.le_of_eq rfl) (hb hby d5_9) (q := 12) rfl (by decide) (by decide) (fun r5 T5 M5 X5 q5 => ?_)
  obtain ⟨rfl, M5n, K5, P5a⟩ := q5
  have N6 := Fr.app N0 M5n
  have A7 := Ary.keep A2 K5 (ninS ne_kx1_a1 nin0)
  have Z8 := Nat.le_trans Z4 K5.1
  have KK9 := K3.trans K5 (allS (Or.inr ge_a1) all0)
  dsimp only [Option.toList, List.cons_append, List.nil_append]
  refine gIstore X5 hx (hb hby d5_12) (q := 14) rfl (L' := #[.val (.ref kx1), .val (.int (0 : Int32)), .val (.int (2 : Int32)), .val (.ref a1), .val (.int (2 : Int32)), .unset]) rfl ?_
  refine gIload X5 hx (hb hby d5_14) (q := 16) rfl rfl ?_
  refine gIloadN X5 hx (hb hby d5_16) (q := 17) rfl rfl ?_
  refine gIcmpY X5 hx (hb hby d5_17) (q := 57) (by decide) (by decide) (XT.ii_eq_t (by decide)) ?_
  refine gAloadN X5 hx (hb hby d5_57) (q := 58) rfl rfl rfl ?_
  exact gRetA X5 hx hlk hret rfl rfl (hb hby d5_58) (by decide) (by decide) (by exact ⟨_, _, rfl, N6, KK9, P5a, ge_a1⟩)
theorem ef7 (m : MethodId) (x0 : Addr) (x1 : Int32) : entryFrame m #[(.ref x0), (.int x1)] 2 = mkF m 0 #[.val (.ref x0), .val (.int x1)] [] := by first | (simp [entryFrame, mkF, argsToLocals, Value.category]; done) | rfl
def Q_rmCdB (Z : State) (kx1 : Addr) (kd : ClassId) (y0 : Int32) (y1 : Int32) (h0 : Heap) (n0 : Nat) (v : Option Value) (h : Heap) (L : List Loc) : Prop := v = some (.int (0 : Int32)) ∧ Fr n0 L ∧ h = h0
set_option maxRecDepth 65536 in
set_option maxHeartbeats 40000000 in
theorem rmCdB (l : Launch) (Z : State) (a0 : Array Value) (hw : ∀ d ∈ tables_1, d.before a0 Z = true) (ws : List Jvm.Cond) (kx1 : Addr) (kd : ClassId) (y0 : Int32) (y1 : Int32) (h0 : Heap) (n0 : Nat) (Z0 : n0 ≤ h0.size) (pA1 : Ary Z h0 kx1 kd .byte [(.int (y0.toInt8.toInt32)), (.int (y1.toInt8.toInt32))]) :
    Con l Z (⟨"java/lang/StringUTF16", "coderFromArrayLen", "([BI)B"⟩ : MethodName) jdk_52_method_15_code 2 (some (.byte)) ws ({ frames := 0, cells := 0, slots := 0, locals := 0 } : Room) #[(.ref kx1), (.int (2 : Int32))] h0 (({ frames := 0, cells := 0, slots := 0, locals := 0 } : Room).cells) (({ frames := 0, cells := 0, slots := 0, locals := 0 } : Room).slots) (Q_rmCdB Z kx1 kd y0 y1 h0 n0) := by
  refine Con.of (plainFor_of_name pn0) ?_
  intro p e s m below meth c s₁ hx hby hml hown hnm hret hlk hZ X0 e0
  have N0 := Fr.nil n0
  refine goE (L := #[.val (.ref kx1), .val (.int (2 : Int32))]) (ef7 m kx1 (2 : Int32)) ?_
  refine gIloadN X0 hx (hb hby d7_0) (q := 1) rfl rfl ?_
  refine gAloadN X0 hx (hb hby d7_1) (q := 2) rfl rfl rfl ?_
  refine gLen X0 hx hZ e0 pA1 (n := (2 : Int32)) rfl (hb hby d7_2) (q := 3) rfl ?_
  refine gIsub X0 hx (hb hby d7_3) (q := 4) rfl ?_
  rw [show ((2 : Int32) - (2 : Int32)) = (0 : Int32) from by decide]
  refine gBipush X0 hx (31 : Int32) (hb hby d7_4) (q := 6) rfl (by decide) ?_
  refine gIushr X0 hx (hb hby d7_6) (q := 7) rfl ?_
  rw [show (XT.ushr (0 : Int32) (31 : Int32)) = (0 : Int32) from by decide]
  refine gI2b X0 hx (hb hby d7_7) (q := 8) rfl ?_
  rw [show ((0 : Int32).toInt8.toInt32) = (0 : Int32) from by decide]
  exact gRetB X0 hx hlk hret (hb hby d7_8) (by decide) (by decide) rfl ⟨rfl, N0, e0⟩
theorem ef8 (m : MethodId) (x0 : Addr) (x1 : Addr) (x2 : Int32) (x3 : Int32) : entryFrame m #[(.ref x0), (.ref x1), (.int x2), (.int x3), (.null)] 6 = mkF m 0 #[.val (.ref x0), .val (.ref x1), .val (.int x2), .val (.int x3), .val (.null), .unset] [] := by first | (simp [entryFrame, mkF, argsToLocals, Value.category]; done) | rfl
def Q_rmI4B (Z : State) (a : Addr) (kx1 : Addr) (kc : ClassId) (ic : Int32) (y0 : Int32) (y1 : Int32) (h0 : Heap) (n0 : Nat) (v : Option Value) (h : Heap) (L : List Loc) : Prop := v = none ∧ Fr n0 L ∧ Keep h0 h [a] ∧ Exa Z h a "java/lang/String" ∧ Fld Z h a "java/lang/String" "coder" "B" (.int (0 : Int32)) ∧ ∃ rb kb, Fld Z h a "java/lang/String" "value" "[B" (.ref rb) ∧ Ary Z h rb kb .byte [(.int (y0.toInt8.toInt32)), (.int (y1.toInt8.toInt32))] ∧ h0.size ≤ rb
set_option maxRecDepth 65536 in
set_option maxHeartbeats 40000000 in
theorem rmI4B (l : Launch) (Z : State) (a0 : Array Value) (hw : ∀ d ∈ tables_1, d.before a0 Z = true) (ws : List Jvm.Cond) (a : Addr) (kx1 : Addr) (kc : ClassId) (ic : Int32) (y0 : Int32) (y1 : Int32) (h0 : Heap) (n0 : Nat) (Z0 : n0 ≤ h0.size) (pF1 : Fld Z h0 a "java/lang/String" "value" "[B" .null) (pF2 : Fld Z h0 a "java/lang/String" "coder" "B" (.int (0 : Int32))) (EXa : Exa Z h0 a "java/lang/String") (la : n0 ≤ a) (pA1 : Ary Z h0 kx1 kc .char [(.int y0), (.int y1)]) (n1a : kx1 ≠ a) (SCs : Sta Z Z.heap "java/lang/String" "COMPACT_STRINGS" "Z" (.int ic)) (hic : ¬ ic = (0 : Int32)) (O0 : Old Z n0 h0) (hy0 : ¬ (255 : Int32) < y0) (hy1 : ¬ (255 : Int32) < y1) :
    Con l Z (⟨"java/lang/String", "<init>", "([CIILjava/lang/Void;)V"⟩ : MethodName) jdk_42_method_149_code 6 none ws ({ frames := 2, cells := 1, slots := 2, locals := 36 } : Room) #[(.ref a), (.ref kx1), (.int (0 : Int32)), (.int (2 : Int32)), (.null)] h0 (({ frames := 2, cells := 1, slots := 2, locals := 36 } : Room).cells) (({ frames := 2, cells := 1, slots := 2, locals := 36 } : Room).slots) (Q_rmI4B Z a kx1 kc ic y0 y1 h0 n0) := by
  refine Con.of (plainFor_of_name pn1) ?_
  intro p e s m below meth c s₁ hx hby hml hown hnm hret hlk hZ X0 e0
  have N0 := Fr.nil n0
  refine goE (L := #[.val (.ref a), .val (.ref kx1), .val (.int (0 : Int32)), .val (.int (2 : Int32)), .val (.null), .unset]) (ef8 m a kx1 (0 : Int32) (2 : Int32)) ?_
  refine gAloadN X0 hx (hb hby d3_0) (q := 1) rfl rfl rfl ?_
  refine gInitO X0 hx hZ hown (hw _ (List.mem_of_getElem? (i := 15) rfl)) (hw _ (List.mem_of_getElem? (i := 16) rfl)) (hw _ (List.mem_of_getElem? (i := 17) rfl)) e0 (by rw [hml]; rfl) (hb hby d3_1) (q := 4) rfl (by decide) (W := 0) (Nat.le_of_eq rfl) (by decide) (fun T1 X1 e1 => ?_)
  refine gIloadN X1 hx (hb hby d3_4) (q := 5) rfl rfl ?_
  refine gIfY X1 hx (hb hby d3_5) (q := 27) (by decide) (by decide) (XT.i0_ne_t (by decide)) ?_
  refine gGetS X1 hx hZ hown (hw _ (List.mem_of_getElem? (i := 18) rfl)) Via.refl e1 (Sta.ext O0.2 SCs) (hb hby d3_27) (q := 30) rfl (fun T2 X2 e2 => ?_)
  refine gIfN X2 hx (hb hby d3_30) (q := 33) rfl (XT.i0_eq_f hic) ?_
  refine gAloadN X2 hx (hb hby d3_33) (q := 34) rfl rfl rfl ?_
  refine gIloadN X2 hx (hb hby d3_34) (q := 35) rfl rfl ?_
  refine gIloadN X2 hx (hb hby d3_35) (q := 36) rfl rfl ?_
  refine gCallS X2 hx hZ hown (hw _ (List.mem_of_getElem? (i := 19) rfl)) (hw _ (List.mem_of_getElem? (i := 20) rfl)) (hw _ (List.mem_of_getElem? (i := 21) rfl)) (hw _ (List.mem_of_getElem? (i := 22) rfl)) (by decide) (rmC1B l Z a0 hw [] kx1 kc y0 y1 h0 n0 Z0 pA1 hy0 hy1) (W := 0) (by decide) (by decide) e2 (by rw [hml]; rfl) [(.ref kx1), (.int (0 : Int32)), (.int (2 : Int32))] (lenOf pd1 rfl) rfl (S := []) rfl (Nat.le_of_eq rfl) (hb hby d3_36) (q := 39) rfl (by decide) (by decide) (fun r3 T3 M3 X3 q3 => ?_)
  obtain ⟨rb, kb, rfl, M3n, K3, Arb, grb⟩ := q3
  have N4 := Fr.app N0 M3n
  have lrb : n0 ≤ rb := Nat.le_trans Z0 grb
  have ne_a_rb : a ≠ rb := Nat.ne_of_lt (Nat.lt_of_lt_of_le EXa.lt grb)
  have ne_kx1_rb : kx1 ≠ rb := Nat.ne_of_lt (Nat.lt_of_lt_of_le pA1.lt grb)
  have g0rb : h0.size ≤ rb := Nat.le_trans (Keep.refl h0 [a]).1 grb
  have F5 := Fld.keep pF1 K3 nin0
  have F6 := Fld.keep pF2 K3 nin0
  have E7 := Exa.keep EXa K3
  have A8 := Ary.keep pA1 K3 nin0
  have O9 := O0.keep K3 all0
  have Z10 := Nat.le_trans Z0 K3.1
  have KK11 := (Keep.refl h0 [a]).trans K3 all0
  dsimp only [Option.toList, List.cons_append, List.nil_append]
  refine gAstore X3 hx (hb hby d3_39) (q := 41) rfl rfl (L' := #[.val (.ref a), .val (.ref kx1), .val (.int (0 : Int32)), .val (.int (2 : Int32)), .val (.null), .val (.ref rb)]) rfl ?_
  refine gAloadN X3 hx (hb hby d3_41) (q := 42) rfl rfl rfl ?_
  refine gAload X3 hx (hb hby d3_42) (q := 44) rfl rfl rfl ?_
  refine gIloadN X3 hx (hb hby d3_44) (q := 45) rfl rfl ?_
  refine gCallS X3 hx hZ hown (hw _ (List.mem_of_getElem? (i := 27) rfl)) (hw _ (List.mem_of_getElem? (i := 28) rfl)) (hw _ (List.mem_of_getElem? (i := 21) rfl)) (hw _ (List.mem_of_getElem? (i := 29) rfl)) (by decide) (rmCdB l Z a0 hw [] rb kb y0 y1 T3.heap n0 Z10 Arb) (W := 1) (by decide) (by decide) rfl (by rw [hml]; rfl) [(.ref rb), (.int (2 : Int32))] (lenOf pd2 rfl) rfl (S := [(.ref a)]) rfl (Nat.le_of_eq rfl) (hb hby d3_45) (q := 48) rfl (by decide) (by decide) (fun r12 T12 M12 X12 q12 => ?_)
  obtain ⟨rfl, M12n, e12⟩ := q12
  have N13 := Fr.app N4 M12n
  dsimp only [Option.toList, List.cons_append, List.nil_append]
  refine gPutF X12 hx hZ (host := "") hown (Or.inl (hw _ (List.mem_of_getElem? (i := 30) rfl))) Via.refl e12 F6 E7 (Or.inr ⟨(hw _ (List.mem_of_getElem? (i := 31) rfl)), rfl, hnm⟩) (hw _ (List.mem_of_getElem? (i := 5) rfl)) (ty := .byte) (by decide) rfl rfl (hb hby d3_48) (q := 51) rfl (fun T14 h14 X14 e14 W14 => ?_)
  have N15 := Fr.snoc X14 N13 la
  have K16 := KK11.wr W14 (Or.inl (List.mem_of_getElem? (i := 0) rfl))
  have F17 := Fld.other W14 F5 (Or.inr (slot_ne (Or.inr (hw _ (List.mem_of_getElem? (i := 33) rfl))) (Or.inr (hw _ (List.mem_of_getElem? (i := 31) rfl))) (by decide) (t := .array (.byte)) (by decide) (t' := .byte) (by decide)))
  have F18 := Fld.same W14 F6
  have E19 := Exa.wr W14 E7
  have A20 := Ary.other W14 A8 n1a
  have A21 := Ary.other W14 Arb ne_a_rb.symm
  have O22 := O9.wr W14 la
  have Z23 : n0 ≤ h14.size := by rw [W14.size]; exact Z10
  refine gAloadN X14 hx (hb hby d3_51) (q := 52) rfl rfl rfl ?_
  refine gAload X14 hx (hb hby d3_52) (q := 54) rfl rfl rfl ?_
  refine gPutF X14 hx hZ (host := "") hown (Or.inl (hw _ (List.mem_of_getElem? (i := 32) rfl))) Via.refl e14 F17 E19 (Or.inr ⟨(hw _ (List.mem_of_getElem? (i := 33) rfl)), rfl, hnm⟩) (hw _ (List.mem_of_getElem? (i := 5) rfl)) (ty := .array (.byte)) (by decide) rfl rfl (hb hby d3_54) (q := 57) rfl (fun T24 h24 X24 e24 W24 => ?_)
  have N25 := Fr.snoc X24 N15 la
  have K26 := K16.wr W24 (Or.inl (List.mem_of_getElem? (i := 0) rfl))
  have F27 := Fld.same W24 F17
  have F28 := Fld.other W24 F18 (Or.inr (slot_ne (Or.inr (hw _ (List.mem_of_getElem? (i := 31) rfl))) (Or.inr (hw _ (List.mem_of_getElem? (i := 33) rfl))) (by decide) (t := .byte) (by decide) (t' := .array (.byte)) (by decide)))
  have E29 := Exa.wr W24 E19
  have A30 := Ary.other W24 A20 n1a
  have A31 := Ary.other W24 A21 ne_a_rb.symm
  have O32 := O22.wr W24 la
  have Z33 : n0 ≤ h24.size := by rw [W24.size]; exact Z23
  exact gRetV X24 hx hlk hret (hb hby d3_57) (by decide) (by decide) (by rw [e24]; exact ⟨rfl, N25, K26, E29, F28, _, _, F27, A31, g0rb⟩)
theorem ef9 (m : MethodId) (x0 : Addr) (x1 : Addr) : entryFrame m #[(.ref x0), (.ref x1)] 2 = mkF m 0 #[.val (.ref x0), .val (.ref x1)] [] := by first | (simp [entryFrame, mkF, argsToLocals, Value.category]; done) | rfl
def Q_rmI1B (Z : State) (a : Addr) (kx1 : Addr) (kc : ClassId) (ic : Int32) (y0 : Int32) (y1 : Int32) (h0 : Heap) (n0 : Nat) (v : Option Value) (h : Heap) (L : List Loc) : Prop := v = none ∧ Fr n0 L ∧ Keep h0 h [a] ∧ Exa Z h a "java/lang/String" ∧ Fld Z h a "java/lang/String" "coder" "B" (.int (0 : Int32)) ∧ ∃ rb kb, Fld Z h a "java/lang/String" "value" "[B" (.ref rb) ∧ Ary Z h rb kb .byte [(.int (y0.toInt8.toInt32)), (.int (y1.toInt8.toInt32))] ∧ h0.size ≤ rb
set_option maxRecDepth 65536 in
set_option maxHeartbeats 40000000 in
theorem rmI1B (l : Launch) (Z : State) (a0 : Array Value) (hw : ∀ d ∈ tables_1, d.before a0 Z = true) (ws : List Jvm.Cond) (a : Addr) (kx1 : Addr) (kc : ClassId) (ic : Int32) (y0 : Int32) (y1 : Int32) (h0 : Heap) (n0 : Nat) (Z0 : n0 ≤ h0.size) (pF1 : Fld Z h0 a "java/lang/String" "value" "[B" .null) (pF2 : Fld Z h0 a "java/lang/String" "coder" "B" (.int (0 : Int32))) (EXa : Exa Z h0 a "java/lang/String") (la : n0 ≤ a) (pA1 : Ary Z h0 kx1 kc .char [(.int y0), (.int y1)]) (n1a : kx1 ≠ a) (SCs : Sta Z Z.heap "java/lang/String" "COMPACT_STRINGS" "Z" (.int ic)) (hic : ¬ ic = (0 : Int32)) (O0 : Old Z n0 h0) (hy0 : ¬ (255 : Int32) < y0) (hy1 : ¬ (255 : Int32) < y1) :
    Con l Z (⟨"java/lang/String", "<init>", "([C)V"⟩ : MethodName) jdk_42_method_3_code 2 none ws ({ frames := 3, cells := 1, slots := 2, locals := 53 } : Room) #[(.ref a), (.ref kx1)] h0 (({ frames := 3, cells := 1, slots := 2, locals := 53 } : Room).cells) (({ frames := 3, cells := 1, slots := 2, locals := 53 } : Room).slots) (Q_rmI1B Z a kx1 kc ic y0 y1 h0 n0) := by
  refine Con.of (plainFor_of_name pn1) ?_
  intro p e s m below meth c s₁ hx hby hml hown hnm hret hlk hZ X0 e0
  have N0 := Fr.nil n0
  refine goE (L := #[.val (.ref a), .val (.ref kx1)]) (ef9 m a kx1) ?_
  refine gAloadN X0 hx (hb hby d2_0) (q := 1) rfl rfl rfl ?_
  refine gAloadN X0 hx (hb hby d2_1) (q := 2) rfl rfl rfl ?_
  refine gIconst X0 hx (0 : Int32) (hb hby d2_2) (q := 3) rfl (by decide) ?_
  refine gAloadN X0 hx (hb hby d2_3) (q := 4) rfl rfl rfl ?_
  refine gLen X0 hx hZ e0 pA1 (n := (2 : Int32)) rfl (hb hby d2_4) (q := 5) rfl ?_
  refine gNull X0 hx (hb hby d2_5) (q := 6) rfl ?_
  refine gCallN X0 hx hZ rfl hown (hw _ (List.mem_of_getElem? (i := 11) rfl)) (hw _ (List.mem_of_getElem? (i := 12) rfl)) (hw _ (List.mem_of_getElem? (i := 6) rfl)) (hw _ (List.mem_of_getElem? (i := 14) rfl)) (by decide) (rmI4B l Z a0 hw [] a kx1 kc ic y0 y1 h0 n0 Z0 pF1 pF2 EXa la pA1 n1a SCs hic O0 hy0 hy1) (W := 0) (by decide) (by decide) e0 (by rw [hml]; rfl) [(.ref kx1), (.int (0 : Int32)), (.int (2 : Int32)), (.null)] (lenOf pd3 rfl) rfl (S := []) rfl (Nat.le_of_eq rfl) (hb hby d2_6) (q := 9) rfl (by decide) (by decide) (fun r1 T1 M1 X1 q1 => ?_)
  obtain ⟨rfl, M1n, K1, P1e, P1c, rb, kb, P1v, P1a, grb⟩ := q1
  have N2 := Fr.app N0 M1n
  dsimp only [Option.toList, List.cons_append, List.nil_append]
  exact gRetV X1 hx hlk hret (hb hby d2_9) (by decide) (by decide) ⟨rfl, N2, K1, P1e, P1c, _, _, P1v, P1a, grb⟩
theorem ef10 (m : MethodId) (x0 : Addr) (x1 : Int32) (x2 : Addr) (x3 : Int32) (x4 : Int32) : entryFrame m #[(.ref x0), (.int x1), (.ref x2), (.int x3), (.int x4)] 7 = mkF m 0 #[.val (.ref x0), .val (.int x1), .val (.ref x2), .val (.int x3), .val (.int x4), .unset, .unset] [] := by first | (simp [entryFrame, mkF, argsToLocals, Value.category]; done) | rfl
def Q_rmC2C (Z : State) (kx1 : Addr) (kx2 : Addr) (kc : ClassId) (kd : ClassId) (y0 : Int32) (y1 : Int32) (y2 : Int32) (h0 : Heap) (n0 : Nat) (v : Option Value) (h : Heap) (L : List Loc) : Prop := v = some (.int (3 : Int32)) ∧ Fr n0 L ∧ Keep h0 h [kx2] ∧ Ary Z h kx2 kd .byte [(.int (y0.toInt8.toInt32)), (.int (y1.toInt8.toInt32)), (.int (y2.toInt8.toInt32))]
set_option maxRecDepth 65536 in
set_option maxHeartbeats 40000000 in
theorem rmC2C (l : Launch) (Z : State) (a0 : Array Value) (hw : ∀ d ∈ tables_1, d.before a0 Z = true) (ws : List Jvm.Cond) (kx1 : Addr) (kx2 : Addr) (kc : ClassId) (kd : ClassId) (y0 : Int32) (y1 : Int32) (y2 : Int32) (h0 : Heap) (n0 : Nat) (Z0 : n0 ≤ h0.size) (pA1 : Ary Z h0 kx1 kc .char [(.int y0), (.int y1), (.int y2)]) (pA2 : Ary Z h0 kx2 kd .byte [(.int (0 : Int32)), (.int (0 : Int32)), (.int (0 : Int32))]) (n12 : kx1 ≠ kx2) (lkx2 : n0 ≤ kx2) (hy0 : ¬ (255 : Int32) < y0) (hy1 : ¬ (255 : Int32) < y1) (hy2 : ¬ (255 : Int32) < y2) :
    Con l Z (⟨"java/lang/StringUTF16", "compress", "([CI[BII)I"⟩ : MethodName) jdk_52_method_21_code 7 (some (.int)) ws ({ frames := 0, cells := 0, slots := 0, locals := 0 } : Room) #[(.ref kx1), (.int (0 : Int32)), (.ref kx2), (.int (0 : Int32)), (.int (3 : Int32))] h0 (({ frames := 0, cells := 0, slots := 0, locals := 0 } : Room).cells) (({ frames := 0, cells := 0, slots := 0, locals := 0 } : Room).slots) (Q_rmC2C Z kx1 kx2 kc kd y0 y1 y2 h0 n0) := by
  refine Con.of (plainFor_of_name pn0) ?_
  intro p e s m below meth c s₁ hx hby hml hown hnm hret hlk hZ X0 e0
  have N0 := Fr.nil n0
  refine goE (L := #[.val (.ref kx1), .val (.int (0 : Int32)), .val (.ref kx2), .val (.int (0 : Int32)), .val (.int (3 : Int32)), .unset, .unset]) (ef10 m kx1 (0 : Int32) kx2 (0 : Int32) (3 : Int32)) ?_
  refine gIconst X0 hx (0 : Int32) (hb hby d6_0) (q := 1) rfl (by decide) ?_
  refine gIstore X0 hx (hb hby d6_1) (q := 3) rfl (L' := #[.val (.ref kx1), .val (.int (0 : Int32)), .val (.ref kx2), .val (.int (0 : Int32)), .val (.int (3 : Int32)), .val (.int (0 : Int32)), .unset]) rfl ?_
  refine gIload X0 hx (hb hby d6_3) (q := 5) rfl rfl ?_
  refine gIload X0 hx (hb hby d6_5) (q := 7) rfl rfl ?_
  refine gIcmpN X0 hx (hb hby d6_7) (q := 10) rfl (XT.ii_ge_f (by decide)) ?_
  refine gAloadN X0 hx (hb hby d6_10) (q := 11) rfl rfl rfl ?_
  refine gIloadN X0 hx (hb hby d6_11) (q := 12) rfl rfl ?_
  refine gCaload X0 hx hZ e0 pA1 (hb hby d6_12) (q := 13) rfl (show ¬ (((0 : Int32) : Int32) < 0 ∨ 3 ≤ ((0 : Int32) : Int32).toNatClampNeg) by decide) (v := .int y0) rfl ?_
  refine gIstore X0 hx (hb hby d6_13) (q := 15) rfl (L' := #[.val (.ref kx1), .val (.int (0 : Int32)), .val (.ref kx2), .val (.int (0 : Int32)), .val (.int (3 : Int32)), .val (.int (0 : Int32)), .val (.int y0)]) rfl ?_
  refine gIload X0 hx (hb hby d6_15) (q := 17) rfl rfl ?_
  refine gSipush X0 hx (255 : Int32) (hb hby d6_17) (q := 20) rfl (by decide) ?_
  refine gIcmpY X0 hx (hb hby d6_20) (q := 26) (by decide) (by decide) (XT.ii_le_t hy0) ?_
  refine gAloadN X0 hx (hb hby d6_26) (q := 27) rfl rfl rfl ?_
  refine gIloadN X0 hx (hb hby d6_27) (q := 28) rfl rfl ?_
  refine gIload X0 hx (hb hby d6_28) (q := 30) rfl rfl ?_
  refine gI2b X0 hx (hb hby d6_30) (q := 31) rfl ?_
  refine gBastore X0 hx hZ e0 pA2 (hb hby d6_31) (q := 32) rfl (show ¬ (((0 : Int32) : Int32) < 0 ∨ 3 ≤ ((0 : Int32) : Int32).toNatClampNeg) by decide) (fun T1 h1 X1 e1 W1 A1 => ?_)
  have B1 : Ary Z h1 kx2 kd (.byte) [(.int (y0.toInt8.toInt32)), (.int (0 : Int32)), (.int (0 : Int32))] := (by have zA := A1; rw [show nar .byte (y0.toInt8.toInt32) = (y0.toInt8.toInt32) from own_narB _] at zA; exact zA)
  have N2 := Fr.snoc X1 N0 lkx2
  have K3 := (Keep.refl h0 [kx2]).wr W1 (Or.inl (List.mem_of_getElem? (i := 0) rfl))
  have A4 := Ary.other W1 pA1 n12
  have Z6 : n0 ≤ h1.size := by rw [W1.size]; exact Z0
  refine gIinc X1 hx (1 : Int32) (hb hby d6_32) (q := 35) rfl (by decide) rfl (L' := #[.val (.ref kx1), .val (.int (1 : Int32)), .val (.ref kx2), .val (.int (0 : Int32)), .val (.int (3 : Int32)), .val (.int (0 : Int32)), .val (.int y0)]) rfl ?_
  refine gIinc X1 hx (1 : Int32) (hb hby d6_35) (q := 38) rfl (by decide) rfl (L' := #[.val (.ref kx1), .val (.int (1 : Int32)), .val (.ref kx2), .val (.int (1 : Int32)), .val (.int (3 : Int32)), .val (.int (0 : Int32)), .val (.int y0)]) rfl ?_
  refine gIinc X1 hx (1 : Int32) (hb hby d6_38) (q := 41) rfl (by decide) rfl (L' := #[.val (.ref kx1), .val (.int (1 : Int32)), .val (.ref kx2), .val (.int (1 : Int32)), .val (.int (3 : Int32)), .val (.int (1 : Int32)), .val (.int y0)]) rfl ?_
  refine gGoto X1 hx (hb hby d6_41) (q := 3) (by decide) (by decide) ?_
  refine gIload X1 hx (hb hby d6_3) (q := 5) rfl rfl ?_
  refine gIload X1 hx (hb hby d6_5) (q := 7) rfl rfl ?_
  refine gIcmpN X1 hx (hb hby d6_7) (q := 10) rfl (XT.ii_ge_f (by decide)) ?_
  refine gAloadN X1 hx (hb hby d6_10) (q := 11) rfl rfl rfl ?_
  refine gIloadN X1 hx (hb hby d6_11) (q := 12) rfl rfl ?_
  refine gCaload X1 hx hZ e1 A4 (hb hby d6_12) (q := 13) rfl (show ¬ (((1 : Int32) : Int32) < 0 ∨ 3 ≤ ((1 : Int32) : Int32).toNatClampNeg) by decide) (v := .int y1) rfl ?_
  refine gIstore X1 hx (hb hby d6_13) (q := 15) rfl (L' := #[.val (.ref kx1), .val (.int (1 : Int32)), .val (.ref kx2), .val (.int (1 : Int32)), .val (.int (3 : Int32)), .val (.int (1 : Int32)), .val (.int y1)]) rfl ?_
  refine gIload X1 hx (hb hby d6_15) (q := 17) rfl rfl ?_
  refine gSipush X1 hx (255 : Int32) (hb hby d6_17) (q := 20) rfl (by decide) ?_
  refine gIcmpY X1 hx (hb hby d6_20) (q := 26) (by decide) (by decide) (XT.ii_le_t hy1) ?_
  refine gAloadN X1 hx (hb hby d6_26) (q := 27) rfl rfl rfl ?_
  refine gIloadN X1 hx (hb hby d6_27) (q := 28) rfl rfl ?_
  refine gIload X1 hx (hb hby d6_28) (q := 30) rfl rfl ?_
  refine gI2b X1 hx (hb hby d6_30) (q := 31) rfl ?_
  refine gBastore X1 hx hZ e1 B1 (hb hby d6_31) (q := 32) rfl (show ¬ (((1 : Int32) : Int32) < 0 ∨ 3 ≤ ((1 : Int32) : Int32).toNatClampNeg) by decide) (fun T7 h7 X7 e7 W7 A7 => ?_)
  have B7 : Ary Z h7 kx2 kd (.byte) [(.int (y0.toInt8.toInt32)), (.int (y1.toInt8.toInt32)), (.int (0 : Int32))] := (by have zA := A7; rw [show nar .byte (y1.toInt8.toInt32) = (y1.toInt8.toInt32) from own_narB _] at zA; exact zA)
  have N8 := Fr.snoc X7 N2 lkx2
  have K9 := K3.wr W7 (Or.inl (List.mem_of_getElem? (i := 0) rfl))
  have A10 := Ary.other W7 A4 n12
  have Z12 : n0 ≤ h7.size := by rw [W7.size]; exact Z6
  refine gIinc X7 hx (1 : Int32) (hb hby d6_32) (q := 35) rfl (by decide) rfl (L' := #[.val (.ref kx1), .val (.int (2 : Int32)), .val (.ref kx2), .val (.int (1 : Int32)), .val (.int (3 : Int32)), .val (.int (1 : Int32)), .val (.int y1)]) rfl ?_
  refine gIinc X7 hx (1 : Int32) (hb hby d6_35) (q := 38) rfl (by decide) rfl (L' := #[.val (.ref kx1), .val (.int (2 : Int32)), .val (.ref kx2), .val (.int (2 : Int32)), .val (.int (3 : Int32)), .val (.int (1 : Int32)), .val (.int y1)]) rfl ?_
  refine gIinc X7 hx (1 : Int32) (hb hby d6_38) (q := 41) rfl (by decide) rfl (L' := #[.val (.ref kx1), .val (.int (2 : Int32)), .val (.ref kx2), .val (.int (2 : Int32)), .val (.int (3 : Int32)), .val (.int (2 : Int32)), .val (.int y1)]) rfl ?_
  refine gGoto X7 hx (hb hby d6_41) (q := 3) (by decide) (by decide) ?_
  refine gIload X7 hx (hb hby d6_3) (q := 5) rfl rfl ?_
  refine gIload X7 hx (hb hby d6_5) (q := 7) rfl rfl ?_
  refine gIcmpN X7 hx (hb hby d6_7) (q := 10) rfl (XT.ii_ge_f (by decide)) ?_
  refine gAloadN X7 hx (hb hby d6_10) (q := 11) rfl rfl rfl ?_
  refine gIloadN X7 hx (hb hby d6_11) (q := 12) rfl rfl ?_
  refine gCaload X7 hx hZ e7 A10 (hb hby d6_12) (q := 13) rfl (show ¬ (((2 : Int32) : Int32) < 0 ∨ 3 ≤ ((2 : Int32) : Int32).toNatClampNeg) by decide) (v := .int y2) rfl ?_
  refine gIstore X7 hx (hb hby d6_13) (q := 15) rfl (L' := #[.val (.ref kx1), .val (.int (2 : Int32)), .val (.ref kx2), .val (.int (2 : Int32)), .val (.int (3 : Int32)), .val (.int (2 : Int32)), .val (.int y2)]) rfl ?_
  refine gIload X7 hx (hb hby d6_15) (q := 17) rfl rfl ?_
  refine gSipush X7 hx (255 : Int32) (hb hby d6_17) (q := 20) rfl (by decide) ?_
  refine gIcmpY X7 hx (hb hby d6_20) (q := 26) (by decide) (by decide) (XT.ii_le_t hy2) ?_
  refine gAloadN X7 hx (hb hby d6_26) (q := 27) rfl rfl rfl ?_
  refine gIloadN X7 hx (hb hby d6_27) (q := 28) rfl rfl ?_
  refine gIload X7 hx (hb hby d6_28) (q := 30) rfl rfl ?_
  refine gI2b X7 hx (hb hby d6_30) (q := 31) rfl ?_
  refine gBastore X7 hx hZ e7 B7 (hb hby d6_31) (q := 32) rfl (show ¬ (((2 : Int32) : Int32) < 0 ∨ 3 ≤ ((2 : Int32) : Int32).toNatClampNeg) by decide) (fun T13 h13 X13 e13 W13 A13 => ?_)
  have B13 : Ary Z h13 kx2 kd (.byte) [(.int (y0.toInt8.toInt32)), (.int (y1.toInt8.toInt32)), (.int (y2.toInt8.toInt32))] := (by have zA := A13; rw [show nar .byte (y2.toInt8.toInt32) = (y2.toInt8.toInt32) from own_narB _] at zA; exact zA)
  have N14 := Fr.snoc X13 N8 lkx2
  have K15 := K9.wr W13 (Or.inl (List.mem_of_getElem? (i := 0) rfl))
  have A16 := Ary.other W13 A10 n12
  have Z18 : n0 ≤ h13.size := by rw [W13.size]; exact Z12
  refine gIinc X13 hx (1 : Int32) (hb hby d6_32) (q := 35) rfl (by decide) rfl (L' := #[.val (.ref kx1), .val (.int (3 : Int32)), .val (.ref kx2), .val (.int (2 : Int32)), .val (.int (3 : Int32)), .val (.int (2 : Int32)), .val (.int y2)]) rfl ?_
  refine gIinc X13 hx (1 : Int32) (hb hby d6_35) (q := 38) rfl (by decide) rfl (L' := #[.val (.ref kx1), .val (.int (3 : Int32)), .val (.ref kx2), .val (.int (3 : Int32)), .val (.int (3 : Int32)), .val (.int (2 : Int32)), .val (.int y2)]) rfl ?_
  refine gIinc X13 hx (1 : Int32) (hb hby d6_38) (q := 41) rfl (by decide) rfl (L' := #[.val (.ref kx1), .val (.int (3 : Int32)), .val (.ref kx2), .val (.int (3 : Int32)), .val (.int (3 : Int32)), .val (.int (3 : Int32)), .val (.int y2)]) rfl ?_
  refine gGoto X13 hx (hb hby d6_41) (q := 3) (by decide) (by decide) ?_
  refine gIload X13 hx (hb hby d6_3) (q := 5) rfl rfl ?_
  refine gIload X13 hx (hb hby d6_5) (q := 7) rfl rfl ?_
  refine gIcmpY X13 hx (hb hby d6_7) (q := 44) (by decide) (by decide) (XT.ii_ge_t (by decide)) ?_
  refine gIload X13 hx (hb hby d6_44) (q := 46) rfl rfl ?_
  exact gRetI X13 hx hlk hret (hb hby d6_46) (by decide) (by decide) (by rw [e13]; exact ⟨rfl, N14, K15, B13⟩)
theorem ef11 (m : MethodId) (x0 : Addr) (x1 : Int32) (x2 : Int32) : entryFrame m #[(.ref x0), (.int x1), (.int x2)] 6 = mkF m 0 #[.val (.ref x0), .val (.int x1), .val (.int x2), .unset, .unset, .unset] [] := by first | (simp [entryFrame, mkF, argsToLocals, Value.category]; done) | rfl
def Q_rmC1C (Z : State) (kx1 : Addr) (kc : ClassId) (y0 : Int32) (y1 : Int32) (y2 : Int32) (h0 : Heap) (n0 : Nat) (v : Option Value) (h : Heap) (L : List Loc) : Prop := ∃ r kd, v = some (.ref r) ∧ Fr n0 L ∧ Keep h0 h [] ∧ Ary Z h r kd .byte [(.int (y0.toInt8.toInt32)), (.int (y1.toInt8.toInt32)), (.int (y2.toInt8.toInt32))] ∧ h0.size ≤ r
set_option maxRecDepth 65536 in
set_option maxHeartbeats 40000000 in
theorem rmC1C (l : Launch) (Z : State) (a0 : Array Value) (hw : ∀ d ∈ tables_1, d.before a0 Z = true) (ws : List Jvm.Cond) (kx1 : Addr) (kc : ClassId) (y0 : Int32) (y1 : Int32) (y2 : Int32) (h0 : Heap) (n0 : Nat) (Z0 : n0 ≤ h0.size) (pA1 : Ary Z h0 kx1 kc .char [(.int y0), (.int y1), (.int y2)]) (hy0 : ¬ (255 : Int32) < y0) (hy1 : ¬ (255 : Int32) < y1) (hy2 : ¬ (255 : Int32) < y2) :
    Con l Z (⟨"java/lang/StringUTF16", "compress", "([CII)[B"⟩ : MethodName) jdk_52_method_16_code 6 (some (.array (.byte))) ws ({ frames := 1, cells := 1, slots := 3, locals := 18 } : Room) #[(.ref kx1), (.int (0 : Int32)), (.int (3 : Int32))] h0 (({ frames := 1, cells := 1, slots := 3, locals := 18 } : Room).cells) (({ frames := 1, cells := 1, slots := 3, locals := 18 } : Room).slots) (Q_rmC1C Z kx1 kc y0 y1 y2 h0 n0) := by
  refine Con.of (plainFor_of_name pn0) ?_
  intro p e s m below meth c s₁ hx hby hml hown hnm hret hlk hZ X0 e0
  have N0 := Fr.nil n0
  refine goE (L := #[.val (.ref kx1), .val (.int (0 : Int32)), .val (.int (3 : Int32)), .unset, .unset, .unset]) (ef11 m kx1 (0 : Int32) (3 : Int32)) ?_
  refine gIloadN X0 hx (hb hby d5_0) (q := 1) rfl rfl ?_
  refine gNewP X0 hx hZ (hw _ (List.mem_of_getElem? (i := 23) rfl)) e0 (hb hby d5_1) (q := 3) rfl (by decide) (cap := 3) (by decide) (by decide) (by decide) (by decide) (fun T1 h1 a1 k1 X1 e1 g1 E1 A1 => ?_)
  have A2 := Ary.ext E1 pA1
  have ge_a1 : h0.size ≤ a1 := by rw [g1]; exact (Keep.refl h0 []).1
  have K3 := (Keep.refl h0 []).ext E1
  have le_a1 : n0 ≤ a1 := by rw [g1]; exact Z0
  have ne_kx1_a1 : kx1 ≠ a1 := by rw [g1]; exact Nat.ne_of_lt pA1.lt
  have Z4 := Nat.le_trans Z0 E1.1
  have B1 : Ary Z h1 a1 k1 (.byte) [(.int (0 : Int32)), (.int (0 : Int32)), (.int (0 : Int32))] := A1
  refine gAstoreN X1 hx (hb hby d5_3) (q := 4) rfl rfl (L' := #[.val (.ref kx1), .val (.int (0 : Int32)), .val (.int (3 : Int32)), .val (.ref a1), .unset, .unset]) rfl ?_
  refine gAloadN X1 hx (hb hby d5_4) (q := 5) rfl rfl rfl ?_
  refine gIloadN X1 hx (hb hby d5_5) (q := 6) rfl rfl ?_
  refine gAloadN X1 hx (hb hby d5_6) (q := 7) rfl rfl rfl ?_
  refine gIconst X1 hx (0 : Int32) (hb hby d5_7) (q := 8) rfl (by decide) ?_
  refine gIloadN X1 hx (hb hby d5_8) (q := 9) rfl rfl ?_
  refine gCallS X1 hx hZ hown (hw _ (List.mem_of_getElem? (i := 24) rfl)) (hw _ (List.mem_of_getElem? (i := 25) rfl)) (hw _ (List.mem_of_getElem? (i := 21) rfl)) (hw _ (List.mem_of_getElem? (i := 26) rfl)) (by decide) (rmC2C l Z a0 hw [] kx1 a1 kc k1 y0 y1 y2 h1 n0 Z4 A2 B1 ne_kx1_a1 le_a1 hy0 hy1 hy2) (W := 0) (by decide) (by decide) e1 (by rw [hml]; rfl) [(.ref kx1), (.int (0 : Int32)), (.ref a1), (.int (0 : Int32)), (.int (3 : Int32))] (lenOf pd0 rfl) rfl (S := []) rfl (Nat.le_of_eq rfl) (hb hby d5_9) (q := 12) rfl (by decide) (by decide) (fun r5 T5 M5 X5 q5 => ?_)
  obtain ⟨rfl, M5n, K5, P5a⟩ := q5
  have N6 := Fr.app N0 M5n
  have A7 := Ary.keep A2 K5 (ninS ne_kx1_a1 nin0)
  have Z8 := Nat.le_trans Z4 K5.1
  have KK9 := K3.trans K5 (allS (Or.inr ge_a1) all0)
  dsimp only [Option.toList, List.cons_append, List.nil_append]
  refine gIstore X5 hx (hb hby d5_12) (q := 14) rfl (L' := #[.val (.ref kx1), .val (.int (0 : Int32)), .val (.int (3 : Int32)), .val (.ref a1), .val (.int (3 : Int32)), .unset]) rfl ?_
  refine gIload X5 hx (hb hby d5_14) (q := 16) rfl rfl ?_
  refine gIloadN X5 hx (hb hby d5_16) (q := 17) rfl rfl ?_
  refine gIcmpY X5 hx (hb hby d5_17) (q := 57) (by decide) (by decide) (XT.ii_eq_t (by decide)) ?_
  refine gAloadN X5 hx (hb hby d5_57) (q := 58) rfl rfl rfl ?_
  exact gRetA X5 hx hlk hret rfl rfl (hb hby d5_58) (by decide) (by decide) (by exact ⟨_, _, rfl, N6, KK9, P5a, ge_a1⟩)
theorem ef12 (m : MethodId) (x0 : Addr) (x1 : Int32) : entryFrame m #[(.ref x0), (.int x1)] 2 = mkF m 0 #[.val (.ref x0), .val (.int x1)] [] := by first | (simp [entryFrame, mkF, argsToLocals, Value.category]; done) | rfl
def Q_rmCdC (Z : State) (kx1 : Addr) (kd : ClassId) (y0 : Int32) (y1 : Int32) (y2 : Int32) (h0 : Heap) (n0 : Nat) (v : Option Value) (h : Heap) (L : List Loc) : Prop := v = some (.int (0 : Int32)) ∧ Fr n0 L ∧ h = h0
set_option maxRecDepth 65536 in
set_option maxHeartbeats 40000000 in
theorem rmCdC (l : Launch) (Z : State) (a0 : Array Value) (hw : ∀ d ∈ tables_1, d.before a0 Z = true) (ws : List Jvm.Cond) (kx1 : Addr) (kd : ClassId) (y0 : Int32) (y1 : Int32) (y2 : Int32) (h0 : Heap) (n0 : Nat) (Z0 : n0 ≤ h0.size) (pA1 : Ary Z h0 kx1 kd .byte [(.int (y0.toInt8.toInt32)), (.int (y1.toInt8.toInt32)), (.int (y2.toInt8.toInt32))]) :
    Con l Z (⟨"java/lang/StringUTF16", "coderFromArrayLen", "([BI)B"⟩ : MethodName) jdk_52_method_15_code 2 (some (.byte)) ws ({ frames := 0, cells := 0, slots := 0, locals := 0 } : Room) #[(.ref kx1), (.int (3 : Int32))] h0 (({ frames := 0, cells := 0, slots := 0, locals := 0 } : Room).cells) (({ frames := 0, cells := 0, slots := 0, locals := 0 } : Room).slots) (Q_rmCdC Z kx1 kd y0 y1 y2 h0 n0) := by
  refine Con.of (plainFor_of_name pn0) ?_
  intro p e s m below meth c s₁ hx hby hml hown hnm hret hlk hZ X0 e0
  have N0 := Fr.nil n0
  refine goE (L := #[.val (.ref kx1), .val (.int (3 : Int32))]) (ef12 m kx1 (3 : Int32)) ?_
  refine gIloadN X0 hx (hb hby d7_0) (q := 1) rfl rfl ?_
  refine gAloadN X0 hx (hb hby d7_1) (q := 2) rfl rfl rfl ?_
  refine gLen X0 hx hZ e0 pA1 (n := (3 : Int32)) rfl (hb hby d7_2) (q := 3) rfl ?_
  refine gIsub X0 hx (hb hby d7_3) (q := 4) rfl ?_
  rw [show ((3 : Int32) - (3 : Int32)) = (0 : Int32) from by decide]
  refine gBipush X0 hx (31 : Int32) (hb hby d7_4) (q := 6) rfl (by decide) ?_
  refine gIushr X0 hx (hb hby d7_6) (q := 7) rfl ?_
  rw [show (XT.ushr (0 : Int32) (31 : Int32)) = (0 : Int32) from by decide]
  refine gI2b X0 hx (hb hby d7_7) (q := 8) rfl ?_
  rw [show ((0 : Int32).toInt8.toInt32) = (0 : Int32) from by decide]
  exact gRetB X0 hx hlk hret (hb hby d7_8) (by decide) (by decide) rfl ⟨rfl, N0, e0⟩
theorem ef13 (m : MethodId) (x0 : Addr) (x1 : Addr) (x2 : Int32) (x3 : Int32) : entryFrame m #[(.ref x0), (.ref x1), (.int x2), (.int x3), (.null)] 6 = mkF m 0 #[.val (.ref x0), .val (.ref x1), .val (.int x2), .val (.int x3), .val (.null), .unset] [] := by first | (simp [entryFrame, mkF, argsToLocals, Value.category]; done) | rfl
def Q_rmI4C (Z : State) (a : Addr) (kx1 : Addr) (kc : ClassId) (ic : Int32) (y0 : Int32) (y1 : Int32) (y2 : Int32) (h0 : Heap) (n0 : Nat) (v : Option Value) (h : Heap) (L : List Loc) : Prop := v = none ∧ Fr n0 L ∧ Keep h0 h [a] ∧ Exa Z h a "java/lang/String" ∧ Fld Z h a "java/lang/String" "coder" "B" (.int (0 : Int32)) ∧ ∃ rb kb, Fld Z h a "java/lang/String" "value" "[B" (.ref rb) ∧ Ary Z h rb kb .byte [(.int (y0.toInt8.toInt32)), (.int (y1.toInt8.toInt32)), (.int (y2.toInt8.toInt32))] ∧ h0.size ≤ rb
set_option maxRecDepth 65536 in
set_option maxHeartbeats 40000000 in
theorem rmI4C (l : Launch) (Z : State) (a0 : Array Value) (hw : ∀ d ∈ tables_1, d.before a0 Z = true) (ws : List Jvm.Cond) (a : Addr) (kx1 : Addr) (kc : ClassId) (ic : Int32) (y0 : Int32) (y1 : Int32) (y2 : Int32) (h0 : Heap) (n0 : Nat) (Z0 : n0 ≤ h0.size) (pF1 : Fld Z h0 a "java/lang/String" "value" "[B" .null) (pF2 : Fld Z h0 a "java/lang/String" "coder" "B" (.int (0 : Int32))) (EXa : Exa Z h0 a "java/lang/String") (la : n0 ≤ a) (pA1 : Ary Z h0 kx1 kc .char [(.int y0), (.int y1), (.int y2)]) (n1a : kx1 ≠ a) (SCs : Sta Z Z.heap "java/lang/String" "COMPACT_STRINGS" "Z" (.int ic)) (hic : ¬ ic = (0 : Int32)) (O0 : Old Z n0 h0) (hy0 : ¬ (255 : Int32) < y0) (hy1 : ¬ (255 : Int32) < y1) (hy2 : ¬ (255 : Int32) < y2) :
    Con l Z (⟨"java/lang/String", "<init>", "([CIILjava/lang/Void;)V"⟩ : MethodName) jdk_42_method_149_code 6 none ws ({ frames := 2, cells := 1, slots := 3, locals := 36 } : Room) #[(.ref a), (.ref kx1), (.int (0 : Int32)), (.int (3 : Int32)), (.null)] h0 (({ frames := 2, cells := 1, slots := 3, locals := 36 } : Room).cells) (({ frames := 2, cells := 1, slots := 3, locals := 36 } : Room).slots) (Q_rmI4C Z a kx1 kc ic y0 y1 y2 h0 n0) := by
  refine Con.of (plainFor_of_name pn1) ?_
  intro p e s m below meth c s₁ hx hby hml hown hnm hret hlk hZ X0 e0
  have N0 := Fr.nil n0
  refine goE (L := #[.val (.ref a), .val (.ref kx1), .val (.int (0 : Int32)), .val (.int (3 : Int32)), .val (.null), .unset]) (ef13 m a kx1 (0 : Int32) (3 : Int32)) ?_
  refine gAloadN X0 hx (hb hby d3_0) (q := 1) rfl rfl rfl ?_
  refine gInitO X0 hx hZ hown (hw _ (List.mem_of_getElem? (i := 15) rfl)) (hw _ (List.mem_of_getElem? (i := 16) rfl)) (hw _ (List.mem_of_getElem? (i := 17) rfl)) e0 (by rw [hml]; rfl) (hb hby d3_1) (q := 4) rfl (by decide) (W := 0) (Nat.le_of_eq rfl) (by decide) (fun T1 X1 e1 => ?_)
  refine gIloadN X1 hx (hb hby d3_4) (q := 5) rfl rfl ?_
  refine gIfY X1 hx (hb hby d3_5) (q := 27) (by decide) (by decide) (XT.i0_ne_t (by decide)) ?_
  refine gGetS X1 hx hZ hown (hw _ (List.mem_of_getElem? (i := 18) rfl)) Via.refl e1 (Sta.ext O0.2 SCs) (hb hby d3_27) (q := 30) rfl (fun T2 X2 e2 => ?_)
  refine gIfN X2 hx (hb hby d3_30) (q := 33) rfl (XT.i0_eq_f hic) ?_
  refine gAloadN X2 hx (hb hby d3_33) (q := 34) rfl rfl rfl ?_
  refine gIloadN X2 hx (hb hby d3_34) (q := 35) rfl rfl ?_
  refine gIloadN X2 hx (hb hby d3_35) (q := 36) rfl rfl ?_
  refine gCallS X2 hx hZ hown (hw _ (List.mem_of_getElem? (i := 19) rfl)) (hw _ (List.mem_of_getElem? (i := 20) rfl)) (hw _ (List.mem_of_getElem? (i := 21) rfl)) (hw _ (List.mem_of_getElem? (i := 22) rfl)) (by decide) (rmC1C l Z a0 hw [] kx1 kc y0 y1 y2 h0 n0 Z0 pA1 hy0 hy1 hy2) (W := 0) (by decide) (by decide) e2 (by rw [hml]; rfl) [(.ref kx1), (.int (0 : Int32)), (.int (3 : Int32))] (lenOf pd1 rfl) rfl (S := []) rfl (Nat.le_of_eq rfl) (hb hby d3_36) (q := 39) rfl (by decide) (by decide) (fun r3 T3 M3 X3 q3 => ?_)
  obtain ⟨rb, kb, rfl, M3n, K3, Arb, grb⟩ := q3
  have N4 := Fr.app N0 M3n
  have lrb : n0 ≤ rb := Nat.le_trans Z0 grb
  have ne_a_rb : a ≠ rb := Nat.ne_of_lt (Nat.lt_of_lt_of_le EXa.lt grb)
  have ne_kx1_rb : kx1 ≠ rb := Nat.ne_of_lt (Nat.lt_of_lt_of_le pA1.lt grb)
  have g0rb : h0.size ≤ rb := Nat.le_trans (Keep.refl h0 [a]).1 grb
  have F5 := Fld.keep pF1 K3 nin0
  have F6 := Fld.keep pF2 K3 nin0
  have E7 := Exa.keep EXa K3
  have A8 := Ary.keep pA1 K3 nin0
  have O9 := O0.keep K3 all0
  have Z10 := Nat.le_trans Z0 K3.1
  have KK11 := (Keep.refl h0 [a]).trans K3 all0
  dsimp only [Option.toList, List.cons_append, List.nil_append]
  refine gAstore X3 hx (hb hby d3_39) (q := 41) rfl rfl (L' := #[.val (.ref a), .val (.ref kx1), .val (.int (0 : Int32)), .val (.int (3 : Int32)), .val (.null), .val (.ref rb)]) rfl ?_
  refine gAloadN X3 hx (hb hby d3_41) (q := 42) rfl rfl rfl ?_
  refine gAload X3 hx (hb hby d3_42) (q := 44) rfl rfl rfl ?_
  refine gIloadN X3 hx (hb hby d3_44) (q := 45) rfl rfl ?_
  refine gCallS X3 hx hZ hown (hw _ (List.mem_of_getElem? (i := 27) rfl)) (hw _ (List.mem_of_getElem? (i := 28) rfl)) (hw _ (List.mem_of_getElem? (i := 21) rfl)) (hw _ (List.mem_of_getElem? (i := 29) rfl)) (by decide) (rmCdC l Z a0 hw [] rb kb y0 y1 y2 T3.heap n0 Z10 Arb) (W := 1) (by decide) (by decide) rfl (by rw [hml]; rfl) [(.ref rb), (.int (3 : Int32))] (lenOf pd2 rfl) rfl (S := [(.ref a)]) rfl (Nat.le_of_eq rfl) (hb hby d3_45) (q := 48) rfl (by decide) (by decide) (fun r12 T12 M12 X12 q12 => ?_)
  obtain ⟨rfl, M12n, e12⟩ := q12
  have N13 := Fr.app N4 M12n
  dsimp only [Option.toList, List.cons_append, List.nil_append]
  refine gPutF X12 hx hZ (host := "") hown (Or.inl (hw _ (List.mem_of_getElem? (i := 30) rfl))) Via.refl e12 F6 E7 (Or.inr ⟨(hw _ (List.mem_of_getElem? (i := 31) rfl)), rfl, hnm⟩) (hw _ (List.mem_of_getElem? (i := 5) rfl)) (ty := .byte) (by decide) rfl rfl (hb hby d3_48) (q := 51) rfl (fun T14 h14 X14 e14 W14 => ?_)
  have N15 := Fr.snoc X14 N13 la
  have K16 := KK11.wr W14 (Or.inl (List.mem_of_getElem? (i := 0) rfl))
  have F17 := Fld.other W14 F5 (Or.inr (slot_ne (Or.inr (hw _ (List.mem_of_getElem? (i := 33) rfl))) (Or.inr (hw _ (List.mem_of_getElem? (i := 31) rfl))) (by decide) (t := .array (.byte)) (by decide) (t' := .byte) (by decide)))
  have F18 := Fld.same W14 F6
  have E19 := Exa.wr W14 E7
  have A20 := Ary.other W14 A8 n1a
  have A21 := Ary.other W14 Arb ne_a_rb.symm
  have O22 := O9.wr W14 la
  have Z23 : n0 ≤ h14.size := by rw [W14.size]; exact Z10
  refine gAloadN X14 hx (hb hby d3_51) (q := 52) rfl rfl rfl ?_
  refine gAload X14 hx (hb hby d3_52) (q := 54) rfl rfl rfl ?_
  refine gPutF X14 hx hZ (host := "") hown (Or.inl (hw _ (List.mem_of_getElem? (i := 32) rfl))) Via.refl e14 F17 E19 (Or.inr ⟨(hw _ (List.mem_of_getElem? (i := 33) rfl)), rfl, hnm⟩) (hw _ (List.mem_of_getElem? (i := 5) rfl)) (ty := .array (.byte)) (by decide) rfl rfl (hb hby d3_54) (q := 57) rfl (fun T24 h24 X24 e24 W24 => ?_)
  have N25 := Fr.snoc X24 N15 la
  have K26 := K16.wr W24 (Or.inl (List.mem_of_getElem? (i := 0) rfl))
  have F27 := Fld.same W24 F17
  have F28 := Fld.other W24 F18 (Or.inr (slot_ne (Or.inr (hw _ (List.mem_of_getElem? (i := 31) rfl))) (Or.inr (hw _ (List.mem_of_getElem? (i := 33) rfl))) (by decide) (t := .byte) (by decide) (t' := .array (.byte)) (by decide)))
  have E29 := Exa.wr W24 E19
  have A30 := Ary.other W24 A20 n1a
  have A31 := Ary.other W24 A21 ne_a_rb.symm
  have O32 := O22.wr W24 la
  have Z33 : n0 ≤ h24.size := by rw [W24.size]; exact Z23
  exact gRetV X24 hx hlk hret (hb hby d3_57) (by decide) (by decide) (by rw [e24]; exact ⟨rfl, N25, K26, E29, F28, _, _, F27, A31, g0rb⟩)
theorem ef14 (m : MethodId) (x0 : Addr) (x1 : Addr) : entryFrame m #[(.ref x0), (.ref x1)] 2 = mkF m 0 #[.val (.ref x0), .val (.ref x1)] [] := by first | (simp [entryFrame, mkF, argsToLocals, Value.category]; done) | rfl
def Q_rmI1C (Z : State) (a : Addr) (kx1 : Addr) (kc : ClassId) (ic : Int32) (y0 : Int32) (y1 : Int32) (y2 : Int32) (h0 : Heap) (n0 : Nat) (v : Option Value) (h : Heap) (L : List Loc) : Prop := v = none ∧ Fr n0 L ∧ Keep h0 h [a] ∧ Exa Z h a "java/lang/String" ∧ Fld Z h a "java/lang/String" "coder" "B" (.int (0 : Int32)) ∧ ∃ rb kb, Fld Z h a "java/lang/String" "value" "[B" (.ref rb) ∧ Ary Z h rb kb .byte [(.int (y0.toInt8.toInt32)), (.int (y1.toInt8.toInt32)), (.int (y2.toInt8.toInt32))] ∧ h0.size ≤ rb
set_option maxRecDepth 65536 in
set_option maxHeartbeats 40000000 in
theorem rmI1C (l : Launch) (Z : State) (a0 : Array Value) (hw : ∀ d ∈ tables_1, d.before a0 Z = true) (ws : List Jvm.Cond) (a : Addr) (kx1 : Addr) (kc : ClassId) (ic : Int32) (y0 : Int32) (y1 : Int32) (y2 : Int32) (h0 : Heap) (n0 : Nat) (Z0 : n0 ≤ h0.size) (pF1 : Fld Z h0 a "java/lang/String" "value" "[B" .null) (pF2 : Fld Z h0 a "java/lang/String" "coder" "B" (.int (0 : Int32))) (EXa : Exa Z h0 a "java/lang/String") (la : n0 ≤ a) (pA1 : Ary Z h0 kx1 kc .char [(.int y0), (.int y1), (.int y2)]) (n1a : kx1 ≠ a) (SCs : Sta Z Z.heap "java/lang/String" "COMPACT_STRINGS" "Z" (.int ic)) (hic : ¬ ic = (0 : Int32)) (O0 : Old Z n0 h0) (hy0 : ¬ (255 : Int32) < y0) (hy1 : ¬ (255 : Int32) < y1) (hy2 : ¬ (255 : Int32) < y2) :
    Con l Z (⟨"java/lang/String", "<init>", "([C)V"⟩ : MethodName) jdk_42_method_3_code 2 none ws ({ frames := 3, cells := 1, slots := 3, locals := 53 } : Room) #[(.ref a), (.ref kx1)] h0 (({ frames := 3, cells := 1, slots := 3, locals := 53 } : Room).cells) (({ frames := 3, cells := 1, slots := 3, locals := 53 } : Room).slots) (Q_rmI1C Z a kx1 kc ic y0 y1 y2 h0 n0) := by
  refine Con.of (plainFor_of_name pn1) ?_
  intro p e s m below meth c s₁ hx hby hml hown hnm hret hlk hZ X0 e0
  have N0 := Fr.nil n0
  refine goE (L := #[.val (.ref a), .val (.ref kx1)]) (ef14 m a kx1) ?_
  refine gAloadN X0 hx (hb hby d2_0) (q := 1) rfl rfl rfl ?_
  refine gAloadN X0 hx (hb hby d2_1) (q := 2) rfl rfl rfl ?_
  refine gIconst X0 hx (0 : Int32) (hb hby d2_2) (q := 3) rfl (by decide) ?_
  refine gAloadN X0 hx (hb hby d2_3) (q := 4) rfl rfl rfl ?_
  refine gLen X0 hx hZ e0 pA1 (n := (3 : Int32)) rfl (hb hby d2_4) (q := 5) rfl ?_
  refine gNull X0 hx (hb hby d2_5) (q := 6) rfl ?_
  refine gCallN X0 hx hZ rfl hown (hw _ (List.mem_of_getElem? (i := 11) rfl)) (hw _ (List.mem_of_getElem? (i := 12) rfl)) (hw _ (List.mem_of_getElem? (i := 6) rfl)) (hw _ (List.mem_of_getElem? (i := 14) rfl)) (by decide) (rmI4C l Z a0 hw [] a kx1 kc ic y0 y1 y2 h0 n0 Z0 pF1 pF2 EXa la pA1 n1a SCs hic O0 hy0 hy1 hy2) (W := 0) (by decide) (by decide) e0 (by rw [hml]; rfl) [(.ref kx1), (.int (0 : Int32)), (.int (3 : Int32)), (.null)] (lenOf pd3 rfl) rfl (S := []) rfl (Nat.le_of_eq rfl) (hb hby d2_6) (q := 9) rfl (by decide) (by decide) (fun r1 T1 M1 X1 q1 => ?_)
  obtain ⟨rfl, M1n, K1, P1e, P1c, rb, kb, P1v, P1a, grb⟩ := q1
  have N2 := Fr.app N0 M1n
  dsimp only [Option.toList, List.cons_append, List.nil_append]
  exact gRetV X1 hx hlk hret (hb hby d2_9) (by decide) (by decide) ⟨rfl, N2, K1, P1e, P1c, _, _, P1v, P1a, grb⟩
theorem ef15 (m : MethodId) (x0 : Addr) (x1 : Addr) (x2 : Int32) (x3 : Int32) : entryFrame m #[(.ref x0), (.ref x1), (.int x2), (.int x3), (.null)] 6 = mkF m 0 #[.val (.ref x0), .val (.ref x1), .val (.int x2), .val (.int x3), .val (.null), .unset] [] := by first | (simp [entryFrame, mkF, argsToLocals, Value.category]; done) | rfl
def Q_rmI4E (Z : State) (a : Addr) (kx1 : Addr) (h0 : Heap) (n0 : Nat) (v : Option Value) (h : Heap) (L : List Loc) : Prop := v = none ∧ Fr n0 L ∧ Keep h0 h [a] ∧ ∃ rb kb, Exa Z h a "java/lang/String" ∧ Fld Z h a "java/lang/String" "coder" "B" (.int (0 : Int32)) ∧ Fld Z h a "java/lang/String" "value" "[B" (.ref rb) ∧ Ary Z h rb kb .byte []
set_option maxRecDepth 65536 in
set_option maxHeartbeats 40000000 in
theorem rmI4E (l : Launch) (Z : State) (a0 : Array Value) (hw : ∀ d ∈ tables_1, d.before a0 Z = true) (ws : List Jvm.Cond) (hEL : EW Z a0 consts_1) (a : Addr) (kx1 : Addr) (h0 : Heap) (n0 : Nat) (Z0 : n0 ≤ h0.size) (pF1 : Fld Z h0 a "java/lang/String" "value" "[B" .null) (pF2 : Fld Z h0 a "java/lang/String" "coder" "B" (.int (0 : Int32))) (EXa : Exa Z h0 a "java/lang/String") (la : n0 ≤ a) :
    ConS l Z consts_1 (⟨"java/lang/String", "<init>", "([CIILjava/lang/Void;)V"⟩ : MethodName) jdk_42_method_149_code 6 none ws ({ frames := 2, cells := 4, slots := 8, locals := 36 } : Room) #[(.ref a), (.ref kx1), (.int (0 : Int32)), (.int (0 : Int32)), (.null)] h0 (({ frames := 2, cells := 4, slots := 8, locals := 36 } : Room).cells) (({ frames := 2, cells := 4, slots := 8, locals := 36 } : Room).slots) (Q_rmI4E Z a kx1 h0 n0) := by
  refine ConS.of (plainFor_of_name pn1) ?_
  intro p e s m below meth c s₁ vm0 k0 hx hby hml hown hnm hret hlk hZ hS hkk hC X0 e0
  have N0 := Fr.nil n0
  refine goE (L := #[.val (.ref a), .val (.ref kx1), .val (.int (0 : Int32)), .val (.int (0 : Int32)), .val (.null), .unset]) (ef15 m a kx1 (0 : Int32) (0 : Int32)) ?_
  have sfa : Safe Z consts_1 vm0 h0 a := own_safeS hZ.alike EXa pF1
  refine gAloadN X0 hx (hb hby d3_0) (q := 1) rfl rfl rfl ?_
  refine gInitO X0 hx hZ hown (hw _ (List.mem_of_getElem? (i := 15) rfl)) (hw _ (List.mem_of_getElem? (i := 16) rfl)) (hw _ (List.mem_of_getElem? (i := 17) rfl)) e0 (by rw [hml]; rfl) (hb hby d3_1) (q := 4) rfl (by decide) (W := 0) (Nat.le_of_eq rfl) (by decide) (fun T1 X1 e1 => ?_)
  refine gIloadN X1 hx (hb hby d3_4) (q := 5) rfl rfl ?_
  refine gIfN X1 hx (hb hby d3_5) (q := 8) rfl (XT.i0_ne_f (by decide)) ?_
  refine gAloadN X1 hx (hb hby d3_8) (q := 9) rfl rfl rfl ?_
  refine gLdcE X1 hx hZ hS hEL hown (hw _ (List.mem_of_getElem? (i := 51) rfl)) (own_wS hw) (own_EL_3_7) e1 hkk hC (vs := []) (z := 0) ⟨by simp, by simp⟩ (by decide) (by decide) (hb hby d3_9) (q := 11) rfl (n := 0) (by simp) (by decide) (by decide) (by decide) (fun T2 h2 k2n a2 b2 k2 X2 e2 E2 hS hkk2 hZ hown Ex2 Fc2 Fv2 Av2 C2c SF2c => ?_)
  obtain ⟨Y2_a, ne_a_a2, ne_a_b2⟩ := SF2c a EXa.lt sfa
  have F3 := Fld.ext E2 pF1
  have F4 := Fld.ext E2 pF2
  have E5 := Exa.ext E2 EXa
  have K6 := (Keep.refl h0 [a]).ext E2
  have Z7 := Nat.le_trans Z0 E2.1
  have AE2 := own_ary0 Av2
  refine gGetF X2 hx hZ (host := "") hown (Or.inl (hw _ (List.mem_of_getElem? (i := 32) rfl))) Via.refl e2 Fv2 (hb hby d3_11) (q := 14) rfl (fun T8 X8 e8 => ?_)
  refine gPutF X8 hx hZ (host := "") hown (Or.inl (hw _ (List.mem_of_getElem? (i := 32) rfl))) Via.refl e8 F3 E5 (Or.inr ⟨(hw _ (List.mem_of_getElem? (i := 33) rfl)), rfl, hnm⟩) (hw _ (List.mem_of_getElem? (i := 5) rfl)) (ty := .array (.byte)) (by decide) rfl rfl (hb hby d3_14) (q := 17) rfl (fun T9 h9 X9 e9 W9 => ?_)
  have N10 := Fr.snoc X9 N0 la
  have K11 := K6.wr W9 (Or.inl (List.mem_of_getElem? (i := 0) rfl))
  have SF12 : Safe Z consts_1 T2.vm h2 a := Y2_a
  have Y13 := Safe.wr W9 SF12 C2c.1 Y2_a
  have C14h := C2c.trans (CHr.wr W9 SF12 C2c.1)
  have kk15 := (by rw [W9.size]; exact hkk2 : _ ≤ Array.size h9)
  have F16 := Fld.same W9 F3
  have F17 := Fld.other W9 F4 (Or.inr (slot_ne (Or.inr (hw _ (List.mem_of_getElem? (i := 31) rfl))) (Or.inr (hw _ (List.mem_of_getElem? (i := 33) rfl))) (by decide) (t := .byte) (by decide) (t' := .array (.byte)) (by decide)))
  have E18 := Exa.wr W9 E5
  have E19 := Exa.wr W9 Ex2
  have F20 := Fld.other W9 Fc2 (Or.inl ne_a_a2.symm)
  have F21 := Fld.other W9 Fv2 (Or.inl ne_a_a2.symm)
  have A22 := Ary.other W9 AE2 ne_a_b2.symm
  have Z23 : n0 ≤ h9.size := by rw [W9.size]; exact Z7
  refine gAloadN X9 hx (hb hby d3_17) (q := 18) rfl rfl rfl ?_
  refine gLdcE X9 hx hZ hS hEL hown (hw _ (List.mem_of_getElem? (i := 51) rfl)) (own_wS hw) (own_EL_3_7) e9 kk15 C14h (vs := []) (z := 0) ⟨by simp, by simp⟩ (by decide) (by decide) (hb hby d3_18) (q := 20) rfl (n := 0) (by simp) (by decide) (by decide) (by decide) (fun T24 h24 k24n a24 b24 k24 X24 e24 E24 hS hkk24 hZ hown Ex24 Fc24 Fv24 Av24 C24c SF24c => ?_)
  obtain ⟨Y24_a, ne_a_a24, ne_a_b24⟩ := SF24c a E18.lt Y13
  have F25 := Fld.ext E24 F16
  have F26 := Fld.ext E24 F17
  have E27 := Exa.ext E24 E18
  have E28 := Exa.ext E24 E19
  have F29 := Fld.ext E24 F20
  have F30 := Fld.ext E24 F21
  have A31 := Ary.ext E24 A22
  have K32 := K11.ext E24
  have Z33 := Nat.le_trans Z23 E24.1
  have AE24 := own_ary0 Av24
  refine gGetF X24 hx hZ (host := "") hown (Or.inl (hw _ (List.mem_of_getElem? (i := 30) rfl))) Via.refl e24 Fc24 (hb hby d3_20) (q := 23) rfl (fun T34 X34 e34 => ?_)
  refine gPutF X34 hx hZ (host := "") hown (Or.inl (hw _ (List.mem_of_getElem? (i := 30) rfl))) Via.refl e34 F26 E27 (Or.inr ⟨(hw _ (List.mem_of_getElem? (i := 31) rfl)), rfl, hnm⟩) (hw _ (List.mem_of_getElem? (i := 5) rfl)) (ty := .byte) (by decide) rfl rfl (hb hby d3_23) (q := 26) rfl (fun T35 h35 X35 e35 W35 => ?_)
  have N36 := Fr.snoc X35 N10 la
  have K37 := K32.wr W35 (Or.inl (List.mem_of_getElem? (i := 0) rfl))
  have SF38 : Safe Z consts_1 T24.vm h24 a := Y24_a
  have Y39 := Safe.wr W35 SF38 C24c.1 Y24_a
  have C40h := C24c.trans (CHr.wr W35 SF38 C24c.1)
  have kk41 := (by rw [W35.size]; exact hkk24 : _ ≤ Array.size h35)
  have F42 := Fld.other W35 F25 (Or.inr (slot_ne (Or.inr (hw _ (List.mem_of_getElem? (i := 33) rfl))) (Or.inr (hw _ (List.mem_of_getElem? (i := 31) rfl))) (by decide) (t := .array (.byte)) (by decide) (t' := .byte) (by decide)))
  have F43 := Fld.same W35 F26
  have E44 := Exa.wr W35 E27
  have E45 := Exa.wr W35 E28
  have F46 := Fld.other W35 F29 (Or.inl ne_a_a2.symm)
  have F47 := Fld.other W35 F30 (Or.inl ne_a_a2.symm)
  have A48 := Ary.other W35 A31 ne_a_b2.symm
  have E49 := Exa.wr W35 Ex24
  have F50 := Fld.other W35 Fc24 (Or.inl ne_a_a24.symm)
  have F51 := Fld.other W35 Fv24 (Or.inl ne_a_a24.symm)
  have A52 := Ary.other W35 AE24 ne_a_b24.symm
  have Z53 : n0 ≤ h35.size := by rw [W35.size]; exact Z33
  exact gRetSV X35 hx hZ hS hEL hlk hret (hb hby d3_26) (by decide) (by decide) e35 kk41 C40h (by rw [e35]; exact ⟨rfl, N36, K37, b2, _, E44, F43, F42, A48⟩)
theorem ef16 (m : MethodId) (x0 : Addr) (x1 : Addr) : entryFrame m #[(.ref x0), (.ref x1)] 2 = mkF m 0 #[.val (.ref x0), .val (.ref x1)] [] := by first | (simp [entryFrame, mkF, argsToLocals, Value.category]; done) | rfl
def Q_rmI1E (Z : State) (a : Addr) (kx1 : Addr) (kc : ClassId) (h0 : Heap) (n0 : Nat) (v : Option Value) (h : Heap) (L : List Loc) : Prop := v = none ∧ Fr n0 L ∧ Keep h0 h [a] ∧ ∃ rb kb, Exa Z h a "java/lang/String" ∧ Fld Z h a "java/lang/String" "coder" "B" (.int (0 : Int32)) ∧ Fld Z h a "java/lang/String" "value" "[B" (.ref rb) ∧ Ary Z h rb kb .byte []
set_option maxRecDepth 65536 in
set_option maxHeartbeats 40000000 in
theorem rmI1E (l : Launch) (Z : State) (a0 : Array Value) (hw : ∀ d ∈ tables_1, d.before a0 Z = true) (ws : List Jvm.Cond) (hEL : EW Z a0 consts_1) (a : Addr) (kx1 : Addr) (kc : ClassId) (h0 : Heap) (n0 : Nat) (Z0 : n0 ≤ h0.size) (pF1 : Fld Z h0 a "java/lang/String" "value" "[B" .null) (pF2 : Fld Z h0 a "java/lang/String" "coder" "B" (.int (0 : Int32))) (EXa : Exa Z h0 a "java/lang/String") (la : n0 ≤ a) (pA1 : Ary Z h0 kx1 kc .char []) :
    ConS l Z consts_1 (⟨"java/lang/String", "<init>", "([C)V"⟩ : MethodName) jdk_42_method_3_code 2 none ws ({ frames := 3, cells := 4, slots := 8, locals := 60 } : Room) #[(.ref a), (.ref kx1)] h0 (({ frames := 3, cells := 4, slots := 8, locals := 60 } : Room).cells) (({ frames := 3, cells := 4, slots := 8, locals := 60 } : Room).slots) (Q_rmI1E Z a kx1 kc h0 n0) := by
  refine ConS.of (plainFor_of_name pn1) ?_
  intro p e s m below meth c s₁ vm0 k0 hx hby hml hown hnm hret hlk hZ hS hkk hC X0 e0
  have N0 := Fr.nil n0
  refine goE (L := #[.val (.ref a), .val (.ref kx1)]) (ef16 m a kx1) ?_
  have sfa : Safe Z consts_1 vm0 h0 a := own_safeS hZ.alike EXa pF1
  refine gAloadN X0 hx (hb hby d2_0) (q := 1) rfl rfl rfl ?_
  refine gAloadN X0 hx (hb hby d2_1) (q := 2) rfl rfl rfl ?_
  refine gIconst X0 hx (0 : Int32) (hb hby d2_2) (q := 3) rfl (by decide) ?_
  refine gAloadN X0 hx (hb hby d2_3) (q := 4) rfl rfl rfl ?_
  refine gLen X0 hx hZ e0 pA1 (n := (0 : Int32)) rfl (hb hby d2_4) (q := 5) rfl ?_
  refine gNull X0 hx (hb hby d2_5) (q := 6) rfl ?_
  refine gCallNS X0 hx hZ hS hEL rfl hown (hw _ (List.mem_of_getElem? (i := 11) rfl)) (hw _ (List.mem_of_getElem? (i := 12) rfl)) (hw _ (List.mem_of_getElem? (i := 6) rfl)) (hw _ (List.mem_of_getElem? (i := 14) rfl)) (by decide) (rmI4E l Z a0 hw [] hEL a kx1 h0 n0 Z0 pF1 pF2 EXa la) (W := 0) (by decide) (by decide) e0 hkk hC (by rw [hml]; rfl) [(.ref kx1), (.int (0 : Int32)), (.int (0 : Int32)), (.null)] (lenOf pd3 rfl) rfl (S := []) rfl (Nat.le_of_eq rfl) (hb hby d2_6) (q := 9) rfl (by decide) (by decide) (fun r1 T1 M1 X1 q1 hS hZ hown C1c SF1c => ?_)
  have Y1_a := SF1c a EXa.lt sfa
  obtain ⟨rfl, M1n, K1, rb, kb, P1e, P1c, P1v, P1a⟩ := q1
  have N2 := Fr.app N0 M1n
  dsimp only [Option.toList, List.cons_append, List.nil_append]
  exact gRetSV X1 hx hZ hS hEL hlk hret (hb hby d2_9) (by decide) (by decide) rfl (Nat.le_refl _) C1c (by exact ⟨rfl, N2, K1, rb, _, P1e, P1c, P1v, P1a⟩)
theorem d12_0 : decode jdk_42_method_66_code 0 = .ok (.aload_n 0, 1) := by decide +kernel
theorem d12_1 : decode jdk_42_method_66_code 1 = .ok (.aload_n 1, 1) := by decide +kernel
theorem d12_2 : decode jdk_42_method_66_code 2 = .ok (.if_acmp .ne 5, 3) := by decide +kernel
theorem d12_5 : decode jdk_42_method_66_code 5 = .ok (.iconst 1, 1) := by decide +kernel
theorem d12_6 : decode jdk_42_method_66_code 6 = .ok (.ireturn, 1) := by decide +kernel
theorem d12_7 : decode jdk_42_method_66_code 7 = .ok (.aload_n 1, 1) := by decide +kernel
theorem d12_8 : decode jdk_42_method_66_code 8 = .ok (.instanceof 10, 3) := by decide +kernel
theorem d12_11 : decode jdk_42_method_66_code 11 = .ok (.ifCond .eq 43, 3) := by decide +kernel
theorem d12_14 : decode jdk_42_method_66_code 14 = .ok (.aload_n 1, 1) := by decide +kernel
theorem d12_15 : decode jdk_42_method_66_code 15 = .ok (.checkcast 10, 3) := by decide +kernel
theorem d12_18 : decode jdk_42_method_66_code 18 = .ok (.astore_n 2, 1) := by decide +kernel
theorem d12_19 : decode jdk_42_method_66_code 19 = .ok (.getstatic 38, 3) := by decide +kernel
theorem d12_22 : decode jdk_42_method_66_code 22 = .ok (.ifCond .eq 14, 3) := by decide +kernel
theorem d12_25 : decode jdk_42_method_66_code 25 = .ok (.aload_n 0, 1) := by decide +kernel
theorem d12_26 : decode jdk_42_method_66_code 26 = .ok (.getfield 15, 3) := by decide +kernel
theorem d12_29 : decode jdk_42_method_66_code 29 = .ok (.aload_n 2, 1) := by decide +kernel
theorem d12_30 : decode jdk_42_method_66_code 30 = .ok (.getfield 15, 3) := by decide +kernel
theorem d12_33 : decode jdk_42_method_66_code 33 = .ok (.if_icmp .ne 21, 3) := by decide +kernel
theorem d12_36 : decode jdk_42_method_66_code 36 = .ok (.aload_n 0, 1) := by decide +kernel
theorem d12_37 : decode jdk_42_method_66_code 37 = .ok (.getfield 9, 3) := by decide +kernel
theorem d12_40 : decode jdk_42_method_66_code 40 = .ok (.aload_n 2, 1) := by decide +kernel
theorem d12_41 : decode jdk_42_method_66_code 41 = .ok (.getfield 9, 3) := by decide +kernel
theorem d12_44 : decode jdk_42_method_66_code 44 = .ok (.invokestatic 541, 3) := by decide +kernel
theorem d12_47 : decode jdk_42_method_66_code 47 = .ok (.ifCond .eq 7, 3) := by decide +kernel
theorem d12_50 : decode jdk_42_method_66_code 50 = .ok (.iconst 1, 1) := by decide +kernel
theorem d12_51 : decode jdk_42_method_66_code 51 = .ok (.goto 4, 3) := by decide +kernel
theorem d12_54 : decode jdk_42_method_66_code 54 = .ok (.iconst 0, 1) := by decide +kernel
theorem d12_55 : decode jdk_42_method_66_code 55 = .ok (.ireturn, 1) := by decide +kernel
theorem ef17 (m : MethodId) (x0 : Addr) (x1 : Addr) : entryFrame m #[(.ref x0), (.ref x1)] 3 = mkF m 0 #[.val (.ref x0), .val (.ref x1), .unset] [] := by first | (simp [entryFrame, mkF, argsToLocals, Value.category]; done) | rfl
def Q_rmEqSame (Z : State) (a : Addr) (h0 : Heap) (n0 : Nat) (v : Option Value) (h : Heap) (L : List Loc) : Prop := v = some (.int (1 : Int32)) ∧ Fr n0 L ∧ h = h0
set_option maxRecDepth 65536 in
set_option maxHeartbeats 40000000 in
theorem rmEqSame (l : Launch) (Z : State) (a0 : Array Value) (hw : ∀ d ∈ tables_1, d.before a0 Z = true) (ws : List Jvm.Cond) (a : Addr) (h0 : Heap) (n0 : Nat) (Z0 : n0 ≤ h0.size)  :
    Con l Z (⟨"java/lang/String", "equals", "(Ljava/lang/Object;)Z"⟩ : MethodName) jdk_42_method_66_code 3 (some (.boolean)) ws ({ frames := 0, cells := 0, slots := 0, locals := 0 } : Room) #[(.ref a), (.ref a)] h0 (({ frames := 0, cells := 0, slots := 0, locals := 0 } : Room).cells) (({ frames := 0, cells := 0, slots := 0, locals := 0 } : Room).slots) (Q_rmEqSame Z a h0 n0) := by
  refine Con.of (plainFor_of_name pn1) ?_
  intro p e s m below meth c s₁ hx hby hml hown hnm hret hlk hZ X0 e0
  have N0 := Fr.nil n0
  refine goE (L := #[.val (.ref a), .val (.ref a), .unset]) (ef17 m a a) ?_
  refine gAloadN X0 hx (hb hby d12_0) (q := 1) rfl rfl rfl ?_
  refine gAloadN X0 hx (hb hby d12_1) (q := 2) rfl rfl rfl ?_
  refine gAcmpN X0 hx (hb hby d12_2) (q := 5) rfl rfl rfl (XT.aa_ne_f rfl) ?_
  refine gIconst X0 hx (1 : Int32) (hb hby d12_5) (q := 6) rfl (by decide) ?_
  exact gRetZ X0 hx hlk hret (hb hby d12_6) (by decide) (by decide) (by simp) ⟨rfl, N0, e0⟩
theorem d1_0 : decode method_2_code 0 = .ok (.iload_n 1, 1) := by decide +kernel
theorem d1_1 : decode method_2_code 1 = .ok (.sipush 255, 3) := by decide +kernel
theorem d1_4 : decode method_2_code 4 = .ok (.iand, 1) := by decide +kernel
theorem d1_5 : decode method_2_code 5 = .ok (.i2c, 1) := by decide +kernel
theorem d1_6 : decode method_2_code 6 = .ok (.istore 4, 2) := by decide +kernel
theorem d1_8 : decode method_2_code 8 = .ok (.iload_n 2, 1) := by decide +kernel
theorem d1_9 : decode method_2_code 9 = .ok (.sipush 255, 3) := by decide +kernel
theorem d1_12 : decode method_2_code 12 = .ok (.iand, 1) := by decide +kernel
theorem d1_13 : decode method_2_code 13 = .ok (.i2c, 1) := by decide +kernel
theorem d1_14 : decode method_2_code 14 = .ok (.istore 5, 2) := by decide +kernel
theorem d1_16 : decode method_2_code 16 = .ok (.iload_n 3, 1) := by decide +kernel
theorem d1_17 : decode method_2_code 17 = .ok (.sipush 255, 3) := by decide +kernel
theorem d1_20 : decode method_2_code 20 = .ok (.iand, 1) := by decide +kernel
theorem d1_21 : decode method_2_code 21 = .ok (.i2c, 1) := by decide +kernel
theorem d1_22 : decode method_2_code 22 = .ok (.istore 6, 2) := by decide +kernel
theorem d1_24 : decode method_2_code 24 = .ok (.iload_n 0, 1) := by decide +kernel
theorem d1_25 : decode method_2_code 25 = .ok (.ifCond .ne 14, 3) := by decide +kernel
theorem d1_28 : decode method_2_code 28 = .ok (.new 7, 3) := by decide +kernel
theorem d1_31 : decode method_2_code 31 = .ok (.dup, 1) := by decide +kernel
theorem d1_32 : decode method_2_code 32 = .ok (.iconst 0, 1) := by decide +kernel
theorem d1_33 : decode method_2_code 33 = .ok (.newarray .char, 2) := by decide +kernel
theorem d1_35 : decode method_2_code 35 = .ok (.invokespecial 9, 3) := by decide +kernel
theorem d1_38 : decode method_2_code 38 = .ok (.areturn, 1) := by decide +kernel
theorem d1_39 : decode method_2_code 39 = .ok (.iload_n 0, 1) := by decide +kernel
theorem d1_40 : decode method_2_code 40 = .ok (.iconst 1, 1) := by decide +kernel
theorem d1_41 : decode method_2_code 41 = .ok (.if_icmp .ne 19, 3) := by decide +kernel
theorem d1_44 : decode method_2_code 44 = .ok (.new 7, 3) := by decide +kernel
theorem d1_47 : decode method_2_code 47 = .ok (.dup, 1) := by decide +kernel
theorem d1_48 : decode method_2_code 48 = .ok (.iconst 1, 1) := by decide +kernel
theorem d1_49 : decode method_2_code 49 = .ok (.newarray .char, 2) := by decide +kernel
theorem d1_51 : decode method_2_code 51 = .ok (.dup, 1) := by decide +kernel
theorem d1_52 : decode method_2_code 52 = .ok (.iconst 0, 1) := by decide +kernel
theorem d1_53 : decode method_2_code 53 = .ok (.iload 4, 2) := by decide +kernel
theorem d1_55 : decode method_2_code 55 = .ok (.castore, 1) := by decide +kernel
theorem d1_56 : decode method_2_code 56 = .ok (.invokespecial 9, 3) := by decide +kernel
theorem d1_59 : decode method_2_code 59 = .ok (.areturn, 1) := by decide +kernel
theorem d1_60 : decode method_2_code 60 = .ok (.iload_n 0, 1) := by decide +kernel
theorem d1_61 : decode method_2_code 61 = .ok (.iconst 2, 1) := by decide +kernel
theorem d1_62 : decode method_2_code 62 = .ok (.if_icmp .ne 24, 3) := by decide +kernel
theorem d1_65 : decode method_2_code 65 = .ok (.new 7, 3) := by decide +kernel
theorem d1_68 : decode method_2_code 68 = .ok (.dup, 1) := by decide +kernel
theorem d1_69 : decode method_2_code 69 = .ok (.iconst 2, 1) := by decide +kernel
theorem d1_70 : decode method_2_code 70 = .ok (.newarray .char, 2) := by decide +kernel
theorem d1_72 : decode method_2_code 72 = .ok (.dup, 1) := by decide +kernel
theorem d1_73 : decode method_2_code 73 = .ok (.iconst 0, 1) := by decide +kernel
theorem d1_74 : decode method_2_code 74 = .ok (.iload 4, 2) := by decide +kernel
theorem d1_76 : decode method_2_code 76 = .ok (.castore, 1) := by decide +kernel
theorem d1_77 : decode method_2_code 77 = .ok (.dup, 1) := by decide +kernel
theorem d1_78 : decode method_2_code 78 = .ok (.iconst 1, 1) := by decide +kernel
theorem d1_79 : decode method_2_code 79 = .ok (.iload 5, 2) := by decide +kernel
theorem d1_81 : decode method_2_code 81 = .ok (.castore, 1) := by decide +kernel
theorem d1_82 : decode method_2_code 82 = .ok (.invokespecial 9, 3) := by decide +kernel
theorem d1_85 : decode method_2_code 85 = .ok (.areturn, 1) := by decide +kernel
theorem d1_86 : decode method_2_code 86 = .ok (.new 7, 3) := by decide +kernel
theorem d1_89 : decode method_2_code 89 = .ok (.dup, 1) := by decide +kernel
theorem d1_90 : decode method_2_code 90 = .ok (.iconst 3, 1) := by decide +kernel
theorem d1_91 : decode method_2_code 91 = .ok (.newarray .char, 2) := by decide +kernel
theorem d1_93 : decode method_2_code 93 = .ok (.dup, 1) := by decide +kernel
theorem d1_94 : decode method_2_code 94 = .ok (.iconst 0, 1) := by decide +kernel
theorem d1_95 : decode method_2_code 95 = .ok (.iload 4, 2) := by decide +kernel
theorem d1_97 : decode method_2_code 97 = .ok (.castore, 1) := by decide +kernel
theorem d1_98 : decode method_2_code 98 = .ok (.dup, 1) := by decide +kernel
theorem d1_99 : decode method_2_code 99 = .ok (.iconst 1, 1) := by decide +kernel
theorem d1_100 : decode method_2_code 100 = .ok (.iload 5, 2) := by decide +kernel
theorem d1_102 : decode method_2_code 102 = .ok (.castore, 1) := by decide +kernel
theorem d1_103 : decode method_2_code 103 = .ok (.dup, 1) := by decide +kernel
theorem d1_104 : decode method_2_code 104 = .ok (.iconst 2, 1) := by decide +kernel
theorem d1_105 : decode method_2_code 105 = .ok (.iload 6, 2) := by decide +kernel
theorem d1_107 : decode method_2_code 107 = .ok (.castore, 1) := by decide +kernel
theorem d1_108 : decode method_2_code 108 = .ok (.invokespecial 9, 3) := by decide +kernel
theorem d1_111 : decode method_2_code 111 = .ok (.areturn, 1) := by decide +kernel
theorem pn2 : plainName "com/example/tariffwright/tariffwright/ScopeCostSubzonePinLaw" = true := by first | (simp [plainName, overriddenIn]; done) | decide +kernel
theorem ef18 (m : MethodId) (x0 : Int32) (x1 : Int32) (x2 : Int32) (x3 : Int32) : entryFrame m #[(.int x0), (.int x1), (.int x2), (.int x3)] 7 = mkF m 0 #[.val (.int x0), .val (.int x1), .val (.int x2), .val (.int x3), .unset, .unset, .unset] [] := by first | (simp [entryFrame, mkF, argsToLocals, Value.category]; done) | rfl
def Q_rmDr (Z : State) (ic : Int32) (x0 : Int32) (x1 : Int32) (x2 : Int32) (x3 : Int32) (h0 : Heap) (n0 : Nat) (v : Option Value) (h : Heap) (L : List Loc) : Prop := ∃ r b kb, v = some (.ref r) ∧ Fr n0 L ∧ Keep h0 h [] ∧ Exa Z h r "java/lang/String" ∧ Fld Z h r "java/lang/String" "coder" "B" (.int (0 : Int32)) ∧ Fld Z h r "java/lang/String" "value" "[B" (.ref b) ∧ ((x0 = (0 : Int32) ∧ Ary Z h b kb .byte []) ∨ (x0 = (1 : Int32) ∧ ∃ z0 : Int32, Ary Z h b kb .byte [.int z0]) ∨ (x0 = (2 : Int32) ∧ ∃ z0 z1 : Int32, Ary Z h b kb .byte [.int z0, .int z1]) ∨ ((¬ x0 = (0 : Int32) ∧ ¬ x0 = (1 : Int32) ∧ ¬ x0 = (2 : Int32)) ∧ ∃ z0 z1 z2 : Int32, Ary Z h b kb .byte [.int z0, .int z1, .int z2]))
theorem pd4 : parseMethodDescriptor "([C)V" = some ⟨[.array (.char)], none⟩ := by decide +kernel
set_option maxRecDepth 65536 in
set_option maxHeartbeats 40000000 in
theorem rmDr (l : Launch) (Z : State) (a0 : Array Value) (hw : ∀ d ∈ tables_1, d.before a0 Z = true) (ws : List Jvm.Cond) (hEL : EW Z a0 consts_1) (ic : Int32) (x0 : Int32) (x1 : Int32) (x2 : Int32) (x3 : Int32) (h0 : Heap) (n0 : Nat) (Z0 : n0 ≤ h0.size) (SCs : Sta Z Z.heap "java/lang/String" "COMPACT_STRINGS" "Z" (.int ic)) (hic : ¬ ic = (0 : Int32)) (O0 : Old Z n0 h0) :
    ConS l Z consts_1 (⟨"com/example/tariffwright/tariffwright/ScopeCostSubzonePinLaw", "drawn", "(IIII)Ljava/lang/String;"⟩ : MethodName) method_2_code 7 (some (.object "java/lang/String")) ws ({ frames := 4, cells := 6, slots := 14, locals := 90 } : Room) #[(.int x0), (.int x1), (.int x2), (.int x3)] h0 (({ frames := 4, cells := 6, slots := 14, locals := 90 } : Room).cells) (({ frames := 4, cells := 6, slots := 14, locals := 90 } : Room).slots) (Q_rmDr Z ic x0 x1 x2 x3 h0 n0) := by
  refine ConS.of (plainFor_of_name pn2) ?_
  intro p e s m below meth c s₁ vm0 k0 hx hby hml hown hnm hret hlk hZ hS hkk hC X0 e0
  have N0 := Fr.nil n0
  refine goE (L := #[.val (.int x0), .val (.int x1), .val (.int x2), .val (.int x3), .unset, .unset, .unset]) (ef18 m x0 x1 x2 x3) ?_
  refine gIloadN X0 hx (hb hby d1_0) (q := 1) rfl rfl ?_
  refine gSipush X0 hx (255 : Int32) (hb hby d1_1) (q := 4) rfl (by decide) ?_
  refine gIand X0 hx (hb hby d1_4) (q := 5) rfl ?_
  refine gI2c X0 hx (hb hby d1_5) (q := 6) rfl ?_
  refine gIstore X0 hx (hb hby d1_6) (q := 8) rfl (L' := #[.val (.int x0), .val (.int x1), .val (.int x2), .val (.int x3), .val (.int ((x1 &&& (255 : Int32)).toUInt32.toUInt16.toUInt32.toInt32)), .unset, .unset]) rfl ?_
  refine gIloadN X0 hx (hb hby d1_8) (q := 9) rfl rfl ?_
  refine gSipush X0 hx (255 : Int32) (hb hby d1_9) (q := 12) rfl (by decide) ?_
  refine gIand X0 hx (hb hby d1_12) (q := 13) rfl ?_
  refine gI2c X0 hx (hb hby d1_13) (q := 14) rfl ?_
  refine gIstore X0 hx (hb hby d1_14) (q := 16) rfl (L' := #[.val (.int x0), .val (.int x1), .val (.int x2), .val (.int x3), .val (.int ((x1 &&& (255 : Int32)).toUInt32.toUInt16.toUInt32.toInt32)), .val (.int ((x2 &&& (255 : Int32)).toUInt32.toUInt16.toUInt32.toInt32)), .unset]) rfl ?_
  refine gIloadN X0 hx (hb hby d1_16) (q := 17) rfl rfl ?_
  refine gSipush X0 hx (255 : Int32) (hb hby d1_17) (q := 20) rfl (by decide) ?_
  refine gIand X0 hx (hb hby d1_20) (q := 21) rfl ?_
  refine gI2c X0 hx (hb hby d1_21) (q := 22) rfl ?_
  refine gIstore X0 hx (hb hby d1_22) (q := 24) rfl (L' := #[.val (.int x0), .val (.int x1), .val (.int x2), .val (.int x3), .val (.int ((x1 &&& (255 : Int32)).toUInt32.toUInt16.toUInt32.toInt32)), .val (.int ((x2 &&& (255 : Int32)).toUInt32.toUInt16.toUInt32.toInt32)), .val (.int ((x3 &&& (255 : Int32)).toUInt32.toUInt16.toUInt32.toInt32))]) rfl ?_
  have hy0 : ¬ (255 : Int32) < ((x1 &&& (255 : Int32)).toUInt32.toUInt16.toUInt32.toInt32) := own_ch _
  have ny0 : nar .char ((x1 &&& (255 : Int32)).toUInt32.toUInt16.toUInt32.toInt32) = ((x1 &&& (255 : Int32)).toUInt32.toUInt16.toUInt32.toInt32) := own_chn _
  generalize ((x1 &&& (255 : Int32)).toUInt32.toUInt16.toUInt32.toInt32) = y0 at hy0 ny0 ⊢
  have hy1 : ¬ (255 : Int32) < ((x2 &&& (255 : Int32)).toUInt32.toUInt16.toUInt32.toInt32) := own_ch _
  have ny1 : nar .char ((x2 &&& (255 : Int32)).toUInt32.toUInt16.toUInt32.toInt32) = ((x2 &&& (255 : Int32)).toUInt32.toUInt16.toUInt32.toInt32) := own_chn _
  generalize ((x2 &&& (255 : Int32)).toUInt32.toUInt16.toUInt32.toInt32) = y1 at hy1 ny1 ⊢
  have hy2 : ¬ (255 : Int32) < ((x3 &&& (255 : Int32)).toUInt32.toUInt16.toUInt32.toInt32) := own_ch _
  have ny2 : nar .char ((x3 &&& (255 : Int32)).toUInt32.toUInt16.toUInt32.toInt32) = ((x3 &&& (255 : Int32)).toUInt32.toUInt16.toUInt32.toInt32) := own_chn _
  generalize ((x3 &&& (255 : Int32)).toUInt32.toUInt16.toUInt32.toInt32) = y2 at hy2 ny2 ⊢
  refine gIloadN X0 hx (hb hby d1_24) (q := 25) rfl rfl ?_
  by_cases c1 : x0 = (0 : Int32)
  · refine gIfN X0 hx (hb hby d1_25) (q := 28) rfl (XT.i0_ne_f c1) ?_
    refine gNewO X0 hx hZ hown (hw _ (List.mem_of_getElem? (i := 4) rfl)) (hw _ (List.mem_of_getElem? (i := 5) rfl)) (hw _ (List.mem_of_getElem? (i := 6) rfl)) e0 (hb hby d1_28) (q := 31) rfl (by decide) (by decide) (fun T2 h2 a2 X2 e2 g2 E2 A2 D2 => ?_)
    have C3h := hC.trans (CHr.ext E2 hC.1)
    have kk4 := Nat.le_trans hkk E2.1
    have O5 := O0.ext E2
    have ge_a2 : h0.size ≤ a2 := by rw [g2]; exact (Keep.refl h0 []).1
    have K6 := (Keep.refl h0 []).ext E2
    have le_a2 : n0 ≤ a2 := by rw [g2]; exact Z0
    have Z7 := Nat.le_trans Z0 E2.1
    have F8 : Fld Z h2 a2 "java/lang/String" "coder" "B" (.int (0 : Int32)) := D2 (Or.inr (hw _ (List.mem_of_getElem? (i := 31) rfl))) (ty := .byte) (by decide)
    have F9 : Fld Z h2 a2 "java/lang/String" "value" "[B" (.null) := D2 (Or.inr (hw _ (List.mem_of_getElem? (i := 33) rfl))) (ty := .array (.byte)) (by decide)
    clear D2
    have sf10 : Safe Z consts_1 vm0 h2 a2 := own_safeS hZ.alike A2 F9
    refine gDup X2 hx (hb hby d1_31) (q := 32) rfl rfl ?_
    refine gIconst X2 hx (0 : Int32) (hb hby d1_32) (q := 33) rfl (by decide) ?_
    refine gNewP X2 hx hZ (hw _ (List.mem_of_getElem? (i := 7) rfl)) e2 (hb hby d1_33) (q := 35) rfl (by decide) (cap := 0) (by decide) (by decide) (by decide) (by decide) (fun T11 h11 a11 k11 X11 e11 g11 E11 A11 => ?_)
    have Y12 := Safe.ext E11 C3h.1 sf10
    have C13h := C3h.trans (CHr.ext E11 C3h.1)
    have kk14 := Nat.le_trans kk4 E11.1
    have E15 := Exa.ext E11 A2
    have F16 := Fld.ext E11 F8
    have F17 := Fld.ext E11 F9
    have O18 := O5.ext E11
    have ge_a11 : h0.size ≤ a11 := by rw [g11]; exact K6.1
    have K19 := K6.ext E11
    have le_a11 : n0 ≤ a11 := by rw [g11]; exact Z7
    have ne_a2_a11 : a2 ≠ a11 := by rw [g11]; exact Nat.ne_of_lt A2.lt
    have Z20 := Nat.le_trans Z7 E11.1
    have B11 : Ary Z h11 a11 k11 (.char) [] := A11
    refine gCallNS X11 hx hZ hS hEL rfl hown (hw _ (List.mem_of_getElem? (i := 8) rfl)) (hw _ (List.mem_of_getElem? (i := 9) rfl)) (hw _ (List.mem_of_getElem? (i := 6) rfl)) (hw _ (List.mem_of_getElem? (i := 10) rfl)) (by decide) (rmI1E l Z a0 hw [] hEL a2 a11 k11 h11 n0 Z20 F17 F16 E15 le_a2 B11) (W := 1) (by decide) (by decide) e11 kk14 C13h (by rw [hml]; rfl) [(.ref a11)] (lenOf pd4 rfl) rfl (S := [(.ref a2)]) rfl (Nat.le_of_eq rfl) (hb hby d1_35) (q := 38) rfl (by decide) (by decide) (fun r22 T22 M22 X22 q22 hS hZ hown C22c SF22c => ?_)
    have Y22_a2 := SF22c a2 E15.lt Y12
    obtain ⟨rfl, M22n, K22, sb21, kb21, P22e, P22c, P22v, P22a⟩ := q22
    have N23 := Fr.app N0 M22n
    have A24 := Ary.keep B11 K22 (ninS ne_a2_a11.symm nin0)
    have O25 := O18.keep K22 (allS le_a2 all0)
    have Z26 := Nat.le_trans Z20 K22.1
    have KK27 := K19.trans K22 (allS (Or.inr ge_a2) all0)
    dsimp only [Option.toList, List.cons_append, List.nil_append]
    exact gRetSA X22 hx hZ hS hEL hlk hret rfl rfl (hb hby d1_38) (by decide) (by decide) rfl (Nat.le_refl _) C22c (by exact ⟨_, _, _, rfl, N23, KK27, P22e, P22c, P22v, Or.inl ⟨c1, P22a⟩⟩)
  · refine gIfY X0 hx (hb hby d1_25) (q := 39) (by decide) (by decide) (XT.i0_ne_t c1) ?_
    refine gIloadN X0 hx (hb hby d1_39) (q := 40) rfl rfl ?_
    refine gIconst X0 hx (1 : Int32) (hb hby d1_40) (q := 41) rfl (by decide) ?_
    by_cases c28 : x0 = (1 : Int32)
    · refine gIcmpN X0 hx (hb hby d1_41) (q := 44) rfl (XT.ii_ne_f c28) ?_
      refine gNewO X0 hx hZ hown (hw _ (List.mem_of_getElem? (i := 4) rfl)) (hw _ (List.mem_of_getElem? (i := 5) rfl)) (hw _ (List.mem_of_getElem? (i := 6) rfl)) e0 (hb hby d1_44) (q := 47) rfl (by decide) (by decide) (fun T29 h29 a29 X29 e29 g29 E29 A29 D29 => ?_)
      have C30h := hC.trans (CHr.ext E29 hC.1)
      have kk31 := Nat.le_trans hkk E29.1
      have O32 := O0.ext E29
      have ge_a29 : h0.size ≤ a29 := by rw [g29]; exact (Keep.refl h0 []).1
      have K33 := (Keep.refl h0 []).ext E29
      have le_a29 : n0 ≤ a29 := by rw [g29]; exact Z0
      have Z34 := Nat.le_trans Z0 E29.1
      have F35 : Fld Z h29 a29 "java/lang/String" "coder" "B" (.int (0 : Int32)) := D29 (Or.inr (hw _ (List.mem_of_getElem? (i := 31) rfl))) (ty := .byte) (by decide)
      have F36 : Fld Z h29 a29 "java/lang/String" "value" "[B" (.null) := D29 (Or.inr (hw _ (List.mem_of_getElem? (i := 33) rfl))) (ty := .array (.byte)) (by decide)
      clear D29
      have sf37 : Safe Z consts_1 vm0 h29 a29 := own_safeS hZ.alike A29 F36
      refine gDup X29 hx (hb hby d1_47) (q := 48) rfl rfl ?_
      refine gIconst X29 hx (1 : Int32) (hb hby d1_48) (q := 49) rfl (by decide) ?_
      refine gNewP X29 hx hZ (hw _ (List.mem_of_getElem? (i := 7) rfl)) e29 (hb hby d1_49) (q := 51) rfl (by decide) (cap := 1) (by decide) (by decide) (by decide) (by decide) (fun T38 h38 a38 k38 X38 e38 g38 E38 A38 => ?_)
      have Y39 := Safe.ext E38 C30h.1 sf37
      have C40h := C30h.trans (CHr.ext E38 C30h.1)
      have kk41 := Nat.le_trans kk31 E38.1
      have E42 := Exa.ext E38 A29
      have F43 := Fld.ext E38 F35
      have F44 := Fld.ext E38 F36
      have O45 := O32.ext E38
      have ge_a38 : h0.size ≤ a38 := by rw [g38]; exact K33.1
      have K46 := K33.ext E38
      have le_a38 : n0 ≤ a38 := by rw [g38]; exact Z34
      have ne_a29_a38 : a29 ≠ a38 := by rw [g38]; exact Nat.ne_of_lt A29.lt
      have Z47 := Nat.le_trans Z34 E38.1
      have B38 : Ary Z h38 a38 k38 (.char) [(.int (0 : Int32))] := A38
      refine gDup X38 hx (hb hby d1_51) (q := 52) rfl rfl ?_
      refine gIconst X38 hx (0 : Int32) (hb hby d1_52) (q := 53) rfl (by decide) ?_
      refine gIload X38 hx (hb hby d1_53) (q := 55) rfl rfl ?_
      refine gCastore X38 hx hZ e38 B38 (hb hby d1_55) (q := 56) rfl (show ¬ (((0 : Int32) : Int32) < 0 ∨ 1 ≤ ((0 : Int32) : Int32).toNatClampNeg) by decide) (fun T48 h48 X48 e48 W48 A48 => ?_)
      have B48 : Ary Z h48 a38 k38 (.char) [(.int y0)] := (by have zA := A48; rw [show nar .char y0 = y0 from ny0] at zA; exact zA)
      have N49 := Fr.snoc X48 N0 le_a38
      have K50 := K46.wr W48 (Or.inr ge_a38)
      have SF51 : Safe Z consts_1 vm0 h38 a38 := (own_safeA (vm := vm0) hZ.alike B38 (by decide))
      have Y52 := Safe.wr W48 SF51 C40h.1 Y39
      have C53h := C40h.trans (CHr.wr W48 SF51 C40h.1)
      have kk54 := (by rw [W48.size]; exact kk41 : _ ≤ Array.size h48)
      have E55 := Exa.wr W48 E42
      have F56 := Fld.other W48 F43 (Or.inl ne_a29_a38)
      have F57 := Fld.other W48 F44 (Or.inl ne_a29_a38)
      have O59 := O45.wr W48 le_a38
      have Z60 : n0 ≤ h48.size := by rw [W48.size]; exact Z47
      refine gCallN X48 hx hZ rfl hown (hw _ (List.mem_of_getElem? (i := 8) rfl)) (hw _ (List.mem_of_getElem? (i := 9) rfl)) (hw _ (List.mem_of_getElem? (i := 6) rfl)) (hw _ (List.mem_of_getElem? (i := 10) rfl)) (by decide) (rmI1A l Z a0 hw [] a29 a38 k38 ic y0 h48 n0 Z60 F57 F56 E55 le_a29 B48 ne_a29_a38.symm SCs hic O59 hy0) (W := 1) (by decide) (by decide) e48 (by rw [hml]; rfl) [(.ref a38)] (lenOf pd4 rfl) rfl (S := [(.ref a29)]) rfl (Nat.le_of_eq rfl) (hb hby d1_56) (q := 59) rfl (by decide) (by decide) (fun r62 T62 M62 X62 q62 => ?_)
      obtain ⟨rfl, M62n, K62, P62e, P62c, sb61, kb61, P62v, P62a, gsb61⟩ := q62
      have N63 := Fr.app N49 M62n
      have lsb61 : n0 ≤ sb61 := Nat.le_trans Z60 gsb61
      have ne_a29_sb61 : a29 ≠ sb61 := Nat.ne_of_lt (Nat.lt_of_lt_of_le E55.lt gsb61)
      have ne_a38_sb61 : a38 ≠ sb61 := Nat.ne_of_lt (Nat.lt_of_lt_of_le B48.lt gsb61)
      have g0sb61 : h0.size ≤ sb61 := Nat.le_trans K50.1 gsb61
      have hs64 : ∀ x ∈ [a29], Safe Z consts_1 vm0 h48 x := (sfS Y52 sf0)
      have Y65 := Safe.keep K62 hs64 C53h.1 Y52
      have C66h := C53h.trans (CHr.keep K62 hs64 C53h.1)
      have kk67 := Nat.le_trans kk54 K62.1
      have A68 := Ary.keep B48 K62 (ninS ne_a29_a38.symm nin0)
      have O69 := O59.keep K62 (allS le_a29 all0)
      have Z70 := Nat.le_trans Z60 K62.1
      have KK71 := K50.trans K62 (allS (Or.inr ge_a29) all0)
      dsimp only [Option.toList, List.cons_append, List.nil_append]
      exact gRetSA X62 hx hZ hS hEL hlk hret rfl rfl (hb hby d1_59) (by decide) (by decide) rfl kk67 C66h (by exact ⟨_, _, _, rfl, N63, KK71, P62e, P62c, P62v, Or.inr (Or.inl ⟨c28, _, P62a⟩)⟩)
    · refine gIcmpY X0 hx (hb hby d1_41) (q := 60) (by decide) (by decide) (XT.ii_ne_t c28) ?_
      refine gIloadN X0 hx (hb hby d1_60) (q := 61) rfl rfl ?_
      refine gIconst X0 hx (2 : Int32) (hb hby d1_61) (q := 62) rfl (by decide) ?_
      by_cases c72 : x0 = (2 : Int32)
      · refine gIcmpN X0 hx (hb hby d1_62) (q := 65) rfl (XT.ii_ne_f c72) ?_
        refine gNewO X0 hx hZ hown (hw _ (List.mem_of_getElem? (i := 4) rfl)) (hw _ (List.mem_of_getElem? (i := 5) rfl)) (hw _ (List.mem_of_getElem? (i := 6) rfl)) e0 (hb hby d1_65) (q := 68) rfl (by decide) (by decide) (fun T73 h73 a73 X73 e73 g73 E73 A73 D73 => ?_)
        have C74h := hC.trans (CHr.ext E73 hC.1)
        have kk75 := Nat.le_trans hkk E73.1
        have O76 := O0.ext E73
        have ge_a73 : h0.size ≤ a73 := by rw [g73]; exact (Keep.refl h0 []).1
        have K77 := (Keep.refl h0 []).ext E73
        have le_a73 : n0 ≤ a73 := by rw [g73]; exact Z0
        have Z78 := Nat.le_trans Z0 E73.1
        have F79 : Fld Z h73 a73 "java/lang/String" "coder" "B" (.int (0 : Int32)) := D73 (Or.inr (hw _ (List.mem_of_getElem? (i := 31) rfl))) (ty := .byte) (by decide)
        have F80 : Fld Z h73 a73 "java/lang/String" "value" "[B" (.null) := D73 (Or.inr (hw _ (List.mem_of_getElem? (i := 33) rfl))) (ty := .array (.byte)) (by decide)
        clear D73
        have sf81 : Safe Z consts_1 vm0 h73 a73 := own_safeS hZ.alike A73 F80
        refine gDup X73 hx (hb hby d1_68) (q := 69) rfl rfl ?_
        refine gIconst X73 hx (2 : Int32) (hb hby d1_69) (q := 70) rfl (by decide) ?_
        refine gNewP X73 hx hZ (hw _ (List.mem_of_getElem? (i := 7) rfl)) e73 (hb hby d1_70) (q := 72) rfl (by decide) (cap := 2) (by decide) (by decide) (by decide) (by decide) (fun T82 h82 a82 k82 X82 e82 g82 E82 A82 => ?_)
        have Y83 := Safe.ext E82 C74h.1 sf81
        have C84h := C74h.trans (CHr.ext E82 C74h.1)
        have kk85 := Nat.le_trans kk75 E82.1
        have E86 := Exa.ext E82 A73
        have F87 := Fld.ext E82 F79
        have F88 := Fld.ext E82 F80
        have O89 := O76.ext E82
        have ge_a82 : h0.size ≤ a82 := by rw [g82]; exact K77.1
        have K90 := K77.ext E82
        have le_a82 : n0 ≤ a82 := by rw [g82]; exact Z78
        have ne_a73_a82 : a73 ≠ a82 := by rw [g82]; exact Nat.ne_of_lt A73.lt
        have Z91 := Nat.le_trans Z78 E82.1
        have B82 : Ary Z h82 a82 k82 (.char) [(.int (0 : Int32)), (.int (0 : Int32))] := A82
        refine gDup X82 hx (hb hby d1_72) (q := 73) rfl rfl ?_
        refine gIconst X82 hx (0 : Int32) (hb hby d1_73) (q := 74) rfl (by decide) ?_
        refine gIload X82 hx (hb hby d1_74) (q := 76) rfl rfl ?_
        refine gCastore X82 hx hZ e82 B82 (hb hby d1_76) (q := 77) rfl (show ¬ (((0 : Int32) : Int32) < 0 ∨ 2 ≤ ((0 : Int32) : Int32).toNatClampNeg) by decide) (fun T92 h92 X92 e92 W92 A92 => ?_)
        have B92 : Ary Z h92 a82 k82 (.char) [(.int y0), (.int (0 : Int32))] := (by have zA := A92; rw [show nar .char y0 = y0 from ny0] at zA; exact zA)
        have N93 := Fr.snoc X92 N0 le_a82
        have K94 := K90.wr W92 (Or.inr ge_a82)
        have SF95 : Safe Z consts_1 vm0 h82 a82 := (own_safeA (vm := vm0) hZ.alike B82 (by decide))
        have Y96 := Safe.wr W92 SF95 C84h.1 Y83
        have C97h := C84h.trans (CHr.wr W92 SF95 C84h.1)
        have kk98 := (by rw [W92.size]; exact kk85 : _ ≤ Array.size h92)
        have E99 := Exa.wr W92 E86
        have F100 := Fld.other W92 F87 (Or.inl ne_a73_a82)
        have F101 := Fld.other W92 F88 (Or.inl ne_a73_a82)
        have O103 := O89.wr W92 le_a82
        have Z104 : n0 ≤ h92.size := by rw [W92.size]; exact Z91
        refine gDup X92 hx (hb hby d1_77) (q := 78) rfl rfl ?_
        refine gIconst X92 hx (1 : Int32) (hb hby d1_78) (q := 79) rfl (by decide) ?_
        refine gIload X92 hx (hb hby d1_79) (q := 81) rfl rfl ?_
        refine gCastore X92 hx hZ e92 B92 (hb hby d1_81) (q := 82) rfl (show ¬ (((1 : Int32) : Int32) < 0 ∨ 2 ≤ ((1 : Int32) : Int32).toNatClampNeg) by decide) (fun T105 h105 X105 e105 W105 A105 => ?_)
        have B105 : Ary Z h105 a82 k82 (.char) [(.int y0), (.int y1)] := (by have zA := A105; rw [show nar .char y1 = y1 from ny1] at zA; exact zA)
        have N106 := Fr.snoc X105 N93 le_a82
        have K107 := K94.wr W105 (Or.inr ge_a82)
        have SF108 : Safe Z consts_1 vm0 h92 a82 := (own_safeA (vm := vm0) hZ.alike B92 (by decide))
        have Y109 := Safe.wr W105 SF108 C97h.1 Y96
        have C110h := C97h.trans (CHr.wr W105 SF108 C97h.1)
        have kk111 := (by rw [W105.size]; exact kk98 : _ ≤ Array.size h105)
        have E112 := Exa.wr W105 E99
        have F113 := Fld.other W105 F100 (Or.inl ne_a73_a82)
        have F114 := Fld.other W105 F101 (Or.inl ne_a73_a82)
        have O116 := O103.wr W105 le_a82
        have Z117 : n0 ≤ h105.size := by rw [W105.size]; exact Z104
        refine gCallN X105 hx hZ rfl hown (hw _ (List.mem_of_getElem? (i := 8) rfl)) (hw _ (List.mem_of_getElem? (i := 9) rfl)) (hw _ (List.mem_of_getElem? (i := 6) rfl)) (hw _ (List.mem_of_getElem? (i := 10) rfl)) (by decide) (rmI1B l Z a0 hw [] a73 a82 k82 ic y0 y1 h105 n0 Z117 F114 F113 E112 le_a73 B105 ne_a73_a82.symm SCs hic O116 hy0 hy1) (W := 1) (by decide) (by decide) e105 (by rw [hml]; rfl) [(.ref a82)] (lenOf pd4 rfl) rfl (S := [(.ref a73)]) rfl (Nat.le_of_eq rfl) (hb hby d1_82) (q := 85) rfl (by decide) (by decide) (fun r119 T119 M119 X119 q119 => ?_)
        obtain ⟨rfl, M119n, K119, P119e, P119c, sb118, kb118, P119v, P119a, gsb118⟩ := q119
        have N120 := Fr.app N106 M119n
        have lsb118 : n0 ≤ sb118 := Nat.le_trans Z117 gsb118
        have ne_a73_sb118 : a73 ≠ sb118 := Nat.ne_of_lt (Nat.lt_of_lt_of_le E112.lt gsb118)
        have ne_a82_sb118 : a82 ≠ sb118 := Nat.ne_of_lt (Nat.lt_of_lt_of_le B105.lt gsb118)
        have g0sb118 : h0.size ≤ sb118 := Nat.le_trans K107.1 gsb118
        have hs121 : ∀ x ∈ [a73], Safe Z consts_1 vm0 h105 x := (sfS Y109 sf0)
        have Y122 := Safe.keep K119 hs121 C110h.1 Y109
        have C123h := C110h.trans (CHr.keep K119 hs121 C110h.1)
        have kk124 := Nat.le_trans kk111 K119.1
        have A125 := Ary.keep B105 K119 (ninS ne_a73_a82.symm nin0)
        have O126 := O116.keep K119 (allS le_a73 all0)
        have Z127 := Nat.le_trans Z117 K119.1
        have KK128 := K107.trans K119 (allS (Or.inr ge_a73) all0)
        dsimp only [Option.toList, List.cons_append, List.nil_append]
        exact gRetSA X119 hx hZ hS hEL hlk hret rfl rfl (hb hby d1_85) (by decide) (by decide) rfl kk124 C123h (by exact ⟨_, _, _, rfl, N120, KK128, P119e, P119c, P119v, Or.inr (Or.inr (Or.inl ⟨c72, _, _, P119a⟩))⟩)
      · refine gIcmpY X0 hx (hb hby d1_62) (q := 86) (by decide) (by decide) (XT.ii_ne_t c72) ?_
        refine gNewO X0 hx hZ hown (hw _ (List.mem_of_getElem? (i := 4) rfl)) (hw _ (List.mem_of_getElem? (i := 5) rfl)) (hw _ (List.mem_of_getElem? (i := 6) rfl)) e0 (hb hby d1_86) (q := 89) rfl (by decide) (by decide) (fun T129 h129 a129 X129 e129 g129 E129 A129 D129 => ?_)
        have C130h := hC.trans (CHr.ext E129 hC.1)
        have kk131 := Nat.le_trans hkk E129.1
        have O132 := O0.ext E129
        have ge_a129 : h0.size ≤ a129 := by rw [g129]; exact (Keep.refl h0 []).1
        have K133 := (Keep.refl h0 []).ext E129
        have le_a129 : n0 ≤ a129 := by rw [g129]; exact Z0
        have Z134 := Nat.le_trans Z0 E129.1
        have F135 : Fld Z h129 a129 "java/lang/String" "coder" "B" (.int (0 : Int32)) := D129 (Or.inr (hw _ (List.mem_of_getElem? (i := 31) rfl))) (ty := .byte) (by decide)
        have F136 : Fld Z h129 a129 "java/lang/String" "value" "[B" (.null) := D129 (Or.inr (hw _ (List.mem_of_getElem? (i := 33) rfl))) (ty := .array (.byte)) (by decide)
        clear D129
        have sf137 : Safe Z consts_1 vm0 h129 a129 := own_safeS hZ.alike A129 F136
        refine gDup X129 hx (hb hby d1_89) (q := 90) rfl rfl ?_
        refine gIconst X129 hx (3 : Int32) (hb hby d1_90) (q := 91) rfl (by decide) ?_
        refine gNewP X129 hx hZ (hw _ (List.mem_of_getElem? (i := 7) rfl)) e129 (hb hby d1_91) (q := 93) rfl (by decide) (cap := 3) (by decide) (by decide) (by decide) (by decide) (fun T138 h138 a138 k138 X138 e138 g138 E138 A138 => ?_)
        have Y139 := Safe.ext E138 C130h.1 sf137
        have C140h := C130h.trans (CHr.ext E138 C130h.1)
        have kk141 := Nat.le_trans kk131 E138.1
        have E142 := Exa.ext E138 A129
        have F143 := Fld.ext E138 F135
        have F144 := Fld.ext E138 F136
        have O145 := O132.ext E138
        have ge_a138 : h0.size ≤ a138 := by rw [g138]; exact K133.1
        have K146 := K133.ext E138
        have le_a138 : n0 ≤ a138 := by rw [g138]; exact Z134
        have ne_a129_a138 : a129 ≠ a138 := by rw [g138]; exact Nat.ne_of_lt A129.lt
        have Z147 := Nat.le_trans Z134 E138.1
        have B138 : Ary Z h138 a138 k138 (.char) [(.int (0 : Int32)), (.int (0 : Int32)), (.int (0 : Int32))] := A138
        refine gDup X138 hx (hb hby d1_93) (q := 94) rfl rfl ?_
        refine gIconst X138 hx (0 : Int32) (hb hby d1_94) (q := 95) rfl (by decide) ?_
        refine gIload X138 hx (hb hby d1_95) (q := 97) rfl rfl ?_
        refine gCastore X138 hx hZ e138 B138 (hb hby d1_97) (q := 98) rfl (show ¬ (((0 : Int32) : Int32) < 0 ∨ 3 ≤ ((0 : Int32) : Int32).toNatClampNeg) by decide) (fun T148 h148 X148 e148 W148 A148 => ?_)
        have B148 : Ary Z h148 a138 k138 (.char) [(.int y0), (.int (0 : Int32)), (.int (0 : Int32))] := (by have zA := A148; rw [show nar .char y0 = y0 from ny0] at zA; exact zA)
        have N149 := Fr.snoc X148 N0 le_a138
        have K150 := K146.wr W148 (Or.inr ge_a138)
        have SF151 : Safe Z consts_1 vm0 h138 a138 := (own_safeA (vm := vm0) hZ.alike B138 (by decide))
        have Y152 := Safe.wr W148 SF151 C140h.1 Y139
        have C153h := C140h.trans (CHr.wr W148 SF151 C140h.1)
        have kk154 := (by rw [W148.size]; exact kk141 : _ ≤ Array.size h148)
        have E155 := Exa.wr W148 E142
        have F156 := Fld.other W148 F143 (Or.inl ne_a129_a138)
        have F157 := Fld.other W148 F144 (Or.inl ne_a129_a138)
        have O159 := O145.wr W148 le_a138
        have Z160 : n0 ≤ h148.size := by rw [W148.size]; exact Z147
        refine gDup X148 hx (hb hby d1_98) (q := 99) rfl rfl ?_
        refine gIconst X148 hx (1 : Int32) (hb hby d1_99) (q := 100) rfl (by decide) ?_
        refine gIload X148 hx (hb hby d1_100) (q := 102) rfl rfl ?_
        refine gCastore X148 hx hZ e148 B148 (hb hby d1_102) (q := 103) rfl (show ¬ (((1 : Int32) : Int32) < 0 ∨ 3 ≤ ((1 : Int32) : Int32).toNatClampNeg) by decide) (fun T161 h161 X161 e161 W161 A161 => ?_)
        have B161 : Ary Z h161 a138 k138 (.char) [(.int y0), (.int y1), (.int (0 : Int32))] := (by have zA := A161; rw [show nar .char y1 = y1 from ny1] at zA; exact zA)
        have N162 := Fr.snoc X161 N149 le_a138
        have K163 := K150.wr W161 (Or.inr ge_a138)
        have SF164 : Safe Z consts_1 vm0 h148 a138 := (own_safeA (vm := vm0) hZ.alike B148 (by decide))
        have Y165 := Safe.wr W161 SF164 C153h.1 Y152
        have C166h := C153h.trans (CHr.wr W161 SF164 C153h.1)
        have kk167 := (by rw [W161.size]; exact kk154 : _ ≤ Array.size h161)
        have E168 := Exa.wr W161 E155
        have F169 := Fld.other W161 F156 (Or.inl ne_a129_a138)
        have F170 := Fld.other W161 F157 (Or.inl ne_a129_a138)
        have O172 := O159.wr W161 le_a138
        have Z173 : n0 ≤ h161.size := by rw [W161.size]; exact Z160
        refine gDup X161 hx (hb hby d1_103) (q := 104) rfl rfl ?_
        refine gIconst X161 hx (2 : Int32) (hb hby d1_104) (q := 105) rfl (by decide) ?_
        refine gIload X161 hx (hb hby d1_105) (q := 107) rfl rfl ?_
        refine gCastore X161 hx hZ e161 B161 (hb hby d1_107) (q := 108) rfl (show ¬ (((2 : Int32) : Int32) < 0 ∨ 3 ≤ ((2 : Int32) : Int32).toNatClampNeg) by decide) (fun T174 h174 X174 e174 W174 A174 => ?_)
        have B174 : Ary Z h174 a138 k138 (.char) [(.int y0), (.int y1), (.int y2)] := (by have zA := A174; rw [show nar .char y2 = y2 from ny2] at zA; exact zA)
        have N175 := Fr.snoc X174 N162 le_a138
        have K176 := K163.wr W174 (Or.inr ge_a138)
        have SF177 : Safe Z consts_1 vm0 h161 a138 := (own_safeA (vm := vm0) hZ.alike B161 (by decide))
        have Y178 := Safe.wr W174 SF177 C166h.1 Y165
        have C179h := C166h.trans (CHr.wr W174 SF177 C166h.1)
        have kk180 := (by rw [W174.size]; exact kk167 : _ ≤ Array.size h174)
        have E181 := Exa.wr W174 E168
        have F182 := Fld.other W174 F169 (Or.inl ne_a129_a138)
        have F183 := Fld.other W174 F170 (Or.inl ne_a129_a138)
        have O185 := O172.wr W174 le_a138
        have Z186 : n0 ≤ h174.size := by rw [W174.size]; exact Z173
        refine gCallN X174 hx hZ rfl hown (hw _ (List.mem_of_getElem? (i := 8) rfl)) (hw _ (List.mem_of_getElem? (i := 9) rfl)) (hw _ (List.mem_of_getElem? (i := 6) rfl)) (hw _ (List.mem_of_getElem? (i := 10) rfl)) (by decide) (rmI1C l Z a0 hw [] a129 a138 k138 ic y0 y1 y2 h174 n0 Z186 F183 F182 E181 le_a129 B174 ne_a129_a138.symm SCs hic O185 hy0 hy1 hy2) (W := 1) (by decide) (by decide) e174 (by rw [hml]; rfl) [(.ref a138)] (lenOf pd4 rfl) rfl (S := [(.ref a129)]) rfl (Nat.le_of_eq rfl) (hb hby d1_108) (q := 111) rfl (by decide) (by decide) (fun r188 T188 M188 X188 q188 => ?_)
        obtain ⟨rfl, M188n, K188, P188e, P188c, sb187, kb187, P188v, P188a, gsb187⟩ := q188
        have N189 := Fr.app N175 M188n
        have lsb187 : n0 ≤ sb187 := Nat.le_trans Z186 gsb187
        have ne_a129_sb187 : a129 ≠ sb187 := Nat.ne_of_lt (Nat.lt_of_lt_of_le E181.lt gsb187)
        have ne_a138_sb187 : a138 ≠ sb187 := Nat.ne_of_lt (Nat.lt_of_lt_of_le B174.lt gsb187)
        have g0sb187 : h0.size ≤ sb187 := Nat.le_trans K176.1 gsb187
        have hs190 : ∀ x ∈ [a129], Safe Z consts_1 vm0 h174 x := (sfS Y178 sf0)
        have Y191 := Safe.keep K188 hs190 C179h.1 Y178
        have C192h := C179h.trans (CHr.keep K188 hs190 C179h.1)
        have kk193 := Nat.le_trans kk180 K188.1
        have A194 := Ary.keep B174 K188 (ninS ne_a129_a138.symm nin0)
        have O195 := O185.keep K188 (allS le_a129 all0)
        have Z196 := Nat.le_trans Z186 K188.1
        have KK197 := K176.trans K188 (allS (Or.inr ge_a129) all0)
        dsimp only [Option.toList, List.cons_append, List.nil_append]
        exact gRetSA X188 hx hZ hS hEL hlk hret rfl rfl (hb hby d1_111) (by decide) (by decide) rfl kk193 C192h (by exact ⟨_, _, _, rfl, N189, KK197, P188e, P188c, P188v, Or.inr (Or.inr (Or.inr ⟨⟨c1, c28, c72⟩, _, _, _, P188a⟩))⟩)
theorem d11_0 : decode jdk_42_method_152_code 0 = .ok (.getstatic 38, 3) := by decide +kernel
theorem d11_3 : decode jdk_42_method_152_code 3 = .ok (.ifCond .eq 10, 3) := by decide +kernel
theorem d11_6 : decode jdk_42_method_152_code 6 = .ok (.aload_n 0, 1) := by decide +kernel
theorem d11_7 : decode jdk_42_method_152_code 7 = .ok (.getfield 15, 3) := by decide +kernel
theorem d11_10 : decode jdk_42_method_152_code 10 = .ok (.goto 4, 3) := by decide +kernel
theorem d11_13 : decode jdk_42_method_152_code 13 = .ok (.iconst 1, 1) := by decide +kernel
theorem d11_14 : decode jdk_42_method_152_code 14 = .ok (.ireturn, 1) := by decide +kernel
theorem ef19 (m : MethodId) (x0 : Addr) : entryFrame m #[(.ref x0)] 1 = mkF m 0 #[.val (.ref x0)] [] := by first | (simp [entryFrame, mkF, argsToLocals, Value.category]; done) | rfl
def Q_rmCo (Z : State) (a : Addr) (ic : Int32) (h0 : Heap) (n0 : Nat) (v : Option Value) (h : Heap) (L : List Loc) : Prop := v = some (.int (0 : Int32)) ∧ Fr n0 L ∧ h = h0
set_option maxRecDepth 65536 in
set_option maxHeartbeats 40000000 in
theorem rmCo (l : Launch) (Z : State) (a0 : Array Value) (hw : ∀ d ∈ tables_1, d.before a0 Z = true) (ws : List Jvm.Cond) (a : Addr) (ic : Int32) (h0 : Heap) (n0 : Nat) (Z0 : n0 ≤ h0.size) (pC : Fld Z h0 a "java/lang/String" "coder" "B" (.int (0 : Int32))) (SCs : Sta Z Z.heap "java/lang/String" "COMPACT_STRINGS" "Z" (.int ic)) (hic : ¬ ic = (0 : Int32)) (O0 : Old Z n0 h0) :
    Con l Z (⟨"java/lang/String", "coder", "()B"⟩ : MethodName) jdk_42_method_152_code 1 (some (.byte)) ws ({ frames := 0, cells := 0, slots := 0, locals := 0 } : Room) #[(.ref a)] h0 (({ frames := 0, cells := 0, slots := 0, locals := 0 } : Room).cells) (({ frames := 0, cells := 0, slots := 0, locals := 0 } : Room).slots) (Q_rmCo Z a ic h0 n0) := by
  refine Con.of (plainFor_of_name pn1) ?_
  intro p e s m below meth c s₁ hx hby hml hown hnm hret hlk hZ X0 e0
  have N0 := Fr.nil n0
  refine goE (L := #[.val (.ref a)]) (ef19 m a) ?_
  refine gGetS X0 hx hZ hown (hw _ (List.mem_of_getElem? (i := 18) rfl)) Via.refl e0 (Sta.ext O0.2 SCs) (hb hby d11_0) (q := 3) rfl (fun T1 X1 e1 => ?_)
  refine gIfN X1 hx (hb hby d11_3) (q := 6) rfl (XT.i0_eq_f hic) ?_
  refine gAloadN X1 hx (hb hby d11_6) (q := 7) rfl rfl rfl ?_
  refine gGetF X1 hx hZ (host := "") hown (Or.inl (hw _ (List.mem_of_getElem? (i := 30) rfl))) Via.refl e1 pC (hb hby d11_7) (q := 10) rfl (fun T2 X2 e2 => ?_)
  refine gGoto X2 hx (hb hby d11_10) (q := 14) (by decide) (by decide) ?_
  exact gRetB X2 hx hlk hret (hb hby d11_14) (by decide) (by decide) rfl ⟨rfl, N0, e2⟩
theorem d10_0 : decode jdk_42_method_54_code 0 = .ok (.aload_n 0, 1) := by decide +kernel
theorem d10_1 : decode jdk_42_method_54_code 1 = .ok (.getfield 9, 3) := by decide +kernel
theorem d10_4 : decode jdk_42_method_54_code 4 = .ok (.arraylength, 1) := by decide +kernel
theorem d10_5 : decode jdk_42_method_54_code 5 = .ok (.aload_n 0, 1) := by decide +kernel
theorem d10_6 : decode jdk_42_method_54_code 6 = .ok (.invokevirtual 335, 3) := by decide +kernel
theorem d10_9 : decode jdk_42_method_54_code 9 = .ok (.ishr, 1) := by decide +kernel
theorem d10_10 : decode jdk_42_method_54_code 10 = .ok (.ireturn, 1) := by decide +kernel
theorem ef20 (m : MethodId) (x0 : Addr) : entryFrame m #[(.ref x0)] 1 = mkF m 0 #[.val (.ref x0)] [] := by first | (simp [entryFrame, mkF, argsToLocals, Value.category]; done) | rfl
def Q_rmLn0 (Z : State) (a : Addr) (b : Addr) (kb : ClassId) (ic : Int32) (h0 : Heap) (n0 : Nat) (v : Option Value) (h : Heap) (L : List Loc) : Prop := v = some (.int (0 : Int32)) ∧ Fr n0 L ∧ h = h0
theorem pd5 : parseMethodDescriptor "()B" = some ⟨[], some (.byte)⟩ := by decide +kernel
set_option maxRecDepth 65536 in
set_option maxHeartbeats 40000000 in
theorem rmLn0 (l : Launch) (Z : State) (a0 : Array Value) (hw : ∀ d ∈ tables_1, d.before a0 Z = true) (ws : List Jvm.Cond) (a : Addr) (b : Addr) (kb : ClassId) (ic : Int32) (h0 : Heap) (n0 : Nat) (Z0 : n0 ≤ h0.size) (pV : Fld Z h0 a "java/lang/String" "value" "[B" (.ref b)) (pC : Fld Z h0 a "java/lang/String" "coder" "B" (.int (0 : Int32))) (pE : Exa Z h0 a "java/lang/String") (pA : Ary Z h0 b kb .byte []) (SCs : Sta Z Z.heap "java/lang/String" "COMPACT_STRINGS" "Z" (.int ic)) (hic : ¬ ic = (0 : Int32)) (O0 : Old Z n0 h0) :
    Con l Z (⟨"java/lang/String", "length", "()I"⟩ : MethodName) jdk_42_method_54_code 1 (some (.int)) ws ({ frames := 1, cells := 0, slots := 0, locals := 16 } : Room) #[(.ref a)] h0 (({ frames := 1, cells := 0, slots := 0, locals := 16 } : Room).cells) (({ frames := 1, cells := 0, slots := 0, locals := 16 } : Room).slots) (Q_rmLn0 Z a b kb ic h0 n0) := by
  refine Con.of (plainFor_of_name pn1) ?_
  intro p e s m below meth c s₁ hx hby hml hown hnm hret hlk hZ X0 e0
  have N0 := Fr.nil n0
  refine goE (L := #[.val (.ref a)]) (ef20 m a) ?_
  refine gAloadN X0 hx (hb hby d10_0) (q := 1) rfl rfl rfl ?_
  refine gGetF X0 hx hZ (host := "") hown (Or.inl (hw _ (List.mem_of_getElem? (i := 32) rfl))) Via.refl e0 pV (hb hby d10_1) (q := 4) rfl (fun T1 X1 e1 => ?_)
  refine gLen X1 hx hZ e1 pA (n := (0 : Int32)) rfl (hb hby d10_4) (q := 5) rfl ?_
  refine gAloadN X1 hx (hb hby d10_5) (q := 6) rfl rfl rfl ?_
  refine gCallV X1 hx hZ hown (hw _ (List.mem_of_getElem? (i := 59) rfl)) (hw _ (List.mem_of_getElem? (i := 60) rfl)) (hw _ (List.mem_of_getElem? (i := 62) rfl)) (hw _ (List.mem_of_getElem? (i := 61) rfl)) (hw _ (List.mem_of_getElem? (i := 6) rfl)) (hw _ (List.mem_of_getElem? (i := 63) rfl)) (notFace_of_selects (args := #[]) (mvT hZ (hw _ (List.mem_of_getElem? (i := 62) rfl)))) (by decide) (rmCo l Z a0 hw [] a ic h0 n0 Z0 pC SCs hic O0) (W := 1) (by decide) (by decide) e1 (by rw [hml]; rfl) pE [] (lenOf pd5 rfl) rfl (S := [(.int (0 : Int32))]) rfl (Nat.le_of_eq rfl) (hb hby d10_6) (q := 9) rfl (by decide) (by decide) (fun r2 T2 M2 X2 q2 => ?_)
  obtain ⟨rfl, M2n, e2⟩ := q2
  have N3 := Fr.app N0 M2n
  dsimp only [Option.toList, List.cons_append, List.nil_append]
  refine gIshr X2 hx (hb hby d10_9) (q := 10) rfl ?_
  exact gRetI X2 hx hlk hret (hb hby d10_10) (by decide) (by decide) ⟨rfl, N3, e2⟩
theorem ef21 (m : MethodId) (x0 : Addr) : entryFrame m #[(.ref x0)] 1 = mkF m 0 #[.val (.ref x0)] [] := by first | (simp [entryFrame, mkF, argsToLocals, Value.category]; done) | rfl
def Q_rmLn1 (Z : State) (a : Addr) (b : Addr) (kb : ClassId) (z0 : Int32) (ic : Int32) (h0 : Heap) (n0 : Nat) (v : Option Value) (h : Heap) (L : List Loc) : Prop := v = some (.int (1 : Int32)) ∧ Fr n0 L ∧ h = h0
set_option maxRecDepth 65536 in
set_option maxHeartbeats 40000000 in
theorem rmLn1 (l : Launch) (Z : State) (a0 : Array Value) (hw : ∀ d ∈ tables_1, d.before a0 Z = true) (ws : List Jvm.Cond) (a : Addr) (b : Addr) (kb : ClassId) (z0 : Int32) (ic : Int32) (h0 : Heap) (n0 : Nat) (Z0 : n0 ≤ h0.size) (pV : Fld Z h0 a "java/lang/String" "value" "[B" (.ref b)) (pC : Fld Z h0 a "java/lang/String" "coder" "B" (.int (0 : Int32))) (pE : Exa Z h0 a "java/lang/String") (pA : Ary Z h0 b kb .byte [(.int z0)]) (SCs : Sta Z Z.heap "java/lang/String" "COMPACT_STRINGS" "Z" (.int ic)) (hic : ¬ ic = (0 : Int32)) (O0 : Old Z n0 h0) :
    Con l Z (⟨"java/lang/String", "length", "()I"⟩ : MethodName) jdk_42_method_54_code 1 (some (.int)) ws ({ frames := 1, cells := 0, slots := 0, locals := 16 } : Room) #[(.ref a)] h0 (({ frames := 1, cells := 0, slots := 0, locals := 16 } : Room).cells) (({ frames := 1, cells := 0, slots := 0, locals := 16 } : Room).slots) (Q_rmLn1 Z a b kb z0 ic h0 n0) := by
  refine Con.of (plainFor_of_name pn1) ?_
  intro p e s m below meth c s₁ hx hby hml hown hnm hret hlk hZ X0 e0
  have N0 := Fr.nil n0
  refine goE (L := #[.val (.ref a)]) (ef21 m a) ?_
  refine gAloadN X0 hx (hb hby d10_0) (q := 1) rfl rfl rfl ?_
  refine gGetF X0 hx hZ (host := "") hown (Or.inl (hw _ (List.mem_of_getElem? (i := 32) rfl))) Via.refl e0 pV (hb hby d10_1) (q := 4) rfl (fun T1 X1 e1 => ?_)
  refine gLen X1 hx hZ e1 pA (n := (1 : Int32)) rfl (hb hby d10_4) (q := 5) rfl ?_
  refine gAloadN X1 hx (hb hby d10_5) (q := 6) rfl rfl rfl ?_
  refine gCallV X1 hx hZ hown (hw _ (List.mem_of_getElem? (i := 59) rfl)) (hw _ (List.mem_of_getElem? (i := 60) rfl)) (hw _ (List.mem_of_getElem? (i := 62) rfl)) (hw _ (List.mem_of_getElem? (i := 61) rfl)) (hw _ (List.mem_of_getElem? (i := 6) rfl)) (hw _ (List.mem_of_getElem? (i := 63) rfl)) (notFace_of_selects (args := #[]) (mvT hZ (hw _ (List.mem_of_getElem? (i := 62) rfl)))) (by decide) (rmCo l Z a0 hw [] a ic h0 n0 Z0 pC SCs hic O0) (W := 1) (by decide) (by decide) e1 (by rw [hml]; rfl) pE [] (lenOf pd5 rfl) rfl (S := [(.int (1 : Int32))]) rfl (Nat.le_of_eq rfl) (hb hby d10_6) (q := 9) rfl (by decide) (by decide) (fun r2 T2 M2 X2 q2 => ?_)
  obtain ⟨rfl, M2n, e2⟩ := q2
  have N3 := Fr.app N0 M2n
  dsimp only [Option.toList, List.cons_append, List.nil_append]
  refine gIshr X2 hx (hb hby d10_9) (q := 10) rfl ?_
  exact gRetI X2 hx hlk hret (hb hby d10_10) (by decide) (by decide) ⟨rfl, N3, e2⟩
theorem ef22 (m : MethodId) (x0 : Addr) : entryFrame m #[(.ref x0)] 1 = mkF m 0 #[.val (.ref x0)] [] := by first | (simp [entryFrame, mkF, argsToLocals, Value.category]; done) | rfl
def Q_rmLn2 (Z : State) (a : Addr) (b : Addr) (kb : ClassId) (z0 : Int32) (z1 : Int32) (ic : Int32) (h0 : Heap) (n0 : Nat) (v : Option Value) (h : Heap) (L : List Loc) : Prop := v = some (.int (2 : Int32)) ∧ Fr n0 L ∧ h = h0
set_option maxRecDepth 65536 in
set_option maxHeartbeats 40000000 in
theorem rmLn2 (l : Launch) (Z : State) (a0 : Array Value) (hw : ∀ d ∈ tables_1, d.before a0 Z = true) (ws : List Jvm.Cond) (a : Addr) (b : Addr) (kb : ClassId) (z0 : Int32) (z1 : Int32) (ic : Int32) (h0 : Heap) (n0 : Nat) (Z0 : n0 ≤ h0.size) (pV : Fld Z h0 a "java/lang/String" "value" "[B" (.ref b)) (pC : Fld Z h0 a "java/lang/String" "coder" "B" (.int (0 : Int32))) (pE : Exa Z h0 a "java/lang/String") (pA : Ary Z h0 b kb .byte [(.int z0), (.int z1)]) (SCs : Sta Z Z.heap "java/lang/String" "COMPACT_STRINGS" "Z" (.int ic)) (hic : ¬ ic = (0 : Int32)) (O0 : Old Z n0 h0) :
    Con l Z (⟨"java/lang/String", "length", "()I"⟩ : MethodName) jdk_42_method_54_code 1 (some (.int)) ws ({ frames := 1, cells := 0, slots := 0, locals := 16 } : Room) #[(.ref a)] h0 (({ frames := 1, cells := 0, slots := 0, locals := 16 } : Room).cells) (({ frames := 1, cells := 0, slots := 0, locals := 16 } : Room).slots) (Q_rmLn2 Z a b kb z0 z1 ic h0 n0) := by
  refine Con.of (plainFor_of_name pn1) ?_
  intro p e s m below meth c s₁ hx hby hml hown hnm hret hlk hZ X0 e0
  have N0 := Fr.nil n0
  refine goE (L := #[.val (.ref a)]) (ef22 m a) ?_
  refine gAloadN X0 hx (hb hby d10_0) (q := 1) rfl rfl rfl ?_
  refine gGetF X0 hx hZ (host := "") hown (Or.inl (hw _ (List.mem_of_getElem? (i := 32) rfl))) Via.refl e0 pV (hb hby d10_1) (q := 4) rfl (fun T1 X1 e1 => ?_)
  refine gLen X1 hx hZ e1 pA (n := (2 : Int32)) rfl (hb hby d10_4) (q := 5) rfl ?_
  refine gAloadN X1 hx (hb hby d10_5) (q := 6) rfl rfl rfl ?_
  refine gCallV X1 hx hZ hown (hw _ (List.mem_of_getElem? (i := 59) rfl)) (hw _ (List.mem_of_getElem? (i := 60) rfl)) (hw _ (List.mem_of_getElem? (i := 62) rfl)) (hw _ (List.mem_of_getElem? (i := 61) rfl)) (hw _ (List.mem_of_getElem? (i := 6) rfl)) (hw _ (List.mem_of_getElem? (i := 63) rfl)) (notFace_of_selects (args := #[]) (mvT hZ (hw _ (List.mem_of_getElem? (i := 62) rfl)))) (by decide) (rmCo l Z a0 hw [] a ic h0 n0 Z0 pC SCs hic O0) (W := 1) (by decide) (by decide) e1 (by rw [hml]; rfl) pE [] (lenOf pd5 rfl) rfl (S := [(.int (2 : Int32))]) rfl (Nat.le_of_eq rfl) (hb hby d10_6) (q := 9) rfl (by decide) (by decide) (fun r2 T2 M2 X2 q2 => ?_)
  obtain ⟨rfl, M2n, e2⟩ := q2
  have N3 := Fr.app N0 M2n
  dsimp only [Option.toList, List.cons_append, List.nil_append]
  refine gIshr X2 hx (hb hby d10_9) (q := 10) rfl ?_
  exact gRetI X2 hx hlk hret (hb hby d10_10) (by decide) (by decide) ⟨rfl, N3, e2⟩
theorem ef23 (m : MethodId) (x0 : Addr) : entryFrame m #[(.ref x0)] 1 = mkF m 0 #[.val (.ref x0)] [] := by first | (simp [entryFrame, mkF, argsToLocals, Value.category]; done) | rfl
def Q_rmLn3 (Z : State) (a : Addr) (b : Addr) (kb : ClassId) (z0 : Int32) (z1 : Int32) (z2 : Int32) (ic : Int32) (h0 : Heap) (n0 : Nat) (v : Option Value) (h : Heap) (L : List Loc) : Prop := v = some (.int (3 : Int32)) ∧ Fr n0 L ∧ h = h0
set_option maxRecDepth 65536 in
set_option maxHeartbeats 40000000 in
theorem rmLn3 (l : Launch) (Z : State) (a0 : Array Value) (hw : ∀ d ∈ tables_1, d.before a0 Z = true) (ws : List Jvm.Cond) (a : Addr) (b : Addr) (kb : ClassId) (z0 : Int32) (z1 : Int32) (z2 : Int32) (ic : Int32) (h0 : Heap) (n0 : Nat) (Z0 : n0 ≤ h0.size) (pV : Fld Z h0 a "java/lang/String" "value" "[B" (.ref b)) (pC : Fld Z h0 a "java/lang/String" "coder" "B" (.int (0 : Int32))) (pE : Exa Z h0 a "java/lang/String") (pA : Ary Z h0 b kb .byte [(.int z0), (.int z1), (.int z2)]) (SCs : Sta Z Z.heap "java/lang/String" "COMPACT_STRINGS" "Z" (.int ic)) (hic : ¬ ic = (0 : Int32)) (O0 : Old Z n0 h0) :
    Con l Z (⟨"java/lang/String", "length", "()I"⟩ : MethodName) jdk_42_method_54_code 1 (some (.int)) ws ({ frames := 1, cells := 0, slots := 0, locals := 16 } : Room) #[(.ref a)] h0 (({ frames := 1, cells := 0, slots := 0, locals := 16 } : Room).cells) (({ frames := 1, cells := 0, slots := 0, locals := 16 } : Room).slots) (Q_rmLn3 Z a b kb z0 z1 z2 ic h0 n0) := by
  refine Con.of (plainFor_of_name pn1) ?_
  intro p e s m below meth c s₁ hx hby hml hown hnm hret hlk hZ X0 e0
  have N0 := Fr.nil n0
  refine goE (L := #[.val (.ref a)]) (ef23 m a) ?_
  refine gAloadN X0 hx (hb hby d10_0) (q := 1) rfl rfl rfl ?_
  refine gGetF X0 hx hZ (host := "") hown (Or.inl (hw _ (List.mem_of_getElem? (i := 32) rfl))) Via.refl e0 pV (hb hby d10_1) (q := 4) rfl (fun T1 X1 e1 => ?_)
  refine gLen X1 hx hZ e1 pA (n := (3 : Int32)) rfl (hb hby d10_4) (q := 5) rfl ?_
  refine gAloadN X1 hx (hb hby d10_5) (q := 6) rfl rfl rfl ?_
  refine gCallV X1 hx hZ hown (hw _ (List.mem_of_getElem? (i := 59) rfl)) (hw _ (List.mem_of_getElem? (i := 60) rfl)) (hw _ (List.mem_of_getElem? (i := 62) rfl)) (hw _ (List.mem_of_getElem? (i := 61) rfl)) (hw _ (List.mem_of_getElem? (i := 6) rfl)) (hw _ (List.mem_of_getElem? (i := 63) rfl)) (notFace_of_selects (args := #[]) (mvT hZ (hw _ (List.mem_of_getElem? (i := 62) rfl)))) (by decide) (rmCo l Z a0 hw [] a ic h0 n0 Z0 pC SCs hic O0) (W := 1) (by decide) (by decide) e1 (by rw [hml]; rfl) pE [] (lenOf pd5 rfl) rfl (S := [(.int (3 : Int32))]) rfl (Nat.le_of_eq rfl) (hb hby d10_6) (q := 9) rfl (by decide) (by decide) (fun r2 T2 M2 X2 q2 => ?_)
  obtain ⟨rfl, M2n, e2⟩ := q2
  have N3 := Fr.app N0 M2n
  dsimp only [Option.toList, List.cons_append, List.nil_append]
  refine gIshr X2 hx (hb hby d10_9) (q := 10) rfl ?_
  exact gRetI X2 hx hlk hret (hb hby d10_10) (by decide) (by decide) ⟨rfl, N3, e2⟩
theorem d9_0 : decode jdk_42_method_55_code 0 = .ok (.aload_n 0, 1) := by decide +kernel
theorem d9_1 : decode jdk_42_method_55_code 1 = .ok (.getfield 9, 3) := by decide +kernel
theorem d9_4 : decode jdk_42_method_55_code 4 = .ok (.arraylength, 1) := by decide +kernel
theorem d9_5 : decode jdk_42_method_55_code 5 = .ok (.ifCond .ne 7, 3) := by decide +kernel
theorem d9_8 : decode jdk_42_method_55_code 8 = .ok (.iconst 1, 1) := by decide +kernel
theorem d9_9 : decode jdk_42_method_55_code 9 = .ok (.goto 4, 3) := by decide +kernel
theorem d9_12 : decode jdk_42_method_55_code 12 = .ok (.iconst 0, 1) := by decide +kernel
theorem d9_13 : decode jdk_42_method_55_code 13 = .ok (.ireturn, 1) := by decide +kernel
theorem ef24 (m : MethodId) (x0 : Addr) : entryFrame m #[(.ref x0)] 1 = mkF m 0 #[.val (.ref x0)] [] := by first | (simp [entryFrame, mkF, argsToLocals, Value.category]; done) | rfl
def Q_rmIe (Z : State) (a : Addr) (b : Addr) (kb : ClassId) (h0 : Heap) (n0 : Nat) (v : Option Value) (h : Heap) (L : List Loc) : Prop := v = some (.int (1 : Int32)) ∧ Fr n0 L ∧ h = h0
set_option maxRecDepth 65536 in
set_option maxHeartbeats 40000000 in
theorem rmIe (l : Launch) (Z : State) (a0 : Array Value) (hw : ∀ d ∈ tables_1, d.before a0 Z = true) (ws : List Jvm.Cond) (a : Addr) (b : Addr) (kb : ClassId) (h0 : Heap) (n0 : Nat) (Z0 : n0 ≤ h0.size) (pV : Fld Z h0 a "java/lang/String" "value" "[B" (.ref b)) (pC : Fld Z h0 a "java/lang/String" "coder" "B" (.int (0 : Int32))) (pE : Exa Z h0 a "java/lang/String") (pA : Ary Z h0 b kb .byte []) :
    Con l Z (⟨"java/lang/String", "isEmpty", "()Z"⟩ : MethodName) jdk_42_method_55_code 1 (some (.boolean)) ws ({ frames := 0, cells := 0, slots := 0, locals := 0 } : Room) #[(.ref a)] h0 (({ frames := 0, cells := 0, slots := 0, locals := 0 } : Room).cells) (({ frames := 0, cells := 0, slots := 0, locals := 0 } : Room).slots) (Q_rmIe Z a b kb h0 n0) := by
  refine Con.of (plainFor_of_name pn1) ?_
  intro p e s m below meth c s₁ hx hby hml hown hnm hret hlk hZ X0 e0
  have N0 := Fr.nil n0
  refine goE (L := #[.val (.ref a)]) (ef24 m a) ?_
  refine gAloadN X0 hx (hb hby d9_0) (q := 1) rfl rfl rfl ?_
  refine gGetF X0 hx hZ (host := "") hown (Or.inl (hw _ (List.mem_of_getElem? (i := 32) rfl))) Via.refl e0 pV (hb hby d9_1) (q := 4) rfl (fun T1 X1 e1 => ?_)
  refine gLen X1 hx hZ e1 pA (n := (0 : Int32)) rfl (hb hby d9_4) (q := 5) rfl ?_
  refine gIfN X1 hx (hb hby d9_5) (q := 8) rfl (XT.i0_ne_f (by decide)) ?_
  refine gIconst X1 hx (1 : Int32) (hb hby d9_8) (q := 9) rfl (by decide) ?_
  refine gGoto X1 hx (hb hby d9_9) (q := 13) (by decide) (by decide) ?_
  exact gRetZ X1 hx hlk hret (hb hby d9_13) (by decide) (by decide) (Or.inr rfl) ⟨rfl, N0, e1⟩
theorem d8_0 : decode prog_36_method_4_code 0 = .ok (.aload_n 0, 1) := by decide +kernel
theorem d8_1 : decode prog_36_method_4_code 1 = .ok (.getstatic 3, 3) := by decide +kernel
theorem d8_4 : decode prog_36_method_4_code 4 = .ok (.if_acmp .ne 8, 3) := by decide +kernel
theorem d8_7 : decode prog_36_method_4_code 7 = .ok (.ldc 29, 2) := by decide +kernel
theorem d8_9 : decode prog_36_method_4_code 9 = .ok (.goto 4, 3) := by decide +kernel
theorem d8_12 : decode prog_36_method_4_code 12 = .ok (.aload_n 1, 1) := by decide +kernel
theorem d8_13 : decode prog_36_method_4_code 13 = .ok (.areturn, 1) := by decide +kernel
theorem pn3 : plainName "com/example/tariffwright/tariffwright/Costs$Scope" = true := by first | (simp [plainName, overriddenIn]; done) | decide +kernel
theorem ef25 (m : MethodId) (x0 : Addr) (x1 : Addr) : entryFrame m #[(.ref x0), (.ref x1)] 2 = mkF m 0 #[.val (.ref x0), .val (.ref x1)] [] := by first | (simp [entryFrame, mkF, argsToLocals, Value.category]; done) | rfl
def Q_rmCs (Z : State) (r0 : Addr) (r1 : Addr) (b : Addr) (h0 : Heap) (n0 : Nat) (v : Option Value) (h : Heap) (L : List Loc) : Prop := v = some (.ref b) ∧ Fr n0 L ∧ h = h0
set_option maxRecDepth 65536 in
set_option maxHeartbeats 40000000 in
theorem rmCs (l : Launch) (Z : State) (a0 : Array Value) (hw : ∀ d ∈ tables_1, d.before a0 Z = true) (ws : List Jvm.Cond) (r0 : Addr) (r1 : Addr) (b : Addr) (h0 : Heap) (n0 : Nat) (Z0 : n0 ≤ h0.size) (O0 : Old Z n0 h0) (S_r0 : Sta Z Z.heap "com/example/tariffwright/tariffwright/Costs$Scope" "NYCA" "Lcom/example/tariffwright/tariffwright/Costs$Scope;" (.ref r0)) (E_r0 : Exa Z Z.heap r0 "com/example/tariffwright/tariffwright/Costs$Scope") (Fordinal_r0 : Fld Z Z.heap r0 "java/lang/Enum" "ordinal" "I" (.int 0)) (S_r1 : Sta Z Z.heap "com/example/tariffwright/tariffwright/Costs$Scope" "SUBZONE" "Lcom/example/tariffwright/tariffwright/Costs$Scope;" (.ref r1)) (E_r1 : Exa Z Z.heap r1 "com/example/tariffwright/tariffwright/Costs$Scope") (Fordinal_r1 : Fld Z Z.heap r1 "java/lang/Enum" "ordinal" "I" (.int 1)) (nSN : ¬ (.ref r1 : Value) = (.ref r0 : Value)) :
    Con l Z (⟨"com/example/tariffwright/tariffwright/Costs$Scope", "costSubzone", "(Ljava/lang/String;)Ljava/lang/String;"⟩ : MethodName) prog_36_method_4_code 2 (some (.object "java/lang/String")) ws ({ frames := 0, cells := 0, slots := 0, locals := 0 } : Room) #[(.ref r1), (.ref b)] h0 (({ frames := 0, cells := 0, slots := 0, locals := 0 } : Room).cells) (({ frames := 0, cells := 0, slots := 0, locals := 0 } : Room).slots) (Q_rmCs Z r0 r1 b h0 n0) := by
  refine Con.of (plainFor_of_name pn3) ?_
  intro p e s m below meth c s₁ hx hby hml hown hnm hret hlk hZ X0 e0
  have N0 := Fr.nil n0
  refine goE (L := #[.val (.ref r1), .val (.ref b)]) (ef25 m r1 b) ?_
  refine gAloadN X0 hx (hb hby d8_0) (q := 1) rfl rfl rfl ?_
  refine gGetS X0 hx hZ hown (hw _ (List.mem_of_getElem? (i := 42) rfl)) Via.refl e0 (Sta.ext O0.2 S_r0) (hb hby d8_1) (q := 4) rfl (fun T1 X1 e1 => ?_)
  refine gAcmpY X1 hx (hb hby d8_4) (q := 12) (by decide) (by decide) rfl rfl (XT.aa_ne_t nSN) ?_
  refine gAloadN X1 hx (hb hby d8_12) (q := 13) rfl rfl rfl ?_
  exact gRetA X1 hx hlk hret rfl rfl (hb hby d8_13) (by decide) (by decide) ⟨rfl, N0, e1⟩
theorem ef26 (m : MethodId) (x0 : Addr) (x1 : Addr) : entryFrame m #[(.ref x0), (.ref x1)] 2 = mkF m 0 #[.val (.ref x0), .val (.ref x1)] [] := by first | (simp [entryFrame, mkF, argsToLocals, Value.category]; done) | rfl
def Q_rmCn (Z : State) (r0 : Addr) (r1 : Addr) (b : Addr) (h0 : Heap) (n0 : Nat) (v : Option Value) (h : Heap) (L : List Loc) : Prop := ∃ r rb kb, v = some (.ref r) ∧ Fr n0 L ∧ Keep h0 h [] ∧ Exa Z h r "java/lang/String" ∧ Fld Z h r "java/lang/String" "coder" "B" (.int (0 : Int32)) ∧ Fld Z h r "java/lang/String" "value" "[B" (.ref rb) ∧ Ary Z h rb kb .byte []
set_option maxRecDepth 65536 in
set_option maxHeartbeats 40000000 in
theorem rmCn (l : Launch) (Z : State) (a0 : Array Value) (hw : ∀ d ∈ tables_1, d.before a0 Z = true) (ws : List Jvm.Cond) (hEL : EW Z a0 consts_1) (r0 : Addr) (r1 : Addr) (b : Addr) (h0 : Heap) (n0 : Nat) (Z0 : n0 ≤ h0.size) (O0 : Old Z n0 h0) (S_r0 : Sta Z Z.heap "com/example/tariffwright/tariffwright/Costs$Scope" "NYCA" "Lcom/example/tariffwright/tariffwright/Costs$Scope;" (.ref r0)) (E_r0 : Exa Z Z.heap r0 "com/example/tariffwright/tariffwright/Costs$Scope") (Fordinal_r0 : Fld Z Z.heap r0 "java/lang/Enum" "ordinal" "I" (.int 0)) (S_r1 : Sta Z Z.heap "com/example/tariffwright/tariffwright/Costs$Scope" "SUBZONE" "Lcom/example/tariffwright/tariffwright/Costs$Scope;" (.ref r1)) (E_r1 : Exa Z Z.heap r1 "com/example/tariffwright/tariffwright/Costs$Scope") (Fordinal_r1 : Fld Z Z.heap r1 "java/lang/Enum" "ordinal" "I" (.int 1)) :
    ConS l Z consts_1 (⟨"com/example/tariffwright/tariffwright/Costs$Scope", "costSubzone", "(Ljava/lang/String;)Ljava/lang/String;"⟩ : MethodName) prog_36_method_4_code 2 (some (.object "java/lang/String")) ws ({ frames := 0, cells := 2, slots := 4, locals := 0 } : Room) #[(.ref r0), (.ref b)] h0 (({ frames := 0, cells := 2, slots := 4, locals := 0 } : Room).cells) (({ frames := 0, cells := 2, slots := 4, locals := 0 } : Room).slots) (Q_rmCn Z r0 r1 b h0 n0) := by
  refine ConS.of (plainFor_of_name pn3) ?_
  intro p e s m below meth c s₁ vm0 k0 hx hby hml hown hnm hret hlk hZ hS hkk hC X0 e0
  have N0 := Fr.nil n0
  refine goE (L := #[.val (.ref r0), .val (.ref b)]) (ef26 m r0 b) ?_
  refine gAloadN X0 hx (hb hby d8_0) (q := 1) rfl rfl rfl ?_
  refine gGetS X0 hx hZ hown (hw _ (List.mem_of_getElem? (i := 42) rfl)) Via.refl e0 (Sta.ext O0.2 S_r0) (hb hby d8_1) (q := 4) rfl (fun T1 X1 e1 => ?_)
  refine gAcmpN X1 hx (hb hby d8_4) (q := 7) rfl rfl rfl (XT.aa_ne_f rfl) ?_
  refine gLdcE X1 hx hZ hS hEL hown (hw _ (List.mem_of_getElem? (i := 43) rfl)) (own_wS hw) (own_EL_8_29) e1 hkk hC (vs := []) (z := 0) ⟨by simp, by simp⟩ (by decide) (by decide) (hb hby d8_7) (q := 9) rfl (n := 0) (by simp) (by decide) (by decide) (by decide) (fun T2 h2 k2n a2 b2 k2 X2 e2 E2 hS hkk2 hZ hown Ex2 Fc2 Fv2 Av2 C2c SF2c => ?_)
  have O3 := O0.ext E2
  have K4 := (Keep.refl h0 []).ext E2
  have Z5 := Nat.le_trans Z0 E2.1
  have AE2 := own_ary0 Av2
  refine gGoto X2 hx (hb hby d8_9) (q := 13) (by decide) (by decide) ?_
  exact gRetSA X2 hx hZ hS hEL hlk hret rfl rfl (hb hby d8_13) (by decide) (by decide) e2 hkk2 C2c (by rw [e2]; exact ⟨_, _, _, rfl, N0, K4, Ex2, Fc2, Fv2, AE2⟩)

theorem ef27 (m : MethodId) (x0 : Int32) (x1 : Int32) (x2 : Int32) (x3 : Int32) (x4 : Int32) : entryFrame m #[(.int x0), (.int x1), (.int x2), (.int x3), (.int x4)] maxLocals = mkF m 0 #[.val (.int x0), .val (.int x1), .val (.int x2), .val (.int x3), .val (.int x4), .unset, .unset, .unset, .unset, .unset] [] := by first | (simp [entryFrame, mkF, argsToLocals, Value.category, maxLocals]; done) | rfl
def Q_rm0 (Z : State) (x0 : Int32) (x1 : Int32) (x2 : Int32) (x3 : Int32) (x4 : Int32) (r0 : Addr) (r1 : Addr) (ic : Int32) (h0 : Heap) (n0 : Nat) (v : Option Value) (h : Heap) (L : List Loc) : Prop := v = some (.int 1) ∧ Fr n0 L
theorem pd6 : parseMethodDescriptor "(IIII)Ljava/lang/String;" = some ⟨[.int, .int, .int, .int], some (.object "java/lang/String")⟩ := by decide +kernel
theorem pd7 : parseMethodDescriptor "(Ljava/lang/String;)Ljava/lang/String;" = some ⟨[.object "java/lang/String"], some (.object "java/lang/String")⟩ := by decide +kernel
theorem pd8 : parseMethodDescriptor "()Z" = some ⟨[], some (.boolean)⟩ := by decide +kernel
theorem pd9 : parseMethodDescriptor "()I" = some ⟨[], some (.int)⟩ := by decide +kernel
theorem pd10 : parseMethodDescriptor "(Ljava/lang/Object;)Z" = some ⟨[.object "java/lang/Object"], some (.boolean)⟩ := by decide +kernel
set_option maxRecDepth 65536 in
set_option maxHeartbeats 40000000 in
theorem rm0 (l : Launch) (Z : State) (a0 : Array Value) (hw : ∀ d ∈ tables_1, d.before a0 Z = true) (ws : List Jvm.Cond) (hEL : EW Z a0 consts_1) (x0 : Int32) (x1 : Int32) (x2 : Int32) (x3 : Int32) (x4 : Int32) (r0 : Addr) (r1 : Addr) (ic : Int32) (h0 : Heap) (n0 : Nat) (Z0 : n0 ≤ h0.size) (S_r0 : Sta Z Z.heap "com/example/tariffwright/tariffwright/Costs$Scope" "NYCA" "Lcom/example/tariffwright/tariffwright/Costs$Scope;" (.ref r0)) (E_r0 : Exa Z Z.heap r0 "com/example/tariffwright/tariffwright/Costs$Scope") (Fordinal_r0 : Fld Z Z.heap r0 "java/lang/Enum" "ordinal" "I" (.int 0)) (S_r1 : Sta Z Z.heap "com/example/tariffwright/tariffwright/Costs$Scope" "SUBZONE" "Lcom/example/tariffwright/tariffwright/Costs$Scope;" (.ref r1)) (E_r1 : Exa Z Z.heap r1 "com/example/tariffwright/tariffwright/Costs$Scope") (Fordinal_r1 : Fld Z Z.heap r1 "java/lang/Enum" "ordinal" "I" (.int 1)) (SCs : Sta Z Z.heap "java/lang/String" "COMPACT_STRINGS" "Z" (.int ic)) (hic : ¬ ic = (0 : Int32)) (O0 : Old Z n0 h0) :
    ConS l Z consts_1 x code maxLocals ret ws room_1 #[(.int x0), (.int x1), (.int x2), (.int x3), (.int x4)] h0 (room_1.cells) (room_1.slots) (Q_rm0 Z x0 x1 x2 x3 x4 r0 r1 ic h0 n0) := by
  refine ConS.of (plainFor_of_name pn2) ?_
  intro p e s m below meth c s₁ vm0 k0 hx hby hml hown hnm hret hlk hZ hS hkk hC X0 e0
  have N0 := Fr.nil n0
  refine goE (L := #[.val (.int x0), .val (.int x1), .val (.int x2), .val (.int x3), .val (.int x4), .unset, .unset, .unset, .unset, .unset]) (ef27 m x0 x1 x2 x3 x4) ?_
  have nSN : ¬ (.ref r1 : Value) = (.ref r0 : Value) := fun z => (Fld.ne Fordinal_r1 Fordinal_r0 (by decide)) (Value.ref.inj z)
  refine gIloadN X0 hx (hb hby at_0) (q := 1) rfl rfl ?_
  refine gIconst X0 hx (1 : Int32) (hb hby at_1) (q := 2) rfl (by decide) ?_
  refine gIand X0 hx (hb hby at_2) (q := 3) rfl ?_
  by_cases c1 : (x0 &&& (1 : Int32)) = (0 : Int32)
  · refine gIfY X0 hx (hb hby at_3) (q := 10) (by decide) (by decide) (XT.i0_eq_t c1) ?_
    refine gIconst X0 hx (0 : Int32) (hb hby at_10) (q := 11) rfl (by decide) ?_
    refine gIstore X0 hx (hb hby at_11) (q := 13) rfl (L' := #[.val (.int x0), .val (.int x1), .val (.int x2), .val (.int x3), .val (.int x4), .val (.int (0 : Int32)), .unset, .unset, .unset, .unset]) rfl ?_
    refine gIloadN X0 hx (hb hby at_13) (q := 14) rfl rfl ?_
    refine gIconst X0 hx (3 : Int32) (hb hby at_14) (q := 15) rfl (by decide) ?_
    refine gIand X0 hx (hb hby at_15) (q := 16) rfl ?_
    refine gIstore X0 hx (hb hby at_16) (q := 18) rfl (L' := #[.val (.int x0), .val (.int x1), .val (.int x2), .val (.int x3), .val (.int x4), .val (.int (0 : Int32)), .val (.int (x1 &&& (3 : Int32))), .unset, .unset, .unset]) rfl ?_
    refine gIload X0 hx (hb hby at_18) (q := 20) rfl rfl ?_
    refine gIloadN X0 hx (hb hby at_20) (q := 21) rfl rfl ?_
    refine gIloadN X0 hx (hb hby at_21) (q := 22) rfl rfl ?_
    refine gIload X0 hx (hb hby at_22) (q := 24) rfl rfl ?_
    refine gCallSS X0 hx hZ hS hEL hown (hw _ (List.mem_of_getElem? (i := 0) rfl)) (hw _ (List.mem_of_getElem? (i := 1) rfl)) (hw _ (List.mem_of_getElem? (i := 2) rfl)) (hw _ (List.mem_of_getElem? (i := 3) rfl)) (by decide) (rmDr l Z a0 hw [] hEL ic (x1 &&& (3 : Int32)) x2 x3 x4 h0 n0 Z0 SCs hic O0) (W := 0) (by decide) (by decide) e0 hkk hC (by rw [hml]; rfl) [(.int (x1 &&& (3 : Int32))), (.int x2), (.int x3), (.int x4)] (lenOf pd6 rfl) rfl (S := []) rfl (Nat.le_of_eq rfl) (hb hby at_24) (q := 27) rfl (by decide) (by decide) (fun r2 T2 M2 X2 q2 hS hZ hown C2c SF2c => ?_)
    dsimp only [Option.toList, List.cons_append, List.nil_append]
    obtain ⟨r2s, b2s, kb2s, rfl, M2n, K2, P2e, P2c, P2v, hd2⟩ := q2
    have N3 := Fr.app N0 M2n
    have O4 := O0.keep K2 all0
    have Z5 := Nat.le_trans Z0 K2.1
    rcases hd2 with ⟨hn2, A2z⟩ | ⟨hn2, z0, A2z⟩ | ⟨hn2, z0, z1, A2z⟩ | ⟨⟨hn2a, hn2b, hn2c⟩, z0, z1, z2, A2z⟩
    · have hm2 : (0 : Int32) = (x1 &&& (3 : Int32)) := hn2.symm
      refine gAstore X2 hx (hb hby at_27) (q := 29) rfl rfl (L' := #[.val (.int x0), .val (.int x1), .val (.int x2), .val (.int x3), .val (.int x4), .val (.int (0 : Int32)), .val (.int (x1 &&& (3 : Int32))), .val (.ref r2s), .unset, .unset]) rfl ?_
      refine gIload X2 hx (hb hby at_29) (q := 31) rfl rfl ?_
      refine gIfY X2 hx (hb hby at_31) (q := 40) (by decide) (by decide) (XT.i0_eq_t (by decide)) ?_
      refine gGetS X2 hx hZ hown (hw _ (List.mem_of_getElem? (i := 34) rfl)) Via.refl rfl (Sta.ext O4.2 S_r0) (hb hby at_40) (q := 43) rfl (fun T6 X6 e6 => ?_)
      refine gAstore X6 hx (hb hby at_43) (q := 45) rfl rfl (L' := #[.val (.int x0), .val (.int x1), .val (.int x2), .val (.int x3), .val (.int x4), .val (.int (0 : Int32)), .val (.int (x1 &&& (3 : Int32))), .val (.ref r2s), .val (.ref r0), .unset]) rfl ?_
      refine gAload X6 hx (hb hby at_45) (q := 47) rfl rfl rfl ?_
      refine gAload X6 hx (hb hby at_47) (q := 49) rfl rfl rfl ?_
      refine gCallVS X6 hx hZ hS hEL hown (hw _ (List.mem_of_getElem? (i := 37) rfl)) (hw _ (List.mem_of_getElem? (i := 38) rfl)) (hw _ (List.mem_of_getElem? (i := 40) rfl)) (hw _ (List.mem_of_getElem? (i := 39) rfl)) (hw _ (List.mem_of_getElem? (i := 35) rfl)) (hw _ (List.mem_of_getElem? (i := 41) rfl)) (notFace_of_selects (args := #[]) (mvT hZ (hw _ (List.mem_of_getElem? (i := 40) rfl)))) (by decide) (rmCn l Z a0 hw [] hEL r0 r1 r2s T2.heap n0 Z5 O4 S_r0 E_r0 Fordinal_r0 S_r1 E_r1 Fordinal_r1) (W := 0) (by decide) (by decide) e6 (Nat.le_refl _) C2c (by rw [hml]; rfl) (Exa.ext O4.2 E_r0) [(.ref r2s)] (lenOf pd7 rfl) rfl (S := []) rfl (Nat.le_of_eq rfl) (hb hby at_49) (q := 52) rfl (by decide) (by decide) (fun r7 T7 M7 X7 q7 hS hZ hown C7c SF7c => ?_)
      obtain ⟨r7s, b7s, kb7s, rfl, M7n, K7, P7e, P7c, P7v, P7a⟩ := q7
      have N8 := Fr.app N3 M7n
      have E9 := Exa.keep P2e K7
      have F10 := Fld.keep P2c K7 nin0
      have F11 := Fld.keep P2v K7 nin0
      have A12 := Ary.keep A2z K7 nin0
      have O13 := O4.keep K7 all0
      have Z14 := Nat.le_trans Z5 K7.1
      dsimp only [Option.toList, List.cons_append, List.nil_append]
      refine gAstore X7 hx (hb hby at_52) (q := 54) rfl rfl (L' := #[.val (.int x0), .val (.int x1), .val (.int x2), .val (.int x3), .val (.int x4), .val (.int (0 : Int32)), .val (.int (x1 &&& (3 : Int32))), .val (.ref r2s), .val (.ref r0), .val (.ref r7s)]) rfl ?_
      refine gAload X7 hx (hb hby at_54) (q := 56) rfl rfl rfl ?_
      refine gNonY X7 hx (hb hby at_56) (q := 61) (by decide) (by decide) rfl Value.noConfusion ?_
      refine gIload X7 hx (hb hby at_61) (q := 63) rfl rfl ?_
      refine gIfY X7 hx (hb hby at_63) (q := 92) (by decide) (by decide) (XT.i0_eq_t (by decide)) ?_
      refine gAload X7 hx (hb hby at_92) (q := 94) rfl rfl rfl ?_
      refine gCallV X7 hx hZ hown (hw _ (List.mem_of_getElem? (i := 46) rfl)) (hw _ (List.mem_of_getElem? (i := 47) rfl)) (hw _ (List.mem_of_getElem? (i := 49) rfl)) (hw _ (List.mem_of_getElem? (i := 48) rfl)) (hw _ (List.mem_of_getElem? (i := 6) rfl)) (hw _ (List.mem_of_getElem? (i := 50) rfl)) (notFace_of_selects (args := #[]) (mvT hZ (hw _ (List.mem_of_getElem? (i := 49) rfl)))) (by decide) (rmIe l Z a0 hw [] r7s b7s kb7s  T7.heap n0 Z14 P7v P7c P7e P7a) (W := 0) (by decide) (by decide) rfl (by rw [hml]; rfl) P7e [] (lenOf pd8 rfl) rfl (S := []) rfl (Nat.le_of_eq rfl) (hb hby at_94) (q := 97) rfl (by decide) (by decide) (fun r15 T15 M15 X15 q15 => ?_)
      obtain ⟨rfl, M15n, e15⟩ := q15
      have N16 := Fr.app N8 M15n
      dsimp only [Option.toList, List.cons_append, List.nil_append]
      exact gRetSZ X15 hx hZ hS hEL hlk hret (hb hby at_97) (by decide) (by decide) e15 (Nat.le_refl _) C7c (Or.inr rfl) ⟨rfl, N16⟩
    · have hm2 : (1 : Int32) = (x1 &&& (3 : Int32)) := hn2.symm
      refine gAstore X2 hx (hb hby at_27) (q := 29) rfl rfl (L' := #[.val (.int x0), .val (.int x1), .val (.int x2), .val (.int x3), .val (.int x4), .val (.int (0 : Int32)), .val (.int (x1 &&& (3 : Int32))), .val (.ref r2s), .unset, .unset]) rfl ?_
      refine gIload X2 hx (hb hby at_29) (q := 31) rfl rfl ?_
      refine gIfY X2 hx (hb hby at_31) (q := 40) (by decide) (by decide) (XT.i0_eq_t (by decide)) ?_
      refine gGetS X2 hx hZ hown (hw _ (List.mem_of_getElem? (i := 34) rfl)) Via.refl rfl (Sta.ext O4.2 S_r0) (hb hby at_40) (q := 43) rfl (fun T17 X17 e17 => ?_)
      refine gAstore X17 hx (hb hby at_43) (q := 45) rfl rfl (L' := #[.val (.int x0), .val (.int x1), .val (.int x2), .val (.int x3), .val (.int x4), .val (.int (0 : Int32)), .val (.int (x1 &&& (3 : Int32))), .val (.ref r2s), .val (.ref r0), .unset]) rfl ?_
      refine gAload X17 hx (hb hby at_45) (q := 47) rfl rfl rfl ?_
      refine gAload X17 hx (hb hby at_47) (q := 49) rfl rfl rfl ?_
      refine gCallVS X17 hx hZ hS hEL hown (hw _ (List.mem_of_getElem? (i := 37) rfl)) (hw _ (List.mem_of_getElem? (i := 38) rfl)) (hw _ (List.mem_of_getElem? (i := 40) rfl)) (hw _ (List.mem_of_getElem? (i := 39) rfl)) (hw _ (List.mem_of_getElem? (i := 35) rfl)) (hw _ (List.mem_of_getElem? (i := 41) rfl)) (notFace_of_selects (args := #[]) (mvT hZ (hw _ (List.mem_of_getElem? (i := 40) rfl)))) (by decide) (rmCn l Z a0 hw [] hEL r0 r1 r2s T2.heap n0 Z5 O4 S_r0 E_r0 Fordinal_r0 S_r1 E_r1 Fordinal_r1) (W := 0) (by decide) (by decide) e17 (Nat.le_refl _) C2c (by rw [hml]; rfl) (Exa.ext O4.2 E_r0) [(.ref r2s)] (lenOf pd7 rfl) rfl (S := []) rfl (Nat.le_of_eq rfl) (hb hby at_49) (q := 52) rfl (by decide) (by decide) (fun r18 T18 M18 X18 q18 hS hZ hown C18c SF18c => ?_)
      obtain ⟨r18s, b18s, kb18s, rfl, M18n, K18, P18e, P18c, P18v, P18a⟩ := q18
      have N19 := Fr.app N3 M18n
      have E20 := Exa.keep P2e K18
      have F21 := Fld.keep P2c K18 nin0
      have F22 := Fld.keep P2v K18 nin0
      have A23 := Ary.keep A2z K18 nin0
      have O24 := O4.keep K18 all0
      have Z25 := Nat.le_trans Z5 K18.1
      dsimp only [Option.toList, List.cons_append, List.nil_append]
      refine gAstore X18 hx (hb hby at_52) (q := 54) rfl rfl (L' := #[.val (.int x0), .val (.int x1), .val (.int x2), .val (.int x3), .val (.int x4), .val (.int (0 : Int32)), .val (.int (x1 &&& (3 : Int32))), .val (.ref r2s), .val (.ref r0), .val (.ref r18s)]) rfl ?_
      refine gAload X18 hx (hb hby at_54) (q := 56) rfl rfl rfl ?_
      refine gNonY X18 hx (hb hby at_56) (q := 61) (by decide) (by decide) rfl Value.noConfusion ?_
      refine gIload X18 hx (hb hby at_61) (q := 63) rfl rfl ?_
      refine gIfY X18 hx (hb hby at_63) (q := 92) (by decide) (by decide) (XT.i0_eq_t (by decide)) ?_
      refine gAload X18 hx (hb hby at_92) (q := 94) rfl rfl rfl ?_
      refine gCallV X18 hx hZ hown (hw _ (List.mem_of_getElem? (i := 46) rfl)) (hw _ (List.mem_of_getElem? (i := 47) rfl)) (hw _ (List.mem_of_getElem? (i := 49) rfl)) (hw _ (List.mem_of_getElem? (i := 48) rfl)) (hw _ (List.mem_of_getElem? (i := 6) rfl)) (hw _ (List.mem_of_getElem? (i := 50) rfl)) (notFace_of_selects (args := #[]) (mvT hZ (hw _ (List.mem_of_getElem? (i := 49) rfl)))) (by decide) (rmIe l Z a0 hw [] r18s b18s kb18s  T18.heap n0 Z25 P18v P18c P18e P18a) (W := 0) (by decide) (by decide) rfl (by rw [hml]; rfl) P18e [] (lenOf pd8 rfl) rfl (S := []) rfl (Nat.le_of_eq rfl) (hb hby at_94) (q := 97) rfl (by decide) (by decide) (fun r26 T26 M26 X26 q26 => ?_)
      obtain ⟨rfl, M26n, e26⟩ := q26
      have N27 := Fr.app N19 M26n
      dsimp only [Option.toList, List.cons_append, List.nil_append]
      exact gRetSZ X26 hx hZ hS hEL hlk hret (hb hby at_97) (by decide) (by decide) e26 (Nat.le_refl _) C18c (Or.inr rfl) ⟨rfl, N27⟩
    · have hm2 : (2 : Int32) = (x1 &&& (3 : Int32)) := hn2.symm
      refine gAstore X2 hx (hb hby at_27) (q := 29) rfl rfl (L' := #[.val (.int x0), .val (.int x1), .val (.int x2), .val (.int x3), .val (.int x4), .val (.int (0 : Int32)), .val (.int (x1 &&& (3 : Int32))), .val (.ref r2s), .unset, .unset]) rfl ?_
      refine gIload X2 hx (hb hby at_29) (q := 31) rfl rfl ?_
      refine gIfY X2 hx (hb hby at_31) (q := 40) (by decide) (by decide) (XT.i0_eq_t (by decide)) ?_
      refine gGetS X2 hx hZ hown (hw _ (List.mem_of_getElem? (i := 34) rfl)) Via.refl rfl (Sta.ext O4.2 S_r0) (hb hby at_40) (q := 43) rfl (fun T28 X28 e28 => ?_)
      refine gAstore X28 hx (hb hby at_43) (q := 45) rfl rfl (L' := #[.val (.int x0), .val (.int x1), .val (.int x2), .val (.int x3), .val (.int x4), .val (.int (0 : Int32)), .val (.int (x1 &&& (3 : Int32))), .val (.ref r2s), .val (.ref r0), .unset]) rfl ?_
      refine gAload X28 hx (hb hby at_45) (q := 47) rfl rfl rfl ?_
      refine gAload X28 hx (hb hby at_47) (q := 49) rfl rfl rfl ?_
      refine gCallVS X28 hx hZ hS hEL hown (hw _ (List.mem_of_getElem? (i := 37) rfl)) (hw _ (List.mem_of_getElem? (i := 38) rfl)) (hw _ (List.mem_of_getElem? (i := 40) rfl)) (hw _ (List.mem_of_getElem? (i := 39) rfl)) (hw _ (List.mem_of_getElem? (i := 35) rfl)) (hw _ (List.mem_of_getElem? (i := 41) rfl)) (notFace_of_selects (args := #[]) (mvT hZ (hw _ (List.mem_of_getElem? (i := 40) rfl)))) (by decide) (rmCn l Z a0 hw [] hEL r0 r1 r2s T2.heap n0 Z5 O4 S_r0 E_r0 Fordinal_r0 S_r1 E_r1 Fordinal_r1) (W := 0) (by decide) (by decide) e28 (Nat.le_refl _) C2c (by rw [hml]; rfl) (Exa.ext O4.2 E_r0) [(.ref r2s)] (lenOf pd7 rfl) rfl (S := []) rfl (Nat.le_of_eq rfl) (hb hby at_49) (q := 52) rfl (by decide) (by decide) (fun r29 T29 M29 X29 q29 hS hZ hown C29c SF29c => ?_)
      obtain ⟨r29s, b29s, kb29s, rfl, M29n, K29, P29e, P29c, P29v, P29a⟩ := q29
      have N30 := Fr.app N3 M29n
      have E31 := Exa.keep P2e K29
      have F32 := Fld.keep P2c K29 nin0
      have F33 := Fld.keep P2v K29 nin0
      have A34 := Ary.keep A2z K29 nin0
      have O35 := O4.keep K29 all0
      have Z36 := Nat.le_trans Z5 K29.1
      dsimp only [Option.toList, List.cons_append, List.nil_append]
      refine gAstore X29 hx (hb hby at_52) (q := 54) rfl rfl (L' := #[.val (.int x0), .val (.int x1), .val (.int x2), .val (.int x3), .val (.int x4), .val (.int (0 : Int32)), .val (.int (x1 &&& (3 : Int32))), .val (.ref r2s), .val (.ref r0), .val (.ref r29s)]) rfl ?_
      refine gAload X29 hx (hb hby at_54) (q := 56) rfl rfl rfl ?_
      refine gNonY X29 hx (hb hby at_56) (q := 61) (by decide) (by decide) rfl Value.noConfusion ?_
      refine gIload X29 hx (hb hby at_61) (q := 63) rfl rfl ?_
      refine gIfY X29 hx (hb hby at_63) (q := 92) (by decide) (by decide) (XT.i0_eq_t (by decide)) ?_
      refine gAload X29 hx (hb hby at_92) (q := 94) rfl rfl rfl ?_
      refine gCallV X29 hx hZ hown (hw _ (List.mem_of_getElem? (i := 46) rfl)) (hw _ (List.mem_of_getElem? (i := 47) rfl)) (hw _ (List.mem_of_getElem? (i := 49) rfl)) (hw _ (List.mem_of_getElem? (i := 48) rfl)) (hw _ (List.mem_of_getElem? (i := 6) rfl)) (hw _ (List.mem_of_getElem? (i := 50) rfl)) (notFace_of_selects (args := #[]) (mvT hZ (hw _ (List.mem_of_getElem? (i := 49) rfl)))) (by decide) (rmIe l Z a0 hw [] r29s b29s kb29s  T29.heap n0 Z36 P29v P29c P29e P29a) (W := 0) (by decide) (by decide) rfl (by rw [hml]; rfl) P29e [] (lenOf pd8 rfl) rfl (S := []) rfl (Nat.le_of_eq rfl) (hb hby at_94) (q := 97) rfl (by decide) (by decide) (fun r37 T37 M37 X37 q37 => ?_)
      obtain ⟨rfl, M37n, e37⟩ := q37
      have N38 := Fr.app N30 M37n
      dsimp only [Option.toList, List.cons_append, List.nil_append]
      exact gRetSZ X37 hx hZ hS hEL hlk hret (hb hby at_97) (by decide) (by decide) e37 (Nat.le_refl _) C29c (Or.inr rfl) ⟨rfl, N38⟩
    · have hm2 : (3 : Int32) = (x1 &&& (3 : Int32)) := own_n3 _ hn2a hn2b hn2c
      refine gAstore X2 hx (hb hby at_27) (q := 29) rfl rfl (L' := #[.val (.int x0), .val (.int x1), .val (.int x2), .val (.int x3), .val (.int x4), .val (.int (0 : Int32)), .val (.int (x1 &&& (3 : Int32))), .val (.ref r2s), .unset, .unset]) rfl ?_
      refine gIload X2 hx (hb hby at_29) (q := 31) rfl rfl ?_
      refine gIfY X2 hx (hb hby at_31) (q := 40) (by decide) (by decide) (XT.i0_eq_t (by decide)) ?_
      refine gGetS X2 hx hZ hown (hw _ (List.mem_of_getElem? (i := 34) rfl)) Via.refl rfl (Sta.ext O4.2 S_r0) (hb hby at_40) (q := 43) rfl (fun T39 X39 e39 => ?_)
      refine gAstore X39 hx (hb hby at_43) (q := 45) rfl rfl (L' := #[.val (.int x0), .val (.int x1), .val (.int x2), .val (.int x3), .val (.int x4), .val (.int (0 : Int32)), .val (.int (x1 &&& (3 : Int32))), .val (.ref r2s), .val (.ref r0), .unset]) rfl ?_
      refine gAload X39 hx (hb hby at_45) (q := 47) rfl rfl rfl ?_
      refine gAload X39 hx (hb hby at_47) (q := 49) rfl rfl rfl ?_
      refine gCallVS X39 hx hZ hS hEL hown (hw _ (List.mem_of_getElem? (i := 37) rfl)) (hw _ (List.mem_of_getElem? (i := 38) rfl)) (hw _ (List.mem_of_getElem? (i := 40) rfl)) (hw _ (List.mem_of_getElem? (i := 39) rfl)) (hw _ (List.mem_of_getElem? (i := 35) rfl)) (hw _ (List.mem_of_getElem? (i := 41) rfl)) (notFace_of_selects (args := #[]) (mvT hZ (hw _ (List.mem_of_getElem? (i := 40) rfl)))) (by decide) (rmCn l Z a0 hw [] hEL r0 r1 r2s T2.heap n0 Z5 O4 S_r0 E_r0 Fordinal_r0 S_r1 E_r1 Fordinal_r1) (W := 0) (by decide) (by decide) e39 (Nat.le_refl _) C2c (by rw [hml]; rfl) (Exa.ext O4.2 E_r0) [(.ref r2s)] (lenOf pd7 rfl) rfl (S := []) rfl (Nat.le_of_eq rfl) (hb hby at_49) (q := 52) rfl (by decide) (by decide) (fun r40 T40 M40 X40 q40 hS hZ hown C40c SF40c => ?_)
      obtain ⟨r40s, b40s, kb40s, rfl, M40n, K40, P40e, P40c, P40v, P40a⟩ := q40
      have N41 := Fr.app N3 M40n
      have E42 := Exa.keep P2e K40
      have F43 := Fld.keep P2c K40 nin0
      have F44 := Fld.keep P2v K40 nin0
      have A45 := Ary.keep A2z K40 nin0
      have O46 := O4.keep K40 all0
      have Z47 := Nat.le_trans Z5 K40.1
      dsimp only [Option.toList, List.cons_append, List.nil_append]
      refine gAstore X40 hx (hb hby at_52) (q := 54) rfl rfl (L' := #[.val (.int x0), .val (.int x1), .val (.int x2), .val (.int x3), .val (.int x4), .val (.int (0 : Int32)), .val (.int (x1 &&& (3 : Int32))), .val (.ref r2s), .val (.ref r0), .val (.ref r40s)]) rfl ?_
      refine gAload X40 hx (hb hby at_54) (q := 56) rfl rfl rfl ?_
      refine gNonY X40 hx (hb hby at_56) (q := 61) (by decide) (by decide) rfl Value.noConfusion ?_
      refine gIload X40 hx (hb hby at_61) (q := 63) rfl rfl ?_
      refine gIfY X40 hx (hb hby at_63) (q := 92) (by decide) (by decide) (XT.i0_eq_t (by decide)) ?_
      refine gAload X40 hx (hb hby at_92) (q := 94) rfl rfl rfl ?_
      refine gCallV X40 hx hZ hown (hw _ (List.mem_of_getElem? (i := 46) rfl)) (hw _ (List.mem_of_getElem? (i := 47) rfl)) (hw _ (List.mem_of_getElem? (i := 49) rfl)) (hw _ (List.mem_of_getElem? (i := 48) rfl)) (hw _ (List.mem_of_getElem? (i := 6) rfl)) (hw _ (List.mem_of_getElem? (i := 50) rfl)) (notFace_of_selects (args := #[]) (mvT hZ (hw _ (List.mem_of_getElem? (i := 49) rfl)))) (by decide) (rmIe l Z a0 hw [] r40s b40s kb40s  T40.heap n0 Z47 P40v P40c P40e P40a) (W := 0) (by decide) (by decide) rfl (by rw [hml]; rfl) P40e [] (lenOf pd8 rfl) rfl (S := []) rfl (Nat.le_of_eq rfl) (hb hby at_94) (q := 97) rfl (by decide) (by decide) (fun r48 T48 M48 X48 q48 => ?_)
      obtain ⟨rfl, M48n, e48⟩ := q48
      have N49 := Fr.app N41 M48n
      dsimp only [Option.toList, List.cons_append, List.nil_append]
      exact gRetSZ X48 hx hZ hS hEL hlk hret (hb hby at_97) (by decide) (by decide) e48 (Nat.le_refl _) C40c (Or.inr rfl) ⟨rfl, N49⟩
  · refine gIfN X0 hx (hb hby at_3) (q := 6) rfl (XT.i0_eq_f c1) ?_
    refine gIconst X0 hx (1 : Int32) (hb hby at_6) (q := 7) rfl (by decide) ?_
    refine gGoto X0 hx (hb hby at_7) (q := 11) (by decide) (by decide) ?_
    refine gIstore X0 hx (hb hby at_11) (q := 13) rfl (L' := #[.val (.int x0), .val (.int x1), .val (.int x2), .val (.int x3), .val (.int x4), .val (.int (1 : Int32)), .unset, .unset, .unset, .unset]) rfl ?_
    refine gIloadN X0 hx (hb hby at_13) (q := 14) rfl rfl ?_
    refine gIconst X0 hx (3 : Int32) (hb hby at_14) (q := 15) rfl (by decide) ?_
    refine gIand X0 hx (hb hby at_15) (q := 16) rfl ?_
    refine gIstore X0 hx (hb hby at_16) (q := 18) rfl (L' := #[.val (.int x0), .val (.int x1), .val (.int x2), .val (.int x3), .val (.int x4), .val (.int (1 : Int32)), .val (.int (x1 &&& (3 : Int32))), .unset, .unset, .unset]) rfl ?_
    refine gIload X0 hx (hb hby at_18) (q := 20) rfl rfl ?_
    refine gIloadN X0 hx (hb hby at_20) (q := 21) rfl rfl ?_
    refine gIloadN X0 hx (hb hby at_21) (q := 22) rfl rfl ?_
    refine gIload X0 hx (hb hby at_22) (q := 24) rfl rfl ?_
    refine gCallSS X0 hx hZ hS hEL hown (hw _ (List.mem_of_getElem? (i := 0) rfl)) (hw _ (List.mem_of_getElem? (i := 1) rfl)) (hw _ (List.mem_of_getElem? (i := 2) rfl)) (hw _ (List.mem_of_getElem? (i := 3) rfl)) (by decide) (rmDr l Z a0 hw [] hEL ic (x1 &&& (3 : Int32)) x2 x3 x4 h0 n0 Z0 SCs hic O0) (W := 0) (by decide) (by decide) e0 hkk hC (by rw [hml]; rfl) [(.int (x1 &&& (3 : Int32))), (.int x2), (.int x3), (.int x4)] (lenOf pd6 rfl) rfl (S := []) rfl (Nat.le_of_eq rfl) (hb hby at_24) (q := 27) rfl (by decide) (by decide) (fun r50 T50 M50 X50 q50 hS hZ hown C50c SF50c => ?_)
    dsimp only [Option.toList, List.cons_append, List.nil_append]
    obtain ⟨r50s, b50s, kb50s, rfl, M50n, K50, P50e, P50c, P50v, hd50⟩ := q50
    have N51 := Fr.app N0 M50n
    have O52 := O0.keep K50 all0
    have Z53 := Nat.le_trans Z0 K50.1
    rcases hd50 with ⟨hn50, A50z⟩ | ⟨hn50, z0, A50z⟩ | ⟨hn50, z0, z1, A50z⟩ | ⟨⟨hn50a, hn50b, hn50c⟩, z0, z1, z2, A50z⟩
    · have hm50 : (0 : Int32) = (x1 &&& (3 : Int32)) := hn50.symm
      refine gAstore X50 hx (hb hby at_27) (q := 29) rfl rfl (L' := #[.val (.int x0), .val (.int x1), .val (.int x2), .val (.int x3), .val (.int x4), .val (.int (1 : Int32)), .val (.int (x1 &&& (3 : Int32))), .val (.ref r50s), .unset, .unset]) rfl ?_
      refine gIload X50 hx (hb hby at_29) (q := 31) rfl rfl ?_
      refine gIfN X50 hx (hb hby at_31) (q := 34) rfl (XT.i0_eq_f (by decide)) ?_
      refine gGetS X50 hx hZ hown (hw _ (List.mem_of_getElem? (i := 52) rfl)) Via.refl rfl (Sta.ext O52.2 S_r1) (hb hby at_34) (q := 37) rfl (fun T54 X54 e54 => ?_)
      refine gGoto X54 hx (hb hby at_37) (q := 43) (by decide) (by decide) ?_
      refine gAstore X54 hx (hb hby at_43) (q := 45) rfl rfl (L' := #[.val (.int x0), .val (.int x1), .val (.int x2), .val (.int x3), .val (.int x4), .val (.int (1 : Int32)), .val (.int (x1 &&& (3 : Int32))), .val (.ref r50s), .val (.ref r1), .unset]) rfl ?_
      refine gAload X54 hx (hb hby at_45) (q := 47) rfl rfl rfl ?_
      refine gAload X54 hx (hb hby at_47) (q := 49) rfl rfl rfl ?_
      refine gCallV X54 hx hZ hown (hw _ (List.mem_of_getElem? (i := 37) rfl)) (hw _ (List.mem_of_getElem? (i := 38) rfl)) (hw _ (List.mem_of_getElem? (i := 40) rfl)) (hw _ (List.mem_of_getElem? (i := 39) rfl)) (hw _ (List.mem_of_getElem? (i := 35) rfl)) (hw _ (List.mem_of_getElem? (i := 41) rfl)) (notFace_of_selects (args := #[]) (mvT hZ (hw _ (List.mem_of_getElem? (i := 40) rfl)))) (by decide) (rmCs l Z a0 hw [] r0 r1 r50s T50.heap n0 Z53 O52 S_r0 E_r0 Fordinal_r0 S_r1 E_r1 Fordinal_r1 nSN) (W := 0) (by decide) (by decide) e54 (by rw [hml]; rfl) (Exa.ext O52.2 E_r1) [(.ref r50s)] (lenOf pd7 rfl) rfl (S := []) rfl (Nat.le_of_eq rfl) (hb hby at_49) (q := 52) rfl (by decide) (by decide) (fun r55 T55 M55 X55 q55 => ?_)
      obtain ⟨rfl, M55n, e55⟩ := q55
      have N56 := Fr.app N51 M55n
      dsimp only [Option.toList, List.cons_append, List.nil_append]
      refine gAstore X55 hx (hb hby at_52) (q := 54) rfl rfl (L' := #[.val (.int x0), .val (.int x1), .val (.int x2), .val (.int x3), .val (.int x4), .val (.int (1 : Int32)), .val (.int (x1 &&& (3 : Int32))), .val (.ref r50s), .val (.ref r1), .val (.ref r50s)]) rfl ?_
      refine gAload X55 hx (hb hby at_54) (q := 56) rfl rfl rfl ?_
      refine gNonY X55 hx (hb hby at_56) (q := 61) (by decide) (by decide) rfl Value.noConfusion ?_
      refine gIload X55 hx (hb hby at_61) (q := 63) rfl rfl ?_
      refine gIfN X55 hx (hb hby at_63) (q := 66) rfl (XT.i0_eq_f (by decide)) ?_
      refine gAload X55 hx (hb hby at_66) (q := 68) rfl rfl rfl ?_
      refine gCallV X55 hx hZ hown (hw _ (List.mem_of_getElem? (i := 54) rfl)) (hw _ (List.mem_of_getElem? (i := 55) rfl)) (hw _ (List.mem_of_getElem? (i := 57) rfl)) (hw _ (List.mem_of_getElem? (i := 56) rfl)) (hw _ (List.mem_of_getElem? (i := 6) rfl)) (hw _ (List.mem_of_getElem? (i := 58) rfl)) (notFace_of_selects (args := #[]) (mvT hZ (hw _ (List.mem_of_getElem? (i := 57) rfl)))) (by decide) (rmLn0 l Z a0 hw [] r50s b50s kb50s  ic T50.heap n0 Z53 P50v P50c P50e A50z SCs hic O52) (W := 0) (by decide) (by decide) e55 (by rw [hml]; rfl) P50e [] (lenOf pd9 rfl) rfl (S := []) rfl (Nat.le_of_eq rfl) (hb hby at_68) (q := 71) rfl (by decide) (by decide) (fun r57 T57 M57 X57 q57 => ?_)
      obtain ⟨rfl, M57n, e57⟩ := q57
      have N58 := Fr.app N56 M57n
      dsimp only [Option.toList, List.cons_append, List.nil_append]
      refine gIload X57 hx (hb hby at_71) (q := 73) rfl rfl ?_
      refine gIcmpN X57 hx (hb hby at_73) (q := 76) rfl (XT.ii_ne_f hm50) ?_
      refine gAload X57 hx (hb hby at_76) (q := 78) rfl rfl rfl ?_
      refine gAload X57 hx (hb hby at_78) (q := 80) rfl rfl rfl ?_
      refine gCallV X57 hx hZ hown (hw _ (List.mem_of_getElem? (i := 64) rfl)) (hw _ (List.mem_of_getElem? (i := 65) rfl)) (hw _ (List.mem_of_getElem? (i := 67) rfl)) (hw _ (List.mem_of_getElem? (i := 66) rfl)) (hw _ (List.mem_of_getElem? (i := 6) rfl)) (hw _ (List.mem_of_getElem? (i := 68) rfl)) (notFace_of_selects (args := #[]) (mvT hZ (hw _ (List.mem_of_getElem? (i := 67) rfl)))) (by decide) (rmEqSame l Z a0 hw [] r50s T50.heap n0 Z53) (W := 0) (by decide) (by decide) e57 (by rw [hml]; rfl) P50e [(.ref r50s)] (lenOf pd10 rfl) rfl (S := []) rfl (Nat.le_of_eq rfl) (hb hby at_80) (q := 83) rfl (by decide) (by decide) (fun r59 T59 M59 X59 q59 => ?_)
      obtain ⟨rfl, M59n, e59⟩ := q59
      have N60 := Fr.app N58 M59n
      dsimp only [Option.toList, List.cons_append, List.nil_append]
      refine gIfN X59 hx (hb hby at_83) (q := 86) rfl (XT.i0_eq_f (by decide)) ?_
      refine gIconst X59 hx (1 : Int32) (hb hby at_86) (q := 87) rfl (by decide) ?_
      refine gGoto X59 hx (hb hby at_87) (q := 91) (by decide) (by decide) ?_
      exact gRetSZ X59 hx hZ hS hEL hlk hret (hb hby at_91) (by decide) (by decide) e59 (Nat.le_refl _) C50c (Or.inr rfl) ⟨rfl, N60⟩
    · have hm50 : (1 : Int32) = (x1 &&& (3 : Int32)) := hn50.symm
      refine gAstore X50 hx (hb hby at_27) (q := 29) rfl rfl (L' := #[.val (.int x0), .val (.int x1), .val (.int x2), .val (.int x3), .val (.int x4), .val (.int (1 : Int32)), .val (.int (x1 &&& (3 : Int32))), .val (.ref r50s), .unset, .unset]) rfl ?_
      refine gIload X50 hx (hb hby at_29) (q := 31) rfl rfl ?_
      refine gIfN X50 hx (hb hby at_31) (q := 34) rfl (XT.i0_eq_f (by decide)) ?_
      refine gGetS X50 hx hZ hown (hw _ (List.mem_of_getElem? (i := 52) rfl)) Via.refl rfl (Sta.ext O52.2 S_r1) (hb hby at_34) (q := 37) rfl (fun T61 X61 e61 => ?_)
      refine gGoto X61 hx (hb hby at_37) (q := 43) (by decide) (by decide) ?_
      refine gAstore X61 hx (hb hby at_43) (q := 45) rfl rfl (L' := #[.val (.int x0), .val (.int x1), .val (.int x2), .val (.int x3), .val (.int x4), .val (.int (1 : Int32)), .val (.int (x1 &&& (3 : Int32))), .val (.ref r50s), .val (.ref r1), .unset]) rfl ?_
      refine gAload X61 hx (hb hby at_45) (q := 47) rfl rfl rfl ?_
      refine gAload X61 hx (hb hby at_47) (q := 49) rfl rfl rfl ?_
      refine gCallV X61 hx hZ hown (hw _ (List.mem_of_getElem? (i := 37) rfl)) (hw _ (List.mem_of_getElem? (i := 38) rfl)) (hw _ (List.mem_of_getElem? (i := 40) rfl)) (hw _ (List.mem_of_getElem? (i := 39) rfl)) (hw _ (List.mem_of_getElem? (i := 35) rfl)) (hw _ (List.mem_of_getElem? (i := 41) rfl)) (notFace_of_selects (args := #[]) (mvT hZ (hw _ (List.mem_of_getElem? (i := 40) rfl)))) (by decide) (rmCs l Z a0 hw [] r0 r1 r50s T50.heap n0 Z53 O52 S_r0 E_r0 Fordinal_r0 S_r1 E_r1 Fordinal_r1 nSN) (W := 0) (by decide) (by decide) e61 (by rw [hml]; rfl) (Exa.ext O52.2 E_r1) [(.ref r50s)] (lenOf pd7 rfl) rfl (S := []) rfl (Nat.le_of_eq rfl) (hb hby at_49) (q := 52) rfl (by decide) (by decide) (fun r62 T62 M62 X62 q62 => ?_)
      obtain ⟨rfl, M62n, e62⟩ := q62
      have N63 := Fr.app N51 M62n
      dsimp only [Option.toList, List.cons_append, List.nil_append]
      refine gAstore X62 hx (hb hby at_52) (q := 54) rfl rfl (L' := #[.val (.int x0), .val (.int x1), .val (.int x2), .val (.int x3), .val (.int x4), .val (.int (1 : Int32)), .val (.int (x1 &&& (3 : Int32))), .val (.ref r50s), .val (.ref r1), .val (.ref r50s)]) rfl ?_
      refine gAload X62 hx (hb hby at_54) (q := 56) rfl rfl rfl ?_
      refine gNonY X62 hx (hb hby at_56) (q := 61) (by decide) (by decide) rfl Value.noConfusion ?_
      refine gIload X62 hx (hb hby at_61) (q := 63) rfl rfl ?_
      refine gIfN X62 hx (hb hby at_63) (q := 66) rfl (XT.i0_eq_f (by decide)) ?_
      refine gAload X62 hx (hb hby at_66) (q := 68) rfl rfl rfl ?_
      refine gCallV X62 hx hZ hown (hw _ (List.mem_of_getElem? (i := 54) rfl)) (hw _ (List.mem_of_getElem? (i := 55) rfl)) (hw _ (List.mem_of_getElem? (i := 57) rfl)) (hw _ (List.mem_of_getElem? (i := 56) rfl)) (hw _ (List.mem_of_getElem? (i := 6) rfl)) (hw _ (List.mem_of_getElem? (i := 58) rfl)) (notFace_of_selects (args := #[]) (mvT hZ (hw _ (List.mem_of_getElem? (i := 57) rfl)))) (by decide) (rmLn1 l Z a0 hw [] r50s b50s kb50s z0 ic T50.heap n0 Z53 P50v P50c P50e A50z SCs hic O52) (W := 0) (by decide) (by decide) e62 (by rw [hml]; rfl) P50e [] (lenOf pd9 rfl) rfl (S := []) rfl (Nat.le_of_eq rfl) (hb hby at_68) (q := 71) rfl (by decide) (by decide) (fun r64 T64 M64 X64 q64 => ?_)
      obtain ⟨rfl, M64n, e64⟩ := q64
      have N65 := Fr.app N63 M64n
      dsimp only [Option.toList, List.cons_append, List.nil_append]
      refine gIload X64 hx (hb hby at_71) (q := 73) rfl rfl ?_
      refine gIcmpN X64 hx (hb hby at_73) (q := 76) rfl (XT.ii_ne_f hm50) ?_
      refine gAload X64 hx (hb hby at_76) (q := 78) rfl rfl rfl ?_
      refine gAload X64 hx (hb hby at_78) (q := 80) rfl rfl rfl ?_
      refine gCallV X64 hx hZ hown (hw _ (List.mem_of_getElem? (i := 64) rfl)) (hw _ (List.mem_of_getElem? (i := 65) rfl)) (hw _ (List.mem_of_getElem? (i := 67) rfl)) (hw _ (List.mem_of_getElem? (i := 66) rfl)) (hw _ (List.mem_of_getElem? (i := 6) rfl)) (hw _ (List.mem_of_getElem? (i := 68) rfl)) (notFace_of_selects (args := #[]) (mvT hZ (hw _ (List.mem_of_getElem? (i := 67) rfl)))) (by decide) (rmEqSame l Z a0 hw [] r50s T50.heap n0 Z53) (W := 0) (by decide) (by decide) e64 (by rw [hml]; rfl) P50e [(.ref r50s)] (lenOf pd10 rfl) rfl (S := []) rfl (Nat.le_of_eq rfl) (hb hby at_80) (q := 83) rfl (by decide) (by decide) (fun r66 T66 M66 X66 q66 => ?_)
      obtain ⟨rfl, M66n, e66⟩ := q66
      have N67 := Fr.app N65 M66n
      dsimp only [Option.toList, List.cons_append, List.nil_append]
      refine gIfN X66 hx (hb hby at_83) (q := 86) rfl (XT.i0_eq_f (by decide)) ?_
      refine gIconst X66 hx (1 : Int32) (hb hby at_86) (q := 87) rfl (by decide) ?_
      refine gGoto X66 hx (hb hby at_87) (q := 91) (by decide) (by decide) ?_
      exact gRetSZ X66 hx hZ hS hEL hlk hret (hb hby at_91) (by decide) (by decide) e66 (Nat.le_refl _) C50c (Or.inr rfl) ⟨rfl, N67⟩
    · have hm50 : (2 : Int32) = (x1 &&& (3 : Int32)) := hn50.symm
      refine gAstore X50 hx (hb hby at_27) (q := 29) rfl rfl (L' := #[.val (.int x0), .val (.int x1), .val (.int x2), .val (.int x3), .val (.int x4), .val (.int (1 : Int32)), .val (.int (x1 &&& (3 : Int32))), .val (.ref r50s), .unset, .unset]) rfl ?_
      refine gIload X50 hx (hb hby at_29) (q := 31) rfl rfl ?_
      refine gIfN X50 hx (hb hby at_31) (q := 34) rfl (XT.i0_eq_f (by decide)) ?_
      refine gGetS X50 hx hZ hown (hw _ (List.mem_of_getElem? (i := 52) rfl)) Via.refl rfl (Sta.ext O52.2 S_r1) (hb hby at_34) (q := 37) rfl (fun T68 X68 e68 => ?_)
      refine gGoto X68 hx (hb hby at_37) (q := 43) (by decide) (by decide) ?_
      refine gAstore X68 hx (hb hby at_43) (q := 45) rfl rfl (L' := #[.val (.int x0), .val (.int x1), .val (.int x2), .val (.int x3), .val (.int x4), .val (.int (1 : Int32)), .val (.int (x1 &&& (3 : Int32))), .val (.ref r50s), .val (.ref r1), .unset]) rfl ?_
      refine gAload X68 hx (hb hby at_45) (q := 47) rfl rfl rfl ?_
      refine gAload X68 hx (hb hby at_47) (q := 49) rfl rfl rfl ?_
      refine gCallV X68 hx hZ hown (hw _ (List.mem_of_getElem? (i := 37) rfl)) (hw _ (List.mem_of_getElem? (i := 38) rfl)) (hw _ (List.mem_of_getElem? (i := 40) rfl)) (hw _ (List.mem_of_getElem? (i := 39) rfl)) (hw _ (List.mem_of_getElem? (i := 35) rfl)) (hw _ (List.mem_of_getElem? (i := 41) rfl)) (notFace_of_selects (args := #[]) (mvT hZ (hw _ (List.mem_of_getElem? (i := 40) rfl)))) (by decide) (rmCs l Z a0 hw [] r0 r1 r50s T50.heap n0 Z53 O52 S_r0 E_r0 Fordinal_r0 S_r1 E_r1 Fordinal_r1 nSN) (W := 0) (by decide) (by decide) e68 (by rw [hml]; rfl) (Exa.ext O52.2 E_r1) [(.ref r50s)] (lenOf pd7 rfl) rfl (S := []) rfl (Nat.le_of_eq rfl) (hb hby at_49) (q := 52) rfl (by decide) (by decide) (fun r69 T69 M69 X69 q69 => ?_)
      obtain ⟨rfl, M69n, e69⟩ := q69
      have N70 := Fr.app N51 M69n
      dsimp only [Option.toList, List.cons_append, List.nil_append]
      refine gAstore X69 hx (hb hby at_52) (q := 54) rfl rfl (L' := #[.val (.int x0), .val (.int x1), .val (.int x2), .val (.int x3), .val (.int x4), .val (.int (1 : Int32)), .val (.int (x1 &&& (3 : Int32))), .val (.ref r50s), .val (.ref r1), .val (.ref r50s)]) rfl ?_
      refine gAload X69 hx (hb hby at_54) (q := 56) rfl rfl rfl ?_
      refine gNonY X69 hx (hb hby at_56) (q := 61) (by decide) (by decide) rfl Value.noConfusion ?_
      refine gIload X69 hx (hb hby at_61) (q := 63) rfl rfl ?_
      refine gIfN X69 hx (hb hby at_63) (q := 66) rfl (XT.i0_eq_f (by decide)) ?_
      refine gAload X69 hx (hb hby at_66) (q := 68) rfl rfl rfl ?_
      refine gCallV X69 hx hZ hown (hw _ (List.mem_of_getElem? (i := 54) rfl)) (hw _ (List.mem_of_getElem? (i := 55) rfl)) (hw _ (List.mem_of_getElem? (i := 57) rfl)) (hw _ (List.mem_of_getElem? (i := 56) rfl)) (hw _ (List.mem_of_getElem? (i := 6) rfl)) (hw _ (List.mem_of_getElem? (i := 58) rfl)) (notFace_of_selects (args := #[]) (mvT hZ (hw _ (List.mem_of_getElem? (i := 57) rfl)))) (by decide) (rmLn2 l Z a0 hw [] r50s b50s kb50s z0 z1 ic T50.heap n0 Z53 P50v P50c P50e A50z SCs hic O52) (W := 0) (by decide) (by decide) e69 (by rw [hml]; rfl) P50e [] (lenOf pd9 rfl) rfl (S := []) rfl (Nat.le_of_eq rfl) (hb hby at_68) (q := 71) rfl (by decide) (by decide) (fun r71 T71 M71 X71 q71 => ?_)
      obtain ⟨rfl, M71n, e71⟩ := q71
      have N72 := Fr.app N70 M71n
      dsimp only [Option.toList, List.cons_append, List.nil_append]
      refine gIload X71 hx (hb hby at_71) (q := 73) rfl rfl ?_
      refine gIcmpN X71 hx (hb hby at_73) (q := 76) rfl (XT.ii_ne_f hm50) ?_
      refine gAload X71 hx (hb hby at_76) (q := 78) rfl rfl rfl ?_
      refine gAload X71 hx (hb hby at_78) (q := 80) rfl rfl rfl ?_
      refine gCallV X71 hx hZ hown (hw _ (List.mem_of_getElem? (i := 64) rfl)) (hw _ (List.mem_of_getElem? (i := 65) rfl)) (hw _ (List.mem_of_getElem? (i := 67) rfl)) (hw _ (List.mem_of_getElem? (i := 66) rfl)) (hw _ (List.mem_of_getElem? (i := 6) rfl)) (hw _ (List.mem_of_getElem? (i := 68) rfl)) (notFace_of_selects (args := #[]) (mvT hZ (hw _ (List.mem_of_getElem? (i := 67) rfl)))) (by decide) (rmEqSame l Z a0 hw [] r50s T50.heap n0 Z53) (W := 0) (by decide) (by decide) e71 (by rw [hml]; rfl) P50e [(.ref r50s)] (lenOf pd10 rfl) rfl (S := []) rfl (Nat.le_of_eq rfl) (hb hby at_80) (q := 83) rfl (by decide) (by decide) (fun r73 T73 M73 X73 q73 => ?_)
      obtain ⟨rfl, M73n, e73⟩ := q73
      have N74 := Fr.app N72 M73n
      dsimp only [Option.toList, List.cons_append, List.nil_append]
      refine gIfN X73 hx (hb hby at_83) (q := 86) rfl (XT.i0_eq_f (by decide)) ?_
      refine gIconst X73 hx (1 : Int32) (hb hby at_86) (q := 87) rfl (by decide) ?_
      refine gGoto X73 hx (hb hby at_87) (q := 91) (by decide) (by decide) ?_
      exact gRetSZ X73 hx hZ hS hEL hlk hret (hb hby at_91) (by decide) (by decide) e73 (Nat.le_refl _) C50c (Or.inr rfl) ⟨rfl, N74⟩
    · have hm50 : (3 : Int32) = (x1 &&& (3 : Int32)) := own_n3 _ hn50a hn50b hn50c
      refine gAstore X50 hx (hb hby at_27) (q := 29) rfl rfl (L' := #[.val (.int x0), .val (.int x1), .val (.int x2), .val (.int x3), .val (.int x4), .val (.int (1 : Int32)), .val (.int (x1 &&& (3 : Int32))), .val (.ref r50s), .unset, .unset]) rfl ?_
      refine gIload X50 hx (hb hby at_29) (q := 31) rfl rfl ?_
      refine gIfN X50 hx (hb hby at_31) (q := 34) rfl (XT.i0_eq_f (by decide)) ?_
      refine gGetS X50 hx hZ hown (hw _ (List.mem_of_getElem? (i := 52) rfl)) Via.refl rfl (Sta.ext O52.2 S_r1) (hb hby at_34) (q := 37) rfl (fun T75 X75 e75 => ?_)
      refine gGoto X75 hx (hb hby at_37) (q := 43) (by decide) (by decide) ?_
      refine gAstore X75 hx (hb hby at_43) (q := 45) rfl rfl (L' := #[.val (.int x0), .val (.int x1), .val (.int x2), .val (.int x3), .val (.int x4), .val (.int (1 : Int32)), .val (.int (x1 &&& (3 : Int32))), .val (.ref r50s), .val (.ref r1), .unset]) rfl ?_
      refine gAload X75 hx (hb hby at_45) (q := 47) rfl rfl rfl ?_
      refine gAload X75 hx (hb hby at_47) (q := 49) rfl rfl rfl ?_
      refine gCallV X75 hx hZ hown (hw _ (List.mem_of_getElem? (i := 37) rfl)) (hw _ (List.mem_of_getElem? (i := 38) rfl)) (hw _ (List.mem_of_getElem? (i := 40) rfl)) (hw _ (List.mem_of_getElem? (i := 39) rfl)) (hw _ (List.mem_of_getElem? (i := 35) rfl)) (hw _ (List.mem_of_getElem? (i := 41) rfl)) (notFace_of_selects (args := #[]) (mvT hZ (hw _ (List.mem_of_getElem? (i := 40) rfl)))) (by decide) (rmCs l Z a0 hw [] r0 r1 r50s T50.heap n0 Z53 O52 S_r0 E_r0 Fordinal_r0 S_r1 E_r1 Fordinal_r1 nSN) (W := 0) (by decide) (by decide) e75 (by rw [hml]; rfl) (Exa.ext O52.2 E_r1) [(.ref r50s)] (lenOf pd7 rfl) rfl (S := []) rfl (Nat.le_of_eq rfl) (hb hby at_49) (q := 52) rfl (by decide) (by decide) (fun r76 T76 M76 X76 q76 => ?_)
      obtain ⟨rfl, M76n, e76⟩ := q76
      have N77 := Fr.app N51 M76n
      dsimp only [Option.toList, List.cons_append, List.nil_append]
      refine gAstore X76 hx (hb hby at_52) (q := 54) rfl rfl (L' := #[.val (.int x0), .val (.int x1), .val (.int x2), .val (.int x3), .val (.int x4), .val (.int (1 : Int32)), .val (.int (x1 &&& (3 : Int32))), .val (.ref r50s), .val (.ref r1), .val (.ref r50s)]) rfl ?_
      refine gAload X76 hx (hb hby at_54) (q := 56) rfl rfl rfl ?_
      refine gNonY X76 hx (hb hby at_56) (q := 61) (by decide) (by decide) rfl Value.noConfusion ?_
      refine gIload X76 hx (hb hby at_61) (q := 63) rfl rfl ?_
      refine gIfN X76 hx (hb hby at_63) (q := 66) rfl (XT.i0_eq_f (by decide)) ?_
      refine gAload X76 hx (hb hby at_66) (q := 68) rfl rfl rfl ?_
      refine gCallV X76 hx hZ hown (hw _ (List.mem_of_getElem? (i := 54) rfl)) (hw _ (List.mem_of_getElem? (i := 55) rfl)) (hw _ (List.mem_of_getElem? (i := 57) rfl)) (hw _ (List.mem_of_getElem? (i := 56) rfl)) (hw _ (List.mem_of_getElem? (i := 6) rfl)) (hw _ (List.mem_of_getElem? (i := 58) rfl)) (notFace_of_selects (args := #[]) (mvT hZ (hw _ (List.mem_of_getElem? (i := 57) rfl)))) (by decide) (rmLn3 l Z a0 hw [] r50s b50s kb50s z0 z1 z2 ic T50.heap n0 Z53 P50v P50c P50e A50z SCs hic O52) (W := 0) (by decide) (by decide) e76 (by rw [hml]; rfl) P50e [] (lenOf pd9 rfl) rfl (S := []) rfl (Nat.le_of_eq rfl) (hb hby at_68) (q := 71) rfl (by decide) (by decide) (fun r78 T78 M78 X78 q78 => ?_)
      obtain ⟨rfl, M78n, e78⟩ := q78
      have N79 := Fr.app N77 M78n
      dsimp only [Option.toList, List.cons_append, List.nil_append]
      refine gIload X78 hx (hb hby at_71) (q := 73) rfl rfl ?_
      refine gIcmpN X78 hx (hb hby at_73) (q := 76) rfl (XT.ii_ne_f hm50) ?_
      refine gAload X78 hx (hb hby at_76) (q := 78) rfl rfl rfl ?_
      refine gAload X78 hx (hb hby at_78) (q := 80) rfl rfl rfl ?_
      refine gCallV X78 hx hZ hown (hw _ (List.mem_of_getElem? (i := 64) rfl)) (hw _ (List.mem_of_getElem? (i := 65) rfl)) (hw _ (List.mem_of_getElem? (i := 67) rfl)) (hw _ (List.mem_of_getElem? (i := 66) rfl)) (hw _ (List.mem_of_getElem? (i := 6) rfl)) (hw _ (List.mem_of_getElem? (i := 68) rfl)) (notFace_of_selects (args := #[]) (mvT hZ (hw _ (List.mem_of_getElem? (i := 67) rfl)))) (by decide) (rmEqSame l Z a0 hw [] r50s T50.heap n0 Z53) (W := 0) (by decide) (by decide) e78 (by rw [hml]; rfl) P50e [(.ref r50s)] (lenOf pd10 rfl) rfl (S := []) rfl (Nat.le_of_eq rfl) (hb hby at_80) (q := 83) rfl (by decide) (by decide) (fun r80 T80 M80 X80 q80 => ?_)
      obtain ⟨rfl, M80n, e80⟩ := q80
      have N81 := Fr.app N79 M80n
      dsimp only [Option.toList, List.cons_append, List.nil_append]
      refine gIfN X80 hx (hb hby at_83) (q := 86) rfl (XT.i0_eq_f (by decide)) ?_
      refine gIconst X80 hx (1 : Int32) (hb hby at_86) (q := 87) rfl (by decide) ?_
      refine gGoto X80 hx (hb hby at_87) (q := 91) (by decide) (by decide) ?_
      exact gRetSZ X80 hx hZ hS hEL hlk hret (hb hby at_91) (by decide) (by decide) e80 (Nat.le_refl _) C50c (Or.inr rfl) ⟨rfl, N81⟩
set_option maxRecDepth 65536 in
set_option maxHeartbeats 40000000 in
theorem comes_1 {Post : Tables → Env → Array Value → State → Outcome → State → Prop} (hpost : ∀ tb e args s v u, (limb_1_1.after args s (.returned v) u = true ∧ limb_1_2.after args s (.returned v) u = true ∧ True) → FramedW s (.returned v) u (Jvm.fieldLocs frame_1_writes args s ++ Jvm.arrayLocs frame_1_arrays args s ++ Jvm.staticLocs frame_1_statics s) 24 2176 → Post tb e args s (.returned v) u) :
    ArmFor flags0 classFile x code maxLocals ret World_1 tables_1 room_1 Calls_1 rest_1 Pre_1 Post := by
  intro l hfl _ _ p e ha hc hk s m args below hf hA hF happ hP
  obtain ⟨hcalls, hrest, hpre⟩ := hP
  obtain ⟨-, -, -, hnamed, -, -, -, hat⟩ := (Spec.applies_iff hf).mp happ
  obtain ⟨hg, hn⟩ := and_e (Cond.before_iff.mp (show (Jvm.Cond.and given_1 narrow_1).before args s = true from hpre))
  obtain ⟨hcount, hg⟩ := and_e hg
  obtain ⟨hk0, hg⟩ := and_e hg
  obtain ⟨hk1, hg⟩ := and_e hg
  obtain ⟨hk2, hg⟩ := and_e hg
  obtain ⟨hk3, hg⟩ := and_e hg
  have hk4 := hg
  obtain ⟨w0, w1, w2, w3, w4, rfl⟩ : ∃ w0 w1 w2 w3 w4 : Value, args = #[w0, w1, w2, w3, w4] := by
    have hs : args.size = 5 := by simpa [Cond.value, given_1] using hcount
    obtain ⟨L⟩ := args
    match L, hs with
    | [w0, w1, w2, w3, w4], _ => exact ⟨w0, w1, w2, w3, w4, rfl⟩
  have hw := fun d (hd : d ∈ tables_1) => atoms_spec (ws := Jvm.Cond.code x code maxLocals ret :: tables_1) hat d (List.mem_cons_of_mem _ hd)
  have hfit : Fit s := fun {y c} hc i hi => by
    obtain ⟨ha, rfl⟩ := Array.getElem?_eq_some_iff.mp hc
    have q := List.all_eq_true.mp ((Array.all_eq_true_iff_forall_mem.mp hF) _ (Array.getElem_mem ha)) i (List.mem_range.mpr hi)
    simpa [Array.getElem?_eq_getElem hi] using q
  obtain ⟨i0, hi0⟩ := is_v hk0
  obtain rfl : w0 = (.int i0) := Option.some.inj hi0
  obtain ⟨i1, hi1⟩ := is_v hk1
  obtain rfl : w1 = (.int i1) := Option.some.inj hi1
  obtain ⟨i2, hi2⟩ := is_v hk2
  obtain rfl : w2 = (.int i2) := Option.some.inj hi2
  obtain ⟨i3, hi3⟩ := is_v hk3
  obtain rfl : w3 = (.int i3) := Option.some.inj hi3
  obtain ⟨i4, hi4⟩ := is_v hk4
  obtain rfl : w4 = (.int i4) := Option.some.inj hi4
  obtain ⟨na0, hn⟩ := and_e hn
  obtain ⟨na1, hn⟩ := and_e hn
  obtain ⟨na2, hn⟩ := and_e hn
  have na3 := hn
  obtain ⟨r0, ev_r0⟩ := exa_v na0
  have E_r0 := Exa.start ev_r0 na0
  have S_r0 : Sta s s.heap "com/example/tariffwright/tariffwright/Costs$Scope" "NYCA" "Lcom/example/tariffwright/tariffwright/Costs$Scope;" (.ref r0) := Sta.start ev_r0 (Or.inr ⟨(hw _ (List.mem_of_getElem? (i := 35) rfl)), (hw _ (List.mem_of_getElem? (i := 36) rfl))⟩)
  obtain ⟨r1, ev_r1⟩ := exa_v na1
  have E_r1 := Exa.start ev_r1 na1
  have S_r1 : Sta s s.heap "com/example/tariffwright/tariffwright/Costs$Scope" "SUBZONE" "Lcom/example/tariffwright/tariffwright/Costs$Scope;" (.ref r1) := Sta.start ev_r1 (Or.inr ⟨(hw _ (List.mem_of_getElem? (i := 35) rfl)), (hw _ (List.mem_of_getElem? (i := 53) rfl))⟩)
  have Fordinal_r1 := own_fldI ev_r1 na2
  have Fordinal_r0 := own_fldI ev_r0 na3
  obtain ⟨hsets, hown0⟩ := atoms_of _ (rest_1_c_eq ▸ (show rest_1_c.before _ s = true from hrest))
  obtain ⟨ic, evc⟩ := is_v (Cond.before_iff.mp (hsets _ (List.mem_of_getElem? (i := 1) rfl)))
  have SCs := Sta.start evc (Or.inl (hsets _ (List.mem_of_getElem? (i := 0) rfl)))
  have hcompact := hsets _ (List.mem_of_getElem? (i := 2) rfl)
  have hic : ¬ ic = (0 : Int32) := gotF (Cond.eq_ints evc (Term.int_eval 0)) (not_v (Cond.before_iff.mp hcompact))
  obtain ⟨n, o, h1, h2, h3, _, L, rfl, ⟨rfl, N⟩, -, hq⟩ := rm0 l s _ hw tables_1 (own_EW hw) i0 i1 i2 i3 i4 r0 r1 ic s.heap s.heap.size (Nat.le_refl _) S_r0 E_r0 Fordinal_r0 S_r1 E_r1 Fordinal_r1 SCs hic (Old.start s) p e ha hc hk s m _ below hf ((Spec.applies_iff_loose hf).mp happ).1 ⟨rfl, State.Warmed39.refl s, rfl, CHv.start (own_EW hw) (fun p hp => hcalls.1 p hp) hcompact (hw _ (List.mem_of_getElem? (i := 23) rfl)) (hw _ (List.mem_of_getElem? (i := 5) rfl))⟩ trivial
  refine ⟨n, _, h1, h2, h3, hpost _ _ _ _ _ _ ⟨Cond.after_iff.mpr rfl, Cond.after_iff.mpr (eq_i res_at (Term.int_eval (1)) rfl), trivial⟩ ⟨hq.1, hq.2.1, hq.2.2.1, (hq.2.2.2.sift fun y hy => Or.inr (N y hy)).mono (by decide) (by decide)⟩⟩
theorem main_1_1 : Claimed_1_1 := comes_1 fun _ _ _ _ _ _ h hF => ⟨h.1, hF⟩
theorem main_1_2 : Claimed_1_2 := comes_1 fun _ _ _ _ _ _ h hF => ⟨h.2.1, hF⟩
end Jvm.Pilot.@@N@@
namespace Jvm.Pilot.@@N@@
open Jvm Jvm.ClassFile Sem Op Lib Jvm.Free Jvm.Stand Jvm.Pilot.@@N@@.Jvm.D
/-! MADE BY PROGRAM (witnessworld.py) out of the Statement's table words and the real class files: 21 classes; the members and pool entries that the words name. The judged class is class 1, her method 2. -/
namespace start1
open Jvm.ClassFile
def u (s : String) : CpInfo := .utf8 (stringToUtf16 s)
/-- a pool by its gaps: so many unusable entries, then the entry; so many at the end -/
def gap : Nat → List CpInfo → List CpInfo
  | 0, r => r
  | n + 1, r => .unusable :: gap n r
def poolList (es : List (Nat × CpInfo)) (last : Nat) : List CpInfo := es.foldr (fun e r => gap e.1 (e.2 :: r)) (gap last [])
def pool (es : List (Nat × CpInfo)) (last : Nat) : Array CpInfo := ⟨poolList es last⟩
def fileOf (pool : Array CpInfo) (this : Nat) (attrs : Array Attribute := #[]) (ms : Array MethodInfo := #[]) (fl : Nat := 33) (sup : Nat := 0) (ifs : Array Nat := #[]) (fds : Array FieldInfo := #[]) : ClassFile where
  minorVersion := 0
  majorVersion := 65
  constantPool := pool
  accessFlags := fl
  thisClass := this
  superClass := sup
  interfaces := ifs
  fields := fds
  methods := ms
  attributes := attrs
def plain (name : String) (sup : Option ClassId) : Class where
  name := name
  kind := .ordinary
  loader := none
  accessFlags := 33
  super := sup
  interfaces := #[]
  cf := none
  fields := #[]
  methods := #[]
  instanceTypes := #[]
  staticTypes := #[]
  resolved := #[]
  callSites := []
  init := .initialized
  statics := none
  mirror := none

def pool0 : Array CpInfo := pool [(5, u "<init>"), (0, u "()V"), (1, .class_ 10), (1, u "java/lang/Object")] 113

def k0c0 : Code := { maxStack := 0, maxLocals := 1, code := object_method_1_code, exceptionTable := #[], attributes := #[] }
def k0m0 : Method := { name := "<init>", desc := "()V", sig := { parameters := [], returnType := none }, accessFlags := 1, code := some k0c0 }
/-- java/lang/Object -/
def k0 : Class := { plain "java/lang/Object" none with
  accessFlags := 33
  interfaces := #[]
  cf := some (fileOf pool0 8 #[] #[{ accessFlags := 1, nameIndex := 5, descriptorIndex := 6, attributes := #[] }] 33 0 #[] #[])
  fields := #[]
  methods := #[k0m0]
  instanceTypes := #[]
  staticTypes := #[]
  resolved := Array.replicate 124 none
  statics := none }

def pool1 : Array CpInfo := pool [(2, .class_ 4), (1, u "java/lang/Object"), (0, u "<init>"), (0, u "()V"), (0, .class_ 8), (0, u "java/lang/String"), (0, .methodref 7 10), (0, .nameAndType 5 11), (0, u "([C)V"), (0, .methodref 13 14), (0, .class_ 15), (0, .nameAndType 16 17), (0, u "com/example/tariffwright/tariffwright/ScopeCostSubzonePinLaw"), (0, u "drawn"), (0, u "(IIII)Ljava/lang/String;"), (0, .fieldref 19 20), (0, .class_ 21), (0, .nameAndType 22 23), (0, u "com/example/tariffwright/tariffwright/Costs$Scope"), (0, u "SUBZONE"), (0, u "Lcom/example/tariffwright/tariffwright/Costs$Scope;"), (0, .fieldref 19 25), (0, .nameAndType 26 23), (0, u "NYCA"), (0, .methodref 19 28), (0, .nameAndType 29 30), (0, u "costSubzone"), (0, u "(Ljava/lang/String;)Ljava/lang/String;"), (0, .methodref 7 32), (0, .nameAndType 33 34), (0, u "length"), (0, u "()I"), (0, .methodref 7 36), (0, .nameAndType 37 38), (0, u "equals"), (0, u "(Ljava/lang/Object;)Z"), (0, .methodref 7 40), (0, .nameAndType 41 42), (0, u "isEmpty"), (0, u "()Z"), (3, u "law"), (0, u "(IIIII)Z")] 6

def k1m0 : Method := { name := "<init>", desc := "()V", sig := { parameters := [], returnType := none }, accessFlags := 2, code := none }
def k1c1 : Code := { maxStack := 6, maxLocals := 7, code := method_2_code, exceptionTable := #[], attributes := #[] }
def k1m1 : Method := { name := "drawn", desc := "(IIII)Ljava/lang/String;", sig := { parameters := [.int, .int, .int, .int], returnType := some (.object "java/lang/String") }, accessFlags := 10, code := some k1c1 }
def k1c2 : Code := { maxStack := 4, maxLocals := 10, code := code, exceptionTable := #[], attributes := #[] }
def k1m2 : Method := { name := "law", desc := "(IIIII)Z", sig := { parameters := [.int, .int, .int, .int, .int], returnType := some .boolean }, accessFlags := 9, code := some k1c2 }
/-- com/example/tariffwright/tariffwright/ScopeCostSubzonePinLaw -/
def k1 : Class := { plain "com/example/tariffwright/tariffwright/ScopeCostSubzonePinLaw" (some 0) with
  accessFlags := 49
  interfaces := #[]
  cf := some (fileOf pool1 13 #[] #[{ accessFlags := 2, nameIndex := 5, descriptorIndex := 6, attributes := #[] }, { accessFlags := 10, nameIndex := 16, descriptorIndex := 17, attributes := #[] }, { accessFlags := 9, nameIndex := 46, descriptorIndex := 47, attributes := #[] }] 49 2 #[] #[])
  fields := #[]
  methods := #[k1m0, k1m1, k1m2]
  instanceTypes := #[]
  staticTypes := #[]
  resolved := Array.replicate 54 none
  statics := none }

def pool2 : Array CpInfo := pool [(1, .class_ 2), (0, u "java/io/Serializable"), (0, .class_ 4), (0, u "java/lang/Object")] 2

/-- java/io/Serializable -/
def k2 : Class := { plain "java/io/Serializable" (some 0) with
  accessFlags := 1537
  interfaces := #[]
  cf := some (fileOf pool2 1 #[] #[] 1537 3 #[] #[])
  fields := #[]
  methods := #[]
  instanceTypes := #[]
  staticTypes := #[]
  resolved := Array.replicate 7 none
  statics := none }

def pool3 : Array CpInfo := pool [(1, .class_ 2), (0, u "java/lang/Comparable"), (0, .class_ 4), (0, u "java/lang/Object")] 7

/-- java/lang/Comparable -/
def k3 : Class := { plain "java/lang/Comparable" (some 0) with
  accessFlags := 1537
  interfaces := #[]
  cf := some (fileOf pool3 1 #[] #[] 1537 3 #[] #[])
  fields := #[]
  methods := #[]
  instanceTypes := #[]
  staticTypes := #[]
  resolved := Array.replicate 12 none
  statics := none }

def pool4 : Array CpInfo := pool [(2, .class_ 4), (1, u "java/lang/CharSequence"), (42, .class_ 48), (0, u "java/lang/CharSequence$1CodePointIterator"), (10, .class_ 60), (0, u "java/lang/CharSequence$1CharIterator"), (5, .class_ 67), (0, u "java/lang/Object")] 63

/-- java/lang/CharSequence -/
def k4 : Class := { plain "java/lang/CharSequence" (some 0) with
  accessFlags := 1537
  interfaces := #[]
  cf := some (fileOf pool4 2 #[.nestMembers #[47, 59]] #[] 1537 66 #[] #[])
  fields := #[]
  methods := #[]
  instanceTypes := #[]
  staticTypes := #[]
  resolved := Array.replicate 131 none
  statics := none }

def pool5 : Array CpInfo := pool [(1, .class_ 2), (0, u "java/lang/constant/Constable"), (0, .class_ 4), (0, u "java/lang/Object")] 6

/-- java/lang/constant/Constable -/
def k5 : Class := { plain "java/lang/constant/Constable" (some 0) with
  accessFlags := 1537
  interfaces := #[]
  cf := some (fileOf pool5 1 #[] #[] 1537 3 #[] #[])
  fields := #[]
  methods := #[]
  instanceTypes := #[]
  staticTypes := #[]
  resolved := Array.replicate 11 none
  statics := none }

def pool6 : Array CpInfo := pool [(1, .class_ 2), (0, u "java/lang/constant/ConstantDesc"), (0, .class_ 4), (0, u "java/lang/Object")] 32

/-- java/lang/constant/ConstantDesc -/
def k6 : Class := { plain "java/lang/constant/ConstantDesc" (some 0) with
  accessFlags := 1537
  interfaces := #[]
  cf := some (fileOf pool6 1 #[] #[] 1537 3 #[] #[])
  fields := #[]
  methods := #[]
  instanceTypes := #[]
  staticTypes := #[]
  resolved := Array.replicate 37 none
  statics := none }

def pool7 : Array CpInfo := pool [(1, .methodref 2 3), (0, .class_ 4), (0, .nameAndType 5 6), (0, u "java/lang/Object"), (0, u "<init>"), (0, u "()V"), (0, .string 8), (0, u ""), (0, .fieldref 10 11), (0, .class_ 12), (0, .nameAndType 13 14), (0, u "java/lang/String"), (0, u "value"), (0, u "[B"), (0, .fieldref 10 16), (0, .nameAndType 17 18), (0, u "coder"), (0, u "B"), (2, u "hash"), (0, u "I"), (2, u "hashIsZero"), (0, u "Z"), (0, .methodref 10 28), (0, .nameAndType 5 29), (0, u "([CIILjava/lang/Void;)V"), (8, .fieldref 10 39), (0, .nameAndType 40 26), (0, u "COMPACT_STRINGS"), (1, .class_ 44), (1, u "java/lang/StringUTF16"), (0, u "compress"), (1, .methodref 42 48), (0, .nameAndType 49 50), (0, u "coderFromArrayLen"), (0, u "([BI)B"), (91, u "()Z"), (34, .methodref 42 178), (0, .nameAndType 45 179), (0, u "([CII)[B"), (154, u "()I"), (0, .methodref 10 336), (0, .nameAndType 17 337), (0, u "()B"), (169, u "length"), (35, u "equals"), (29, u "(Ljava/lang/Object;)Z"), (1, .class_ 576), (0, u "java/lang/CharSequence"), (22, u "CASE_INSENSITIVE_ORDER"), (0, u "Ljava/util/Comparator;"), (91, u "isEmpty"), (317, u "([C)V"), (90, u "serialPersistentFields"), (0, u "[Ljava/io/ObjectStreamField;"), (0, .class_ 1104), (0, u "java/lang/String$CaseInsensitiveComparator"), (1, .class_ 1107), (0, u "java/io/Serializable"), (0, .class_ 1109), (0, u "java/lang/Comparable"), (0, .class_ 1111), (0, u "java/lang/constant/Constable"), (0, .class_ 1113), (0, u "java/lang/constant/ConstantDesc"), (2, u "serialVersionUID"), (0, u "J"), (3, u "REPL"), (0, u "C"), (2, u "LATIN1"), (1, u "UTF16")] 323

def k7m0 : Method := { name := "<init>", desc := "()V", sig := { parameters := [], returnType := none }, accessFlags := 1, code := none }
def k7c1 : Code := { maxStack := 5, maxLocals := 2, code := jdk_42_method_3_code, exceptionTable := #[], attributes := #[] }
def k7m1 : Method := { name := "<init>", desc := "([C)V", sig := { parameters := [(.array .char)], returnType := none }, accessFlags := 1, code := some k7c1 }
def k7c2 : Code := { maxStack := 2, maxLocals := 1, code := jdk_42_method_54_code, exceptionTable := #[], attributes := #[] }
def k7m2 : Method := { name := "length", desc := "()I", sig := { parameters := [], returnType := some .int }, accessFlags := 1, code := some k7c2 }
def k7c3 : Code := { maxStack := 1, maxLocals := 1, code := jdk_42_method_55_code, exceptionTable := #[], attributes := #[] }
def k7m3 : Method := { name := "isEmpty", desc := "()Z", sig := { parameters := [], returnType := some .boolean }, accessFlags := 1, code := some k7c3 }
def k7c4 : Code := { maxStack := 2, maxLocals := 3, code := jdk_42_method_66_code, exceptionTable := #[], attributes := #[] }
def k7m4 : Method := { name := "equals", desc := "(Ljava/lang/Object;)Z", sig := { parameters := [(.object "java/lang/Object")], returnType := some .boolean }, accessFlags := 1, code := some k7c4 }
def k7c5 : Code := { maxStack := 4, maxLocals := 6, code := jdk_42_method_149_code, exceptionTable := #[], attributes := #[] }
def k7m5 : Method := { name := "<init>", desc := "([CIILjava/lang/Void;)V", sig := { parameters := [(.array .char), .int, .int, (.object "java/lang/Void")], returnType := none }, accessFlags := 2, code := some k7c5 }
def k7c6 : Code := { maxStack := 1, maxLocals := 1, code := jdk_42_method_152_code, exceptionTable := #[], attributes := #[] }
def k7m6 : Method := { name := "coder", desc := "()B", sig := { parameters := [], returnType := some .byte }, accessFlags := 0, code := some k7c6 }
/-- java/lang/String -/
def k7 : Class := { plain "java/lang/String" (some 0) with
  accessFlags := 49
  interfaces := #[2, 3, 4, 5, 6]
  cf := some (fileOf pool7 10 #[.nestMembers #[1103]] #[{ accessFlags := 1, nameIndex := 5, descriptorIndex := 6, attributes := #[] }, { accessFlags := 1, nameIndex := 5, descriptorIndex := 1010, attributes := #[] }, { accessFlags := 1, nameIndex := 507, descriptorIndex := 334, attributes := #[] }, { accessFlags := 1, nameIndex := 692, descriptorIndex := 142, attributes := #[] }, { accessFlags := 1, nameIndex := 543, descriptorIndex := 573, attributes := #[] }, { accessFlags := 2, nameIndex := 5, descriptorIndex := 29, attributes := #[] }, { accessFlags := 0, nameIndex := 17, descriptorIndex := 337, attributes := #[] }] 49 2 #[1106, 1108, 575, 1110, 1112] #[{ accessFlags := 18, nameIndex := 13, descriptorIndex := 14, attributes := #[] }, { accessFlags := 18, nameIndex := 17, descriptorIndex := 18, attributes := #[] }, { accessFlags := 2, nameIndex := 21, descriptorIndex := 22, attributes := #[] }, { accessFlags := 2, nameIndex := 25, descriptorIndex := 26, attributes := #[] }, { accessFlags := 26, nameIndex := 1116, descriptorIndex := 1117, attributes := #[] }, { accessFlags := 24, nameIndex := 40, descriptorIndex := 26, attributes := #[] }, { accessFlags := 26, nameIndex := 1101, descriptorIndex := 1102, attributes := #[] }, { accessFlags := 26, nameIndex := 1121, descriptorIndex := 1122, attributes := #[] }, { accessFlags := 25, nameIndex := 599, descriptorIndex := 600, attributes := #[] }, { accessFlags := 24, nameIndex := 1125, descriptorIndex := 18, attributes := #[] }, { accessFlags := 24, nameIndex := 1127, descriptorIndex := 18, attributes := #[] }])
  fields := #[{ name := "value", type := (.array .byte), accessFlags := 18, slot := 0, constantValue := 0 }, { name := "coder", type := .byte, accessFlags := 18, slot := 1, constantValue := 0 }, { name := "hash", type := .int, accessFlags := 2, slot := 2, constantValue := 0 }, { name := "hashIsZero", type := .boolean, accessFlags := 2, slot := 3, constantValue := 0 }, { name := "serialVersionUID", type := .long, accessFlags := 26, slot := 0, constantValue := 0 }, { name := "COMPACT_STRINGS", type := .boolean, accessFlags := 24, slot := 1, constantValue := 0 }, { name := "serialPersistentFields", type := (.array (.object "java/io/ObjectStreamField")), accessFlags := 26, slot := 2, constantValue := 0 }, { name := "REPL", type := .char, accessFlags := 26, slot := 3, constantValue := 0 }, { name := "CASE_INSENSITIVE_ORDER", type := (.object "java/util/Comparator"), accessFlags := 25, slot := 4, constantValue := 0 }, { name := "LATIN1", type := .byte, accessFlags := 24, slot := 5, constantValue := 0 }, { name := "UTF16", type := .byte, accessFlags := 24, slot := 6, constantValue := 0 }]
  methods := #[k7m0, k7m1, k7m2, k7m3, k7m4, k7m5, k7m6]
  instanceTypes := #[(.array .byte), .byte, .int, .boolean]
  staticTypes := #[.long, .boolean, (.array (.object "java/io/ObjectStreamField")), .char, (.object "java/util/Comparator"), .byte, .byte]
  resolved := Array.replicate 1451 none
  statics := some 0 }

def pool8 : Array CpInfo := pool [(6, .class_ 8), (1, u "java/lang/Object"), (0, u "<init>"), (0, u "()V"), (1, .class_ 14), (1, u "java/lang/StringUTF16"), (31, u "$assertionsDisabled"), (0, u "Z"), (13, u "HI_BYTE_SHIFT"), (0, u "I"), (2, u "LO_BYTE_SHIFT"), (49, .methodref 12 116), (0, .nameAndType 117 118), (0, u "compress"), (0, u "([CI[BII)I"), (3, u "([CII)[B"), (138, u "coderFromArrayLen"), (0, u "([BI)B"), (106, .class_ 371), (1, u "java/lang/StringUTF16$LinesSpliterator"), (58, u "MAX_LENGTH"), (196, .class_ 628), (0, u "java/lang/StringUTF16$CodePointsSpliterator"), (0, .class_ 630), (0, u "java/lang/StringUTF16$CharsSpliterator")] 4

def k8m0 : Method := { name := "<init>", desc := "()V", sig := { parameters := [], returnType := none }, accessFlags := 0, code := none }
def k8c1 : Code := { maxStack := 2, maxLocals := 2, code := jdk_52_method_15_code, exceptionTable := #[], attributes := #[] }
def k8m1 : Method := { name := "coderFromArrayLen", desc := "([BI)B", sig := { parameters := [(.array .byte), .int], returnType := some .byte }, accessFlags := 8, code := some k8c1 }
def k8c2 : Code := { maxStack := 5, maxLocals := 6, code := jdk_52_method_16_code, exceptionTable := #[], attributes := #[] }
def k8m2 : Method := { name := "compress", desc := "([CII)[B", sig := { parameters := [(.array .char), .int, .int], returnType := some (.array .byte) }, accessFlags := 9, code := some k8c2 }
def k8c3 : Code := { maxStack := 3, maxLocals := 7, code := jdk_52_method_21_code, exceptionTable := #[], attributes := #[] }
def k8m3 : Method := { name := "compress", desc := "([CI[BII)I", sig := { parameters := [(.array .char), .int, (.array .byte), .int, .int], returnType := some .int }, accessFlags := 9, code := some k8c3 }
/-- java/lang/StringUTF16 -/
def k8 : Class := { plain "java/lang/StringUTF16" (some 0) with
  accessFlags := 48
  interfaces := #[]
  cf := some (fileOf pool8 12 #[.nestMembers #[627, 629, 369]] #[{ accessFlags := 0, nameIndex := 9, descriptorIndex := 10, attributes := #[] }, { accessFlags := 8, nameIndex := 261, descriptorIndex := 262, attributes := #[] }, { accessFlags := 9, nameIndex := 117, descriptorIndex := 122, attributes := #[] }, { accessFlags := 9, nameIndex := 117, descriptorIndex := 118, attributes := #[] }] 48 6 #[] #[{ accessFlags := 26, nameIndex := 61, descriptorIndex := 62, attributes := #[] }, { accessFlags := 26, nameIndex := 65, descriptorIndex := 62, attributes := #[] }, { accessFlags := 24, nameIndex := 430, descriptorIndex := 62, attributes := #[] }, { accessFlags := 4120, nameIndex := 46, descriptorIndex := 47, attributes := #[] }])
  fields := #[{ name := "HI_BYTE_SHIFT", type := .int, accessFlags := 26, slot := 0, constantValue := 0 }, { name := "LO_BYTE_SHIFT", type := .int, accessFlags := 26, slot := 1, constantValue := 0 }, { name := "MAX_LENGTH", type := .int, accessFlags := 24, slot := 2, constantValue := 0 }, { name := "$assertionsDisabled", type := .boolean, accessFlags := 4120, slot := 3, constantValue := 0 }]
  methods := #[k8m0, k8m1, k8m2, k8m3]
  instanceTypes := #[]
  staticTypes := #[.int, .int, .int, .boolean]
  resolved := Array.replicate 635 none
  statics := none }

def pool9 : Array CpInfo := pool [(2, .class_ 4), (1, u "java/lang/Enum"), (0, u "name"), (0, u "Ljava/lang/String;"), (2, u "ordinal"), (0, u "I"), (1, .class_ 14), (1, u "java/lang/Object"), (4, u "hash"), (86, .class_ 108), (1, u "java/lang/Enum$EnumDesc"), (2, .class_ 112), (0, u "java/lang/constant/Constable"), (0, .class_ 114), (0, u "java/lang/Comparable"), (0, .class_ 116), (0, u "java/io/Serializable")] 87

/-- java/lang/Enum -/
def k9 : Class := { plain "java/lang/Enum" (some 0) with
  accessFlags := 1057
  interfaces := #[5, 3, 2]
  cf := some (fileOf pool9 2 #[.nestMembers #[106]] #[] 1057 12 #[111, 113, 115] #[{ accessFlags := 18, nameIndex := 5, descriptorIndex := 6, attributes := #[] }, { accessFlags := 18, nameIndex := 9, descriptorIndex := 10, attributes := #[] }, { accessFlags := 2, nameIndex := 19, descriptorIndex := 10, attributes := #[] }])
  fields := #[{ name := "name", type := (.object "java/lang/String"), accessFlags := 18, slot := 0, constantValue := 0 }, { name := "ordinal", type := .int, accessFlags := 18, slot := 1, constantValue := 0 }, { name := "hash", type := .int, accessFlags := 2, slot := 2, constantValue := 0 }]
  methods := #[]
  instanceTypes := #[(.object "java/lang/String"), .int, .int]
  staticTypes := #[]
  resolved := Array.replicate 204 none
  statics := none }

def pool10 : Array CpInfo := pool [(1, .class_ 2), (0, u "com/example/tariffwright/tariffwright/Costs$Scope"), (0, .fieldref 1 4), (0, .nameAndType 5 6), (0, u "NYCA"), (0, u "Lcom/example/tariffwright/tariffwright/Costs$Scope;"), (2, u "SUBZONE"), (2, u "$VALUES"), (0, u "[Lcom/example/tariffwright/tariffwright/Costs$Scope;"), (6, .class_ 22), (1, u "java/lang/Enum"), (6, .string 30), (0, u ""), (14, u "costSubzone"), (0, u "(Ljava/lang/String;)Ljava/lang/String;"), (8, .class_ 56), (0, u "com/example/tariffwright/tariffwright/Costs")] 2

def k10c0 : Code := { maxStack := 2, maxLocals := 2, code := prog_36_method_4_code, exceptionTable := #[], attributes := #[] }
def k10m0 : Method := { name := "costSubzone", desc := "(Ljava/lang/String;)Ljava/lang/String;", sig := { parameters := [(.object "java/lang/String")], returnType := some (.object "java/lang/String") }, accessFlags := 0, code := some k10c0 }
/-- com/example/tariffwright/tariffwright/Costs$Scope -/
def k10 : Class := { plain "com/example/tariffwright/tariffwright/Costs$Scope" (some 9) with
  accessFlags := 16432
  interfaces := #[]
  cf := some (fileOf pool10 1 #[.nestHost 55] #[{ accessFlags := 0, nameIndex := 45, descriptorIndex := 46, attributes := #[] }] 16432 20 #[] #[{ accessFlags := 16409, nameIndex := 5, descriptorIndex := 6, attributes := #[] }, { accessFlags := 16409, nameIndex := 9, descriptorIndex := 6, attributes := #[] }, { accessFlags := 4122, nameIndex := 12, descriptorIndex := 13, attributes := #[] }])
  fields := #[{ name := "NYCA", type := (.object "com/example/tariffwright/tariffwright/Costs$Scope"), accessFlags := 16409, slot := 0, constantValue := 0 }, { name := "SUBZONE", type := (.object "com/example/tariffwright/tariffwright/Costs$Scope"), accessFlags := 16409, slot := 1, constantValue := 0 }, { name := "$VALUES", type := (.array (.object "com/example/tariffwright/tariffwright/Costs$Scope")), accessFlags := 4122, slot := 2, constantValue := 0 }]
  methods := #[k10m0]
  instanceTypes := #[(.object "java/lang/String"), .int, .int]
  staticTypes := #[(.object "com/example/tariffwright/tariffwright/Costs$Scope"), (.object "com/example/tariffwright/tariffwright/Costs$Scope"), (.array (.object "com/example/tariffwright/tariffwright/Costs$Scope"))]
  resolved := Array.replicate 59 none
  statics := some 1 }

def pool11 : Array CpInfo := pool [(4, .class_ 6), (1, u "java/lang/Object"), (0, u "<init>"), (0, u "()V"), (5, .class_ 16), (1, u "java/lang/StringLatin1"), (104, u "$assertionsDisabled"), (0, u "Z"), (98, .class_ 223), (1, u "java/lang/StringLatin1$LinesSpliterator"), (166, .class_ 391), (0, u "java/lang/StringLatin1$CharsSpliterator")] 3

def k11m0 : Method := { name := "<init>", desc := "()V", sig := { parameters := [], returnType := none }, accessFlags := 0, code := none }
/-- java/lang/StringLatin1 -/
def k11 : Class := { plain "java/lang/StringLatin1" (some 0) with
  accessFlags := 48
  interfaces := #[]
  cf := some (fileOf pool11 14 #[.nestMembers #[390, 221]] #[{ accessFlags := 0, nameIndex := 7, descriptorIndex := 8, attributes := #[] }] 48 4 #[] #[{ accessFlags := 4120, nameIndex := 121, descriptorIndex := 122, attributes := #[] }])
  fields := #[{ name := "$assertionsDisabled", type := .boolean, accessFlags := 4120, slot := 0, constantValue := 0 }]
  methods := #[k11m0]
  instanceTypes := #[]
  staticTypes := #[.boolean]
  resolved := Array.replicate 395 none
  statics := none }

def pool12 : Array CpInfo := pool [(2, .class_ 4), (1, u "java/lang/Object"), (0, u "<init>"), (0, u "()V"), (17, .class_ 26), (1, u "jdk/internal/util/Preconditions"), (28, .class_ 56), (0, u "jdk/internal/util/Preconditions$4"), (57, .class_ 115), (0, u "jdk/internal/util/Preconditions$1"), (7, u "SIOOBE_FORMATTER"), (0, u "Ljava/util/function/BiFunction;"), (0, .class_ 126), (0, u "jdk/internal/util/Preconditions$2"), (3, u "AIOOBE_FORMATTER"), (0, .class_ 132), (0, u "jdk/internal/util/Preconditions$3"), (3, u "IOOBE_FORMATTER")] 57

def k12m0 : Method := { name := "<init>", desc := "()V", sig := { parameters := [], returnType := none }, accessFlags := 1, code := none }
/-- jdk/internal/util/Preconditions -/
def k12 : Class := { plain "jdk/internal/util/Preconditions" (some 0) with
  accessFlags := 33
  interfaces := #[]
  cf := some (fileOf pool12 24 #[.nestMembers #[55, 131, 125, 114]] #[{ accessFlags := 1, nameIndex := 5, descriptorIndex := 6, attributes := #[] }] 33 2 #[] #[{ accessFlags := 25, nameIndex := 123, descriptorIndex := 124, attributes := #[] }, { accessFlags := 25, nameIndex := 130, descriptorIndex := 124, attributes := #[] }, { accessFlags := 25, nameIndex := 136, descriptorIndex := 124, attributes := #[] }])
  fields := #[{ name := "SIOOBE_FORMATTER", type := (.object "java/util/function/BiFunction"), accessFlags := 25, slot := 0, constantValue := 0 }, { name := "AIOOBE_FORMATTER", type := (.object "java/util/function/BiFunction"), accessFlags := 25, slot := 1, constantValue := 0 }, { name := "IOOBE_FORMATTER", type := (.object "java/util/function/BiFunction"), accessFlags := 25, slot := 2, constantValue := 0 }]
  methods := #[k12m0]
  instanceTypes := #[]
  staticTypes := #[(.object "java/util/function/BiFunction"), (.object "java/util/function/BiFunction"), (.object "java/util/function/BiFunction")]
  resolved := Array.replicate 194 none
  statics := some 2 }

def pool13 : Array CpInfo := pool [(9, u "<init>"), (6, .class_ 18), (1, u "java/lang/Object"), (0, u "()V"), (1, .class_ 23), (1, u "jdk/internal/util/ArraysSupport"), (0, u "LOG2_ARRAY_LONG_INDEX_SCALE"), (0, u "I"), (2, u "U"), (0, u "Ljdk/internal/misc/Unsafe;"), (8, u "BIG_ENDIAN"), (0, u "Z"), (8, u "LOG2_BYTE_BIT_SIZE"), (4, u "LOG2_ARRAY_INT_INDEX_SCALE"), (54, u "JLA"), (0, u "Ljdk/internal/access/JavaLangAccess;"), (11, u "LOG2_ARRAY_BOOLEAN_INDEX_SCALE"), (9, u "LOG2_ARRAY_BYTE_INDEX_SCALE"), (5, u "LOG2_ARRAY_CHAR_INDEX_SCALE"), (5, u "LOG2_ARRAY_SHORT_INDEX_SCALE"), (18, u "LOG2_ARRAY_FLOAT_INDEX_SCALE"), (24, u "LOG2_ARRAY_DOUBLE_INDEX_SCALE"), (89, u "T_BOOLEAN"), (2, u "T_CHAR"), (1, u "T_FLOAT"), (1, u "T_DOUBLE"), (1, u "T_BYTE"), (1, u "T_SHORT"), (1, u "T_INT"), (1, u "T_LONG"), (1, u "SOFT_MAX_ARRAY_LENGTH")] 83

def k13m0 : Method := { name := "<init>", desc := "()V", sig := { parameters := [], returnType := none }, accessFlags := 2, code := none }
/-- jdk/internal/util/ArraysSupport -/
def k13 : Class := { plain "jdk/internal/util/ArraysSupport" (some 0) with
  accessFlags := 33
  interfaces := #[]
  cf := some (fileOf pool13 21 #[] #[{ accessFlags := 2, nameIndex := 9, descriptorIndex := 19, attributes := #[] }] 33 16 #[] #[{ accessFlags := 24, nameIndex := 28, descriptorIndex := 29, attributes := #[] }, { accessFlags := 26, nameIndex := 38, descriptorIndex := 39, attributes := #[] }, { accessFlags := 25, nameIndex := 121, descriptorIndex := 25, attributes := #[] }, { accessFlags := 25, nameIndex := 131, descriptorIndex := 25, attributes := #[] }, { accessFlags := 25, nameIndex := 137, descriptorIndex := 25, attributes := #[] }, { accessFlags := 25, nameIndex := 143, descriptorIndex := 25, attributes := #[] }, { accessFlags := 25, nameIndex := 53, descriptorIndex := 25, attributes := #[] }, { accessFlags := 25, nameIndex := 24, descriptorIndex := 25, attributes := #[] }, { accessFlags := 25, nameIndex := 162, descriptorIndex := 25, attributes := #[] }, { accessFlags := 25, nameIndex := 187, descriptorIndex := 25, attributes := #[] }, { accessFlags := 26, nameIndex := 48, descriptorIndex := 25, attributes := #[] }, { accessFlags := 25, nameIndex := 277, descriptorIndex := 25, attributes := #[] }, { accessFlags := 25, nameIndex := 280, descriptorIndex := 25, attributes := #[] }, { accessFlags := 25, nameIndex := 282, descriptorIndex := 25, attributes := #[] }, { accessFlags := 25, nameIndex := 284, descriptorIndex := 25, attributes := #[] }, { accessFlags := 25, nameIndex := 286, descriptorIndex := 25, attributes := #[] }, { accessFlags := 25, nameIndex := 288, descriptorIndex := 25, attributes := #[] }, { accessFlags := 25, nameIndex := 290, descriptorIndex := 25, attributes := #[] }, { accessFlags := 25, nameIndex := 292, descriptorIndex := 25, attributes := #[] }, { accessFlags := 26, nameIndex := 108, descriptorIndex := 109, attributes := #[] }, { accessFlags := 25, nameIndex := 294, descriptorIndex := 25, attributes := #[] }])
  fields := #[{ name := "U", type := (.object "jdk/internal/misc/Unsafe"), accessFlags := 24, slot := 0, constantValue := 0 }, { name := "BIG_ENDIAN", type := .boolean, accessFlags := 26, slot := 1, constantValue := 0 }, { name := "LOG2_ARRAY_BOOLEAN_INDEX_SCALE", type := .int, accessFlags := 25, slot := 2, constantValue := 0 }, { name := "LOG2_ARRAY_BYTE_INDEX_SCALE", type := .int, accessFlags := 25, slot := 3, constantValue := 0 }, { name := "LOG2_ARRAY_CHAR_INDEX_SCALE", type := .int, accessFlags := 25, slot := 4, constantValue := 0 }, { name := "LOG2_ARRAY_SHORT_INDEX_SCALE", type := .int, accessFlags := 25, slot := 5, constantValue := 0 }, { name := "LOG2_ARRAY_INT_INDEX_SCALE", type := .int, accessFlags := 25, slot := 6, constantValue := 0 }, { name := "LOG2_ARRAY_LONG_INDEX_SCALE", type := .int, accessFlags := 25, slot := 7, constantValue := 0 }, { name := "LOG2_ARRAY_FLOAT_INDEX_SCALE", type := .int, accessFlags := 25, slot := 8, constantValue := 0 }, { name := "LOG2_ARRAY_DOUBLE_INDEX_SCALE", type := .int, accessFlags := 25, slot := 9, constantValue := 0 }, { name := "LOG2_BYTE_BIT_SIZE", type := .int, accessFlags := 26, slot := 10, constantValue := 0 }, { name := "T_BOOLEAN", type := .int, accessFlags := 25, slot := 11, constantValue := 0 }, { name := "T_CHAR", type := .int, accessFlags := 25, slot := 12, constantValue := 0 }, { name := "T_FLOAT", type := .int, accessFlags := 25, slot := 13, constantValue := 0 }, { name := "T_DOUBLE", type := .int, accessFlags := 25, slot := 14, constantValue := 0 }, { name := "T_BYTE", type := .int, accessFlags := 25, slot := 15, constantValue := 0 }, { name := "T_SHORT", type := .int, accessFlags := 25, slot := 16, constantValue := 0 }, { name := "T_INT", type := .int, accessFlags := 25, slot := 17, constantValue := 0 }, { name := "T_LONG", type := .int, accessFlags := 25, slot := 18, constantValue := 0 }, { name := "JLA", type := (.object "jdk/internal/access/JavaLangAccess"), accessFlags := 26, slot := 19, constantValue := 0 }, { name := "SOFT_MAX_ARRAY_LENGTH", type := .int, accessFlags := 25, slot := 20, constantValue := 0 }]
  methods := #[k13m0]
  instanceTypes := #[]
  staticTypes := #[(.object "jdk/internal/misc/Unsafe"), .boolean, .int, .int, .int, .int, .int, .int, .int, .int, .int, .int, .int, .int, .int, .int, .int, .int, .int, (.object "jdk/internal/access/JavaLangAccess"), .int]
  resolved := Array.replicate 378 none
  statics := none }

def pool14 : Array CpInfo := pool [(1, u "java/lang/Cloneable"), (0, .class_ 1), (0, u "java/lang/Object"), (0, .class_ 3)] 3

/-- java/lang/Cloneable -/
def k14 : Class := { plain "java/lang/Cloneable" (some 0) with
  accessFlags := 1537
  interfaces := #[]
  cf := some (fileOf pool14 2 #[] #[] 1537 4 #[] #[])
  fields := #[]
  methods := #[]
  instanceTypes := #[]
  staticTypes := #[]
  resolved := Array.replicate 8 none
  statics := none }

/-- the primitive byte -/
def k15 : Class := { plain "byte" none with kind := .primitive 'B', accessFlags := 0x411 }
/-- [B -/
def k16 : Class := { plain "[B" (some 0) with kind := .array 15 .byte, interfaces := #[14, 2], accessFlags := 1041 }

/-- the primitive char -/
def k17 : Class := { plain "char" none with kind := .primitive 'C', accessFlags := 0x411 }
/-- [C -/
def k18 : Class := { plain "[C" (some 0) with kind := .array 17 .char, interfaces := #[14, 2], accessFlags := 1041 }

/-- the primitive int -/
def k19 : Class := { plain "int" none with kind := .primitive 'I', accessFlags := 0x411 }
/-- [I -/
def k20 : Class := { plain "[I" (some 0) with kind := .array 19 .int, interfaces := #[14, 2], accessFlags := 1041 }

def heap : Heap := #[{ cls := 7, slots := #[.long 0, .int 1, .null, .int 0, .null, .int 0, .int 0], vm := .statics 7 },
  { cls := 10, slots := #[.ref 3, .ref 4, .null], vm := .statics 10 },
  { cls := 12, slots := #[.null, .null, .null], vm := .statics 12 },
  { cls := 10, slots := #[.null, .int 0, .int 0], vm := .none },
  { cls := 10, slots := #[.null, .int 1, .int 0], vm := .none }]
def classes : Array Class := #[k0, k1, k2, k3, k4, k5, k6, k7, k8, k9, k10, k11, k12, k13, k14, k15, k16, k17, k18, k19, k20]
def interned : List (Array UInt16 × Addr) := []
def slotsUsed : Nat := 19
def theMethod : MethodId := ⟨1, 2⟩
def args0 : Array Value := #[.int 1, .int 2, .int 65, .int 66, .int 67]
def aboutOver (below : List Frame) : State where
  vm := { classes := classes, interned := interned.toArray }
  heap := heap
  slotsUsed := slotsUsed
  threads := #[{ frames := .invoking theMethod args0 :: below }]
def below0 : List Frame := [.native { method := ⟨0, 0⟩, args := #[] }]
def about1 : State := aboutOver below0
def p0 : Program := .bare "" "" ""
def e0 : Env := launch0.env 0 0 0
theorem w_frames : about1.frames = Frame.invoking theMethod args0 :: below0 := rfl
set_option maxRecDepth 65536 in
theorem w_args : argsFit about1.vm theMethod args0 = true := by decide +kernel
set_option maxRecDepth 65536 in
theorem w_heap : heapFits about1 = true := by decide +kernel
set_option maxRecDepth 65536 in
theorem w_runnable : about1.curStatus? = some .runnable := by decide +kernel
set_option maxRecDepth 65536 in
theorem w_alone : about1.alone = true := by decide +kernel
set_option maxRecDepth 65536 in
theorem w_named : about1.methodNamed? x = some theMethod := by decide +kernel
set_option maxRecDepth 65536 in
theorem w_hears : about1.hears theMethod below0 = true := by decide +kernel
set_option maxRecDepth 65536 in
theorem w_ripe : about1.ripe theMethod args0 below0 = true := by decide +kernel
theorem w_running : about1.status = .running := rfl
set_option maxRecDepth 65536 in
theorem w_room : about1.hasRoom e0.platform room_1 = true :=
  launch0.hasRoom_least _ room_1 (by decide +kernel) (by decide +kernel) (by decide +kernel) (by decide +kernel) (by decide +kernel) (by decide +kernel)
theorem allAtoms_all (ts : List Jvm.Cond) (a : Array Jvm.Value) (st : Jvm.State) : (allAtoms ts).before a st = ts.all (fun c => c.before a st) := by
  induction ts with
  | nil => rfl
  | cons c t ih =>
    show (Jvm.Cond.and c (allAtoms t)).before a st = _
    rw [Jvm.Cond.before_and, ih, List.all_cons]
def words1 : List Jvm.Cond := Jvm.Cond.code x code maxLocals ret :: tables_1
/-- a 'code' word, met by the world's own term for the bytes: nothing is compared byte by byte -/
theorem code_word {y : MethodName} {bytes : ByteArray} {mx : Nat} {rt : Option FieldType} {a : Array Value} {s : State} {m : MethodId} {meth : Method} {c : Code} (h1 : s.methodNamed? y = some m) (h2 : s.vm.method? m = some meth) (h3 : meth.code = some c) (h4 : c.code = bytes)
    (h5 : (c.maxLocals == mx && c.exceptionTable.isEmpty && decide (c.maxStack ≤ mostOperands) && decide (meth.sig.returnType = rt) && !meth.locks && decide (parseMethodDescriptor y.desc = some meth.sig)) = true) : (Jvm.Cond.code y bytes mx rt).before a s = true := by
  simp only [Bool.and_eq_true, beq_iff_eq, Bool.not_eq_true', decide_eq_true_eq] at h5
  obtain ⟨⟨⟨⟨⟨g1, g2⟩, g3⟩, g4⟩, g5⟩, g6⟩ := h5
  simp [Cond.before, Cond.holds, Cond.value, h1, h2, h3, h4, g1, g2, g3, g4, g5, g6]
def isCode : Jvm.Cond → Bool
  | .code _ _ _ _ => true
  | _ => false
theorem all_split {L : List Jvm.Cond} {P : Jvm.Cond → Bool} (h1 : L.all (fun c => isCode c || P c) = true) (h2 : ∀ c ∈ L.filter isCode, P c = true) : L.all P = true := by
  refine List.all_eq_true.mpr fun c hc => ?_
  have h := List.all_eq_true.mp h1 c hc
  rcases Bool.eq_false_or_eq_true (isCode c) with hi | hi
  · exact h2 c (List.mem_filter.mpr ⟨hc, hi⟩)
  · simpa [hi] using h
set_option maxRecDepth 65536 in
theorem w_c0 : (Jvm.Cond.code x code maxLocals ret).before args0 about1 = true := code_word (m := ⟨1, 2⟩) (meth := k1m2) (c := k1c2) (by decide +kernel) rfl rfl rfl (by decide +kernel)
set_option maxRecDepth 65536 in
theorem w_c1 : (Jvm.Cond.code ({ cls := "com/example/tariffwright/tariffwright/ScopeCostSubzonePinLaw", name := "drawn", desc := "(IIII)Ljava/lang/String;" } : Jvm.MethodName) method_2_code (7 : Nat) (Option.some (Jvm.ClassFile.FieldType.object "java/lang/String"))).before args0 about1 = true := code_word (m := ⟨1, 1⟩) (meth := k1m1) (c := k1c1) (by decide +kernel) rfl rfl rfl (by decide +kernel)
set_option maxRecDepth 65536 in
theorem w_c2 : (Jvm.Cond.code ({ cls := "java/lang/String", name := "<init>", desc := "([C)V" } : Jvm.MethodName) jdk_42_method_3_code (2 : Nat) (Option.none : Option Jvm.ClassFile.FieldType)).before args0 about1 = true := code_word (m := ⟨7, 1⟩) (meth := k7m1) (c := k7c1) (by decide +kernel) rfl rfl rfl (by decide +kernel)
set_option maxRecDepth 65536 in
theorem w_c3 : (Jvm.Cond.code ({ cls := "java/lang/String", name := "<init>", desc := "([CIILjava/lang/Void;)V" } : Jvm.MethodName) jdk_42_method_149_code (6 : Nat) (Option.none : Option Jvm.ClassFile.FieldType)).before args0 about1 = true := code_word (m := ⟨7, 5⟩) (meth := k7m5) (c := k7c5) (by decide +kernel) rfl rfl rfl (by decide +kernel)
set_option maxRecDepth 65536 in
theorem w_c4 : (Jvm.Cond.code ({ cls := "java/lang/Object", name := "<init>", desc := "()V" } : Jvm.MethodName) object_method_1_code (1 : Nat) (Option.none : Option Jvm.ClassFile.FieldType)).before args0 about1 = true := code_word (m := ⟨0, 0⟩) (meth := k0m0) (c := k0c0) (by decide +kernel) rfl rfl rfl (by decide +kernel)
set_option maxRecDepth 65536 in
theorem w_c5 : (Jvm.Cond.code ({ cls := "java/lang/StringUTF16", name := "compress", desc := "([CII)[B" } : Jvm.MethodName) jdk_52_method_16_code (6 : Nat) (Option.some (Jvm.ClassFile.FieldType.array Jvm.ClassFile.FieldType.byte))).before args0 about1 = true := code_word (m := ⟨8, 2⟩) (meth := k8m2) (c := k8c2) (by decide +kernel) rfl rfl rfl (by decide +kernel)
set_option maxRecDepth 65536 in
theorem w_c6 : (Jvm.Cond.code ({ cls := "java/lang/StringUTF16", name := "compress", desc := "([CI[BII)I" } : Jvm.MethodName) jdk_52_method_21_code (7 : Nat) (Option.some Jvm.ClassFile.FieldType.int)).before args0 about1 = true := code_word (m := ⟨8, 3⟩) (meth := k8m3) (c := k8c3) (by decide +kernel) rfl rfl rfl (by decide +kernel)
set_option maxRecDepth 65536 in
theorem w_c7 : (Jvm.Cond.code ({ cls := "java/lang/StringUTF16", name := "coderFromArrayLen", desc := "([BI)B" } : Jvm.MethodName) jdk_52_method_15_code (2 : Nat) (Option.some Jvm.ClassFile.FieldType.byte)).before args0 about1 = true := code_word (m := ⟨8, 1⟩) (meth := k8m1) (c := k8c1) (by decide +kernel) rfl rfl rfl (by decide +kernel)
set_option maxRecDepth 65536 in
theorem w_c8 : (Jvm.Cond.code ({ cls := "com/example/tariffwright/tariffwright/Costs$Scope", name := "costSubzone", desc := "(Ljava/lang/String;)Ljava/lang/String;" } : Jvm.MethodName) prog_36_method_4_code (2 : Nat) (Option.some (Jvm.ClassFile.FieldType.object "java/lang/String"))).before args0 about1 = true := code_word (m := ⟨10, 0⟩) (meth := k10m0) (c := k10c0) (by decide +kernel) rfl rfl rfl (by decide +kernel)
set_option maxRecDepth 65536 in
theorem w_c9 : (Jvm.Cond.code ({ cls := "java/lang/String", name := "isEmpty", desc := "()Z" } : Jvm.MethodName) jdk_42_method_55_code (1 : Nat) (Option.some Jvm.ClassFile.FieldType.boolean)).before args0 about1 = true := code_word (m := ⟨7, 3⟩) (meth := k7m3) (c := k7c3) (by decide +kernel) rfl rfl rfl (by decide +kernel)
set_option maxRecDepth 65536 in
theorem w_c10 : (Jvm.Cond.code ({ cls := "java/lang/String", name := "length", desc := "()I" } : Jvm.MethodName) jdk_42_method_54_code (1 : Nat) (Option.some Jvm.ClassFile.FieldType.int)).before args0 about1 = true := code_word (m := ⟨7, 2⟩) (meth := k7m2) (c := k7c2) (by decide +kernel) rfl rfl rfl (by decide +kernel)
set_option maxRecDepth 65536 in
theorem w_c11 : (Jvm.Cond.code ({ cls := "java/lang/String", name := "coder", desc := "()B" } : Jvm.MethodName) jdk_42_method_152_code (1 : Nat) (Option.some Jvm.ClassFile.FieldType.byte)).before args0 about1 = true := code_word (m := ⟨7, 6⟩) (meth := k7m6) (c := k7c6) (by decide +kernel) rfl rfl rfl (by decide +kernel)
set_option maxRecDepth 65536 in
theorem w_c12 : (Jvm.Cond.code ({ cls := "java/lang/String", name := "equals", desc := "(Ljava/lang/Object;)Z" } : Jvm.MethodName) jdk_42_method_66_code (3 : Nat) (Option.some Jvm.ClassFile.FieldType.boolean)).before args0 about1 = true := code_word (m := ⟨7, 4⟩) (meth := k7m4) (c := k7c4) (by decide +kernel) rfl rfl rfl (by decide +kernel)
def codes1 : List Jvm.Cond := [Jvm.Cond.code x code maxLocals ret, Jvm.Cond.code ({ cls := "com/example/tariffwright/tariffwright/ScopeCostSubzonePinLaw", name := "drawn", desc := "(IIII)Ljava/lang/String;" } : Jvm.MethodName) method_2_code (7 : Nat) (Option.some (Jvm.ClassFile.FieldType.object "java/lang/String")), Jvm.Cond.code ({ cls := "java/lang/String", name := "<init>", desc := "([C)V" } : Jvm.MethodName) jdk_42_method_3_code (2 : Nat) (Option.none : Option Jvm.ClassFile.FieldType), Jvm.Cond.code ({ cls := "java/lang/String", name := "<init>", desc := "([CIILjava/lang/Void;)V" } : Jvm.MethodName) jdk_42_method_149_code (6 : Nat) (Option.none : Option Jvm.ClassFile.FieldType), Jvm.Cond.code ({ cls := "java/lang/Object", name := "<init>", desc := "()V" } : Jvm.MethodName) object_method_1_code (1 : Nat) (Option.none : Option Jvm.ClassFile.FieldType), Jvm.Cond.code ({ cls := "java/lang/StringUTF16", name := "compress", desc := "([CII)[B" } : Jvm.MethodName) jdk_52_method_16_code (6 : Nat) (Option.some (Jvm.ClassFile.FieldType.array Jvm.ClassFile.FieldType.byte)), Jvm.Cond.code ({ cls := "java/lang/StringUTF16", name := "compress", desc := "([CI[BII)I" } : Jvm.MethodName) jdk_52_method_21_code (7 : Nat) (Option.some Jvm.ClassFile.FieldType.int), Jvm.Cond.code ({ cls := "java/lang/StringUTF16", name := "coderFromArrayLen", desc := "([BI)B" } : Jvm.MethodName) jdk_52_method_15_code (2 : Nat) (Option.some Jvm.ClassFile.FieldType.byte), Jvm.Cond.code ({ cls := "com/example/tariffwright/tariffwright/Costs$Scope", name := "costSubzone", desc := "(Ljava/lang/String;)Ljava/lang/String;" } : Jvm.MethodName) prog_36_method_4_code (2 : Nat) (Option.some (Jvm.ClassFile.FieldType.object "java/lang/String")), Jvm.Cond.code ({ cls := "java/lang/String", name := "isEmpty", desc := "()Z" } : Jvm.MethodName) jdk_42_method_55_code (1 : Nat) (Option.some Jvm.ClassFile.FieldType.boolean), Jvm.Cond.code ({ cls := "java/lang/String", name := "length", desc := "()I" } : Jvm.MethodName) jdk_42_method_54_code (1 : Nat) (Option.some Jvm.ClassFile.FieldType.int), Jvm.Cond.code ({ cls := "java/lang/String", name := "coder", desc := "()B" } : Jvm.MethodName) jdk_42_method_152_code (1 : Nat) (Option.some Jvm.ClassFile.FieldType.byte), Jvm.Cond.code ({ cls := "java/lang/String", name := "equals", desc := "(Ljava/lang/Object;)Z" } : Jvm.MethodName) jdk_42_method_66_code (3 : Nat) (Option.some Jvm.ClassFile.FieldType.boolean)]
set_option maxRecDepth 65536 in
theorem codes_eq : words1.filter isCode = codes1 := rfl
theorem w_codes : ∀ c ∈ words1.filter isCode, c.before args0 about1 = true := by
  rw [codes_eq]
  intro c hc
  simp only [codes1, List.mem_cons, List.not_mem_nil, or_false] at hc
  rcases hc with rfl | rfl | rfl | rfl | rfl | rfl | rfl | rfl | rfl | rfl | rfl | rfl | rfl
  · exact w_c0
  · exact w_c1
  · exact w_c2
  · exact w_c3
  · exact w_c4
  · exact w_c5
  · exact w_c6
  · exact w_c7
  · exact w_c8
  · exact w_c9
  · exact w_c10
  · exact w_c11
  · exact w_c12
set_option maxRecDepth 65536 in
theorem w_t1 : (words1.take 24).all (fun c => isCode c || c.before args0 about1) = true := by decide +kernel
set_option maxRecDepth 65536 in
theorem w_t2 : ((words1.drop 24).take 24).all (fun c => isCode c || c.before args0 about1) = true := by decide +kernel
set_option maxRecDepth 65536 in
theorem w_t3 : ((words1.drop 24).drop 24).all (fun c => isCode c || c.before args0 about1) = true := by decide +kernel
theorem w_tables : (allAtoms (Jvm.Cond.code x code maxLocals ret :: tables_1)).before args0 about1 = true := by
  rw [allAtoms_all]
  show words1.all (fun c => c.before args0 about1) = true
  refine all_split ?_ w_codes
  rw [← List.take_append_drop 24 words1, List.all_append, w_t1, ← List.take_append_drop 24 (words1.drop 24), List.all_append, w_t2, w_t3]
  rfl
set_option maxRecDepth 65536 in
theorem w_rest : rest_1_c.before args0 about1 = true := by decide +kernel
set_option maxRecDepth 65536 in
theorem w_case : (Jvm.Cond.and given_1 narrow_1).before args0 about1 = true := by decide +kernel
set_option maxRecDepth 65536 in
theorem w_consts : constsHeld consts_1 about1 := Jvm.Lit.constsHeldB_iff.mp (by decide +kernel)
theorem w_applies : (headSpec (Jvm.Cond.code x code maxLocals ret :: tables_1) room_1).applies x e0.platform about1 = true :=
  (Spec.applies_iff w_frames).mpr ⟨w_running, w_runnable, w_alone, w_named, w_hears, w_ripe, w_room, w_tables⟩
theorem atStart : AtStart classFile x code maxLocals ret World_1 tables_1 room_1 Calls_1 rest_1 Pre_1 launch0 p0 e0 about1 theMethod args0 below0 :=
  ⟨lists_1, trivial, launch0.admits_env _ _ _, launch0.least_env, fairChoices_fair.cas, fairChoices_fair.clock, w_frames, w_args, w_heap, w_applies, ⟨w_consts, trivial⟩, w_rest, w_case⟩
end start1
theorem witness_1 : WitnessClaimed_1 := ⟨start1.p0, start1.e0, start1.about1, start1.theMethod, start1.args0, start1.below0, start1.atStart⟩
end Jvm.Pilot.@@N@@
