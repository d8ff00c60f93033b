import JvmDerived
import JvmDerived.Pilot.@@N@@Statement
import JvmDerived.Pilot.@@N@@Code
set_option linter.unusedVariables false
set_option linter.unusedSimpArgs false
namespace Jvm.OwnKit
open Sem ClassFile Op Lib Jvm.Stand Jvm.Free Jvm.LawKit Jvm.RoadKit
def Go (tb : Tables) (e : Env) (below : List Frame) (P : State → Outcome → Prop) (S : State) : Prop :=
  ∃ s₂ o, Steps tb e below S s₂ ∧ s₂.status = .running ∧ Ended s₂ below o ∧ P s₂ o
theorem go {tb : Tables} {e : Env} {below : List Frame} {P : State → Outcome → Prop} {S S' : State} (h : ∀ t, Steps tb e below S' t → Steps tb e below S t) (k : Go tb e below P S') : Go tb e below P S := by
  obtain ⟨s₂, o, h1, h2⟩ := k
  exact ⟨s₂, o, h _ h1, h2⟩
theorem goT {tb : Tables} {e : Env} {below : List Frame} {P : State → Outcome → Prop} {S S' : State} (h : Steps tb e below S S') (k : Go tb e below P S') : Go tb e below P S := go (fun _ q => h.trans q) k
def Done (s : State) (Q : Option Value → Heap → List Loc → Prop) (k n : Nat) (t : State) (o : Outcome) : Prop := ∃ v L, o = .returned v ∧ Q v t.heap L ∧ FrameEnd s o t L k n
/-- a body's contract: called with just these arguments, over this heap -/
def Con (l : Launch) (Z : State) (y : MethodName) (bytes : ByteArray) (maxL : Nat) (rt : Option FieldType) (ws : List Jvm.Cond) (rm : Room) (as' : Array Value) (h : Heap) (k n : Nat) (Q : Option Value → Heap → List Loc → Prop) : Prop :=
  MetFree l y (head1 (Jvm.Cond.code y bytes maxL rt :: ws) rm) (fun a U => a = as' ∧ Z.Warmed39 U.vm ∧ U.heap = h) (fun _ _ _ _ _ => True) (fun _ U o U' => ∃ v L, o = .returned v ∧ Q v U'.heap L ∧ FrameEnd U o U' L k n)
theorem Con.of {l : Launch} {Z : State} {y : MethodName} {bytes : ByteArray} {maxL : Nat} {rt : Option FieldType} {ws : List Jvm.Cond} {rm : Room} {as' : Array Value} {h : Heap} {k n : Nat} {Q : Option Value → Heap → List Loc → Prop} (hp : plainFor y = true)
    (body : ∀ (p : Program) (e : Env) (s : State) (m : MethodId) (below : List Frame) (meth : Method) (c : Code) (s₁ : State), p.tables.exec = Jvm.exec → c.code = bytes → c.maxLocals = maxL → s.vm.findClass y.cls = some m.cls → meth.name = y.name → meth.sig.returnType = rt → meth.locks = false → Z.Warmed39 s.vm →
      Stand p l e rm s m as' below meth c s₁ [] 0 0 → s₁.heap = h → Go p.tables e below (Done s Q k n) (s₁.setTop (entryFrame m as' maxL))) : Con l Z y bytes maxL rt ws rm as' h k n Q := by
  refine MetFree.of_bodySF hp hisR ?_
  intro p e s m args below meth c s₁ Bd hml0 hP hK
  obtain ⟨rfl, hZ, hh⟩ := hP
  exact body p e s m below meth c s₁ Bd.exec Bd.bytes hml0 (findClass_of_methodNamed Bd.named) (name_of_methodNamed Bd.named Bd.method).1 Bd.returns Bd.notSynchronized hZ (Stand.of_body Bd) (by rw [← hh, Bd.state]; rfl)
section Steps1
variable {p : Program} {l : Launch} {e : Env} {R : Room} {s : State} {m : MethodId} {args : Array Value} {below : List Frame} {meth : Method} {c : Code} {T : State} {locs : List Loc} {cells slots : Nat} {P : State → Outcome → Prop} {pc q : Nat} {L L' : Array Slot} {S : List Value}
theorem goE {args' : Array Value} {n : Nat} (hq : entryFrame m args' n = mkF m 0 L []) (K : Go p.tables e below P (T.setTop (mkF m 0 L []))) : Go p.tables e below P (T.setTop (entryFrame m args' n)) := go (fun _ k => castTop hq k) K
theorem gIloadN (X : Stand p l e R s m args below meth c T locs cells slots) (hx : p.tables.exec = Jvm.exec) {k : Fin 4} {v : Int32} (hd : decode c.code pc = .ok (.iload_n k, 1)) (hq : pc + 1 = q) (hl : L[k.val]? = some (.val (.int v))) (K : Go p.tables e below P (T.setTop (mkF m q L (.int v :: S)))) : Go p.tables e below P (T.setTop (mkF m pc L (S))) := by subst hq; exact go (fun t k => XS.iloadN X.here hx rfl hd hl k) K
theorem gIload (X : Stand p l e R s m args below meth c T locs cells slots) (hx : p.tables.exec = Jvm.exec) {k : Nat} {v : Int32} (hd : decode c.code pc = .ok (.iload k, 2)) (hq : pc + 2 = q) (hl : L[k]? = some (.val (.int v))) (K : Go p.tables e below P (T.setTop (mkF m q L (.int v :: S)))) : Go p.tables e below P (T.setTop (mkF m pc L (S))) := by subst hq; exact go (fun t k => XS.iload X.here hx rfl hd hl k) K
theorem gLloadN (X : Stand p l e R s m args below meth c T locs cells slots) (hx : p.tables.exec = Jvm.exec) {k : Fin 4} {v : Int64} (hd : decode c.code pc = .ok (.lload_n k, 1)) (hq : pc + 1 = q) (hl : L[k.val]? = some (.val (.long v))) (K : Go p.tables e below P (T.setTop (mkF m q L (.long v :: S)))) : Go p.tables e below P (T.setTop (mkF m pc L (S))) := by subst hq; exact go (fun t k => XT.lloadN X.here hx rfl hd hl k) K
theorem gLload (X : Stand p l e R s m args below meth c T locs cells slots) (hx : p.tables.exec = Jvm.exec) {k : Nat} {v : Int64} (hd : decode c.code pc = .ok (.lload k, 2)) (hq : pc + 2 = q) (hl : L[k]? = some (.val (.long v))) (K : Go p.tables e below P (T.setTop (mkF m q L (.long v :: S)))) : Go p.tables e below P (T.setTop (mkF m pc L (S))) := by subst hq; exact go (fun t k => XT.lload X.here hx rfl hd hl k) K
theorem gAloadN (X : Stand p l e R s m args below meth c T locs cells slots) (hx : p.tables.exec = Jvm.exec) {k : Fin 4} {v : Value} (hd : decode c.code pc = .ok (.aload_n k, 1)) (hq : pc + 1 = q) (hl : L[k.val]? = some (.val v)) (hv : v.isRef = true) (K : Go p.tables e below P (T.setTop (mkF m q L (v :: S)))) : Go p.tables e below P (T.setTop (mkF m pc L (S))) := by subst hq; exact go (fun t k => XS.aloadN X.here hx rfl hd hl hv k) K
theorem gAload (X : Stand p l e R s m args below meth c T locs cells slots) (hx : p.tables.exec = Jvm.exec) {k : Nat} {v : Value} (hd : decode c.code pc = .ok (.aload k, 2)) (hq : pc + 2 = q) (hl : L[k]? = some (.val v)) (hv : v.isRef = true) (K : Go p.tables e below P (T.setTop (mkF m q L (v :: S)))) : Go p.tables e below P (T.setTop (mkF m pc L (S))) := by subst hq; exact go (fun t k => XS.aload X.here hx rfl hd hl hv k) K
theorem gIconst (X : Stand p l e R s m args below meth c T locs cells slots) (hx : p.tables.exec = Jvm.exec) {i : Int} (v : Int32) (hd : decode c.code pc = .ok (.iconst i, 1)) (hq : pc + 1 = q) (hv : Int32.ofInt i = v) (K : Go p.tables e below P (T.setTop (mkF m q L (.int v :: S)))) : Go p.tables e below P (T.setTop (mkF m pc L (S))) := by subst hq; exact go (fun t k => XT.iconstV X.here hx rfl v hd hv k) K
theorem gBipush (X : Stand p l e R s m args below meth c T locs cells slots) (hx : p.tables.exec = Jvm.exec) {i : Int} (v : Int32) (hd : decode c.code pc = .ok (.bipush i, 2)) (hq : pc + 2 = q) (hv : (Int8.ofInt i).toInt32 = v) (K : Go p.tables e below P (T.setTop (mkF m q L (.int v :: S)))) : Go p.tables e below P (T.setTop (mkF m pc L (S))) := by subst hq; exact go (fun t k => XT.bipushV X.here hx rfl v hd hv k) K
theorem gSipush (X : Stand p l e R s m args below meth c T locs cells slots) (hx : p.tables.exec = Jvm.exec) {i : Int} (v : Int32) (hd : decode c.code pc = .ok (.sipush i, 3)) (hq : pc + 3 = q) (hv : (Int16.ofInt i).toInt32 = v) (K : Go p.tables e below P (T.setTop (mkF m q L (.int v :: S)))) : Go p.tables e below P (T.setTop (mkF m pc L (S))) := by subst hq; exact go (fun t k => XT.sipushV X.here hx rfl v hd hv k) K
theorem gLconst (X : Stand p l e R s m args below meth c T locs cells slots) (hx : p.tables.exec = Jvm.exec) {k : Fin 2} (v : Int64) (hd : decode c.code pc = .ok (.lconst k, 1)) (hq : pc + 1 = q) (hv : Int64.ofNat k = v) (K : Go p.tables e below P (T.setTop (mkF m q L (.long v :: S)))) : Go p.tables e below P (T.setTop (mkF m pc L (S))) := by subst hq; exact go (fun t k => XT.lconstV X.here hx rfl v hd hv k) K
theorem gNull (X : Stand p l e R s m args below meth c T locs cells slots) (hx : p.tables.exec = Jvm.exec)  (hd : decode c.code pc = .ok (.aconst_null, 1)) (hq : pc + 1 = q)  (K : Go p.tables e below P (T.setTop (mkF m q L (.null :: S)))) : Go p.tables e below P (T.setTop (mkF m pc L (S))) := by subst hq; exact go (fun t k => XS.aconstNull X.here hx rfl hd  k) K
theorem gLdc (X : Stand p l e R s m args below meth c T locs cells slots) (hx : p.tables.exec = Jvm.exec) {Z : State} {a0 : Array Value} (hZ : Z.Warmed39 s.vm) {own : String} {i : Nat} {v : Int32} (hown : s.vm.findClass own = some m.cls) (w : (Jvm.Cond.constant own i v).before a0 Z = true) (hd : decode c.code pc = .ok (.ldc i, 2)) (hq : pc + 2 = q) (K : Go p.tables e below P (T.setTop (mkF m q L (.int v :: S)))) : Go p.tables e below P (T.setTop (mkF m pc L (S))) := by subst hq; exact go (fun t k => Stand.ldcI X hx hown (mvT hZ w) rfl hd k) K
theorem gLdcW (X : Stand p l e R s m args below meth c T locs cells slots) (hx : p.tables.exec = Jvm.exec) {Z : State} {a0 : Array Value} (hZ : Z.Warmed39 s.vm) {own : String} {i : Nat} {v : Int32} (hown : s.vm.findClass own = some m.cls) (w : (Jvm.Cond.constant own i v).before a0 Z = true) (hd : decode c.code pc = .ok (.ldc_w i, 3)) (hq : pc + 3 = q) (K : Go p.tables e below P (T.setTop (mkF m q L (.int v :: S)))) : Go p.tables e below P (T.setTop (mkF m pc L (S))) := by subst hq; exact go (fun t k => Stand.ldcWI X hx hown (mvT hZ w) rfl hd k) K
theorem gLdc2 (X : Stand p l e R s m args below meth c T locs cells slots) (hx : p.tables.exec = Jvm.exec) {Z : State} {a0 : Array Value} (hZ : Z.Warmed39 s.vm) {own : String} {i : Nat} {v : Int64} (hown : s.vm.findClass own = some m.cls) (w : (Jvm.Cond.constantLong own i v).before a0 Z = true) (hd : decode c.code pc = .ok (.ldc2_w i, 3)) (hq : pc + 3 = q) (K : Go p.tables e below P (T.setTop (mkF m q L (.long v :: S)))) : Go p.tables e below P (T.setTop (mkF m pc L (S))) := by subst hq; exact go (fun t k => Stand.ldc2J X hx hown (mvT hZ w) rfl hd k) K
theorem gIadd (X : Stand p l e R s m args below meth c T locs cells slots) (hx : p.tables.exec = Jvm.exec) {x y : Int32} (hd : decode c.code pc = .ok (.iadd, 1)) (hq : pc + 1 = q)  (K : Go p.tables e below P (T.setTop (mkF m q L (.int (x + y) :: S)))) : Go p.tables e below P (T.setTop (mkF m pc L (.int y :: .int x :: S))) := by subst hq; exact go (fun t k => XS.iadd X.here hx rfl hd rfl  k) K
theorem gIsub (X : Stand p l e R s m args below meth c T locs cells slots) (hx : p.tables.exec = Jvm.exec) {x y : Int32} (hd : decode c.code pc = .ok (.isub, 1)) (hq : pc + 1 = q)  (K : Go p.tables e below P (T.setTop (mkF m q L (.int (x - y) :: S)))) : Go p.tables e below P (T.setTop (mkF m pc L (.int y :: .int x :: S))) := by subst hq; exact go (fun t k => XS.isub X.here hx rfl hd rfl  k) K
theorem gIand (X : Stand p l e R s m args below meth c T locs cells slots) (hx : p.tables.exec = Jvm.exec) {x y : Int32} (hd : decode c.code pc = .ok (.iand, 1)) (hq : pc + 1 = q)  (K : Go p.tables e below P (T.setTop (mkF m q L (.int (x &&& y) :: S)))) : Go p.tables e below P (T.setTop (mkF m pc L (.int y :: .int x :: S))) := by subst hq; exact go (fun t k => XS.iand X.here hx rfl hd rfl  k) K
theorem gImul (X : Stand p l e R s m args below meth c T locs cells slots) (hx : p.tables.exec = Jvm.exec) {x y : Int32} (hd : decode c.code pc = .ok (.imul, 1)) (hq : pc + 1 = q)  (K : Go p.tables e below P (T.setTop (mkF m q L (.int (x * y) :: S)))) : Go p.tables e below P (T.setTop (mkF m pc L (.int y :: .int x :: S))) := by subst hq; exact go (fun t k => XS.imul X.here hx rfl hd rfl  k) K
theorem gIxor (X : Stand p l e R s m args below meth c T locs cells slots) (hx : p.tables.exec = Jvm.exec) {x y : Int32} (hd : decode c.code pc = .ok (.ixor, 1)) (hq : pc + 1 = q)  (K : Go p.tables e below P (T.setTop (mkF m q L (.int (x ^^^ y) :: S)))) : Go p.tables e below P (T.setTop (mkF m pc L (.int y :: .int x :: S))) := by subst hq; exact go (fun t k => XT.ixor X.here hx rfl hd rfl  k) K
theorem gIor (X : Stand p l e R s m args below meth c T locs cells slots) (hx : p.tables.exec = Jvm.exec) {x y : Int32} (hd : decode c.code pc = .ok (.ior, 1)) (hq : pc + 1 = q)  (K : Go p.tables e below P (T.setTop (mkF m q L (.int (x ||| y) :: S)))) : Go p.tables e below P (T.setTop (mkF m pc L (.int y :: .int x :: S))) := by subst hq; exact go (fun t k => XT.ior X.here hx rfl hd rfl  k) K
theorem gIshl (X : Stand p l e R s m args below meth c T locs cells slots) (hx : p.tables.exec = Jvm.exec) {x y : Int32} (hd : decode c.code pc = .ok (.ishl, 1)) (hq : pc + 1 = q)  (K : Go p.tables e below P (T.setTop (mkF m q L (.int (x <<< (y &&& 31)) :: S)))) : Go p.tables e below P (T.setTop (mkF m pc L (.int y :: .int x :: S))) := by subst hq; exact go (fun t k => XT.ishl X.here hx rfl hd rfl  k) K
theorem gIshr (X : Stand p l e R s m args below meth c T locs cells slots) (hx : p.tables.exec = Jvm.exec) {x y : Int32} (hd : decode c.code pc = .ok (.ishr, 1)) (hq : pc + 1 = q)  (K : Go p.tables e below P (T.setTop (mkF m q L (.int (x >>> (y &&& 31)) :: S)))) : Go p.tables e below P (T.setTop (mkF m pc L (.int y :: .int x :: S))) := by subst hq; exact go (fun t k => XT.ishr X.here hx rfl hd rfl  k) K
theorem gIushr (X : Stand p l e R s m args below meth c T locs cells slots) (hx : p.tables.exec = Jvm.exec) {x y : Int32} (hd : decode c.code pc = .ok (.iushr, 1)) (hq : pc + 1 = q)  (K : Go p.tables e below P (T.setTop (mkF m q L (.int (XT.ushr x y) :: S)))) : Go p.tables e below P (T.setTop (mkF m pc L (.int y :: .int x :: S))) := by subst hq; exact go (fun t k => XT.iushr X.here hx rfl hd rfl  k) K
theorem gIdiv (X : Stand p l e R s m args below meth c T locs cells slots) (hx : p.tables.exec = Jvm.exec) {x y : Int32} (hd : decode c.code pc = .ok (.idiv, 1)) (hq : pc + 1 = q) (hy : y ≠ 0) (K : Go p.tables e below P (T.setTop (mkF m q L (.int (x / y) :: S)))) : Go p.tables e below P (T.setTop (mkF m pc L (.int y :: .int x :: S))) := by subst hq; exact go (fun t k => XS.idiv X.here hx rfl hd rfl hy k) K
theorem gIrem (X : Stand p l e R s m args below meth c T locs cells slots) (hx : p.tables.exec = Jvm.exec) {x y : Int32} (hd : decode c.code pc = .ok (.irem, 1)) (hq : pc + 1 = q) (hy : y ≠ 0) (K : Go p.tables e below P (T.setTop (mkF m q L (.int (x % y) :: S)))) : Go p.tables e below P (T.setTop (mkF m pc L (.int y :: .int x :: S))) := by subst hq; exact go (fun t k => iremM X hx rfl hd rfl hy k) K
theorem gIneg (X : Stand p l e R s m args below meth c T locs cells slots) (hx : p.tables.exec = Jvm.exec) {x : Int32} (hd : decode c.code pc = .ok (.ineg, 1)) (hq : pc + 1 = q)  (K : Go p.tables e below P (T.setTop (mkF m q L (.int (-x) :: S)))) : Go p.tables e below P (T.setTop (mkF m pc L (.int x :: S))) := by subst hq; exact go (fun t k => XS.ineg X.here hx rfl hd rfl  k) K
theorem gLadd (X : Stand p l e R s m args below meth c T locs cells slots) (hx : p.tables.exec = Jvm.exec) {x y : Int64} (hd : decode c.code pc = .ok (.ladd, 1)) (hq : pc + 1 = q)  (K : Go p.tables e below P (T.setTop (mkF m q L (.long (x + y) :: S)))) : Go p.tables e below P (T.setTop (mkF m pc L (.long y :: .long x :: S))) := by subst hq; exact go (fun t k => XT.ladd X.here hx rfl hd rfl  k) K
theorem gLsub (X : Stand p l e R s m args below meth c T locs cells slots) (hx : p.tables.exec = Jvm.exec) {x y : Int64} (hd : decode c.code pc = .ok (.lsub, 1)) (hq : pc + 1 = q)  (K : Go p.tables e below P (T.setTop (mkF m q L (.long (x - y) :: S)))) : Go p.tables e below P (T.setTop (mkF m pc L (.long y :: .long x :: S))) := by subst hq; exact go (fun t k => XT.lsub X.here hx rfl hd rfl  k) K
theorem gLmul (X : Stand p l e R s m args below meth c T locs cells slots) (hx : p.tables.exec = Jvm.exec) {x y : Int64} (hd : decode c.code pc = .ok (.lmul, 1)) (hq : pc + 1 = q)  (K : Go p.tables e below P (T.setTop (mkF m q L (.long (x * y) :: S)))) : Go p.tables e below P (T.setTop (mkF m pc L (.long y :: .long x :: S))) := by subst hq; exact go (fun t k => XT.lmul X.here hx rfl hd rfl  k) K
theorem gLand (X : Stand p l e R s m args below meth c T locs cells slots) (hx : p.tables.exec = Jvm.exec) {x y : Int64} (hd : decode c.code pc = .ok (.land, 1)) (hq : pc + 1 = q)  (K : Go p.tables e below P (T.setTop (mkF m q L (.long (x &&& y) :: S)))) : Go p.tables e below P (T.setTop (mkF m pc L (.long y :: .long x :: S))) := by subst hq; exact go (fun t k => XT.land X.here hx rfl hd rfl  k) K
theorem gLor (X : Stand p l e R s m args below meth c T locs cells slots) (hx : p.tables.exec = Jvm.exec) {x y : Int64} (hd : decode c.code pc = .ok (.lor, 1)) (hq : pc + 1 = q)  (K : Go p.tables e below P (T.setTop (mkF m q L (.long (x ||| y) :: S)))) : Go p.tables e below P (T.setTop (mkF m pc L (.long y :: .long x :: S))) := by subst hq; exact go (fun t k => XT.lor X.here hx rfl hd rfl  k) K
theorem gLxor (X : Stand p l e R s m args below meth c T locs cells slots) (hx : p.tables.exec = Jvm.exec) {x y : Int64} (hd : decode c.code pc = .ok (.lxor, 1)) (hq : pc + 1 = q)  (K : Go p.tables e below P (T.setTop (mkF m q L (.long (x ^^^ y) :: S)))) : Go p.tables e below P (T.setTop (mkF m pc L (.long y :: .long x :: S))) := by subst hq; exact go (fun t k => XT.lxor X.here hx rfl hd rfl  k) K
theorem gLcmp (X : Stand p l e R s m args below meth c T locs cells slots) (hx : p.tables.exec = Jvm.exec) {x y : Int64} (hd : decode c.code pc = .ok (.lcmp, 1)) (hq : pc + 1 = q)  (K : Go p.tables e below P (T.setTop (mkF m q L (.int (XT.cmpL x y) :: S)))) : Go p.tables e below P (T.setTop (mkF m pc L (.long y :: .long x :: S))) := by subst hq; exact go (fun t k => XT.lcmp X.here hx rfl hd rfl  k) K
theorem gLneg (X : Stand p l e R s m args below meth c T locs cells slots) (hx : p.tables.exec = Jvm.exec) {x : Int64} (hd : decode c.code pc = .ok (.lneg, 1)) (hq : pc + 1 = q)  (K : Go p.tables e below P (T.setTop (mkF m q L (.long (-x) :: S)))) : Go p.tables e below P (T.setTop (mkF m pc L (.long x :: S))) := by subst hq; exact go (fun t k => XT.lneg X.here hx rfl hd rfl  k) K
theorem gI2l (X : Stand p l e R s m args below meth c T locs cells slots) (hx : p.tables.exec = Jvm.exec) {x : Int32} (hd : decode c.code pc = .ok (.i2l, 1)) (hq : pc + 1 = q)  (K : Go p.tables e below P (T.setTop (mkF m q L (.long x.toInt64 :: S)))) : Go p.tables e below P (T.setTop (mkF m pc L (.int x :: S))) := by subst hq; exact go (fun t k => XT.i2l X.here hx rfl hd rfl  k) K
theorem gL2i (X : Stand p l e R s m args below meth c T locs cells slots) (hx : p.tables.exec = Jvm.exec) {x : Int64} (hd : decode c.code pc = .ok (.l2i, 1)) (hq : pc + 1 = q)  (K : Go p.tables e below P (T.setTop (mkF m q L (.int x.toInt32 :: S)))) : Go p.tables e below P (T.setTop (mkF m pc L (.long x :: S))) := by subst hq; exact go (fun t k => XT.l2i X.here hx rfl hd rfl  k) K
theorem gI2c (X : Stand p l e R s m args below meth c T locs cells slots) (hx : p.tables.exec = Jvm.exec) {x : Int32} (hd : decode c.code pc = .ok (.i2c, 1)) (hq : pc + 1 = q)  (K : Go p.tables e below P (T.setTop (mkF m q L (.int x.toUInt32.toUInt16.toUInt32.toInt32 :: S)))) : Go p.tables e below P (T.setTop (mkF m pc L (.int x :: S))) := by subst hq; exact go (fun t k => XT.i2c X.here hx rfl hd rfl  k) K
theorem gI2b (X : Stand p l e R s m args below meth c T locs cells slots) (hx : p.tables.exec = Jvm.exec) {x : Int32} (hd : decode c.code pc = .ok (.i2b, 1)) (hq : pc + 1 = q)  (K : Go p.tables e below P (T.setTop (mkF m q L (.int x.toInt8.toInt32 :: S)))) : Go p.tables e below P (T.setTop (mkF m pc L (.int x :: S))) := by subst hq; exact go (fun t k => XT.i2b X.here hx rfl hd rfl  k) K
theorem gLdiv (X : Stand p l e R s m args below meth c T locs cells slots) (hx : p.tables.exec = Jvm.exec) {x y : Int64} (hd : decode c.code pc = .ok (.ldiv, 1)) (hq : pc + 1 = q) (hy : y ≠ 0) (K : Go p.tables e below P (T.setTop (mkF m q L (.long (x / y) :: S)))) : Go p.tables e below P (T.setTop (mkF m pc L (.long y :: .long x :: S))) := by subst hq; exact go (fun t k => XT.ldiv X.here hx rfl hd rfl hy k) K
theorem gLshl (X : Stand p l e R s m args below meth c T locs cells slots) (hx : p.tables.exec = Jvm.exec) {x : Int64} {y : Int32} (hd : decode c.code pc = .ok (.lshl, 1)) (hq : pc + 1 = q)  (K : Go p.tables e below P (T.setTop (mkF m q L (.long (x <<< (y.toInt64 &&& 63)) :: S)))) : Go p.tables e below P (T.setTop (mkF m pc L (.int y :: .long x :: S))) := by subst hq; exact go (fun t k => XT.lshl X.here hx rfl hd rfl  k) K
theorem gLshr (X : Stand p l e R s m args below meth c T locs cells slots) (hx : p.tables.exec = Jvm.exec) {x : Int64} {y : Int32} (hd : decode c.code pc = .ok (.lshr, 1)) (hq : pc + 1 = q)  (K : Go p.tables e below P (T.setTop (mkF m q L (.long (x >>> (y.toInt64 &&& 63)) :: S)))) : Go p.tables e below P (T.setTop (mkF m pc L (.int y :: .long x :: S))) := by subst hq; exact go (fun t k => XT.lshr X.here hx rfl hd rfl  k) K
theorem gLushr (X : Stand p l e R s m args below meth c T locs cells slots) (hx : p.tables.exec = Jvm.exec) {x : Int64} {y : Int32} (hd : decode c.code pc = .ok (.lushr, 1)) (hq : pc + 1 = q)  (K : Go p.tables e below P (T.setTop (mkF m q L (.long (XT.ushrL x y) :: S)))) : Go p.tables e below P (T.setTop (mkF m pc L (.int y :: .long x :: S))) := by subst hq; exact go (fun t k => XT.lushr X.here hx rfl hd rfl  k) K
theorem gLrem (X : Stand p l e R s m args below meth c T locs cells slots) (hx : p.tables.exec = Jvm.exec) {x y : Int64} (hd : decode c.code pc = .ok (.lrem, 1)) (hq : pc + 1 = q) (hy : y ≠ 0) (K : Go p.tables e below P (T.setTop (mkF m q L (.long (x - (x / y) * y) :: S)))) : Go p.tables e below P (T.setTop (mkF m pc L (.long y :: .long x :: S))) := by subst hq; exact go (fun t k => XT.lrem X.here hx rfl hd rfl hy k) K
theorem gIstoreN (X : Stand p l e R s m args below meth c T locs cells slots) (hx : p.tables.exec = Jvm.exec) {k : Fin 4} {x : Int32} (hd : decode c.code pc = .ok (.istore_n k, 1)) (hq : pc + 1 = q) (hl : storeLocals L k.val (.int x) = some L') (K : Go p.tables e below P (T.setTop (mkF m q L' (S)))) : Go p.tables e below P (T.setTop (mkF m pc L (.int x :: S))) := by subst hq; exact go (fun t k => XS.istoreN X.here hx rfl hd rfl hl k) K
theorem gIstore (X : Stand p l e R s m args below meth c T locs cells slots) (hx : p.tables.exec = Jvm.exec) {k : Nat} {x : Int32} (hd : decode c.code pc = .ok (.istore k, 2)) (hq : pc + 2 = q) (hl : storeLocals L k (.int x) = some L') (K : Go p.tables e below P (T.setTop (mkF m q L' (S)))) : Go p.tables e below P (T.setTop (mkF m pc L (.int x :: S))) := by subst hq; exact go (fun t k => XS.istore X.here hx rfl hd rfl hl k) K
theorem gLstoreN (X : Stand p l e R s m args below meth c T locs cells slots) (hx : p.tables.exec = Jvm.exec) {k : Fin 4} {x : Int64} (hd : decode c.code pc = .ok (.lstore_n k, 1)) (hq : pc + 1 = q) (hl : storeLocals L k.val (.long x) = some L') (K : Go p.tables e below P (T.setTop (mkF m q L' (S)))) : Go p.tables e below P (T.setTop (mkF m pc L (.long x :: S))) := by subst hq; exact go (fun t k => XT.lstoreN X.here hx rfl hd rfl hl k) K
theorem gLstore (X : Stand p l e R s m args below meth c T locs cells slots) (hx : p.tables.exec = Jvm.exec) {k : Nat} {x : Int64} (hd : decode c.code pc = .ok (.lstore k, 2)) (hq : pc + 2 = q) (hl : storeLocals L k (.long x) = some L') (K : Go p.tables e below P (T.setTop (mkF m q L' (S)))) : Go p.tables e below P (T.setTop (mkF m pc L (.long x :: S))) := by subst hq; exact go (fun t k => XT.lstore X.here hx rfl hd rfl hl k) K
theorem gAstoreN (X : Stand p l e R s m args below meth c T locs cells slots) (hx : p.tables.exec = Jvm.exec) {k : Fin 4} {x : Value} (hd : decode c.code pc = .ok (.astore_n k, 1)) (hq : pc + 1 = q) (hv : x.isRef = true) (hl : storeLocals L k.val x = some L') (K : Go p.tables e below P (T.setTop (mkF m q L' (S)))) : Go p.tables e below P (T.setTop (mkF m pc L (x :: S))) := by subst hq; exact go (fun t k => XS.astoreN X.here hx rfl hd rfl hv hl k) K
theorem gAstore (X : Stand p l e R s m args below meth c T locs cells slots) (hx : p.tables.exec = Jvm.exec) {k : Nat} {x : Value} (hd : decode c.code pc = .ok (.astore k, 2)) (hq : pc + 2 = q) (hv : x.isRef = true) (hl : storeLocals L k x = some L') (K : Go p.tables e below P (T.setTop (mkF m q L' (S)))) : Go p.tables e below P (T.setTop (mkF m pc L (x :: S))) := by subst hq; exact go (fun t k => XS.astore X.here hx rfl hd rfl hv hl k) K
theorem gIinc (X : Stand p l e R s m args below meth c T locs cells slots) (hx : p.tables.exec = Jvm.exec) {k : Nat} {cst : Int} {x : Int32} (v : Int32) (hd : decode c.code pc = .ok (.iinc k cst, 3)) (hq : pc + 3 = q) (hv : Int32.ofInt cst = v) (hl : L[k]? = some (.val (.int x))) (hl' : storeLocals L k (.int (x + v)) = some L') (K : Go p.tables e below P (T.setTop (mkF m q L' (S)))) : Go p.tables e below P (T.setTop (mkF m pc L (S))) := by subst hq; exact go (fun t k => XT.iincV X.here hx rfl v hd hv hl hl' k) K
theorem gDup (X : Stand p l e R s m args below meth c T locs cells slots) (hx : p.tables.exec = Jvm.exec) {x : Value} (hd : decode c.code pc = .ok (.dup, 1)) (hq : pc + 1 = q) (hc : x.category = 1) (K : Go p.tables e below P (T.setTop (mkF m q L (x :: x :: S)))) : Go p.tables e below P (T.setTop (mkF m pc L (x :: S))) := by subst hq; exact go (fun t k => XS.dup X.here hx rfl hd rfl hc k) K
theorem gPop (X : Stand p l e R s m args below meth c T locs cells slots) (hx : p.tables.exec = Jvm.exec) {x : Value} (hd : decode c.code pc = .ok (.pop, 1)) (hq : pc + 1 = q) (hc : x.category = 1) (K : Go p.tables e below P (T.setTop (mkF m q L (S)))) : Go p.tables e below P (T.setTop (mkF m pc L (x :: S))) := by subst hq; exact go (fun t k => XT.pop X.here hx rfl hd rfl hc k) K
theorem gDupX1 (X : Stand p l e R s m args below meth c T locs cells slots) (hx : p.tables.exec = Jvm.exec) {x y : Value} (hd : decode c.code pc = .ok (.dup_x1, 1)) (hq : pc + 1 = q) (hc : x.category = 1) (hc' : y.category = 1) (K : Go p.tables e below P (T.setTop (mkF m q L (x :: y :: x :: S)))) : Go p.tables e below P (T.setTop (mkF m pc L (x :: y :: S))) := by subst hq; exact go (fun t k => XT.dupX1 X.here hx rfl hd rfl hc hc' k) K
theorem gDup2 (X : Stand p l e R s m args below meth c T locs cells slots) (hx : p.tables.exec = Jvm.exec) {x y : Value} (hd : decode c.code pc = .ok (.dup2, 1)) (hq : pc + 1 = q) (hc : x.category = 1) (hc' : y.category = 1) (K : Go p.tables e below P (T.setTop (mkF m q L (x :: y :: x :: y :: S)))) : Go p.tables e below P (T.setTop (mkF m pc L (x :: y :: S))) := by subst hq; exact go (fun t k => XT.dup2 X.here hx rfl hd rfl hc hc' k) K
theorem gDup2L (X : Stand p l e R s m args below meth c T locs cells slots) (hx : p.tables.exec = Jvm.exec) {x : Int64} (hd : decode c.code pc = .ok (.dup2, 1)) (hq : pc + 1 = q)  (K : Go p.tables e below P (T.setTop (mkF m q L (.long x :: .long x :: S)))) : Go p.tables e below P (T.setTop (mkF m pc L (.long x :: S))) := by subst hq; exact go (fun t k => XT.dup2L X.here hx rfl hd rfl  k) K
theorem gGoto (X : Stand p l e R s m args below meth c T locs cells slots) (hx : p.tables.exec = Jvm.exec) {o : Int} (hd : decode c.code pc = .ok (.goto o, 3)) (ho : 0 ≤ (pc : Int) + o) (hq : ((pc : Int) + o).toNat = q) (K : Go p.tables e below P (T.setTop (mkF m q L (S)))) : Go p.tables e below P (T.setTop (mkF m pc L (S))) := go (fun t k => XS.goto X.here hx rfl rfl hd ho hq k) K
theorem gIfY (X : Stand p l e R s m args below meth c T locs cells slots) (hx : p.tables.exec = Jvm.exec) {cd : ClassFile.Cond} {x : Int32} {o : Int} (hd : decode c.code pc = .ok (.ifCond cd o, 3)) (ho : 0 ≤ (pc : Int) + o) (hq : ((pc : Int) + o).toNat = q) (hc : ifCond.holds cd x = true) (K : Go p.tables e below P (T.setTop (mkF m q L (S)))) : Go p.tables e below P (T.setTop (mkF m pc L (.int x :: S))) := go (fun t k => XS.ifYes X.here hx rfl rfl hd rfl hc ho hq k) K
theorem gIfN (X : Stand p l e R s m args below meth c T locs cells slots) (hx : p.tables.exec = Jvm.exec) {cd : ClassFile.Cond} {x : Int32} {o : Int} (hd : decode c.code pc = .ok (.ifCond cd o, 3)) (hq : pc + 3 = q) (hc : ifCond.holds cd x = false) (K : Go p.tables e below P (T.setTop (mkF m q L (S)))) : Go p.tables e below P (T.setTop (mkF m pc L (.int x :: S))) := by subst hq; exact go (fun t k => XS.ifNo X.here hx rfl hd rfl hc k) K
theorem gIcmpY (X : Stand p l e R s m args below meth c T locs cells slots) (hx : p.tables.exec = Jvm.exec) {cd : ClassFile.Cond} {x y : Int32} {o : Int} (hd : decode c.code pc = .ok (.if_icmp cd o, 3)) (ho : 0 ≤ (pc : Int) + o) (hq : ((pc : Int) + o).toNat = q) (hc : if_icmp.holds cd x y = true) (K : Go p.tables e below P (T.setTop (mkF m q L (S)))) : Go p.tables e below P (T.setTop (mkF m pc L (.int y :: .int x :: S))) := go (fun t k => XS.icmpYes X.here hx rfl rfl hd rfl hc ho hq k) K
theorem gIcmpN (X : Stand p l e R s m args below meth c T locs cells slots) (hx : p.tables.exec = Jvm.exec) {cd : ClassFile.Cond} {x y : Int32} {o : Int} (hd : decode c.code pc = .ok (.if_icmp cd o, 3)) (hq : pc + 3 = q) (hc : if_icmp.holds cd x y = false) (K : Go p.tables e below P (T.setTop (mkF m q L (S)))) : Go p.tables e below P (T.setTop (mkF m pc L (.int y :: .int x :: S))) := by subst hq; exact go (fun t k => XS.icmpNo X.here hx rfl hd rfl hc k) K
theorem gAcmpY (X : Stand p l e R s m args below meth c T locs cells slots) (hx : p.tables.exec = Jvm.exec) {cd : ClassFile.ACond} {x y : Value} {o : Int} (hd : decode c.code pc = .ok (.if_acmp cd o, 3)) (ho : 0 ≤ (pc : Int) + o) (hq : ((pc : Int) + o).toNat = q) (h1 : x.isRef = true) (h2 : y.isRef = true) (hc : XT.acmp cd x y = true) (K : Go p.tables e below P (T.setTop (mkF m q L (S)))) : Go p.tables e below P (T.setTop (mkF m pc L (y :: x :: S))) := go (fun t k => XT.acmpYes X.here hx rfl rfl hd rfl h1 h2 hc ho hq k) K
theorem gAcmpN (X : Stand p l e R s m args below meth c T locs cells slots) (hx : p.tables.exec = Jvm.exec) {cd : ClassFile.ACond} {x y : Value} {o : Int} (hd : decode c.code pc = .ok (.if_acmp cd o, 3)) (hq : pc + 3 = q) (h1 : x.isRef = true) (h2 : y.isRef = true) (hc : XT.acmp cd x y = false) (K : Go p.tables e below P (T.setTop (mkF m q L (S)))) : Go p.tables e below P (T.setTop (mkF m pc L (y :: x :: S))) := by subst hq; exact go (fun t k => XT.acmpNo X.here hx rfl hd rfl h1 h2 hc k) K
theorem gNullY (X : Stand p l e R s m args below meth c T locs cells slots) (hx : p.tables.exec = Jvm.exec) {v : Value} {o : Int} (hd : decode c.code pc = .ok (.ifnull o, 3)) (ho : 0 ≤ (pc : Int) + o) (hq : ((pc : Int) + o).toNat = q) (hv : v = .null) (K : Go p.tables e below P (T.setTop (mkF m q L (S)))) : Go p.tables e below P (T.setTop (mkF m pc L (v :: S))) := go (fun t k => XT.nullYes X.here hx rfl rfl hd rfl hv ho hq k) K
theorem gNullN (X : Stand p l e R s m args below meth c T locs cells slots) (hx : p.tables.exec = Jvm.exec) {v : Value} {o : Int} (hd : decode c.code pc = .ok (.ifnull o, 3)) (hq : pc + 3 = q) (hr : v.isRef = true) (hv : ¬ v = .null) (K : Go p.tables e below P (T.setTop (mkF m q L (S)))) : Go p.tables e below P (T.setTop (mkF m pc L (v :: S))) := by subst hq; exact go (fun t k => XT.nullNo X.here hx rfl hd rfl hr hv k) K
theorem gNonY (X : Stand p l e R s m args below meth c T locs cells slots) (hx : p.tables.exec = Jvm.exec) {v : Value} {o : Int} (hd : decode c.code pc = .ok (.ifnonnull o, 3)) (ho : 0 ≤ (pc : Int) + o) (hq : ((pc : Int) + o).toNat = q) (hr : v.isRef = true) (hv : ¬ v = .null) (K : Go p.tables e below P (T.setTop (mkF m q L (S)))) : Go p.tables e below P (T.setTop (mkF m pc L (v :: S))) := go (fun t k => XT.nonnullYes X.here hx rfl rfl hd rfl hr hv ho hq k) K
theorem gNonN (X : Stand p l e R s m args below meth c T locs cells slots) (hx : p.tables.exec = Jvm.exec) {v : Value} {o : Int} (hd : decode c.code pc = .ok (.ifnonnull o, 3)) (hq : pc + 3 = q) (hv : v = .null) (K : Go p.tables e below P (T.setTop (mkF m q L (S)))) : Go p.tables e below P (T.setTop (mkF m pc L (v :: S))) := by subst hq; exact go (fun t k => XT.nonnullNo X.here hx rfl hd rfl hv k) K
theorem gRet (X : Stand p l e R s m args below meth c T locs cells slots) (hx : p.tables.exec = Jvm.exec) {Q : Option Value → Heap → List Loc → Prop} {k n : Nat} {w : Value} {t : FieldType} {i : Instr} (hlk : meth.locks = false) (hret : meth.sig.returnType = some t) (hn : narrow t w = w)
    (hi : (i = .ireturn ∧ (t = .int ∨ t = .boolean ∨ t = .byte ∨ t = .char ∨ t = .short) ∧ ∃ z, w = .int z) ∨ (i = .lreturn ∧ t = .long ∧ ∃ z, w = .long z) ∨ (i = .dreturn ∧ t = .double ∧ ∃ z, w = .double z) ∨ (i = .freturn ∧ t = .float ∧ ∃ z, w = .float z) ∨ (i = .areturn ∧ t.isReference = true ∧ w.isRef = true))
    (hd : decode c.code pc = .ok (i, 1)) (hk : cells ≤ k) (hs : slots ≤ n) (hQ : Q (some w) T.heap locs) : Go p.tables e below (Done s Q k n) (T.setTop (mkF m pc L (w :: S))) := by
  obtain ⟨fs, hr, hrun, hended, hW, hsame⟩ := X.leave (v := some w) (fun h => by rw [hret] at h; cases h) hlk
  exact ⟨_, _, retOut X hx hret hn hi hd hr, hrun, hended, _, _, rfl, hQ, ⟨_, rfl⟩, hW, hsame.mono hk hs⟩
theorem gRetI (X : Stand p l e R s m args below meth c T locs cells slots) (hx : p.tables.exec = Jvm.exec) {Q : Option Value → Heap → List Loc → Prop} {k n : Nat} {z : Int32} (hlk : meth.locks = false) (hret : meth.sig.returnType = some .int) (hd : decode c.code pc = .ok (.ireturn, 1)) (hk : cells ≤ k) (hs : slots ≤ n) (hQ : Q (some (.int z)) T.heap locs) : Go p.tables e below (Done s Q k n) (T.setTop (mkF m pc L (.int z :: S))) :=
  gRet X hx hlk hret rfl (Or.inl ⟨rfl, Or.inl rfl, _, rfl⟩) hd hk hs hQ
theorem gRetZ (X : Stand p l e R s m args below meth c T locs cells slots) (hx : p.tables.exec = Jvm.exec) {Q : Option Value → Heap → List Loc → Prop} {k n : Nat} {z : Int32} (hlk : meth.locks = false) (hret : meth.sig.returnType = some .boolean) (hd : decode c.code pc = .ok (.ireturn, 1)) (hk : cells ≤ k) (hs : slots ≤ n) (hz : z = 0 ∨ z = 1) (hQ : Q (some (.int z)) T.heap locs) : Go p.tables e below (Done s Q k n) (T.setTop (mkF m pc L (.int z :: S))) :=
  gRet X hx hlk hret (by rcases hz with rfl | rfl <;> rfl) (Or.inl ⟨rfl, Or.inr (Or.inl rfl), _, rfl⟩) hd hk hs hQ
theorem gRetJ (X : Stand p l e R s m args below meth c T locs cells slots) (hx : p.tables.exec = Jvm.exec) {Q : Option Value → Heap → List Loc → Prop} {k n : Nat} {z : Int64} (hlk : meth.locks = false) (hret : meth.sig.returnType = some .long) (hd : decode c.code pc = .ok (.lreturn, 1)) (hk : cells ≤ k) (hs : slots ≤ n) (hQ : Q (some (.long z)) T.heap locs) : Go p.tables e below (Done s Q k n) (T.setTop (mkF m pc L (.long z :: S))) :=
  gRet X hx hlk hret rfl (Or.inr (Or.inl ⟨rfl, rfl, _, rfl⟩)) hd hk hs hQ
theorem gRetA (X : Stand p l e R s m args below meth c T locs cells slots) (hx : p.tables.exec = Jvm.exec) {Q : Option Value → Heap → List Loc → Prop} {k n : Nat} {w : Value} {t : FieldType} (hlk : meth.locks = false) (hret : meth.sig.returnType = some t) (ht : t.isReference = true) (hw : w.isRef = true) (hd : decode c.code pc = .ok (.areturn, 1)) (hk : cells ≤ k) (hs : slots ≤ n) (hQ : Q (some w) T.heap locs) : Go p.tables e below (Done s Q k n) (T.setTop (mkF m pc L (w :: S))) :=
  gRet X hx hlk hret (by cases t <;> simp [FieldType.isReference] at ht <;> cases w <;> simp [Value.isRef] at hw <;> rfl) (Or.inr (Or.inr (Or.inr (Or.inr ⟨rfl, ht, hw⟩)))) hd hk hs hQ
theorem gRetV (X : Stand p l e R s m args below meth c T locs cells slots) (hx : p.tables.exec = Jvm.exec) {Q : Option Value → Heap → List Loc → Prop} {k n : Nat} (hlk : meth.locks = false) (hret : meth.sig.returnType = none) (hd : decode c.code pc = .ok (.return_, 1)) (hk : cells ≤ k) (hs : slots ≤ n) (hQ : Q none T.heap locs) : Go p.tables e below (Done s Q k n) (T.setTop (mkF m pc L [])) := by
  obtain ⟨fs, hr, hrun, hended, hW, hsame⟩ := X.leave (v := none) (fun _ => rfl) hlk
  exact ⟨_, _, X.returnOut hx hret hd hr, hrun, hended, _, _, rfl, hQ, ⟨_, rfl⟩, hW, hsame.mono hk hs⟩
end Steps1
section Steps2
variable {p : Program} {l : Launch} {e : Env} {R : Room} {s : State} {m : MethodId} {args : Array Value} {below : List Frame} {meth : Method} {c : Code} {T : State} {locs : List Loc} {cells slots : Nat} {P : State → Outcome → Prop} {pc q : Nat} {L L' : Array Slot} {S : List Value} {Z : State} {a0 : Array Value} {h : Heap}
theorem gGetF (X : Stand p l e R s m args below meth c T locs cells slots) (hx : p.tables.exec = Jvm.exec) (hZ : Z.Warmed39 s.vm) {own R0 O n d host : String} {i : Nat} (hown : s.vm.findClass own = some m.cls) (w : (Jvm.Cond.fieldLink own i R0 n d).before a0 Z = true ∨ (Jvm.Cond.fieldLinkNest own i R0 n d host).before a0 Z = true) (via : Via Z R0 O n d)
    (eT : T.heap = h) {a : Addr} {v : Value} (F : Fld Z h a O n d v) (hd : decode c.code pc = .ok (.getfield i, 3)) (hq : pc + 3 = q)
    (K : ∀ T', Stand p l e R s m args below meth c T' locs cells slots → T'.heap = h → Go p.tables e below P (T'.setTop (mkF m q L (v :: S)))) : Go p.tables e below P (T.setTop (mkF m pc L (.ref a :: S))) := by
  subst hq
  obtain ⟨T', X', e', st⟩ := getF X hx hZ hown w via eT F (g := mkF m pc L (.ref a :: S)) rfl rfl hd
  exact go st (K T' X' e')
theorem gGetS (X : Stand p l e R s m args below meth c T locs cells slots) (hx : p.tables.exec = Jvm.exec) (hZ : Z.Warmed39 s.vm) {own R0 O n d : String} {i : Nat} (hown : s.vm.findClass own = some m.cls) (w : (Jvm.Cond.fieldLink own i R0 n d).before a0 Z = true) (via : Via Z R0 O n d)
    (eT : T.heap = h) {v : Value} (F : Sta Z h O n d v) (hd : decode c.code pc = .ok (.getstatic i, 3)) (hq : pc + 3 = q)
    (K : ∀ T', Stand p l e R s m args below meth c T' locs cells slots → T'.heap = h → Go p.tables e below P (T'.setTop (mkF m q L (v :: S)))) : Go p.tables e below P (T.setTop (mkF m pc L S)) := by
  subst hq
  obtain ⟨T', X', e', st⟩ := getS X hx hZ (host := "") hown w via eT F (g := mkF m pc L S) rfl hd
  exact go st (K T' X' e')
theorem gPutF (X : Stand p l e R s m args below meth c T locs cells slots) (hx : p.tables.exec = Jvm.exec) (hZ : Z.Warmed39 s.vm) {own R0 O n d host C : String} {i kk : Nat} {ty : FieldType} (hown : s.vm.findClass own = some m.cls) (w : (Jvm.Cond.fieldLink own i R0 n d).before a0 Z = true ∨ (Jvm.Cond.fieldLinkNest own i R0 n d host).before a0 Z = true) (via : Via Z R0 O n d)
    (eT : T.heap = h) {a : Addr} {v old : Value} (F : Fld Z h a O n d old) (E : Exa Z h a C) (Ly : (Jvm.Cond.lays C O n d).before a0 Z = true ∨ ((Jvm.Cond.laysFinal C O n d).before a0 Z = true ∧ own = O ∧ meth.name = "<init>")) (wi : (Jvm.Cond.instantiable C kk).before a0 Z = true)
    (hty : parseFieldDescriptor d = some ty) (hn : narrow ty v = v) (hf : fits ty v = true) (hd : decode c.code pc = .ok (.putfield i, 3)) (hq : pc + 3 = q)
    (K : ∀ T' h', Stand p l e R s m args below meth c T' (locs ++ [⟨a, Jvm.RoadKit.slotOf Z O n d⟩]) cells slots → T'.heap = h' → Wr h h' a (Jvm.RoadKit.slotOf Z O n d) v → Go p.tables e below P (T'.setTop (mkF m q L S))) : Go p.tables e below P (T.setTop (mkF m pc L (v :: .ref a :: S))) := by
  subst hq
  obtain ⟨T', h', X', e', W', st⟩ := putF X hx hZ hown w via eT F E Ly wi hty hn hf (g := mkF m pc L (v :: .ref a :: S)) rfl rfl hd
  exact go st (K T' h' X' e' W')
theorem gNewO (X : Stand p l e R s m args below meth c T locs cells slots) (hx : p.tables.exec = Jvm.exec) (hZ : Z.Warmed39 s.vm) {own C : String} {i n : Nat} (hown : s.vm.findClass own = some m.cls) (w : (Jvm.Cond.classLink own i C).before a0 Z = true) (wi : (Jvm.Cond.instantiable C n).before a0 Z = true) (wz : (Jvm.Cond.initialized C).before a0 Z = true) (eT : T.heap = h)
    (hd : decode c.code pc = .ok (.new i, 3)) (hq : pc + 3 = q) (hc : cells + 1 ≤ R.cells) (hl : slots + n ≤ R.slots)
    (K : ∀ T' h' a, Stand p l e R s m args below meth c T' locs (cells + 1) (slots + n) → T'.heap = h' → a = h.size → Ext h h' → Exa Z h' a C → (∀ {O nm d : String} {ty : FieldType}, Laid Z a0 C O nm d → parseFieldDescriptor d = some ty → Fld Z h' a O nm d (defaultValue ty)) → Go p.tables e below P (T'.setTop (mkF m q L (.ref a :: S)))) : Go p.tables e below P (T.setTop (mkF m pc L S)) := by
  subst hq
  obtain ⟨T', h', X', e', E', A', D', -, st⟩ := newO X hx hZ hown w wi wz eT (g := mkF m pc L S) rfl hd hc hl
  exact go st (K T' h' _ X' e' rfl E' A' D')
theorem gInitO (X : Stand p l e R s m args below meth c T locs cells slots) (hx : p.tables.exec = Jvm.exec) (hZ : Z.Warmed39 s.vm) {own : String} {i : Nat} (hown : s.vm.findClass own = some m.cls) (w1 : (Jvm.Cond.methodLink own i Lib.objectInit).before a0 Z = true) (w2 : (Jvm.Cond.instanceMethod Lib.objectInit).before a0 Z = true) (w3 : (Jvm.Cond.code Lib.objectInit ⟨#[0xb1]⟩ 1 none).before a0 Z = true) (eT : T.heap = h)
    (hsize : L.size = c.maxLocals) {a : Addr} (hd : decode c.code pc = .ok (.invokespecial i, 3)) (hq : pc + 3 = q) (hf : 1 ≤ R.frames) {W : Nat} (hW : (S.map fun v => v.category).sum ≤ W) (hl : W + 12 ≤ R.locals)
    (K : ∀ T', Stand p l e R s m args below meth c T' locs cells slots → T'.heap = h → Go p.tables e below P (T'.setTop (mkF m q L S))) : Go p.tables e below P (T.setTop (mkF m pc L (.ref a :: S))) := by
  subst hq
  obtain ⟨T', X', e', st⟩ := initO X hx hZ hown w1 w2 w3 eT (g := mkF m pc L (.ref a :: S)) rfl hsize rfl hd hf (W := W) (by show 2 * 0 + _ ≤ _; rw [Nat.mul_zero, Nat.zero_add]; exact hW) hl
  exact go st (K T' X' e')
/-! calls by a contract -/
theorem gCallS (X : Stand p l e R s m args below meth c T locs cells slots) (hx : p.tables.exec = Jvm.exec) (hZ : Z.Warmed39 s.vm) {own : String} {i : Nat} {y : MethodName} {bytes : ByteArray} {maxL : Nat} {rt : Option FieldType} {rm : Room} {as' : Array Value} {Q : Option Value → Heap → List Loc → Prop} (hown : s.vm.findClass own = some m.cls)
    (w1 : (Jvm.Cond.methodLink own i y).before a0 Z = true) (w2 : (Jvm.Cond.static y).before a0 Z = true) (w3 : (Jvm.Cond.initialized y.cls).before a0 Z = true) (w4 : (Jvm.Cond.code y bytes maxL rt).before a0 Z = true) (hy : y.cls ≠ "java/lang/invoke/MethodHandle" ∧ y.cls ≠ "java/lang/invoke/VarHandle")
    (hM : Con l Z y bytes maxL rt [] rm as' h rm.cells rm.slots Q) {W : Nat} (hf : rm.frames + 1 ≤ R.frames) (hlo : W + (maxL + 11) + rm.locals ≤ R.locals) (eT : T.heap = h) (hsize : L.size = c.maxLocals)
    {S0 : List Value} (argsL : List Value) (hlen : ∀ sig, parseMethodDescriptor y.desc = some sig → argsL.length = sig.parameters.length) (has : argsL.toArray = as') (hst : S0 = argsL.reverse ++ S) (hW : (S.map fun v => v.category).sum ≤ W) (hd : decode c.code pc = .ok (.invokestatic i, 3)) (hq : pc + 3 = q)
    (hc : cells + rm.cells ≤ R.cells) (hs : slots + rm.slots ≤ R.slots)
    (K : ∀ v T' Lc, Stand p l e R s m args below meth c T' (locs ++ Lc) (cells + rm.cells) (slots + rm.slots) → Q v T'.heap Lc → Go p.tables e below P (T'.setTop (mkF m q L (v.toList ++ S)))) : Go p.tables e below P (T.setTop (mkF m pc L S0)) := by
  subst hq has hst
  obtain ⟨v, _, ⟨T', L1, k1, n1⟩, -, X', ⟨Lc, hQ, h1, h2, h3⟩, st⟩ := Jvm.LawKit.callS X hx hown (mvT hZ w1) (mvT hZ w2) (mvT hZ w3) (mvT hZ w4) hy (backOf (W := W) hM hZ w4 w3 hf hlo) (g := mkF m pc L (argsL.reverse ++ S)) rfl hsize (argsL := argsL) (rest := S) hlen rfl (by show 2 * 0 + _ ≤ _; rw [Nat.mul_zero, Nat.zero_add]; exact hW) hd (fun _ _ => ⟨rfl, eT, hc, hs⟩)
  dsimp only [Pt.U, Pt.locs, Pt.cells, Pt.slots] at X' h1 h2 h3 st hQ
  subst h1 h2 h3
  exact go st (K v T' Lc X' hQ)
theorem gCallSN (X : Stand p l e R s m args below meth c T locs cells slots) (hx : p.tables.exec = Jvm.exec) (hZ : Z.Warmed39 s.vm) {own host : String} {i : Nat} {y : MethodName} {bytes : ByteArray} {maxL : Nat} {rt : Option FieldType} {rm : Room} {as' : Array Value} {Q : Option Value → Heap → List Loc → Prop} (hown : s.vm.findClass own = some m.cls)
    (w1 : (Jvm.Cond.methodLinkNest own i y host).before a0 Z = true) (w2 : (Jvm.Cond.static y).before a0 Z = true) (w3 : (Jvm.Cond.initialized y.cls).before a0 Z = true) (w4 : (Jvm.Cond.code y bytes maxL rt).before a0 Z = true) (hy : y.cls ≠ "java/lang/invoke/MethodHandle" ∧ y.cls ≠ "java/lang/invoke/VarHandle")
    (hM : Con l Z y bytes maxL rt [] rm as' h rm.cells rm.slots Q) {W : Nat} (hf : rm.frames + 1 ≤ R.frames) (hlo : W + (maxL + 11) + rm.locals ≤ R.locals) (eT : T.heap = h) (hsize : L.size = c.maxLocals)
    {S0 : List Value} (argsL : List Value) (hlen : ∀ sig, parseMethodDescriptor y.desc = some sig → argsL.length = sig.parameters.length) (has : argsL.toArray = as') (hst : S0 = argsL.reverse ++ S) (hW : (S.map fun v => v.category).sum ≤ W) (hd : decode c.code pc = .ok (.invokestatic i, 3)) (hq : pc + 3 = q)
    (hc : cells + rm.cells ≤ R.cells) (hs : slots + rm.slots ≤ R.slots)
    (K : ∀ v T' Lc, Stand p l e R s m args below meth c T' (locs ++ Lc) (cells + rm.cells) (slots + rm.slots) → Q v T'.heap Lc → Go p.tables e below P (T'.setTop (mkF m q L (v.toList ++ S)))) : Go p.tables e below P (T.setTop (mkF m pc L S0)) := by
  subst hq has hst
  obtain ⟨v, _, ⟨T', L1, k1, n1⟩, -, X', ⟨Lc, hQ, h1, h2, h3⟩, st⟩ := callSN X hx hown (Cond.methodLinkNest_wide hZ w1 :) (mvT hZ w2) (mvT hZ w3) (mvT hZ w4) hy (backOf (W := W) hM hZ w4 w3 hf hlo) (g := mkF m pc L (argsL.reverse ++ S)) rfl hsize (argsL := argsL) (rest := S) hlen rfl (by show 2 * 0 + _ ≤ _; rw [Nat.mul_zero, Nat.zero_add]; exact hW) hd (fun _ _ => ⟨rfl, eT, hc, hs⟩)
  dsimp only [Pt.U, Pt.locs, Pt.cells, Pt.slots] at X' h1 h2 h3 st hQ
  subst h1 h2 h3
  exact goT st (K v T' Lc X' hQ)
theorem gCallN (X : Stand p l e R s m args below meth c T locs cells slots) (hx : p.tables.exec = Jvm.exec) (hZ : Z.Warmed39 s.vm) {own : String} {i : Nat} {y : MethodName} {bytes : ByteArray} {maxL : Nat} {rm : Room} {as' : Array Value} {Q : Option Value → Heap → List Loc → Prop} (hy1 : y.name = "<init>") (hown : s.vm.findClass own = some m.cls)
    (w1 : (Jvm.Cond.methodLink own i y).before a0 Z = true) (w2 : (Jvm.Cond.instanceMethod y).before a0 Z = true) (w3 : (Jvm.Cond.initialized y.cls).before a0 Z = true) (w4 : (Jvm.Cond.code y bytes maxL none).before a0 Z = true) (hy : y.cls ≠ "java/lang/invoke/MethodHandle" ∧ y.cls ≠ "java/lang/invoke/VarHandle")
    (hM : Con l Z y bytes maxL none [] rm as' h rm.cells rm.slots Q) {W : Nat} (hf : rm.frames + 1 ≤ R.frames) (hlo : W + (maxL + 11) + rm.locals ≤ R.locals) (eT : T.heap = h) (hsize : L.size = c.maxLocals)
    {S0 : List Value} {a : Addr} (argsL : List Value) (hlen : ∀ sig, parseMethodDescriptor y.desc = some sig → argsL.length = sig.parameters.length) (has : (.ref a :: argsL).toArray = as') (hst : S0 = argsL.reverse ++ .ref a :: S) (hW : (S.map fun v => v.category).sum ≤ W) (hd : decode c.code pc = .ok (.invokespecial i, 3)) (hq : pc + 3 = q)
    (hc : cells + rm.cells ≤ R.cells) (hs : slots + rm.slots ≤ R.slots)
    (K : ∀ v T' Lc, Stand p l e R s m args below meth c T' (locs ++ Lc) (cells + rm.cells) (slots + rm.slots) → Q v T'.heap Lc → Go p.tables e below P (T'.setTop (mkF m q L (v.toList ++ S)))) : Go p.tables e below P (T.setTop (mkF m pc L S0)) := by
  subst hq has hst
  obtain ⟨v, _, ⟨T', L1, k1, n1⟩, -, X', ⟨Lc, hQ, h1, h2, h3⟩, st⟩ := X.specialBack hx hy1 hown (mvT hZ w1) (mvT hZ w2) (mvT hZ w4) hy (backOf (W := W) hM hZ w4 w3 hf hlo) (g := mkF m pc L (argsL.reverse ++ .ref a :: S)) rfl hsize (Steps.refl _) (a := a) (argsL := argsL) (rest := S) hlen rfl (by show 2 * 0 + _ ≤ _; rw [Nat.mul_zero, Nat.zero_add]; exact hW) hd (fun _ _ => ⟨rfl, eT, hc, hs⟩)
  dsimp only [Pt.U, Pt.locs, Pt.cells, Pt.slots] at X' h1 h2 h3 st hQ
  subst h1 h2 h3
  exact goT st (K v T' Lc X' hQ)
theorem gCallV (X : Stand p l e R s m args below meth c T locs cells slots) (hx : p.tables.exec = Jvm.exec) (hZ : Z.Warmed39 s.vm) {own C : String} {i : Nat} {y z : MethodName} {bytes : ByteArray} {maxL : Nat} {rt : Option FieldType} {rm : Room} {as' : Array Value} {Q : Option Value → Heap → List Loc → Prop} (hown : s.vm.findClass own = some m.cls)
    (w1 : (Jvm.Cond.methodLink own i y).before a0 Z = true) (w2 : (Jvm.Cond.declares y).before a0 Z = true) (w5 : (Jvm.Cond.selects C y z).before a0 Z = true) (w6 : (Jvm.Cond.instanceMethod z).before a0 Z = true) (w3 : (Jvm.Cond.initialized z.cls).before a0 Z = true) (w4 : (Jvm.Cond.code z bytes maxL rt).before a0 Z = true) (hnf : NotFace s y) (hy : y.cls ≠ "java/lang/invoke/MethodHandle" ∧ y.cls ≠ "java/lang/invoke/VarHandle")
    (hM : Con l Z z bytes maxL rt [] rm as' h rm.cells rm.slots Q) {W : Nat} (hf : rm.frames + 1 ≤ R.frames) (hlo : W + (maxL + 11) + rm.locals ≤ R.locals) (eT : T.heap = h) (hsize : L.size = c.maxLocals)
    {S0 : List Value} {a : Addr} (E : Exa Z h a C) (argsL : List Value) (hlen : ∀ sig, parseMethodDescriptor y.desc = some sig → argsL.length = sig.parameters.length) (has : (.ref a :: argsL).toArray = as') (hst : S0 = argsL.reverse ++ .ref a :: S) (hW : (S.map fun v => v.category).sum ≤ W) (hd : decode c.code pc = .ok (.invokevirtual i, 3)) (hq : pc + 3 = q)
    (hc : cells + rm.cells ≤ R.cells) (hs : slots + rm.slots ≤ R.slots)
    (K : ∀ v T' Lc, Stand p l e R s m args below meth c T' (locs ++ Lc) (cells + rm.cells) (slots + rm.slots) → Q v T'.heap Lc → Go p.tables e below P (T'.setTop (mkF m q L (v.toList ++ S)))) : Go p.tables e below P (T.setTop (mkF m pc L S0)) := by
  subst hq has hst
  obtain ⟨cq, kq, q1, q2, q3⟩ := isOf hZ eT E
  obtain ⟨v, _, ⟨T', L1, k1, n1⟩, -, X', ⟨Lc, hQ, h1, h2, h3⟩, st⟩ := X.virtualBack hx hown (mvT hZ w1) (mvT hZ w2) hnf (mvT hZ w5) (mvT hZ w6) hy (backOf (W := W) hM hZ w4 w3 hf hlo) q1 q3 (g := mkF m pc L (argsL.reverse ++ .ref a :: S)) rfl hsize (Steps.refl _) (argsL := argsL) (rest := S) hlen rfl (by show 2 * 0 + _ ≤ _; rw [Nat.mul_zero, Nat.zero_add]; exact hW) hd (fun _ _ => ⟨rfl, eT, hc, hs⟩)
  dsimp only [Pt.U, Pt.locs, Pt.cells, Pt.slots] at X' h1 h2 h3 st hQ
  subst h1 h2 h3
  exact goT st (K v T' Lc X' hQ)
end Steps2
end Jvm.OwnKit
namespace Jvm.OwnKit
open Sem ClassFile Op Lib Jvm.Stand Jvm.Free Jvm.LawKit Jvm.RoadKit
/-- the array at a: its class, its element type, its values -/
def Ary (Z : State) (h : Heap) (a : Addr) (k : ClassId) (ty : FieldType) (vs : List Value) : Prop := ∃ c : Cell, Arr Z h a c ty ∧ c.cls = k ∧ c.slots.toList = vs
section Ary
variable {Z : State} {h h' : Heap} {a b : Addr} {k : ClassId} {ty : FieldType} {vs : List Value} {sl : Nat} {v : Value} {ws : List Addr}
theorem Ary.ext (E : Ext h h') (F : Ary Z h a k ty vs) : Ary Z h' a k ty vs := by obtain ⟨c, A, r⟩ := F; exact ⟨c, A.ext E, r⟩
theorem Ary.other (W : Wr h h' a sl v) (F : Ary Z h b k ty vs) (q : b ≠ a) : Ary Z h' b k ty vs := by obtain ⟨c, A, r⟩ := F; exact ⟨c, A.other W q, r⟩
theorem Ary.keep (F : Ary Z h a k ty vs) (K : Keep h h' ws) (q : a ∉ ws) : Ary Z h' a k ty vs := by obtain ⟨c, A, r⟩ := F; exact ⟨c, ⟨K.2.1 a c A.1 q, A.2⟩, r⟩
theorem Ary.lt (F : Ary Z h a k ty vs) : a < h.size := by obtain ⟨c, A, -⟩ := F; exact A.lt
theorem Ary.same (W : Wr h h' a sl v) (F : Ary Z h a k ty vs) : Ary Z h' a k ty (vs.set sl v) := by
  obtain ⟨c, A, r1, r2⟩ := F
  exact ⟨_, A.same W, r1, by subst r2; simp [Cell.setSlot]⟩
theorem Ary.new {n : Int32} (A : Arr Z h a (newA k ty n) ty) : Ary Z h a k ty (List.replicate n.toNatClampNeg (defaultValue ty)) := ⟨_, A, rfl, by simp [newA]⟩
theorem Ary.ne_exa {a0 : Array Value} {C : String} {n : Nat} (F : Ary Z h a k ty vs) (E : Exa Z h b C) (wi : (Jvm.Cond.instantiable C n).before a0 Z = true) : a ≠ b := by obtain ⟨c, A, -⟩ := F; exact (ne_arr E wi A).symm
end Ary
section Steps3
variable {p : Program} {l : Launch} {e : Env} {R : Room} {s : State} {m : MethodId} {args : Array Value} {below : List Frame} {meth : Method} {c : Code} {T : State} {locs : List Loc} {cells slots : Nat} {P : State → Outcome → Prop} {pc q : Nat} {L L' : Array Slot} {S : List Value} {Z : State} {a0 : Array Value} {h : Heap} {a : Addr} {k : ClassId} {vs : List Value}
theorem gIaload (X : Stand p l e R s m args below meth c T locs cells slots) (hx : p.tables.exec = Jvm.exec) (hZ : Z.Warmed39 s.vm) (eT : T.heap = h) (A : Ary Z h a k .int vs) {j : Int32} {v : Value} (hd : decode c.code pc = .ok (.iaload, 1)) (hq : pc + 1 = q) (hj : ¬ (j < 0 ∨ vs.length ≤ j.toNatClampNeg)) (hv : vs[j.toNatClampNeg]? = some v) (K : Go p.tables e below P (T.setTop (mkF m q L (v :: S)))) : Go p.tables e below P (T.setTop (mkF m pc L (.int j :: .ref a :: S))) := by
  subst hq eT
  obtain ⟨cl, A, -, rfl⟩ := A
  exact go (fun t k => X.iaload hx (j := j) (v := v) A.1 (State.isArrayOf_alike hZ.alike A.2.1) A.2.2 (by simpa using hj) (by simpa using hv) (g := mkF m pc L (.int j :: .ref a :: S)) rfl rfl hd _ k) K
theorem gLaload (X : Stand p l e R s m args below meth c T locs cells slots) (hx : p.tables.exec = Jvm.exec) (hZ : Z.Warmed39 s.vm) (eT : T.heap = h) (A : Ary Z h a k .long vs) {j : Int32} {v : Value} (hd : decode c.code pc = .ok (.laload, 1)) (hq : pc + 1 = q) (hj : ¬ (j < 0 ∨ vs.length ≤ j.toNatClampNeg)) (hv : vs[j.toNatClampNeg]? = some v) (K : Go p.tables e below P (T.setTop (mkF m q L (v :: S)))) : Go p.tables e below P (T.setTop (mkF m pc L (.int j :: .ref a :: S))) := by
  subst hq eT
  obtain ⟨cl, A, -, rfl⟩ := A
  exact go (fun t k => X.laload hx (j := j) (v := v) A.1 (State.isArrayOf_alike hZ.alike A.2.1) A.2.2 (by simpa using hj) (by simpa using hv) (g := mkF m pc L (.int j :: .ref a :: S)) rfl rfl hd _ k) K
theorem gCaload (X : Stand p l e R s m args below meth c T locs cells slots) (hx : p.tables.exec = Jvm.exec) (hZ : Z.Warmed39 s.vm) (eT : T.heap = h) (A : Ary Z h a k .char vs) {j : Int32} {v : Value} (hd : decode c.code pc = .ok (.caload, 1)) (hq : pc + 1 = q) (hj : ¬ (j < 0 ∨ vs.length ≤ j.toNatClampNeg)) (hv : vs[j.toNatClampNeg]? = some v) (K : Go p.tables e below P (T.setTop (mkF m q L (v :: S)))) : Go p.tables e below P (T.setTop (mkF m pc L (.int j :: .ref a :: S))) := by
  subst hq eT
  obtain ⟨cl, A, -, rfl⟩ := A
  exact go (fun t k => X.caload hx (j := j) (v := v) A.1 (State.isArrayOf_alike hZ.alike A.2.1) A.2.2 (by simpa using hj) (by simpa using hv) (g := mkF m pc L (.int j :: .ref a :: S)) rfl rfl hd _ k) K
theorem gAaload (X : Stand p l e R s m args below meth c T locs cells slots) (hx : p.tables.exec = Jvm.exec) (hZ : Z.Warmed39 s.vm) (eT : T.heap = h) {ty : FieldType} (A : Ary Z h a k ty vs) (ht : ty.isReference = true) {j : Int32} {v : Value} (hd : decode c.code pc = .ok (.aaload, 1)) (hq : pc + 1 = q) (hj : ¬ (j < 0 ∨ vs.length ≤ j.toNatClampNeg)) (hv : vs[j.toNatClampNeg]? = some v) (K : Go p.tables e below P (T.setTop (mkF m q L (v :: S)))) : Go p.tables e below P (T.setTop (mkF m pc L (.int j :: .ref a :: S))) := by
  subst hq eT
  obtain ⟨cl, A, -, rfl⟩ := A
  exact go (fun t k => X.aaload hx (j := j) (v := v) A.1 (State.isArrayOf_alike hZ.alike A.2.1) ht A.2.2 (by simpa using hj) (by simpa using hv) (g := mkF m pc L (.int j :: .ref a :: S)) rfl rfl hd _ k) K
theorem gLen (X : Stand p l e R s m args below meth c T locs cells slots) (hx : p.tables.exec = Jvm.exec) (hZ : Z.Warmed39 s.vm) (eT : T.heap = h) {ty : FieldType} (A : Ary Z h a k ty vs) {n : Int32} (hn : vs.length.toInt32 = n) (hd : decode c.code pc = .ok (.arraylength, 1)) (hq : pc + 1 = q) (K : Go p.tables e below P (T.setTop (mkF m q L (.int n :: S)))) : Go p.tables e below P (T.setTop (mkF m pc L (.ref a :: S))) := by
  subst hq eT hn
  obtain ⟨cl, A, -, rfl⟩ := A
  exact go (fun t k => X.arraylength hx A.1 (State.isArrayOf_alike hZ.alike A.2.1) (g := mkF m pc L (.ref a :: S)) rfl rfl hd _ (by simpa using k)) K
theorem gIastore (X : Stand p l e R s m args below meth c T locs cells slots) (hx : p.tables.exec = Jvm.exec) (hZ : Z.Warmed39 s.vm) (eT : T.heap = h) (A : Ary Z h a k .int vs) {j : Int32} {x : Int32} (hd : decode c.code pc = .ok (.iastore, 1)) (hq : pc + 1 = q) (hj : ¬ (j < 0 ∨ vs.length ≤ j.toNatClampNeg))
    (K : ∀ T' h', Stand p l e R s m args below meth c T' (locs ++ [⟨a, j.toNatClampNeg⟩]) cells slots → T'.heap = h' → Wr h h' a j.toNatClampNeg (.int x) → Ary Z h' a k .int (vs.set j.toNatClampNeg (.int x)) → Go p.tables e below P (T'.setTop (mkF m q L (S)))) : Go p.tables e below P (T.setTop (mkF m pc L (.int x :: .int j :: .ref a :: S))) := by
  subst hq
  have A' := A
  obtain ⟨cl, Ac, r1, r2⟩ := A'
  obtain ⟨T', h', X', e', W', st⟩ := stI X hx hZ eT Ac (j := j) (x := x) (by subst r2; simpa using hj) (g := mkF m pc L (.int x :: .int j :: .ref a :: S)) rfl rfl hd
  exact go st (K T' h' X' e' W' (Ary.same W' A))
theorem gLastore (X : Stand p l e R s m args below meth c T locs cells slots) (hx : p.tables.exec = Jvm.exec) (hZ : Z.Warmed39 s.vm) (eT : T.heap = h) (A : Ary Z h a k .long vs) {j : Int32} {x : Int64} (hd : decode c.code pc = .ok (.lastore, 1)) (hq : pc + 1 = q) (hj : ¬ (j < 0 ∨ vs.length ≤ j.toNatClampNeg))
    (K : ∀ T' h', Stand p l e R s m args below meth c T' (locs ++ [⟨a, j.toNatClampNeg⟩]) cells slots → T'.heap = h' → Wr h h' a j.toNatClampNeg (.long x) → Ary Z h' a k .long (vs.set j.toNatClampNeg (.long x)) → Go p.tables e below P (T'.setTop (mkF m q L (S)))) : Go p.tables e below P (T.setTop (mkF m pc L (.long x :: .int j :: .ref a :: S))) := by
  subst hq
  have A' := A
  obtain ⟨cl, Ac, r1, r2⟩ := A'
  obtain ⟨T', h', X', e', W', st⟩ := stJ X hx hZ eT Ac (j := j) (x := x) (by subst r2; simpa using hj) (g := mkF m pc L (.long x :: .int j :: .ref a :: S)) rfl rfl hd
  exact go st (K T' h' X' e' W' (Ary.same W' A))
theorem gCastore (X : Stand p l e R s m args below meth c T locs cells slots) (hx : p.tables.exec = Jvm.exec) (hZ : Z.Warmed39 s.vm) (eT : T.heap = h) (A : Ary Z h a k .char vs) {j x : Int32} (hd : decode c.code pc = .ok (.castore, 1)) (hq : pc + 1 = q) (hj : ¬ (j < 0 ∨ vs.length ≤ j.toNatClampNeg))
    (K : ∀ T' h', Stand p l e R s m args below meth c T' (locs ++ [⟨a, j.toNatClampNeg⟩]) cells slots → T'.heap = h' → Wr h h' a j.toNatClampNeg (.int (nar .char x)) → Ary Z h' a k .char (vs.set j.toNatClampNeg (.int (nar .char x))) → Go p.tables e below P (T'.setTop (mkF m q L (S)))) : Go p.tables e below P (T.setTop (mkF m pc L (.int x :: .int j :: .ref a :: S))) := by
  subst hq
  have A' := A
  obtain ⟨cl, Ac, r1, r2⟩ := A'
  obtain ⟨T', h', X', e', W', st⟩ := stC X hx hZ eT Ac (j := j) (x := x) (by subst r2; simpa using hj) (g := mkF m pc L (.int x :: .int j :: .ref a :: S)) rfl rfl hd
  exact go st (K T' h' X' e' W' (Ary.same W' A))
theorem gAastore (X : Stand p l e R s m args below meth c T locs cells slots) (hx : p.tables.exec = Jvm.exec) (hZ : Z.Warmed39 s.vm) (eT : T.heap = h) {ty : FieldType} (A : Ary Z h a k ty vs) (ht : ty.isReference = true) {j : Int32} {v : Value} (F : Sto Z h a v) (hd : decode c.code pc = .ok (.aastore, 1)) (hq : pc + 1 = q) (hj : ¬ (j < 0 ∨ vs.length ≤ j.toNatClampNeg))
    (K : ∀ T' h', Stand p l e R s m args below meth c T' (locs ++ [⟨a, j.toNatClampNeg⟩]) cells slots → T'.heap = h' → Wr h h' a j.toNatClampNeg v → Ary Z h' a k ty (vs.set j.toNatClampNeg v) → Go p.tables e below P (T'.setTop (mkF m q L (S)))) : Go p.tables e below P (T.setTop (mkF m pc L (v :: .int j :: .ref a :: S))) := by
  subst hq
  have A' := A
  obtain ⟨cl, Ac, r1, r2⟩ := A'
  obtain ⟨T', h', X', e', W', st⟩ := stR X hx hZ eT Ac (j := j) (by subst r2; simpa using hj) ht F (g := mkF m pc L (v :: .int j :: .ref a :: S)) rfl rfl hd
  exact go st (K T' h' X' e' W' (Ary.same W' A))
theorem Sto.ofA {Z : State} {h : Heap} {a y : Addr} {k : ClassId} {ty : FieldType} {vs : List Value} {C : String} (A : Ary Z h a k ty vs) (O : Ovr Z k C) (I : Ins Z h y C true) : Sto Z h a (.ref y) := by obtain ⟨c, Ac, r, -⟩ := A; exact Sto.ofV Ac r O I
theorem gNewP (X : Stand p l e R s m args below meth c T locs cells slots) (hx : p.tables.exec = Jvm.exec) (hZ : Z.Warmed39 s.vm) {aty : ArrayType} (w : (Jvm.Cond.arrayClass (newarray.typeOf aty)).before a0 Z = true) (eT : T.heap = h) (hd : decode c.code pc = .ok (.newarray aty, 2)) (hq : pc + 2 = q) {n : Int32} (hn : ¬ n < 0) {cap : Nat} (hcap : n.toNatClampNeg ≤ cap) (hb : cap * 8 ≤ 536870912) (hc : cells + 1 ≤ R.cells) (hl : slots + cap ≤ R.slots)
    (K : ∀ T' h' a cA, Stand p l e R s m args below meth c T' locs (cells + 1) (slots + cap) → T'.heap = h' → a = h.size → Ext h h' → Ary Z h' a cA (newarray.typeOf aty) (List.replicate n.toNatClampNeg (defaultValue (newarray.typeOf aty))) → Go p.tables e below P (T'.setTop (mkF m q L (.ref a :: S)))) : Go p.tables e below P (T.setTop (mkF m pc L (.int n :: S))) := by
  subst hq
  obtain ⟨T', h', cA, X', e', E', A', st⟩ := newP X hx hZ w eT (g := mkF m pc L (.int n :: S)) rfl hd rfl hn hcap hb hc hl
  exact go st (K T' h' _ cA X' e' rfl E' (Ary.new A'))
theorem gNewR (X : Stand p l e R s m args below meth c T locs cells slots) (hx : p.tables.exec = Jvm.exec) (hZ : Z.Warmed39 s.vm) {own C : String} {i : Nat} (hown : s.vm.findClass own = some m.cls) (w1 : (Jvm.Cond.classLink own i C).before a0 Z = true) (w2 : (Jvm.Cond.arrayOver (.object C)).before a0 Z = true) (eT : T.heap = h) (hd : decode c.code pc = .ok (.anewarray i, 3)) (hq : pc + 3 = q) {n : Int32} (hn : ¬ n < 0) {cap : Nat} (hcap : n.toNatClampNeg ≤ cap) (hb : cap * 8 ≤ 536870912) (hc : cells + 1 ≤ R.cells) (hl : slots + cap ≤ R.slots)
    (K : ∀ T' h' a cA, Stand p l e R s m args below meth c T' locs (cells + 1) (slots + cap) → T'.heap = h' → a = h.size → Ext h h' → Ary Z h' a cA (.object C) (List.replicate n.toNatClampNeg .null) → Ovr Z cA C → Go p.tables e below P (T'.setTop (mkF m q L (.ref a :: S)))) : Go p.tables e below P (T.setTop (mkF m pc L (.int n :: S))) := by
  subst hq
  obtain ⟨T', h', cA, X', e', E', A', O', st⟩ := newR X hx hZ hown w1 w2 eT (g := mkF m pc L (.int n :: S)) rfl hd rfl hn hcap hb hc hl
  exact go st (K T' h' _ cA X' e' rfl E' (Ary.new A') O')
end Steps3
end Jvm.OwnKit
namespace Jvm.OwnKit
open Sem ClassFile Op Lib Jvm.Stand Jvm.Free Jvm.LawKit Jvm.RoadKit
theorem own_inst {Z : State} {a0 : Array Value} {K : String} {n : Nat} (w : (Jvm.Cond.instantiable K n).before a0 Z = true) : ∃ t k, Z.vm.findClass K = some t ∧ Z.vm.classes[t]? = some k ∧ k.kind = .ordinary ∧ k.isInterface = false := by
  obtain ⟨t, k, h1, h2, h3, h4, -⟩ := Cond.instantiable_spec w
  exact ⟨t, k, h1, h2, h3, by simp only [Bool.or_eq_false_iff] at h4; exact h4.1⟩
theorem own_nsRoot {Z : State} {a0 : Array Value} {O K : String} {n : Nat} (w : (Jvm.Cond.noSuperclass O).before a0 Z = true) (wk : (Jvm.Cond.instantiable K n).before a0 Z = true) (hn : O ≠ K) : NS Z O K := by
  obtain ⟨c, k, h1, h2, h3, -, -⟩ := Cond.noSuperclass_spec w
  obtain ⟨t, k', g1, -⟩ := own_inst wk
  have ne := ids_ne h1 g1 hn
  refine ⟨c, t, h1, g1, fun fuel => ?_⟩
  cases fuel with
  | zero => rfl
  | succ f => simp [Vm.isSubclassAux, ne, h2, h3]
theorem own_nsNo {Z : State} {a0 : Array Value} {C S K : String} {n : Nat} (w : (Jvm.Cond.superclass C S).before a0 Z = true) (wk : (Jvm.Cond.instantiable K n).before a0 Z = true) (m : NS Z C K) (hn : C ≠ K) : ∃ c t, Z.vm.findClass C = some c ∧ Z.vm.findClass K = some t ∧ Z.vm.assignable c t = false := by
  obtain ⟨c, t, h0, g0, n3⟩ := m
  obtain ⟨p, k, kp, h1, h2, h3, h4, h5, -, h7⟩ := Cond.superclass_spec h0 w
  obtain ⟨t', k', g1, g2, g3, g4⟩ := own_inst wk
  cases g0.symm.trans g1
  have ne := ids_ne h0 g0 hn
  refine ⟨c, t, h0, g0, ?_⟩
  show Z.vm.assignableAux (255 + 1) c t = false
  simp [Vm.assignableAux, ne, h2, g2, h5, g3, g4, Vm.isSubclass, n3]
section Steps4
variable {p : Program} {l : Launch} {e : Env} {R : Room} {s : State} {m : MethodId} {args : Array Value} {below : List Frame} {meth : Method} {c : Code} {T : State} {locs : List Loc} {cells slots : Nat} {P : State → Outcome → Prop} {pc q : Nat} {L L' : Array Slot} {S : List Value} {Z : State} {a0 : Array Value} {h : Heap} {a : Addr}
theorem gInstY (X : Stand p l e R s m args below meth c T locs cells slots) (hx : p.tables.exec = Jvm.exec) (hZ : Z.Warmed39 s.vm) {own K : String} {i : Nat} (hown : s.vm.findClass own = some m.cls) (w : (Jvm.Cond.classLink own i K).before a0 Z = true) (eT : T.heap = h) (F : Ins Z h a K true) (hd : decode c.code pc = .ok (.instanceof i, 3)) (hq : pc + 3 = q)
    (K1 : ∀ T', Stand p l e R s m args below meth c T' locs cells slots → T'.heap = h → Go p.tables e below P (T'.setTop (mkF m q L (.int 1 :: S)))) : Go p.tables e below P (T.setTop (mkF m pc L (.ref a :: S))) := by
  subst hq
  obtain ⟨T', X', e', st⟩ := instY X hx hZ hown w eT F (g := mkF m pc L (.ref a :: S)) rfl rfl hd
  exact go st (K1 T' X' e')
theorem gInstNo (X : Stand p l e R s m args below meth c T locs cells slots) (hx : p.tables.exec = Jvm.exec) (hZ : Z.Warmed39 s.vm) {own K C : String} {i : Nat} (hown : s.vm.findClass own = some m.cls) (w : (Jvm.Cond.classLink own i K).before a0 Z = true) (eT : T.heap = h) (E : Exa Z h a C) (F : ∃ c t, Z.vm.findClass C = some c ∧ Z.vm.findClass K = some t ∧ Z.vm.assignable c t = false) (hd : decode c.code pc = .ok (.instanceof i, 3)) (hq : pc + 3 = q)
    (K1 : ∀ T', Stand p l e R s m args below meth c T' locs cells slots → T'.heap = h → Go p.tables e below P (T'.setTop (mkF m q L (.int 0 :: S)))) : Go p.tables e below P (T.setTop (mkF m pc L (.ref a :: S))) := by
  subst hq
  obtain ⟨T', X', e', st⟩ := instNo X hx hZ hown w eT E F (g := mkF m pc L (.ref a :: S)) rfl rfl hd
  exact go st (K1 T' X' e')
theorem gInstNull (X : Stand p l e R s m args below meth c T locs cells slots) (hx : p.tables.exec = Jvm.exec) {i : Nat} (hd : decode c.code pc = .ok (.instanceof i, 3)) (hq : pc + 3 = q) (K1 : Go p.tables e below P (T.setTop (mkF m q L (.int 0 :: S)))) : Go p.tables e below P (T.setTop (mkF m pc L (.null :: S))) := by
  subst hq
  exact go (fun t k => X.instanceofNull hx (g := mkF m pc L (.null :: S)) rfl rfl hd _ k) K1
theorem gCastY (X : Stand p l e R s m args below meth c T locs cells slots) (hx : p.tables.exec = Jvm.exec) (hZ : Z.Warmed39 s.vm) {own K : String} {i : Nat} (hown : s.vm.findClass own = some m.cls) (w : (Jvm.Cond.classLink own i K).before a0 Z = true) (eT : T.heap = h) (F : Ins Z h a K true) (hd : decode c.code pc = .ok (.checkcast i, 3)) (hq : pc + 3 = q)
    (K1 : ∀ T', Stand p l e R s m args below meth c T' locs cells slots → T'.heap = h → Go p.tables e below P (T'.setTop (mkF m q L (.ref a :: S)))) : Go p.tables e below P (T.setTop (mkF m pc L (.ref a :: S))) := by
  subst hq
  obtain ⟨T', X', e', st⟩ := castY X hx hZ hown w eT F (g := mkF m pc L (.ref a :: S)) rfl rfl hd
  exact go st (K1 T' X' e')
end Steps4
end Jvm.OwnKit
namespace Jvm.OwnKit
open Sem ClassFile Op Lib Jvm.Stand Jvm.Free Jvm.LawKit Jvm.RoadKit
theorem own_lenlt {args : Array Value} {first s : State} {o : Option Outcome} {idx : List Nat} {t : Term} {a : Addr} {cl : Cell} {v : Value} (ev : t.eval args first o idx s = some (.ref a)) (hat : s.arrayAt? a = some cl) (h : (Term.length t).eval args first o idx s = some v) : cl.slots.size < 2 ^ 31 := by
  simp [Term.eval, ev, hat] at h
  exact h.1
theorem own_cache {s : State} {args : Array Value} (hf : Fit s) (w1 : (Jvm.Cond.initializedFor "java/lang/Integer$IntegerCache" "high" "I").before args s = true) (w2 : (Jvm.Cond.eq (Term.static "java/lang/Integer$IntegerCache" "high" "I") (Term.int 127)).before args s = true)
    (w3 : (Jvm.Cond.initialized "java/lang/Integer$IntegerCache").before args s = true) (w4 : (Jvm.Cond.laysStatic "java/lang/Integer$IntegerCache" "cache" "[Ljava/lang/Integer;").before args s = true) (w5 : (Jvm.Cond.arrayOf (Term.static "java/lang/Integer$IntegerCache" "cache" "[Ljava/lang/Integer;") (.object "java/lang/Integer")).before args s = true)
    (w6 : (Jvm.Cond.eq (Term.length (Term.static "java/lang/Integer$IntegerCache" "cache" "[Ljava/lang/Integer;")) (Term.int 256)).before args s = true)
    (w7 : (Jvm.Cond.all (Term.static "java/lang/Integer$IntegerCache" "cache" "[Ljava/lang/Integer;") (Jvm.Cond.and (Jvm.Cond.exactly (Term.elem (Term.static "java/lang/Integer$IntegerCache" "cache" "[Ljava/lang/Integer;") (Term.index 0)) "java/lang/Integer") (Jvm.Cond.eq (Term.field (Term.elem (Term.static "java/lang/Integer$IntegerCache" "cache" "[Ljava/lang/Integer;") (Term.index 0)) "java/lang/Integer" "value" "I") (Term.sub (Term.index 0) (Term.int 128))))).before args s = true) :
    Sta s s.heap "java/lang/Integer$IntegerCache" "high" "I" (.int 127) ∧ ∃ (rc : Addr) (kc : ClassId) (vc : List Value), Sta s s.heap "java/lang/Integer$IntegerCache" "cache" "[Ljava/lang/Integer;" (.ref rc) ∧ Ary s s.heap rc kc (.object "java/lang/Integer") vc ∧ vc.length = 256 ∧ ∀ j : Nat, j < 256 → ∃ r, vc[j]? = some (.ref r) ∧ Exa s s.heap r "java/lang/Integer" := by
  have w2' := Cond.before_iff.mp w2
  obtain ⟨u, w, h1, h2, h3, h4⟩ := cmp_v (Or.inl w2')
  obtain rfl : w = .int 127 := Option.some.inj (h2.symm.trans (Term.int_eval 127))
  obtain ⟨z, rfl⟩ := h4
  have hz : z = 127 := gotT (Cond.eq_ints h1 h2) w2'
  subst hz
  have SH := Sta.start h1 (Or.inl w1)
  have w5' := Cond.before_iff.mp w5
  obtain ⟨rc, ev⟩ := arr_v w5'
  obtain ⟨cl, A⟩ := Arr.start ev w5'
  have SC := Sta.start ev (Or.inr ⟨w3, w4⟩)
  have hal : s.vm.Alike s.vm := Vm.Alike.refl _
  have hat := Arr.fin hal A
  have w6' := Cond.before_iff.mp w6
  obtain ⟨u, w, g1, g2, g3, g4⟩ := cmp_v (Or.inl w6')
  obtain rfl : w = .int 256 := Option.some.inj (g2.symm.trans (Term.int_eval 256))
  obtain ⟨z, rfl⟩ := g4
  have hz : z = 256 := gotT (Cond.eq_ints g1 g2) w6'
  subst hz
  obtain ⟨b, cell, e1, e2, e3⟩ := Term.length_spec g1
  obtain rfl : rc = b := by have := ev.symm.trans e1; exact Value.ref.inj (Option.some.inj this)
  obtain rfl : cl = cell := Option.some.inj (hat.symm.trans e2)
  have hlt : cl.slots.size < 2 ^ 31 := own_lenlt ev hat g1
  have hsz : cl.slots.size = 256 := by
    have e4 := congrArg Int32.toInt (Value.int.inj e3)
    rw [len_toInt hlt] at e4
    have e5 : (256 : Int32).toInt = 256 := rfl
    omega
  have w7' := Cond.before_iff.mp w7
  refine ⟨SH, rc, cl.cls, cl.slots.toList, SC, ⟨cl, A, rfl, rfl⟩, by simpa using hsz, fun j hj => ?_⟩
  have hall := Cond.all_elim ev hat w7' j (by rw [hsz]; exact hj)
  obtain ⟨k1, -⟩ := and_e hall
  obtain ⟨r, er⟩ := exa_v k1
  have E := exa_at er k1
  have evj : (Term.static "java/lang/Integer$IntegerCache" "cache" "[Ljava/lang/Integer;").eval args s none [j] s = some (.ref rc) := ev
  have hi : (Term.index 0).eval args s none [j] s = some (.int j.toInt32) := Term.index_eval j
  refine ⟨r, ?_, E⟩
  have q := elem_in er evj hi A.1
  have hjn : j.toInt32.toNatClampNeg = j := by
    have := len_toInt (n := j) (by omega)
    show j.toInt32.toInt.toNat = j
    rw [this]; rfl
  rw [hjn] at q
  rw [Array.getElem?_toList]
  exact q.2
end Jvm.OwnKit
namespace Jvm.Pilot.@@N@@
open Jvm Jvm.ClassFile Sem Op Lib Jvm.Free Jvm.Stand Jvm.LawKit Jvm.RoadKit Bundle Jvm.OwnKit Jvm.Pilot.@@N@@.Jvm.D
def own_up (x d : Int32) : Int64 := if d < (0 : Int32) then (1 : Int64) else x.toInt64
def own_fits (len d fx u : Int64) : Int32 := if len * d < fx * u then (0 : Int32) else (1 : Int32)
def own_room (ft : Int32) (len d fx u : Int64) : Int64 := if ft = (0 : Int32) then (0 : Int64) else len * d - fx * u
theorem d1_0 : decode prog_69_method_1_code 0 = .ok (.aload_n 0, 1) := by decide +kernel
theorem d1_1 : decode prog_69_method_1_code 1 = .ok (.invokespecial 1, 3) := by decide +kernel
theorem d1_4 : decode prog_69_method_1_code 4 = .ok (.aload_n 0, 1) := by decide +kernel
theorem d1_5 : decode prog_69_method_1_code 5 = .ok (.iload_n 2, 1) := by decide +kernel
theorem d1_6 : decode prog_69_method_1_code 6 = .ok (.ifCond .ge 7, 3) := by decide +kernel
theorem d1_9 : decode prog_69_method_1_code 9 = .ok (.lconst 1, 1) := by decide +kernel
theorem d1_10 : decode prog_69_method_1_code 10 = .ok (.goto 5, 3) := by decide +kernel
theorem d1_13 : decode prog_69_method_1_code 13 = .ok (.iload_n 1, 1) := by decide +kernel
theorem d1_14 : decode prog_69_method_1_code 14 = .ok (.i2l, 1) := by decide +kernel
theorem d1_15 : decode prog_69_method_1_code 15 = .ok (.putfield 7, 3) := by decide +kernel
theorem d1_18 : decode prog_69_method_1_code 18 = .ok (.aload_n 0, 1) := by decide +kernel
theorem d1_19 : decode prog_69_method_1_code 19 = .ok (.iload_n 2, 1) := by decide +kernel
theorem d1_20 : decode prog_69_method_1_code 20 = .ok (.ifCond .ge 7, 3) := by decide +kernel
theorem d1_23 : decode prog_69_method_1_code 23 = .ok (.lconst 1, 1) := by decide +kernel
theorem d1_24 : decode prog_69_method_1_code 24 = .ok (.goto 5, 3) := by decide +kernel
theorem d1_27 : decode prog_69_method_1_code 27 = .ok (.iload_n 2, 1) := by decide +kernel
theorem d1_28 : decode prog_69_method_1_code 28 = .ok (.i2l, 1) := by decide +kernel
theorem d1_29 : decode prog_69_method_1_code 29 = .ok (.putfield 13, 3) := by decide +kernel
theorem d1_32 : decode prog_69_method_1_code 32 = .ok (.aload_n 0, 1) := by decide +kernel
theorem d1_33 : decode prog_69_method_1_code 33 = .ok (.iload_n 3, 1) := by decide +kernel
theorem d1_34 : decode prog_69_method_1_code 34 = .ok (.i2l, 1) := by decide +kernel
theorem d1_35 : decode prog_69_method_1_code 35 = .ok (.putfield 16, 3) := by decide +kernel
theorem d1_38 : decode prog_69_method_1_code 38 = .ok (.aload_n 0, 1) := by decide +kernel
theorem d1_39 : decode prog_69_method_1_code 39 = .ok (.lload 4, 2) := by decide +kernel
theorem d1_41 : decode prog_69_method_1_code 41 = .ok (.putfield 19, 3) := by decide +kernel
theorem d1_44 : decode prog_69_method_1_code 44 = .ok (.aload_n 0, 1) := by decide +kernel
theorem d1_45 : decode prog_69_method_1_code 45 = .ok (.lload 6, 2) := by decide +kernel
theorem d1_47 : decode prog_69_method_1_code 47 = .ok (.putfield 22, 3) := by decide +kernel
theorem d1_50 : decode prog_69_method_1_code 50 = .ok (.aload_n 0, 1) := by decide +kernel
theorem d1_51 : decode prog_69_method_1_code 51 = .ok (.lload 4, 2) := by decide +kernel
theorem d1_53 : decode prog_69_method_1_code 53 = .ok (.aload_n 0, 1) := by decide +kernel
theorem d1_54 : decode prog_69_method_1_code 54 = .ok (.getfield 7, 3) := by decide +kernel
theorem d1_57 : decode prog_69_method_1_code 57 = .ok (.lmul, 1) := by decide +kernel
theorem d1_58 : decode prog_69_method_1_code 58 = .ok (.aload_n 0, 1) := by decide +kernel
theorem d1_59 : decode prog_69_method_1_code 59 = .ok (.getfield 16, 3) := by decide +kernel
theorem d1_62 : decode prog_69_method_1_code 62 = .ok (.aload_n 0, 1) := by decide +kernel
theorem d1_63 : decode prog_69_method_1_code 63 = .ok (.getfield 13, 3) := by decide +kernel
theorem d1_66 : decode prog_69_method_1_code 66 = .ok (.lmul, 1) := by decide +kernel
theorem d1_67 : decode prog_69_method_1_code 67 = .ok (.lcmp, 1) := by decide +kernel
theorem d1_68 : decode prog_69_method_1_code 68 = .ok (.ifCond .gt 7, 3) := by decide +kernel
theorem d1_71 : decode prog_69_method_1_code 71 = .ok (.iconst 1, 1) := by decide +kernel
theorem d1_72 : decode prog_69_method_1_code 72 = .ok (.goto 4, 3) := by decide +kernel
theorem d1_75 : decode prog_69_method_1_code 75 = .ok (.iconst 0, 1) := by decide +kernel
theorem d1_76 : decode prog_69_method_1_code 76 = .ok (.putfield 25, 3) := by decide +kernel
theorem d1_79 : decode prog_69_method_1_code 79 = .ok (.aload_n 0, 1) := by decide +kernel
theorem d1_80 : decode prog_69_method_1_code 80 = .ok (.getfield 25, 3) := by decide +kernel
theorem d1_83 : decode prog_69_method_1_code 83 = .ok (.ifCond .eq 23, 3) := by decide +kernel
theorem d1_86 : decode prog_69_method_1_code 86 = .ok (.aload_n 0, 1) := by decide +kernel
theorem d1_87 : decode prog_69_method_1_code 87 = .ok (.getfield 16, 3) := by decide +kernel
theorem d1_90 : decode prog_69_method_1_code 90 = .ok (.aload_n 0, 1) := by decide +kernel
theorem d1_91 : decode prog_69_method_1_code 91 = .ok (.getfield 13, 3) := by decide +kernel
theorem d1_94 : decode prog_69_method_1_code 94 = .ok (.lmul, 1) := by decide +kernel
theorem d1_95 : decode prog_69_method_1_code 95 = .ok (.lload 4, 2) := by decide +kernel
theorem d1_97 : decode prog_69_method_1_code 97 = .ok (.aload_n 0, 1) := by decide +kernel
theorem d1_98 : decode prog_69_method_1_code 98 = .ok (.getfield 7, 3) := by decide +kernel
theorem d1_101 : decode prog_69_method_1_code 101 = .ok (.lmul, 1) := by decide +kernel
theorem d1_102 : decode prog_69_method_1_code 102 = .ok (.lsub, 1) := by decide +kernel
theorem d1_103 : decode prog_69_method_1_code 103 = .ok (.goto 4, 3) := by decide +kernel
theorem d1_106 : decode prog_69_method_1_code 106 = .ok (.lconst 0, 1) := by decide +kernel
theorem d1_107 : decode prog_69_method_1_code 107 = .ok (.lstore 8, 2) := by decide +kernel
theorem d1_109 : decode prog_69_method_1_code 109 = .ok (.aload_n 0, 1) := by decide +kernel
theorem d1_110 : decode prog_69_method_1_code 110 = .ok (.lload 8, 2) := by decide +kernel
theorem d1_112 : decode prog_69_method_1_code 112 = .ok (.aload_n 0, 1) := by decide +kernel
theorem d1_113 : decode prog_69_method_1_code 113 = .ok (.getfield 13, 3) := by decide +kernel
theorem d1_116 : decode prog_69_method_1_code 116 = .ok (.ldiv, 1) := by decide +kernel
theorem d1_117 : decode prog_69_method_1_code 117 = .ok (.putfield 29, 3) := by decide +kernel
theorem d1_120 : decode prog_69_method_1_code 120 = .ok (.aload_n 0, 1) := by decide +kernel
theorem d1_121 : decode prog_69_method_1_code 121 = .ok (.lload 8, 2) := by decide +kernel
theorem d1_123 : decode prog_69_method_1_code 123 = .ok (.aload_n 0, 1) := by decide +kernel
theorem d1_124 : decode prog_69_method_1_code 124 = .ok (.getfield 13, 3) := by decide +kernel
theorem d1_127 : decode prog_69_method_1_code 127 = .ok (.lrem, 1) := by decide +kernel
theorem d1_128 : decode prog_69_method_1_code 128 = .ok (.putfield 32, 3) := by decide +kernel
theorem d1_131 : decode prog_69_method_1_code 131 = .ok (.return_, 1) := by decide +kernel
theorem pn0 : plainName "com/example/tintfold/tintfold/NinePatchDrawable$Layout" = true := by first | (simp [plainName, overriddenIn]; done) | decide +kernel
theorem ef0 (m : MethodId) (x0 : Addr) (x1 : Int32) (x2 : Int32) (x3 : Int32) (x4 : Int64) (x5 : Int64) : entryFrame m #[(.ref x0), (.int x1), (.int x2), (.int x3), (.long x4), (.long x5)] 10 = mkF m 0 #[.val (.ref x0), .val (.int x1), .val (.int x2), .val (.int x3), .val (.long x4), .second, .val (.long x5), .second, .unset, .unset] [] := by first | (simp [entryFrame, mkF, argsToLocals, Value.category]; done) | rfl
def Q_rmLay (Z : State) (a : Addr) (x1 : Int32) (x2 : Int32) (x3 : Int32) (x4 : Int64) (x5 : Int64) (h0 : Heap) (n0 : Nat) (v : Option Value) (h : Heap) (L : List Loc) : Prop := v = none ∧ Fr n0 L ∧ Keep h0 h [a] ∧ Exa Z h a "com/example/tintfold/tintfold/NinePatchDrawable$Layout" ∧ Fld Z h a "com/example/tintfold/tintfold/NinePatchDrawable$Layout" "up" "J" (.long (own_up x1 x2)) ∧ Fld Z h a "com/example/tintfold/tintfold/NinePatchDrawable$Layout" "down" "J" (.long (own_up x2 x2)) ∧ Fld Z h a "com/example/tintfold/tintfold/NinePatchDrawable$Layout" "length" "J" (.long x3.toInt64) ∧ Fld Z h a "com/example/tintfold/tintfold/NinePatchDrawable$Layout" "fixed" "J" (.long x4) ∧ Fld Z h a "com/example/tintfold/tintfold/NinePatchDrawable$Layout" "stretched" "J" (.long x5) ∧ Fld Z h a "com/example/tintfold/tintfold/NinePatchDrawable$Layout" "fits" "Z" (.int (own_fits x3.toInt64 (own_up x2 x2) x4 (own_up x1 x2))) ∧ Fld Z h a "com/example/tintfold/tintfold/NinePatchDrawable$Layout" "roomWhole" "J" (.long (own_room (own_fits x3.toInt64 (own_up x2 x2) x4 (own_up x1 x2)) x3.toInt64 (own_up x2 x2) x4 (own_up x1 x2) / own_up x2 x2)) ∧ Fld Z h a "com/example/tintfold/tintfold/NinePatchDrawable$Layout" "roomLeft" "J" (.long (own_room (own_fits x3.toInt64 (own_up x2 x2) x4 (own_up x1 x2)) x3.toInt64 (own_up x2 x2) x4 (own_up x1 x2) - own_room (own_fits x3.toInt64 (own_up x2 x2) x4 (own_up x1 x2)) x3.toInt64 (own_up x2 x2) x4 (own_up x1 x2) / own_up x2 x2 * own_up x2 x2))
set_option maxRecDepth 65536 in
set_option maxHeartbeats 40000000 in
theorem rmLay (l : Launch) (Z : State) (a0 : Array Value) (hw : ∀ d ∈ tables_1, d.before a0 Z = true) (ws : List Jvm.Cond) (a : Addr) (x1 : Int32) (x2 : Int32) (x3 : Int32) (x4 : Int64) (x5 : Int64) (h0 : Heap) (n0 : Nat) (Z0 : n0 ≤ h0.size) (F0 : Fld Z h0 a "com/example/tintfold/tintfold/NinePatchDrawable$Layout" "up" "J" (.long (0 : Int64))) (F1 : Fld Z h0 a "com/example/tintfold/tintfold/NinePatchDrawable$Layout" "down" "J" (.long (0 : Int64))) (F2 : Fld Z h0 a "com/example/tintfold/tintfold/NinePatchDrawable$Layout" "length" "J" (.long (0 : Int64))) (F3 : Fld Z h0 a "com/example/tintfold/tintfold/NinePatchDrawable$Layout" "fixed" "J" (.long (0 : Int64))) (F4 : Fld Z h0 a "com/example/tintfold/tintfold/NinePatchDrawable$Layout" "stretched" "J" (.long (0 : Int64))) (F5 : Fld Z h0 a "com/example/tintfold/tintfold/NinePatchDrawable$Layout" "fits" "Z" (.int (0 : Int32))) (F6 : Fld Z h0 a "com/example/tintfold/tintfold/NinePatchDrawable$Layout" "roomWhole" "J" (.long (0 : Int64))) (F7 : Fld Z h0 a "com/example/tintfold/tintfold/NinePatchDrawable$Layout" "roomLeft" "J" (.long (0 : Int64))) (E1 : Exa Z h0 a "com/example/tintfold/tintfold/NinePatchDrawable$Layout") (la : n0 ≤ a) (hdn : own_up x2 x2 ≠ 0) :
    Con l Z (⟨"com/example/tintfold/tintfold/NinePatchDrawable$Layout", "<init>", "(IIIJJ)V"⟩ : MethodName) prog_69_method_1_code 10 none ws ({ frames := 1, cells := 0, slots := 0, locals := 12 } : Room) #[(.ref a), (.int x1), (.int x2), (.int x3), (.long x4), (.long x5)] h0 (({ frames := 1, cells := 0, slots := 0, locals := 12 } : Room).cells) (({ frames := 1, cells := 0, slots := 0, locals := 12 } : Room).slots) (Q_rmLay Z a x1 x2 x3 x4 x5 h0 n0) := by
  refine Con.of (plainFor_of_name pn0) ?_
  intro p e s m below meth c s₁ hx hby hml hown hnm hret hlk hZ X0 e0
  have N0 := Fr.nil n0
  refine goE (L := #[.val (.ref a), .val (.int x1), .val (.int x2), .val (.int x3), .val (.long x4), .second, .val (.long x5), .second, .unset, .unset]) (ef0 m a x1 x2 x3 x4 x5) ?_
  refine gAloadN X0 hx (hb hby d1_0) (q := 1) rfl rfl rfl ?_
  refine gInitO X0 hx hZ hown (hw _ (List.mem_of_getElem? (i := 10) rfl)) (hw _ (List.mem_of_getElem? (i := 11) rfl)) (hw _ (List.mem_of_getElem? (i := 12) rfl)) e0 (by rw [hml]; rfl) (hb hby d1_1) (q := 4) rfl (by decide) (W := 0) (Nat.le_of_eq rfl) (by decide) (fun T1 X1 e1 => ?_)
  refine gAloadN X1 hx (hb hby d1_4) (q := 5) rfl rfl rfl ?_
  refine gIloadN X1 hx (hb hby d1_5) (q := 6) rfl rfl ?_
  have J6_4 : ∀ v3 : Int64, v3 = (if x2 < (0 : Int32) then (1 : Int64) else (x1.toInt64)) → Go p.tables e below (Done s (Q_rmLay Z a x1 x2 x3 x4 x5 h0 n0) (({ frames := 1, cells := 0, slots := 0, locals := 12 } : Room).cells) (({ frames := 1, cells := 0, slots := 0, locals := 12 } : Room).slots)) (T1.setTop (mkF m 15 #[.val (.ref a), .val (.int x1), .val (.int x2), .val (.int x3), .val (.long x4), .second, .val (.long x5), .second, .unset, .unset] [(.long v3), (.ref a)])) := by
    intro v3 hv3
    refine gPutF X1 hx hZ (host := "") hown (Or.inl (hw _ (List.mem_of_getElem? (i := 13) rfl))) Via.refl e1 F0 E1 (Or.inr ⟨(hw _ (List.mem_of_getElem? (i := 14) rfl)), rfl, hnm⟩) (hw _ (List.mem_of_getElem? (i := 5) rfl)) (ty := .long) (by decide) rfl rfl (hb hby d1_15) (q := 18) rfl (fun T5 h5 X5 e5 W5 => ?_)
    have N6 := Fr.snoc X5 N0 la
    have K7 := (Keep.refl h0 [a]).wr W5 (Or.inl (List.mem_of_getElem? (i := 0) rfl))
    have F8 := Fld.same W5 F0
    have F9 := Fld.other W5 F1 (Or.inr (slot_ne (Or.inr (hw _ (List.mem_of_getElem? (i := 16) rfl))) (Or.inr (hw _ (List.mem_of_getElem? (i := 14) rfl))) (by decide) (t := .long) (by decide) (t' := .long) (by decide)))
    have F10 := Fld.other W5 F2 (Or.inr (slot_ne (Or.inr (hw _ (List.mem_of_getElem? (i := 18) rfl))) (Or.inr (hw _ (List.mem_of_getElem? (i := 14) rfl))) (by decide) (t := .long) (by decide) (t' := .long) (by decide)))
    have F11 := Fld.other W5 F3 (Or.inr (slot_ne (Or.inr (hw _ (List.mem_of_getElem? (i := 20) rfl))) (Or.inr (hw _ (List.mem_of_getElem? (i := 14) rfl))) (by decide) (t := .long) (by decide) (t' := .long) (by decide)))
    have F12 := Fld.other W5 F4 (Or.inr (slot_ne (Or.inr (hw _ (List.mem_of_getElem? (i := 22) rfl))) (Or.inr (hw _ (List.mem_of_getElem? (i := 14) rfl))) (by decide) (t := .long) (by decide) (t' := .long) (by decide)))
    have F13 := Fld.other W5 F5 (Or.inr (slot_ne (Or.inr (hw _ (List.mem_of_getElem? (i := 24) rfl))) (Or.inr (hw _ (List.mem_of_getElem? (i := 14) rfl))) (by decide) (t := .boolean) (by decide) (t' := .long) (by decide)))
    have F14 := Fld.other W5 F6 (Or.inr (slot_ne (Or.inr (hw _ (List.mem_of_getElem? (i := 26) rfl))) (Or.inr (hw _ (List.mem_of_getElem? (i := 14) rfl))) (by decide) (t := .long) (by decide) (t' := .long) (by decide)))
    have F15 := Fld.other W5 F7 (Or.inr (slot_ne (Or.inr (hw _ (List.mem_of_getElem? (i := 28) rfl))) (Or.inr (hw _ (List.mem_of_getElem? (i := 14) rfl))) (by decide) (t := .long) (by decide) (t' := .long) (by decide)))
    have E16 := Exa.wr W5 E1
    have Z17 : n0 ≤ h5.size := by rw [W5.size]; exact Z0
    refine gAloadN X5 hx (hb hby d1_18) (q := 19) rfl rfl rfl ?_
    refine gIloadN X5 hx (hb hby d1_19) (q := 20) rfl rfl ?_
    have J20_20 : ∀ v19 : Int64, v19 = (if x2 < (0 : Int32) then (1 : Int64) else (x2.toInt64)) → Go p.tables e below (Done s (Q_rmLay Z a x1 x2 x3 x4 x5 h0 n0) (({ frames := 1, cells := 0, slots := 0, locals := 12 } : Room).cells) (({ frames := 1, cells := 0, slots := 0, locals := 12 } : Room).slots)) (T5.setTop (mkF m 29 #[.val (.ref a), .val (.int x1), .val (.int x2), .val (.int x3), .val (.long x4), .second, .val (.long x5), .second, .unset, .unset] [(.long v19), (.ref a)])) := by
      intro v19 hv19
      refine gPutF X5 hx hZ (host := "") hown (Or.inl (hw _ (List.mem_of_getElem? (i := 15) rfl))) Via.refl e5 F9 E16 (Or.inr ⟨(hw _ (List.mem_of_getElem? (i := 16) rfl)), rfl, hnm⟩) (hw _ (List.mem_of_getElem? (i := 5) rfl)) (ty := .long) (by decide) rfl rfl (hb hby d1_29) (q := 32) rfl (fun T21 h21 X21 e21 W21 => ?_)
      have N22 := Fr.snoc X21 N6 la
      have K23 := K7.wr W21 (Or.inl (List.mem_of_getElem? (i := 0) rfl))
      have F24 := Fld.other W21 F8 (Or.inr (slot_ne (Or.inr (hw _ (List.mem_of_getElem? (i := 14) rfl))) (Or.inr (hw _ (List.mem_of_getElem? (i := 16) rfl))) (by decide) (t := .long) (by decide) (t' := .long) (by decide)))
      have F25 := Fld.same W21 F9
      have F26 := Fld.other W21 F10 (Or.inr (slot_ne (Or.inr (hw _ (List.mem_of_getElem? (i := 18) rfl))) (Or.inr (hw _ (List.mem_of_getElem? (i := 16) rfl))) (by decide) (t := .long) (by decide) (t' := .long) (by decide)))
      have F27 := Fld.other W21 F11 (Or.inr (slot_ne (Or.inr (hw _ (List.mem_of_getElem? (i := 20) rfl))) (Or.inr (hw _ (List.mem_of_getElem? (i := 16) rfl))) (by decide) (t := .long) (by decide) (t' := .long) (by decide)))
      have F28 := Fld.other W21 F12 (Or.inr (slot_ne (Or.inr (hw _ (List.mem_of_getElem? (i := 22) rfl))) (Or.inr (hw _ (List.mem_of_getElem? (i := 16) rfl))) (by decide) (t := .long) (by decide) (t' := .long) (by decide)))
      have F29 := Fld.other W21 F13 (Or.inr (slot_ne (Or.inr (hw _ (List.mem_of_getElem? (i := 24) rfl))) (Or.inr (hw _ (List.mem_of_getElem? (i := 16) rfl))) (by decide) (t := .boolean) (by decide) (t' := .long) (by decide)))
      have F30 := Fld.other W21 F14 (Or.inr (slot_ne (Or.inr (hw _ (List.mem_of_getElem? (i := 26) rfl))) (Or.inr (hw _ (List.mem_of_getElem? (i := 16) rfl))) (by decide) (t := .long) (by decide) (t' := .long) (by decide)))
      have F31 := Fld.other W21 F15 (Or.inr (slot_ne (Or.inr (hw _ (List.mem_of_getElem? (i := 28) rfl))) (Or.inr (hw _ (List.mem_of_getElem? (i := 16) rfl))) (by decide) (t := .long) (by decide) (t' := .long) (by decide)))
      have E32 := Exa.wr W21 E16
      have Z33 : n0 ≤ h21.size := by rw [W21.size]; exact Z17
      refine gAloadN X21 hx (hb hby d1_32) (q := 33) rfl rfl rfl ?_
      refine gIloadN X21 hx (hb hby d1_33) (q := 34) rfl rfl ?_
      refine gI2l X21 hx (hb hby d1_34) (q := 35) rfl ?_
      refine gPutF X21 hx hZ (host := "") hown (Or.inl (hw _ (List.mem_of_getElem? (i := 17) rfl))) Via.refl e21 F26 E32 (Or.inr ⟨(hw _ (List.mem_of_getElem? (i := 18) rfl)), rfl, hnm⟩) (hw _ (List.mem_of_getElem? (i := 5) rfl)) (ty := .long) (by decide) rfl rfl (hb hby d1_35) (q := 38) rfl (fun T34 h34 X34 e34 W34 => ?_)
      have N35 := Fr.snoc X34 N22 la
      have K36 := K23.wr W34 (Or.inl (List.mem_of_getElem? (i := 0) rfl))
      have F37 := Fld.other W34 F24 (Or.inr (slot_ne (Or.inr (hw _ (List.mem_of_getElem? (i := 14) rfl))) (Or.inr (hw _ (List.mem_of_getElem? (i := 18) rfl))) (by decide) (t := .long) (by decide) (t' := .long) (by decide)))
      have F38 := Fld.other W34 F25 (Or.inr (slot_ne (Or.inr (hw _ (List.mem_of_getElem? (i := 16) rfl))) (Or.inr (hw _ (List.mem_of_getElem? (i := 18) rfl))) (by decide) (t := .long) (by decide) (t' := .long) (by decide)))
      have F39 := Fld.same W34 F26
      have F40 := Fld.other W34 F27 (Or.inr (slot_ne (Or.inr (hw _ (List.mem_of_getElem? (i := 20) rfl))) (Or.inr (hw _ (List.mem_of_getElem? (i := 18) rfl))) (by decide) (t := .long) (by decide) (t' := .long) (by decide)))
      have F41 := Fld.other W34 F28 (Or.inr (slot_ne (Or.inr (hw _ (List.mem_of_getElem? (i := 22) rfl))) (Or.inr (hw _ (List.mem_of_getElem? (i := 18) rfl))) (by decide) (t := .long) (by decide) (t' := .long) (by decide)))
      have F42 := Fld.other W34 F29 (Or.inr (slot_ne (Or.inr (hw _ (List.mem_of_getElem? (i := 24) rfl))) (Or.inr (hw _ (List.mem_of_getElem? (i := 18) rfl))) (by decide) (t := .boolean) (by decide) (t' := .long) (by decide)))
      have F43 := Fld.other W34 F30 (Or.inr (slot_ne (Or.inr (hw _ (List.mem_of_getElem? (i := 26) rfl))) (Or.inr (hw _ (List.mem_of_getElem? (i := 18) rfl))) (by decide) (t := .long) (by decide) (t' := .long) (by decide)))
      have F44 := Fld.other W34 F31 (Or.inr (slot_ne (Or.inr (hw _ (List.mem_of_getElem? (i := 28) rfl))) (Or.inr (hw _ (List.mem_of_getElem? (i := 18) rfl))) (by decide) (t := .long) (by decide) (t' := .long) (by decide)))
      have E45 := Exa.wr W34 E32
      have Z46 : n0 ≤ h34.size := by rw [W34.size]; exact Z33
      refine gAloadN X34 hx (hb hby d1_38) (q := 39) rfl rfl rfl ?_
      refine gLload X34 hx (hb hby d1_39) (q := 41) rfl rfl ?_
      refine gPutF X34 hx hZ (host := "") hown (Or.inl (hw _ (List.mem_of_getElem? (i := 19) rfl))) Via.refl e34 F40 E45 (Or.inr ⟨(hw _ (List.mem_of_getElem? (i := 20) rfl)), rfl, hnm⟩) (hw _ (List.mem_of_getElem? (i := 5) rfl)) (ty := .long) (by decide) rfl rfl (hb hby d1_41) (q := 44) rfl (fun T47 h47 X47 e47 W47 => ?_)
      have N48 := Fr.snoc X47 N35 la
      have K49 := K36.wr W47 (Or.inl (List.mem_of_getElem? (i := 0) rfl))
      have F50 := Fld.other W47 F37 (Or.inr (slot_ne (Or.inr (hw _ (List.mem_of_getElem? (i := 14) rfl))) (Or.inr (hw _ (List.mem_of_getElem? (i := 20) rfl))) (by decide) (t := .long) (by decide) (t' := .long) (by decide)))
      have F51 := Fld.other W47 F38 (Or.inr (slot_ne (Or.inr (hw _ (List.mem_of_getElem? (i := 16) rfl))) (Or.inr (hw _ (List.mem_of_getElem? (i := 20) rfl))) (by decide) (t := .long) (by decide) (t' := .long) (by decide)))
      have F52 := Fld.other W47 F39 (Or.inr (slot_ne (Or.inr (hw _ (List.mem_of_getElem? (i := 18) rfl))) (Or.inr (hw _ (List.mem_of_getElem? (i := 20) rfl))) (by decide) (t := .long) (by decide) (t' := .long) (by decide)))
      have F53 := Fld.same W47 F40
      have F54 := Fld.other W47 F41 (Or.inr (slot_ne (Or.inr (hw _ (List.mem_of_getElem? (i := 22) rfl))) (Or.inr (hw _ (List.mem_of_getElem? (i := 20) rfl))) (by decide) (t := .long) (by decide) (t' := .long) (by decide)))
      have F55 := Fld.other W47 F42 (Or.inr (slot_ne (Or.inr (hw _ (List.mem_of_getElem? (i := 24) rfl))) (Or.inr (hw _ (List.mem_of_getElem? (i := 20) rfl))) (by decide) (t := .boolean) (by decide) (t' := .long) (by decide)))
      have F56 := Fld.other W47 F43 (Or.inr (slot_ne (Or.inr (hw _ (List.mem_of_getElem? (i := 26) rfl))) (Or.inr (hw _ (List.mem_of_getElem? (i := 20) rfl))) (by decide) (t := .long) (by decide) (t' := .long) (by decide)))
      have F57 := Fld.other W47 F44 (Or.inr (slot_ne (Or.inr (hw _ (List.mem_of_getElem? (i := 28) rfl))) (Or.inr (hw _ (List.mem_of_getElem? (i := 20) rfl))) (by decide) (t := .long) (by decide) (t' := .long) (by decide)))
      have E58 := Exa.wr W47 E45
      have Z59 : n0 ≤ h47.size := by rw [W47.size]; exact Z46
      refine gAloadN X47 hx (hb hby d1_44) (q := 45) rfl rfl rfl ?_
      refine gLload X47 hx (hb hby d1_45) (q := 47) rfl rfl ?_
      refine gPutF X47 hx hZ (host := "") hown (Or.inl (hw _ (List.mem_of_getElem? (i := 21) rfl))) Via.refl e47 F54 E58 (Or.inr ⟨(hw _ (List.mem_of_getElem? (i := 22) rfl)), rfl, hnm⟩) (hw _ (List.mem_of_getElem? (i := 5) rfl)) (ty := .long) (by decide) rfl rfl (hb hby d1_47) (q := 50) rfl (fun T60 h60 X60 e60 W60 => ?_)
      have N61 := Fr.snoc X60 N48 la
      have K62 := K49.wr W60 (Or.inl (List.mem_of_getElem? (i := 0) rfl))
      have F63 := Fld.other W60 F50 (Or.inr (slot_ne (Or.inr (hw _ (List.mem_of_getElem? (i := 14) rfl))) (Or.inr (hw _ (List.mem_of_getElem? (i := 22) rfl))) (by decide) (t := .long) (by decide) (t' := .long) (by decide)))
      have F64 := Fld.other W60 F51 (Or.inr (slot_ne (Or.inr (hw _ (List.mem_of_getElem? (i := 16) rfl))) (Or.inr (hw _ (List.mem_of_getElem? (i := 22) rfl))) (by decide) (t := .long) (by decide) (t' := .long) (by decide)))
      have F65 := Fld.other W60 F52 (Or.inr (slot_ne (Or.inr (hw _ (List.mem_of_getElem? (i := 18) rfl))) (Or.inr (hw _ (List.mem_of_getElem? (i := 22) rfl))) (by decide) (t := .long) (by decide) (t' := .long) (by decide)))
      have F66 := Fld.other W60 F53 (Or.inr (slot_ne (Or.inr (hw _ (List.mem_of_getElem? (i := 20) rfl))) (Or.inr (hw _ (List.mem_of_getElem? (i := 22) rfl))) (by decide) (t := .long) (by decide) (t' := .long) (by decide)))
      have F67 := Fld.same W60 F54
      have F68 := Fld.other W60 F55 (Or.inr (slot_ne (Or.inr (hw _ (List.mem_of_getElem? (i := 24) rfl))) (Or.inr (hw _ (List.mem_of_getElem? (i := 22) rfl))) (by decide) (t := .boolean) (by decide) (t' := .long) (by decide)))
      have F69 := Fld.other W60 F56 (Or.inr (slot_ne (Or.inr (hw _ (List.mem_of_getElem? (i := 26) rfl))) (Or.inr (hw _ (List.mem_of_getElem? (i := 22) rfl))) (by decide) (t := .long) (by decide) (t' := .long) (by decide)))
      have F70 := Fld.other W60 F57 (Or.inr (slot_ne (Or.inr (hw _ (List.mem_of_getElem? (i := 28) rfl))) (Or.inr (hw _ (List.mem_of_getElem? (i := 22) rfl))) (by decide) (t := .long) (by decide) (t' := .long) (by decide)))
      have E71 := Exa.wr W60 E58
      have Z72 : n0 ≤ h60.size := by rw [W60.size]; exact Z59
      refine gAloadN X60 hx (hb hby d1_50) (q := 51) rfl rfl rfl ?_
      refine gLload X60 hx (hb hby d1_51) (q := 53) rfl rfl ?_
      refine gAloadN X60 hx (hb hby d1_53) (q := 54) rfl rfl rfl ?_
      refine gGetF X60 hx hZ (host := "") hown (Or.inl (hw _ (List.mem_of_getElem? (i := 13) rfl))) Via.refl e60 F63 (hb hby d1_54) (q := 57) rfl (fun T73 X73 e73 => ?_)
      refine gLmul X73 hx (hb hby d1_57) (q := 58) rfl ?_
      refine gAloadN X73 hx (hb hby d1_58) (q := 59) rfl rfl rfl ?_
      refine gGetF X73 hx hZ (host := "") hown (Or.inl (hw _ (List.mem_of_getElem? (i := 17) rfl))) Via.refl e73 F65 (hb hby d1_59) (q := 62) rfl (fun T74 X74 e74 => ?_)
      refine gAloadN X74 hx (hb hby d1_62) (q := 63) rfl rfl rfl ?_
      refine gGetF X74 hx hZ (host := "") hown (Or.inl (hw _ (List.mem_of_getElem? (i := 15) rfl))) Via.refl e74 F64 (hb hby d1_63) (q := 66) rfl (fun T75 X75 e75 => ?_)
      refine gLmul X75 hx (hb hby d1_66) (q := 67) rfl ?_
      refine gLcmp X75 hx (hb hby d1_67) (q := 68) rfl ?_
      have J68_78 : ∀ v77 : Int32, v77 = (if ((x3.toInt64) * v19) < (x4 * v3) then (0 : Int32) else (1 : Int32)) → Go p.tables e below (Done s (Q_rmLay Z a x1 x2 x3 x4 x5 h0 n0) (({ frames := 1, cells := 0, slots := 0, locals := 12 } : Room).cells) (({ frames := 1, cells := 0, slots := 0, locals := 12 } : Room).slots)) (T75.setTop (mkF m 76 #[.val (.ref a), .val (.int x1), .val (.int x2), .val (.int x3), .val (.long x4), .second, .val (.long x5), .second, .unset, .unset] [(.int v77), (.ref a)])) := by
        intro v77 hv77
        refine gPutF X75 hx hZ (host := "") hown (Or.inl (hw _ (List.mem_of_getElem? (i := 23) rfl))) Via.refl e75 F68 E71 (Or.inr ⟨(hw _ (List.mem_of_getElem? (i := 24) rfl)), rfl, hnm⟩) (hw _ (List.mem_of_getElem? (i := 5) rfl)) (ty := .boolean) (by decide) (by rw [hv77]; split <;> rfl) (by rw [hv77]; split <;> rfl) (hb hby d1_76) (q := 79) rfl (fun T79 h79 X79 e79 W79 => ?_)
        have N80 := Fr.snoc X79 N61 la
        have K81 := K62.wr W79 (Or.inl (List.mem_of_getElem? (i := 0) rfl))
        have F82 := Fld.other W79 F63 (Or.inr (slot_ne (Or.inr (hw _ (List.mem_of_getElem? (i := 14) rfl))) (Or.inr (hw _ (List.mem_of_getElem? (i := 24) rfl))) (by decide) (t := .long) (by decide) (t' := .boolean) (by decide)))
        have F83 := Fld.other W79 F64 (Or.inr (slot_ne (Or.inr (hw _ (List.mem_of_getElem? (i := 16) rfl))) (Or.inr (hw _ (List.mem_of_getElem? (i := 24) rfl))) (by decide) (t := .long) (by decide) (t' := .boolean) (by decide)))
        have F84 := Fld.other W79 F65 (Or.inr (slot_ne (Or.inr (hw _ (List.mem_of_getElem? (i := 18) rfl))) (Or.inr (hw _ (List.mem_of_getElem? (i := 24) rfl))) (by decide) (t := .long) (by decide) (t' := .boolean) (by decide)))
        have F85 := Fld.other W79 F66 (Or.inr (slot_ne (Or.inr (hw _ (List.mem_of_getElem? (i := 20) rfl))) (Or.inr (hw _ (List.mem_of_getElem? (i := 24) rfl))) (by decide) (t := .long) (by decide) (t' := .boolean) (by decide)))
        have F86 := Fld.other W79 F67 (Or.inr (slot_ne (Or.inr (hw _ (List.mem_of_getElem? (i := 22) rfl))) (Or.inr (hw _ (List.mem_of_getElem? (i := 24) rfl))) (by decide) (t := .long) (by decide) (t' := .boolean) (by decide)))
        have F87 := Fld.same W79 F68
        have F88 := Fld.other W79 F69 (Or.inr (slot_ne (Or.inr (hw _ (List.mem_of_getElem? (i := 26) rfl))) (Or.inr (hw _ (List.mem_of_getElem? (i := 24) rfl))) (by decide) (t := .long) (by decide) (t' := .boolean) (by decide)))
        have F89 := Fld.other W79 F70 (Or.inr (slot_ne (Or.inr (hw _ (List.mem_of_getElem? (i := 28) rfl))) (Or.inr (hw _ (List.mem_of_getElem? (i := 24) rfl))) (by decide) (t := .long) (by decide) (t' := .boolean) (by decide)))
        have E90 := Exa.wr W79 E71
        have Z91 : n0 ≤ h79.size := by rw [W79.size]; exact Z72
        refine gAloadN X79 hx (hb hby d1_79) (q := 80) rfl rfl rfl ?_
        refine gGetF X79 hx hZ (host := "") hown (Or.inl (hw _ (List.mem_of_getElem? (i := 23) rfl))) Via.refl e79 F87 (hb hby d1_80) (q := 83) rfl (fun T92 X92 e92 => ?_)
        have J83_95 : ∀ (T96 : State) (L96 : List Loc), Stand p l e ({ frames := 1, cells := 0, slots := 0, locals := 12 } : Room) s m #[(.ref a), (.int x1), (.int x2), (.int x3), (.long x4), (.long x5)] below meth c T96 L96 0 0 → T96.heap = h79 → Fr n0 L96 → ∀ v94 : Int64, v94 = (if v77 = (0 : Int32) then (0 : Int64) else (((x3.toInt64) * v19) - (x4 * v3))) → Go p.tables e below (Done s (Q_rmLay Z a x1 x2 x3 x4 x5 h0 n0) (({ frames := 1, cells := 0, slots := 0, locals := 12 } : Room).cells) (({ frames := 1, cells := 0, slots := 0, locals := 12 } : Room).slots)) (T96.setTop (mkF m 107 #[.val (.ref a), .val (.int x1), .val (.int x2), .val (.int x3), .val (.long x4), .second, .val (.long x5), .second, .unset, .unset] [(.long v94)])) := by
          intro T96 L96 X96 e96 N96 v94 hv94
          refine gLstore X96 hx (hb hby d1_107) (q := 109) rfl (L' := #[.val (.ref a), .val (.int x1), .val (.int x2), .val (.int x3), .val (.long x4), .second, .val (.long x5), .second, .val (.long v94), .second]) rfl ?_
          refine gAloadN X96 hx (hb hby d1_109) (q := 110) rfl rfl rfl ?_
          refine gLload X96 hx (hb hby d1_110) (q := 112) rfl rfl ?_
          refine gAloadN X96 hx (hb hby d1_112) (q := 113) rfl rfl rfl ?_
          refine gGetF X96 hx hZ (host := "") hown (Or.inl (hw _ (List.mem_of_getElem? (i := 15) rfl))) Via.refl e96 F83 (hb hby d1_113) (q := 116) rfl (fun T97 X97 e97 => ?_)
          refine gLdiv X97 hx (hb hby d1_116) (q := 117) rfl (by have := hdn; rw [own_up] at this; rw [hv19]; exact this) ?_
          refine gPutF X97 hx hZ (host := "") hown (Or.inl (hw _ (List.mem_of_getElem? (i := 25) rfl))) Via.refl e97 F88 E90 (Or.inr ⟨(hw _ (List.mem_of_getElem? (i := 26) rfl)), rfl, hnm⟩) (hw _ (List.mem_of_getElem? (i := 5) rfl)) (ty := .long) (by decide) rfl rfl (hb hby d1_117) (q := 120) rfl (fun T98 h98 X98 e98 W98 => ?_)
          have N99 := Fr.snoc X98 N96 la
          have K100 := K81.wr W98 (Or.inl (List.mem_of_getElem? (i := 0) rfl))
          have F101 := Fld.other W98 F82 (Or.inr (slot_ne (Or.inr (hw _ (List.mem_of_getElem? (i := 14) rfl))) (Or.inr (hw _ (List.mem_of_getElem? (i := 26) rfl))) (by decide) (t := .long) (by decide) (t' := .long) (by decide)))
          have F102 := Fld.other W98 F83 (Or.inr (slot_ne (Or.inr (hw _ (List.mem_of_getElem? (i := 16) rfl))) (Or.inr (hw _ (List.mem_of_getElem? (i := 26) rfl))) (by decide) (t := .long) (by decide) (t' := .long) (by decide)))
          have F103 := Fld.other W98 F84 (Or.inr (slot_ne (Or.inr (hw _ (List.mem_of_getElem? (i := 18) rfl))) (Or.inr (hw _ (List.mem_of_getElem? (i := 26) rfl))) (by decide) (t := .long) (by decide) (t' := .long) (by decide)))
          have F104 := Fld.other W98 F85 (Or.inr (slot_ne (Or.inr (hw _ (List.mem_of_getElem? (i := 20) rfl))) (Or.inr (hw _ (List.mem_of_getElem? (i := 26) rfl))) (by decide) (t := .long) (by decide) (t' := .long) (by decide)))
          have F105 := Fld.other W98 F86 (Or.inr (slot_ne (Or.inr (hw _ (List.mem_of_getElem? (i := 22) rfl))) (Or.inr (hw _ (List.mem_of_getElem? (i := 26) rfl))) (by decide) (t := .long) (by decide) (t' := .long) (by decide)))
          have F106 := Fld.other W98 F87 (Or.inr (slot_ne (Or.inr (hw _ (List.mem_of_getElem? (i := 24) rfl))) (Or.inr (hw _ (List.mem_of_getElem? (i := 26) rfl))) (by decide) (t := .boolean) (by decide) (t' := .long) (by decide)))
          have F107 := Fld.same W98 F88
          have F108 := Fld.other W98 F89 (Or.inr (slot_ne (Or.inr (hw _ (List.mem_of_getElem? (i := 28) rfl))) (Or.inr (hw _ (List.mem_of_getElem? (i := 26) rfl))) (by decide) (t := .long) (by decide) (t' := .long) (by decide)))
          have E109 := Exa.wr W98 E90
          have Z110 : n0 ≤ h98.size := by rw [W98.size]; exact Z91
          refine gAloadN X98 hx (hb hby d1_120) (q := 121) rfl rfl rfl ?_
          refine gLload X98 hx (hb hby d1_121) (q := 123) rfl rfl ?_
          refine gAloadN X98 hx (hb hby d1_123) (q := 124) rfl rfl rfl ?_
          refine gGetF X98 hx hZ (host := "") hown (Or.inl (hw _ (List.mem_of_getElem? (i := 15) rfl))) Via.refl e98 F102 (hb hby d1_124) (q := 127) rfl (fun T111 X111 e111 => ?_)
          refine gLrem X111 hx (hb hby d1_127) (q := 128) rfl (by have := hdn; rw [own_up] at this; rw [hv19]; exact this) ?_
          refine gPutF X111 hx hZ (host := "") hown (Or.inl (hw _ (List.mem_of_getElem? (i := 27) rfl))) Via.refl e111 F108 E109 (Or.inr ⟨(hw _ (List.mem_of_getElem? (i := 28) rfl)), rfl, hnm⟩) (hw _ (List.mem_of_getElem? (i := 5) rfl)) (ty := .long) (by decide) rfl rfl (hb hby d1_128) (q := 131) rfl (fun T112 h112 X112 e112 W112 => ?_)
          have N113 := Fr.snoc X112 N99 la
          have K114 := K100.wr W112 (Or.inl (List.mem_of_getElem? (i := 0) rfl))
          have F115 := Fld.other W112 F101 (Or.inr (slot_ne (Or.inr (hw _ (List.mem_of_getElem? (i := 14) rfl))) (Or.inr (hw _ (List.mem_of_getElem? (i := 28) rfl))) (by decide) (t := .long) (by decide) (t' := .long) (by decide)))
          have F116 := Fld.other W112 F102 (Or.inr (slot_ne (Or.inr (hw _ (List.mem_of_getElem? (i := 16) rfl))) (Or.inr (hw _ (List.mem_of_getElem? (i := 28) rfl))) (by decide) (t := .long) (by decide) (t' := .long) (by decide)))
          have F117 := Fld.other W112 F103 (Or.inr (slot_ne (Or.inr (hw _ (List.mem_of_getElem? (i := 18) rfl))) (Or.inr (hw _ (List.mem_of_getElem? (i := 28) rfl))) (by decide) (t := .long) (by decide) (t' := .long) (by decide)))
          have F118 := Fld.other W112 F104 (Or.inr (slot_ne (Or.inr (hw _ (List.mem_of_getElem? (i := 20) rfl))) (Or.inr (hw _ (List.mem_of_getElem? (i := 28) rfl))) (by decide) (t := .long) (by decide) (t' := .long) (by decide)))
          have F119 := Fld.other W112 F105 (Or.inr (slot_ne (Or.inr (hw _ (List.mem_of_getElem? (i := 22) rfl))) (Or.inr (hw _ (List.mem_of_getElem? (i := 28) rfl))) (by decide) (t := .long) (by decide) (t' := .long) (by decide)))
          have F120 := Fld.other W112 F106 (Or.inr (slot_ne (Or.inr (hw _ (List.mem_of_getElem? (i := 24) rfl))) (Or.inr (hw _ (List.mem_of_getElem? (i := 28) rfl))) (by decide) (t := .boolean) (by decide) (t' := .long) (by decide)))
          have F121 := Fld.other W112 F107 (Or.inr (slot_ne (Or.inr (hw _ (List.mem_of_getElem? (i := 26) rfl))) (Or.inr (hw _ (List.mem_of_getElem? (i := 28) rfl))) (by decide) (t := .long) (by decide) (t' := .long) (by decide)))
          have F122 := Fld.same W112 F108
          have E123 := Exa.wr W112 E109
          have Z124 : n0 ≤ h112.size := by rw [W112.size]; exact Z110
          have hQ : Q_rmLay Z a x1 x2 x3 x4 x5 h0 n0 none h112 _ := ⟨rfl, N113, K114, E123, (by have := F115; subst hv94; subst hv77; subst hv19; subst hv3; exact this), (by have := F116; subst hv94; subst hv77; subst hv19; subst hv3; exact this), (by have := F117; subst hv94; subst hv77; subst hv19; subst hv3; exact this), (by have := F118; subst hv94; subst hv77; subst hv19; subst hv3; exact this), (by have := F119; subst hv94; subst hv77; subst hv19; subst hv3; exact this), (by have := F120; subst hv94; subst hv77; subst hv19; subst hv3; exact this), (by have := F121; subst hv94; subst hv77; subst hv19; subst hv3; exact this), (by have := F122; subst hv94; subst hv77; subst hv19; subst hv3; exact this)⟩
          exact gRetV X112 hx hlk hret (hb hby d1_131) (by decide) (by decide) (by rw [e112]; exact hQ)
        by_cases c93 : v77 = (0 : Int32)
        · refine gIfY X92 hx (hb hby d1_83) (q := 106) (by decide) (by decide) (XT.i0_eq_t c93) ?_
          refine gLconst X92 hx (0 : Int64) (hb hby d1_106) (q := 107) rfl (by decide) ?_
          exact J83_95 T92 _ X92 e92 N80 _ (by first | rfl | (simp only [if_pos c93]; done) | (simp only [if_pos c93]; done) | (simp only [if_pos c93, if_true, if_false]; done) | (exfalso; simp at c93; done))
        · refine gIfN X92 hx (hb hby d1_83) (q := 86) rfl (XT.i0_eq_f c93) ?_
          refine gAloadN X92 hx (hb hby d1_86) (q := 87) rfl rfl rfl ?_
          refine gGetF X92 hx hZ (host := "") hown (Or.inl (hw _ (List.mem_of_getElem? (i := 17) rfl))) Via.refl e92 F84 (hb hby d1_87) (q := 90) rfl (fun T125 X125 e125 => ?_)
          refine gAloadN X125 hx (hb hby d1_90) (q := 91) rfl rfl rfl ?_
          refine gGetF X125 hx hZ (host := "") hown (Or.inl (hw _ (List.mem_of_getElem? (i := 15) rfl))) Via.refl e125 F83 (hb hby d1_91) (q := 94) rfl (fun T126 X126 e126 => ?_)
          refine gLmul X126 hx (hb hby d1_94) (q := 95) rfl ?_
          refine gLload X126 hx (hb hby d1_95) (q := 97) rfl rfl ?_
          refine gAloadN X126 hx (hb hby d1_97) (q := 98) rfl rfl rfl ?_
          refine gGetF X126 hx hZ (host := "") hown (Or.inl (hw _ (List.mem_of_getElem? (i := 13) rfl))) Via.refl e126 F82 (hb hby d1_98) (q := 101) rfl (fun T127 X127 e127 => ?_)
          refine gLmul X127 hx (hb hby d1_101) (q := 102) rfl ?_
          refine gLsub X127 hx (hb hby d1_102) (q := 103) rfl ?_
          refine gGoto X127 hx (hb hby d1_103) (q := 107) (by decide) (by decide) ?_
          exact J83_95 T127 _ X127 e127 N80 _ (by first | rfl | (simp only [if_neg c93]; done) | (simp only [if_neg c93]; done) | (simp only [if_neg c93, if_true, if_false]; done) | (exfalso; simp at c93; done))
      by_cases c76 : ((x3.toInt64) * v19) < (x4 * v3)
      · refine gIfY X75 hx (hb hby d1_68) (q := 75) (by decide) (by decide) (XT.ll_gt_t c76) ?_
        refine gIconst X75 hx (0 : Int32) (hb hby d1_75) (q := 76) rfl (by decide) ?_
        exact J68_78 _ (by first | rfl | (simp only [if_pos c76]; done) | (simp only [if_pos c76]; done) | (simp only [if_pos c76, if_true, if_false]; done) | (exfalso; simp at c76; done))
      · refine gIfN X75 hx (hb hby d1_68) (q := 71) rfl (XT.ll_gt_f c76) ?_
        refine gIconst X75 hx (1 : Int32) (hb hby d1_71) (q := 72) rfl (by decide) ?_
        refine gGoto X75 hx (hb hby d1_72) (q := 76) (by decide) (by decide) ?_
        exact J68_78 _ (by first | rfl | (simp only [if_neg c76]; done) | (simp only [if_neg c76]; done) | (simp only [if_neg c76, if_true, if_false]; done) | (exfalso; simp at c76; done))
    by_cases c18 : x2 < (0 : Int32)
    · refine gIfN X5 hx (hb hby d1_20) (q := 23) rfl (XT.i0_ge_f c18) ?_
      refine gLconst X5 hx (1 : Int64) (hb hby d1_23) (q := 24) rfl (by decide) ?_
      refine gGoto X5 hx (hb hby d1_24) (q := 29) (by decide) (by decide) ?_
      exact J20_20 _ (by first | rfl | (simp only [if_pos c18]; done) | (simp only [if_pos c18]; done) | (simp only [if_pos c18, if_true, if_false]; done) | (exfalso; simp at c18; done))
    · refine gIfY X5 hx (hb hby d1_20) (q := 27) (by decide) (by decide) (XT.i0_ge_t c18) ?_
      refine gIloadN X5 hx (hb hby d1_27) (q := 28) rfl rfl ?_
      refine gI2l X5 hx (hb hby d1_28) (q := 29) rfl ?_
      exact J20_20 _ (by first | rfl | (simp only [if_neg c18]; done) | (simp only [if_neg c18]; done) | (simp only [if_neg c18, if_true, if_false]; done) | (exfalso; simp at c18; done))
  by_cases c2 : x2 < (0 : Int32)
  · refine gIfN X1 hx (hb hby d1_6) (q := 9) rfl (XT.i0_ge_f c2) ?_
    refine gLconst X1 hx (1 : Int64) (hb hby d1_9) (q := 10) rfl (by decide) ?_
    refine gGoto X1 hx (hb hby d1_10) (q := 15) (by decide) (by decide) ?_
    exact J6_4 _ (by first | rfl | (simp only [if_pos c2]; done) | (simp only [if_pos c2]; done) | (simp only [if_pos c2, if_true, if_false]; done) | (exfalso; simp at c2; done))
  · refine gIfY X1 hx (hb hby d1_6) (q := 13) (by decide) (by decide) (XT.i0_ge_t c2) ?_
    refine gIloadN X1 hx (hb hby d1_13) (q := 14) rfl rfl ?_
    refine gI2l X1 hx (hb hby d1_14) (q := 15) rfl ?_
    exact J6_4 _ (by first | rfl | (simp only [if_neg c2]; done) | (simp only [if_neg c2]; done) | (simp only [if_neg c2, if_true, if_false]; done) | (exfalso; simp at c2; done))
def own_end (ft : Int32) (up dn len fx sr rw rl x1 x2 : Int64) : Int64 :=
  if ft = (0 : Int32) then ((((2 : Int64) * len) * x1) + fx) / ((2 : Int64) * fx)
  else (((up * x1) / dn) + ((rw * x2) / sr)) + ((((2 : Int64) * (((((up * x1) - ((up * x1) / dn) * dn) * sr) + (((rw * x2) - ((rw * x2) / sr) * sr) * dn)) + (rl * x2))) + (dn * sr)) / ((2 : Int64) * (dn * sr)))
theorem own_mulB {a b : Int64} {A B : Int} (a0 : 0 ≤ a.toInt) (a1 : a.toInt ≤ A) (b0 : 0 ≤ b.toInt) (b1 : b.toInt ≤ B) (h : A * B < 9223372036854775808) : (a * b).toInt = a.toInt * b.toInt ∧ 0 ≤ a.toInt * b.toInt ∧ a.toInt * b.toInt ≤ A * B := by
  have h1 : 0 ≤ a.toInt * b.toInt := Int.mul_nonneg a0 b0
  have h2 : a.toInt * b.toInt ≤ A * B := Int.mul_le_mul a1 b1 b0 (Int.le_trans a0 a1)
  exact ⟨XT.mul64 ⟨by omega, by omega⟩, h1, h2⟩
theorem own_divB {a b : Int64} (a0 : 0 ≤ a.toInt) (b0 : 0 < b.toInt) : (a / b).toInt = a.toInt / b.toInt ∧ 0 ≤ a.toInt / b.toInt ∧ a.toInt / b.toInt ≤ a.toInt := by
  have hb : b ≠ -1 := by rintro rfl; revert b0; decide
  refine ⟨?_, Int.ediv_nonneg a0 (Int.le_of_lt b0), Int.ediv_le_self _ a0⟩
  rw [Int64.toInt_div_of_ne_right _ _ hb, Int.tdiv_eq_ediv_of_nonneg a0]
theorem own_remB {a b : Int64} (a0 : 0 ≤ a.toInt) (b0 : 0 < b.toInt) : (a - a / b * b).toInt = a.toInt % b.toInt ∧ 0 ≤ a.toInt % b.toInt ∧ a.toInt % b.toInt < b.toInt := by
  refine ⟨?_, Int.emod_nonneg _ (by omega), Int.emod_lt_of_pos _ b0⟩
  rw [lrem_mod, Int64.toInt_mod, Int.tmod_eq_emod_of_nonneg a0]
theorem own_intlaw (U D S T1 T2 R : Int) (hD : 0 < D) (hS : 0 < S) : U * T1 / D + (R / D) * T2 / S + (2 * ((U * T1 % D) * S + ((R / D) * T2 % S) * D + (R % D) * T2) + D * S) / (2 * (D * S)) = (2 * (U * T1 * S + R * T2) + D * S) / (2 * (D * S)) := by
  have h1 := Int.mul_ediv_add_emod (U * T1) D
  have h2 := Int.mul_ediv_add_emod R D
  have h3 := Int.mul_ediv_add_emod ((R / D) * T2) S
  generalize U * T1 / D = q1 at *
  generalize U * T1 % D = r1 at *
  generalize (R / D) * T2 / S = q2 at *
  generalize (R / D) * T2 % S = r2 at *
  generalize R % D = rl at *
  generalize R / D = rw at *
  have hpos : 0 < 2 * (D * S) := by have := Int.mul_pos hD hS; omega
  have e : 2 * (U * T1 * S + R * T2) + D * S = (2 * (r1 * S + r2 * D + rl * T2) + D * S) + (q1 + q2) * (2 * (D * S)) := by
    rw [← h1, ← h2]
    have : (D * rw + rl) * T2 = D * (rw * T2) + rl * T2 := by grind
    rw [this, ← h3]
    grind
  rw [e, Int.add_mul_ediv_right _ _ (by omega)]
  omega
theorem own_core (up dn len fx sr fT sT : Int64) (u0 : 1 ≤ up.toInt) (u1 : up.toInt ≤ 16384) (d0 : 1 ≤ dn.toInt) (d1 : dn.toInt ≤ 16384) (l0 : 0 ≤ len.toInt) (l1 : len.toInt ≤ 2147483647) (f0 : 0 ≤ fx.toInt) (f1 : fx.toInt ≤ 8388607) (s0 : 1 ≤ sr.toInt) (s1 : sr.toInt ≤ 65536)
    (t0 : 0 ≤ fT.toInt) (t1 : fT.toInt ≤ 8388607) (w0 : 0 ≤ sT.toInt) (w1 : sT.toInt ≤ 65536) (hfit : ¬ len * dn < fx * up) :
    own_end 1 up dn len fx sr ((len * dn - fx * up) / dn) ((len * dn - fx * up) - (len * dn - fx * up) / dn * dn) fT sT = (((2 : Int64) * (((up * fT) * sr) + ((len * dn - fx * up) * sT))) + (dn * sr)) / ((2 : Int64) * (dn * sr)) := by
  have two : (2 : Int64).toInt = 2 := rfl
  obtain ⟨a1, a2, a3⟩ := own_mulB (a := len) (b := dn) l0 l1 (by omega) d1 (by decide)
  obtain ⟨b1, b2, b3⟩ := own_mulB (a := fx) (b := up) f0 f1 (by omega) u1 (by decide)
  rw [Int64.lt_iff_toInt_lt] at hfit
  have r1 : (len * dn - fx * up).toInt = len.toInt * dn.toInt - fx.toInt * up.toInt := by rw [XT.sub64 ⟨by rw [a1, b1]; omega, by rw [a1, b1]; omega⟩, a1, b1]
  generalize hroom : len * dn - fx * up = room at *
  have R0 : 0 ≤ room.toInt := by omega
  have R1 : room.toInt ≤ 2147483647 * 16384 := by omega
  obtain ⟨c1, c2, c3⟩ := own_divB (a := room) (b := dn) R0 (by omega)
  obtain ⟨e1, e2, e3⟩ := own_remB (a := room) (b := dn) R0 (by omega)
  have c4 : (room / dn).toInt ≤ 2147483647 * 16384 := by omega
  obtain ⟨g1, g2, g3⟩ := own_mulB (a := up) (b := fT) (by omega) u1 t0 t1 (by decide)
  have g0 : 0 ≤ (up * fT).toInt := by omega
  obtain ⟨i1, i2, i3⟩ := own_divB (a := up * fT) (b := dn) g0 (by omega)
  obtain ⟨j1, j2, j3⟩ := own_remB (a := up * fT) (b := dn) g0 (by omega)
  obtain ⟨k1, k2, k3⟩ := own_mulB (a := room / dn) (b := sT) (by omega) c4 w0 w1 (by decide)
  have k0 : 0 ≤ ((room / dn) * sT).toInt := by omega
  obtain ⟨m1, m2, m3⟩ := own_divB (a := (room / dn) * sT) (b := sr) k0 (by omega)
  obtain ⟨n1, n2, n3⟩ := own_remB (a := (room / dn) * sT) (b := sr) k0 (by omega)
  obtain ⟨o1, o2, o3⟩ := own_mulB (a := (up * fT) - (up * fT) / dn * dn) (b := sr) (A := 16384) (B := 65536) (by omega) (by omega) (by omega) s1 (by decide)
  obtain ⟨p1, p2, p3⟩ := own_mulB (a := ((room / dn) * sT) - ((room / dn) * sT) / sr * sr) (b := dn) (A := 65536) (B := 16384) (by omega) (by omega) (by omega) d1 (by decide)
  obtain ⟨q1, q2, q3⟩ := own_mulB (a := room - room / dn * dn) (b := sT) (A := 16384) (B := 65536) (by omega) (by omega) w0 w1 (by decide)
  obtain ⟨v1, v2, v3⟩ := own_mulB (a := dn) (b := sr) (by omega) d1 (by omega) s1 (by decide)
  obtain ⟨x1, x2, x3⟩ := own_mulB (a := up * fT) (b := sr) (A := 16384 * 8388607) (B := 65536) g0 (by omega) (by omega) s1 (by decide)
  obtain ⟨y1, y2, y3⟩ := own_mulB (a := room) (b := sT) R0 R1 w0 w1 (by decide)
  have v4 : 0 < (dn * sr).toInt := by rw [v1]; exact Int.mul_pos (by omega) (by omega)
  have z1 : ((((up * fT) - (up * fT) / dn * dn) * sr) + ((((room / dn) * sT) - ((room / dn) * sT) / sr * sr) * dn)).toInt = (((up * fT) - (up * fT) / dn * dn) * sr).toInt + ((((room / dn) * sT) - ((room / dn) * sT) / sr * sr) * dn).toInt := XT.add64 ⟨by omega, by omega⟩
  have z2 : (((((up * fT) - (up * fT) / dn * dn) * sr) + ((((room / dn) * sT) - ((room / dn) * sT) / sr * sr) * dn)) + ((room - room / dn * dn) * sT)).toInt = ((((up * fT) - (up * fT) / dn * dn) * sr) + ((((room / dn) * sT) - ((room / dn) * sT) / sr * sr) * dn)).toInt + ((room - room / dn * dn) * sT).toInt := XT.add64 ⟨by omega, by omega⟩
  generalize hfr : (((((up * fT) - (up * fT) / dn * dn) * sr) + ((((room / dn) * sT) - ((room / dn) * sT) / sr * sr) * dn)) + ((room - room / dn * dn) * sT)) = fr at *
  have z3 : ((2 : Int64) * fr).toInt = 2 * fr.toInt := by rw [XT.mul64 ⟨by rw [two]; omega, by rw [two]; omega⟩, two]
  have z4 : ((2 : Int64) * fr + dn * sr).toInt = 2 * fr.toInt + (dn * sr).toInt := by rw [XT.add64 ⟨by omega, by omega⟩, z3]
  have z5 : ((2 : Int64) * (dn * sr)).toInt = 2 * (dn * sr).toInt := by rw [XT.mul64 ⟨by rw [two]; omega, by rw [two]; omega⟩, two]
  obtain ⟨z6, z7, z8⟩ := own_divB (a := (2 : Int64) * fr + dn * sr) (b := (2 : Int64) * (dn * sr)) (by omega) (by omega)
  have y4 : ((up * fT) * sr + room * sT).toInt = ((up * fT) * sr).toInt + (room * sT).toInt := XT.add64 ⟨by omega, by omega⟩
  have y5 : ((2 : Int64) * ((up * fT) * sr + room * sT)).toInt = 2 * ((up * fT) * sr + room * sT).toInt := by rw [XT.mul64 ⟨by rw [two]; omega, by rw [two]; omega⟩, two]
  have y6 : ((2 : Int64) * ((up * fT) * sr + room * sT) + dn * sr).toInt = 2 * ((up * fT) * sr + room * sT).toInt + (dn * sr).toInt := by rw [XT.add64 ⟨by omega, by omega⟩, y5]
  obtain ⟨y7, y8, y9⟩ := own_divB (a := (2 : Int64) * ((up * fT) * sr + room * sT) + dn * sr) (b := (2 : Int64) * (dn * sr)) (by omega) (by omega)
  have hL : own_end 1 up dn len fx sr (room / dn) (room - room / dn * dn) fT sT = ((up * fT) / dn + ((room / dn) * sT) / sr) + ((2 : Int64) * fr + dn * sr) / ((2 : Int64) * (dn * sr)) := by
    unfold own_end; rw [if_neg (by decide), ← hfr]
  rw [hL]
  apply Int64.toInt_inj.mp
  have law := own_intlaw up.toInt dn.toInt sr.toInt fT.toInt sT.toInt room.toInt (by omega) (by omega)
  have z9 : (((2 : Int64) * fr + dn * sr) / ((2 : Int64) * (dn * sr))).toInt ≤ 9 * 2 ^ 40 := by
    rw [z6, z4, z5]
    exact Int.le_trans (Int.ediv_le_self _ (by omega)) (by omega)
  have s1' : ((up * fT) / dn + ((room / dn) * sT) / sr).toInt = ((up * fT) / dn).toInt + (((room / dn) * sT) / sr).toInt := XT.add64 ⟨by omega, by omega⟩
  rw [XT.add64 ⟨by omega, by omega⟩, s1', y7, y6, y4, z6, z4, z5, z2, z1, i1, m1, o1, p1, q1, v1, x1, y1, j1, n1, e1, g1, k1, c1]
  exact law
theorem own_ushr0 (x y : Int32) (hx : 0 ≤ x.toInt) : 0 ≤ (XT.ushr x y).toInt := by
  have h1 : (XT.ushr x y).toBitVec.toNat ≤ x.toBitVec.toNat := by
    unfold XT.ushr
    show (x.toUInt32 >>> (y &&& 31).toUInt32).toNat ≤ x.toUInt32.toNat
    rw [UInt32.toNat_shiftRight, Nat.shiftRight_eq_div_pow]
    exact Nat.div_le_self _ _
  have h2 : x.toInt = x.toBitVec.toInt := rfl
  have h3 : (XT.ushr x y).toInt = (XT.ushr x y).toBitVec.toInt := rfl
  rw [h2, BitVec.toInt_eq_toNat_cond] at hx
  rw [h3, BitVec.toInt_eq_toNat_cond]
  have h4 := x.toBitVec.isLt
  split at hx <;> split <;> omega
theorem own_nz68 (x4 u6 : Int64) (h : (x4 &&& (8388607 : Int64)) = u6) : u6 + (1 : Int64) ≠ 0 := by
  have e := c_maskL x4 8388607 23 (by decide) (by decide)
  intro hc
  have h2 := congrArg Int64.toInt hc
  have one : (1 : Int64).toInt = 1 := rfl
  have zero : (0 : Int64).toInt = 0 := rfl
  rw [← h, XT.add64 ⟨by rw [e, one]; omega, by rw [e, one]; omega⟩, e, one, zero] at h2
  omega
theorem own_u7 (x4 u7 : Int64) (h : ((1 : Int64) + ((XT.ushrL x4 (23 : Int32)) &&& (65535 : Int64))) = u7) : 1 ≤ u7.toInt ∧ u7.toInt ≤ 65536 := by
  have e := c_maskL (XT.ushrL x4 (23 : Int32)) 65535 16 (by decide) (by decide)
  have one : (1 : Int64).toInt = 1 := rfl
  rw [← h, XT.add64 ⟨by rw [e, one]; omega, by rw [e, one]; omega⟩, e, one]
  omega
theorem own_nz84 (x4 u7 : Int64) (h : ((1 : Int64) + ((XT.ushrL x4 (23 : Int32)) &&& (65535 : Int64))) = u7) : u7 + (1 : Int64) ≠ 0 := by
  obtain ⟨h1, h2⟩ := own_u7 x4 u7 h
  intro hc
  have h2 := congrArg Int64.toInt hc
  have one : (1 : Int64).toInt = 1 := rfl
  have zero : (0 : Int64).toInt = 0 := rfl
  rw [XT.add64 ⟨by rw [one]; omega, by rw [one]; omega⟩, one, zero] at h2
  omega
theorem own_modB (y b r : Int64) (y0 : 0 ≤ y.toInt) (b0 : 0 ≤ b.toInt) (b1 : b.toInt ≤ 8388607) (h : y - (y / (b + 1)) * (b + 1) = r) : 0 ≤ r.toInt ∧ r.toInt ≤ b.toInt := by
  have one : (1 : Int64).toInt = 1 := rfl
  have e : (b + 1).toInt = b.toInt + 1 := by rw [XT.add64 ⟨by rw [one]; omega, by rw [one]; omega⟩, one]
  obtain ⟨h1, h2, h3⟩ := own_remB (a := y) (b := b + 1) y0 (by omega)
  rw [← h, h1]
  omega
theorem own_bounds (x0 x1 x2 x3 : Int32) (x4 x5 : Int64) (u1 v3 u5 : Int32) (u6 u7 u8 u9 : Int64) (hu1 : ((1 : Int32) + (x0 &&& (16383 : Int32))) = u1) (hv3 : v3 = (if x1 < (0 : Int32) then x1 else ((1 : Int32) + (x1 &&& (16383 : Int32))))) (hu5 : (XT.ushr (x2 &&& (2147483647 : Int32)) (x3 &&& (31 : Int32))) = u5) (hu6 : (x4 &&& (8388607 : Int64)) = u6) (hu7 : ((1 : Int64) + ((XT.ushrL x4 (23 : Int32)) &&& (65535 : Int64))) = u7) (hu8 : ((x5 &&& (2147483647 : Int64)) - ((x5 &&& (2147483647 : Int64)) / (u6 + (1 : Int64))) * (u6 + (1 : Int64))) = u8) (hu9 : (((XT.ushrL x5 (32 : Int32)) &&& (2147483647 : Int64)) - (((XT.ushrL x5 (32 : Int32)) &&& (2147483647 : Int64)) / (u7 + (1 : Int64))) * (u7 + (1 : Int64))) = u9) :
    (1 ≤ u1.toInt ∧ u1.toInt ≤ 16384) ∧ (v3 < 0 ∨ (¬ v3 < 0 ∧ 1 ≤ v3.toInt ∧ v3.toInt ≤ 16384)) ∧ (0 ≤ u5.toInt ∧ u5.toInt ≤ 2147483647) ∧ (0 ≤ u6.toInt ∧ u6.toInt ≤ 8388607) ∧ (1 ≤ u7.toInt ∧ u7.toInt ≤ 65536) ∧ (0 ≤ u8.toInt ∧ u8.toInt ≤ u6.toInt) ∧ (0 ≤ u9.toInt ∧ u9.toInt ≤ u7.toInt) := by
  have m14 : ∀ x : Int32, 1 ≤ ((1 : Int32) + (x &&& (16383 : Int32))).toInt ∧ ((1 : Int32) + (x &&& (16383 : Int32))).toInt ≤ 16384 := by
    intro x
    have e := c_mask x 16383 14 (by decide) (by decide)
    have one : (1 : Int32).toInt = 1 := rfl
    rw [XT.add32 ⟨by rw [e, one]; omega, by rw [e, one]; omega⟩, e, one]
    omega
  have e31 := c_mask x2 2147483647 31 (by decide) (by decide)
  have e23 := c_maskL x4 8388607 23 (by decide) (by decide)
  have f31 := c_maskL x5 2147483647 31 (by decide) (by decide)
  have g31 := c_maskL (XT.ushrL x5 (32 : Int32)) 2147483647 31 (by decide) (by decide)
  have h7 := own_u7 x4 u7 hu7
  have h6 : 0 ≤ u6.toInt ∧ u6.toInt ≤ 8388607 := by rw [← hu6, e23]; omega
  refine ⟨hu1 ▸ m14 x0, ?_, ?_, h6, h7, own_modB _ _ _ (by rw [f31]; omega) h6.1 h6.2 hu8, own_modB _ _ _ (by rw [g31]; omega) (by omega) (by omega) hu9⟩
  · rw [hv3]
    split
    · left; assumption
    · right
      have h := m14 x1
      refine ⟨?_, h⟩
      rw [Int32.lt_iff_toInt_lt]
      have zero : (0 : Int32).toInt = 0 := rfl
      omega
  · rw [← hu5]
    have := (rng32 (XT.ushr (x2 &&& (2147483647 : Int32)) (x3 &&& (31 : Int32)))).2
    exact ⟨own_ushr0 _ _ (by rw [e31]; omega), by omega⟩
theorem own_upB (a d : Int32) (ha : 1 ≤ a.toInt ∧ a.toInt ≤ 16384) : 1 ≤ (own_up a d).toInt ∧ (own_up a d).toInt ≤ 16384 := by
  unfold own_up
  split
  · decide
  · rw [c_i2l]; exact ha
theorem own_upD (d : Int32) (ha : d < 0 ∨ (¬ d < 0 ∧ 1 ≤ d.toInt ∧ d.toInt ≤ 16384)) : 1 ≤ (own_up d d).toInt ∧ (own_up d d).toInt ≤ 16384 := by
  unfold own_up
  rcases ha with h | h
  · rw [if_pos h]; decide
  · rw [if_neg h.1, c_i2l]; exact h.2
theorem own_nzL {a : Int64} (h : 0 < a.toInt) : a ≠ 0 := by rintro rfl; revert h; decide
theorem own_nz2 {a : Int64} (h : 0 < a.toInt) (h1 : a.toInt ≤ 4611686018427387903) : (2 : Int64) * a ≠ 0 := by
  have two : (2 : Int64).toInt = 2 := rfl
  have e : ((2 : Int64) * a).toInt = 2 * a.toInt := by rw [XT.mul64 ⟨by rw [two]; omega, by rw [two]; omega⟩, two]
  exact own_nzL (by omega)
theorem own_nz2m {a b : Int64} (a0 : 1 ≤ a.toInt) (a1 : a.toInt ≤ 16384) (b0 : 1 ≤ b.toInt) (b1 : b.toInt ≤ 65536) : (2 : Int64) * (a * b) ≠ 0 := by
  obtain ⟨v1, v2, v3⟩ := own_mulB (a := a) (b := b) (by omega) a1 (by omega) b1 (by decide)
  have v4 : 0 < (a * b).toInt := by rw [v1]; exact Int.mul_pos (by omega) (by omega)
  exact own_nz2 v4 (by omega)
theorem own_fixpos {len dn fx up : Int64} (h : len * dn < fx * up) (l0 : 0 ≤ len.toInt) (l1 : len.toInt ≤ 2147483647) (d0 : 1 ≤ dn.toInt) (d1 : dn.toInt ≤ 16384) (f0 : 0 ≤ fx.toInt) : 0 < fx.toInt := by
  rcases Int.lt_or_eq_of_le f0 with hp | hz
  · exact hp
  · exfalso
    have : fx = 0 := Int64.toInt_inj.mp hz.symm
    subst this
    obtain ⟨a1, a2, a3⟩ := own_mulB (a := len) (b := dn) l0 l1 (by omega) d1 (by decide)
    rw [Int64.zero_mul, Int64.lt_iff_toInt_lt] at h
    have zero : (0 : Int64).toInt = 0 := rfl
    omega
theorem d3_0 : decode prog_69_method_2_code 0 = .ok (.aload_n 0, 1) := by decide +kernel
theorem d3_1 : decode prog_69_method_2_code 1 = .ok (.getfield 25, 3) := by decide +kernel
theorem d3_4 : decode prog_69_method_2_code 4 = .ok (.ifCond .eq 101, 3) := by decide +kernel
theorem d3_7 : decode prog_69_method_2_code 7 = .ok (.aload_n 0, 1) := by decide +kernel
theorem d3_8 : decode prog_69_method_2_code 8 = .ok (.getfield 7, 3) := by decide +kernel
theorem d3_11 : decode prog_69_method_2_code 11 = .ok (.lload_n 1, 1) := by decide +kernel
theorem d3_12 : decode prog_69_method_2_code 12 = .ok (.lmul, 1) := by decide +kernel
theorem d3_13 : decode prog_69_method_2_code 13 = .ok (.lstore 7, 2) := by decide +kernel
theorem d3_15 : decode prog_69_method_2_code 15 = .ok (.aload_n 0, 1) := by decide +kernel
theorem d3_16 : decode prog_69_method_2_code 16 = .ok (.getfield 29, 3) := by decide +kernel
theorem d3_19 : decode prog_69_method_2_code 19 = .ok (.lload_n 3, 1) := by decide +kernel
theorem d3_20 : decode prog_69_method_2_code 20 = .ok (.lmul, 1) := by decide +kernel
theorem d3_21 : decode prog_69_method_2_code 21 = .ok (.lstore 9, 2) := by decide +kernel
theorem d3_23 : decode prog_69_method_2_code 23 = .ok (.lload 7, 2) := by decide +kernel
theorem d3_25 : decode prog_69_method_2_code 25 = .ok (.aload_n 0, 1) := by decide +kernel
theorem d3_26 : decode prog_69_method_2_code 26 = .ok (.getfield 13, 3) := by decide +kernel
theorem d3_29 : decode prog_69_method_2_code 29 = .ok (.lrem, 1) := by decide +kernel
theorem d3_30 : decode prog_69_method_2_code 30 = .ok (.aload_n 0, 1) := by decide +kernel
theorem d3_31 : decode prog_69_method_2_code 31 = .ok (.getfield 22, 3) := by decide +kernel
theorem d3_34 : decode prog_69_method_2_code 34 = .ok (.lmul, 1) := by decide +kernel
theorem d3_35 : decode prog_69_method_2_code 35 = .ok (.lload 9, 2) := by decide +kernel
theorem d3_37 : decode prog_69_method_2_code 37 = .ok (.aload_n 0, 1) := by decide +kernel
theorem d3_38 : decode prog_69_method_2_code 38 = .ok (.getfield 22, 3) := by decide +kernel
theorem d3_41 : decode prog_69_method_2_code 41 = .ok (.lrem, 1) := by decide +kernel
theorem d3_42 : decode prog_69_method_2_code 42 = .ok (.aload_n 0, 1) := by decide +kernel
theorem d3_43 : decode prog_69_method_2_code 43 = .ok (.getfield 13, 3) := by decide +kernel
theorem d3_46 : decode prog_69_method_2_code 46 = .ok (.lmul, 1) := by decide +kernel
theorem d3_47 : decode prog_69_method_2_code 47 = .ok (.ladd, 1) := by decide +kernel
theorem d3_48 : decode prog_69_method_2_code 48 = .ok (.aload_n 0, 1) := by decide +kernel
theorem d3_49 : decode prog_69_method_2_code 49 = .ok (.getfield 32, 3) := by decide +kernel
theorem d3_52 : decode prog_69_method_2_code 52 = .ok (.lload_n 3, 1) := by decide +kernel
theorem d3_53 : decode prog_69_method_2_code 53 = .ok (.lmul, 1) := by decide +kernel
theorem d3_54 : decode prog_69_method_2_code 54 = .ok (.ladd, 1) := by decide +kernel
theorem d3_55 : decode prog_69_method_2_code 55 = .ok (.lstore 11, 2) := by decide +kernel
theorem d3_57 : decode prog_69_method_2_code 57 = .ok (.aload_n 0, 1) := by decide +kernel
theorem d3_58 : decode prog_69_method_2_code 58 = .ok (.getfield 13, 3) := by decide +kernel
theorem d3_61 : decode prog_69_method_2_code 61 = .ok (.aload_n 0, 1) := by decide +kernel
theorem d3_62 : decode prog_69_method_2_code 62 = .ok (.getfield 22, 3) := by decide +kernel
theorem d3_65 : decode prog_69_method_2_code 65 = .ok (.lmul, 1) := by decide +kernel
theorem d3_66 : decode prog_69_method_2_code 66 = .ok (.lstore 13, 2) := by decide +kernel
theorem d3_68 : decode prog_69_method_2_code 68 = .ok (.lload 7, 2) := by decide +kernel
theorem d3_70 : decode prog_69_method_2_code 70 = .ok (.aload_n 0, 1) := by decide +kernel
theorem d3_71 : decode prog_69_method_2_code 71 = .ok (.getfield 13, 3) := by decide +kernel
theorem d3_74 : decode prog_69_method_2_code 74 = .ok (.ldiv, 1) := by decide +kernel
theorem d3_75 : decode prog_69_method_2_code 75 = .ok (.lload 9, 2) := by decide +kernel
theorem d3_77 : decode prog_69_method_2_code 77 = .ok (.aload_n 0, 1) := by decide +kernel
theorem d3_78 : decode prog_69_method_2_code 78 = .ok (.getfield 22, 3) := by decide +kernel
theorem d3_81 : decode prog_69_method_2_code 81 = .ok (.ldiv, 1) := by decide +kernel
theorem d3_82 : decode prog_69_method_2_code 82 = .ok (.ladd, 1) := by decide +kernel
theorem d3_83 : decode prog_69_method_2_code 83 = .ok (.ldc2_w 35, 3) := by decide +kernel
theorem d3_86 : decode prog_69_method_2_code 86 = .ok (.lload 11, 2) := by decide +kernel
theorem d3_88 : decode prog_69_method_2_code 88 = .ok (.lmul, 1) := by decide +kernel
theorem d3_89 : decode prog_69_method_2_code 89 = .ok (.lload 13, 2) := by decide +kernel
theorem d3_91 : decode prog_69_method_2_code 91 = .ok (.ladd, 1) := by decide +kernel
theorem d3_92 : decode prog_69_method_2_code 92 = .ok (.ldc2_w 35, 3) := by decide +kernel
theorem d3_95 : decode prog_69_method_2_code 95 = .ok (.lload 13, 2) := by decide +kernel
theorem d3_97 : decode prog_69_method_2_code 97 = .ok (.lmul, 1) := by decide +kernel
theorem d3_98 : decode prog_69_method_2_code 98 = .ok (.ldiv, 1) := by decide +kernel
theorem d3_99 : decode prog_69_method_2_code 99 = .ok (.ladd, 1) := by decide +kernel
theorem d3_100 : decode prog_69_method_2_code 100 = .ok (.lstore 5, 2) := by decide +kernel
theorem d3_102 : decode prog_69_method_2_code 102 = .ok (.goto 29, 3) := by decide +kernel
theorem d3_105 : decode prog_69_method_2_code 105 = .ok (.ldc2_w 35, 3) := by decide +kernel
theorem d3_108 : decode prog_69_method_2_code 108 = .ok (.aload_n 0, 1) := by decide +kernel
theorem d3_109 : decode prog_69_method_2_code 109 = .ok (.getfield 16, 3) := by decide +kernel
theorem d3_112 : decode prog_69_method_2_code 112 = .ok (.lmul, 1) := by decide +kernel
theorem d3_113 : decode prog_69_method_2_code 113 = .ok (.lload_n 1, 1) := by decide +kernel
theorem d3_114 : decode prog_69_method_2_code 114 = .ok (.lmul, 1) := by decide +kernel
theorem d3_115 : decode prog_69_method_2_code 115 = .ok (.aload_n 0, 1) := by decide +kernel
theorem d3_116 : decode prog_69_method_2_code 116 = .ok (.getfield 19, 3) := by decide +kernel
theorem d3_119 : decode prog_69_method_2_code 119 = .ok (.ladd, 1) := by decide +kernel
theorem d3_120 : decode prog_69_method_2_code 120 = .ok (.ldc2_w 35, 3) := by decide +kernel
theorem d3_123 : decode prog_69_method_2_code 123 = .ok (.aload_n 0, 1) := by decide +kernel
theorem d3_124 : decode prog_69_method_2_code 124 = .ok (.getfield 19, 3) := by decide +kernel
theorem d3_127 : decode prog_69_method_2_code 127 = .ok (.lmul, 1) := by decide +kernel
theorem d3_128 : decode prog_69_method_2_code 128 = .ok (.ldiv, 1) := by decide +kernel
theorem d3_129 : decode prog_69_method_2_code 129 = .ok (.lstore 5, 2) := by decide +kernel
theorem d3_131 : decode prog_69_method_2_code 131 = .ok (.lload 5, 2) := by decide +kernel
theorem d3_133 : decode prog_69_method_2_code 133 = .ok (.lreturn, 1) := by decide +kernel
theorem ef1 (m : MethodId) (x0 : Addr) (x1 : Int64) (x2 : Int64) : entryFrame m #[(.ref x0), (.long x1), (.long x2)] 15 = mkF m 0 #[.val (.ref x0), .val (.long x1), .second, .val (.long x2), .second, .unset, .unset, .unset, .unset, .unset, .unset, .unset, .unset, .unset, .unset] [] := by first | (simp [entryFrame, mkF, argsToLocals, Value.category]; done) | rfl
def Q_rmEnd (Z : State) (a : Addr) (x1 : Int64) (x2 : Int64) (ft : Int32) (up : Int64) (dn : Int64) (len : Int64) (fx : Int64) (sr : Int64) (rw : Int64) (rl : Int64) (h0 : Heap) (n0 : Nat) (v : Option Value) (h : Heap) (L : List Loc) : Prop := v = some (.long (own_end ft up dn len fx sr rw rl x1 x2)) ∧ Fr n0 L ∧ h = h0
set_option maxRecDepth 65536 in
set_option maxHeartbeats 40000000 in
theorem rmEnd (l : Launch) (Z : State) (a0 : Array Value) (hw : ∀ d ∈ tables_1, d.before a0 Z = true) (ws : List Jvm.Cond) (a : Addr) (x1 : Int64) (x2 : Int64) (ft : Int32) (up : Int64) (dn : Int64) (len : Int64) (fx : Int64) (sr : Int64) (rw : Int64) (rl : Int64) (h0 : Heap) (n0 : Nat) (Z0 : n0 ≤ h0.size) (F0 : Fld Z h0 a "com/example/tintfold/tintfold/NinePatchDrawable$Layout" "up" "J" (.long up)) (F1 : Fld Z h0 a "com/example/tintfold/tintfold/NinePatchDrawable$Layout" "down" "J" (.long dn)) (F2 : Fld Z h0 a "com/example/tintfold/tintfold/NinePatchDrawable$Layout" "length" "J" (.long len)) (F3 : Fld Z h0 a "com/example/tintfold/tintfold/NinePatchDrawable$Layout" "fixed" "J" (.long fx)) (F4 : Fld Z h0 a "com/example/tintfold/tintfold/NinePatchDrawable$Layout" "stretched" "J" (.long sr)) (F5 : Fld Z h0 a "com/example/tintfold/tintfold/NinePatchDrawable$Layout" "fits" "Z" (.int ft)) (F6 : Fld Z h0 a "com/example/tintfold/tintfold/NinePatchDrawable$Layout" "roomWhole" "J" (.long rw)) (F7 : Fld Z h0 a "com/example/tintfold/tintfold/NinePatchDrawable$Layout" "roomLeft" "J" (.long rl)) (z1 : dn ≠ 0) (z2 : sr ≠ 0) (z3 : (2 : Int64) * (dn * sr) ≠ 0) (z4 : ft = 0 → (2 : Int64) * fx ≠ 0) :
    Con l Z (⟨"com/example/tintfold/tintfold/NinePatchDrawable$Layout", "end", "(JJ)J"⟩ : MethodName) prog_69_method_2_code 15 (some (.long)) ws ({ frames := 0, cells := 0, slots := 0, locals := 0 } : Room) #[(.ref a), (.long x1), (.long x2)] h0 (({ frames := 0, cells := 0, slots := 0, locals := 0 } : Room).cells) (({ frames := 0, cells := 0, slots := 0, locals := 0 } : Room).slots) (Q_rmEnd Z a x1 x2 ft up dn len fx sr rw rl h0 n0) := by
  refine Con.of (plainFor_of_name pn0) ?_
  intro p e s m below meth c s₁ hx hby hml hown hnm hret hlk hZ X0 e0
  have N0 := Fr.nil n0
  refine goE (L := #[.val (.ref a), .val (.long x1), .second, .val (.long x2), .second, .unset, .unset, .unset, .unset, .unset, .unset, .unset, .unset, .unset, .unset]) (ef1 m a x1 x2) ?_
  refine gAloadN X0 hx (hb hby d3_0) (q := 1) rfl rfl rfl ?_
  refine gGetF X0 hx hZ (host := "") hown (Or.inl (hw _ (List.mem_of_getElem? (i := 23) rfl))) Via.refl e0 F5 (hb hby d3_1) (q := 4) rfl (fun T1 X1 e1 => ?_)
  by_cases c2 : ft = (0 : Int32)
  · refine gIfY X1 hx (hb hby d3_4) (q := 105) (by decide) (by decide) (XT.i0_eq_t c2) ?_
    refine gLdc2 X1 hx hZ hown (hw _ (List.mem_of_getElem? (i := 34) rfl)) (hb hby d3_105) (q := 108) rfl ?_
    refine gAloadN X1 hx (hb hby d3_108) (q := 109) rfl rfl rfl ?_
    refine gGetF X1 hx hZ (host := "") hown (Or.inl (hw _ (List.mem_of_getElem? (i := 17) rfl))) Via.refl e1 F2 (hb hby d3_109) (q := 112) rfl (fun T3 X3 e3 => ?_)
    refine gLmul X3 hx (hb hby d3_112) (q := 113) rfl ?_
    refine gLloadN X3 hx (hb hby d3_113) (q := 114) rfl rfl ?_
    refine gLmul X3 hx (hb hby d3_114) (q := 115) rfl ?_
    refine gAloadN X3 hx (hb hby d3_115) (q := 116) rfl rfl rfl ?_
    refine gGetF X3 hx hZ (host := "") hown (Or.inl (hw _ (List.mem_of_getElem? (i := 19) rfl))) Via.refl e3 F3 (hb hby d3_116) (q := 119) rfl (fun T4 X4 e4 => ?_)
    refine gLadd X4 hx (hb hby d3_119) (q := 120) rfl ?_
    refine gLdc2 X4 hx hZ hown (hw _ (List.mem_of_getElem? (i := 34) rfl)) (hb hby d3_120) (q := 123) rfl ?_
    refine gAloadN X4 hx (hb hby d3_123) (q := 124) rfl rfl rfl ?_
    refine gGetF X4 hx hZ (host := "") hown (Or.inl (hw _ (List.mem_of_getElem? (i := 19) rfl))) Via.refl e4 F3 (hb hby d3_124) (q := 127) rfl (fun T5 X5 e5 => ?_)
    refine gLmul X5 hx (hb hby d3_127) (q := 128) rfl ?_
    refine gLdiv X5 hx (hb hby d3_128) (q := 129) rfl (z4 c2) ?_
    refine gLstore X5 hx (hb hby d3_129) (q := 131) rfl (L' := #[.val (.ref a), .val (.long x1), .second, .val (.long x2), .second, .val (.long (((((2 : Int64) * len) * x1) + fx) / ((2 : Int64) * fx))), .second, .unset, .unset, .unset, .unset, .unset, .unset, .unset, .unset]) rfl ?_
    refine gLload X5 hx (hb hby d3_131) (q := 133) rfl rfl ?_
    exact gRetJ X5 hx hlk hret (hb hby d3_133) (by decide) (by decide) ⟨by simp only [own_end, if_pos c2], N0, e5⟩
  · refine gIfN X1 hx (hb hby d3_4) (q := 7) rfl (XT.i0_eq_f c2) ?_
    refine gAloadN X1 hx (hb hby d3_7) (q := 8) rfl rfl rfl ?_
    refine gGetF X1 hx hZ (host := "") hown (Or.inl (hw _ (List.mem_of_getElem? (i := 13) rfl))) Via.refl e1 F0 (hb hby d3_8) (q := 11) rfl (fun T6 X6 e6 => ?_)
    refine gLloadN X6 hx (hb hby d3_11) (q := 12) rfl rfl ?_
    refine gLmul X6 hx (hb hby d3_12) (q := 13) rfl ?_
    refine gLstore X6 hx (hb hby d3_13) (q := 15) rfl (L' := #[.val (.ref a), .val (.long x1), .second, .val (.long x2), .second, .unset, .unset, .val (.long (up * x1)), .second, .unset, .unset, .unset, .unset, .unset, .unset]) rfl ?_
    refine gAloadN X6 hx (hb hby d3_15) (q := 16) rfl rfl rfl ?_
    refine gGetF X6 hx hZ (host := "") hown (Or.inl (hw _ (List.mem_of_getElem? (i := 25) rfl))) Via.refl e6 F6 (hb hby d3_16) (q := 19) rfl (fun T7 X7 e7 => ?_)
    refine gLloadN X7 hx (hb hby d3_19) (q := 20) rfl rfl ?_
    refine gLmul X7 hx (hb hby d3_20) (q := 21) rfl ?_
    refine gLstore X7 hx (hb hby d3_21) (q := 23) rfl (L' := #[.val (.ref a), .val (.long x1), .second, .val (.long x2), .second, .unset, .unset, .val (.long (up * x1)), .second, .val (.long (rw * x2)), .second, .unset, .unset, .unset, .unset]) rfl ?_
    refine gLload X7 hx (hb hby d3_23) (q := 25) rfl rfl ?_
    refine gAloadN X7 hx (hb hby d3_25) (q := 26) rfl rfl rfl ?_
    refine gGetF X7 hx hZ (host := "") hown (Or.inl (hw _ (List.mem_of_getElem? (i := 15) rfl))) Via.refl e7 F1 (hb hby d3_26) (q := 29) rfl (fun T8 X8 e8 => ?_)
    refine gLrem X8 hx (hb hby d3_29) (q := 30) rfl z1 ?_
    refine gAloadN X8 hx (hb hby d3_30) (q := 31) rfl rfl rfl ?_
    refine gGetF X8 hx hZ (host := "") hown (Or.inl (hw _ (List.mem_of_getElem? (i := 21) rfl))) Via.refl e8 F4 (hb hby d3_31) (q := 34) rfl (fun T9 X9 e9 => ?_)
    refine gLmul X9 hx (hb hby d3_34) (q := 35) rfl ?_
    refine gLload X9 hx (hb hby d3_35) (q := 37) rfl rfl ?_
    refine gAloadN X9 hx (hb hby d3_37) (q := 38) rfl rfl rfl ?_
    refine gGetF X9 hx hZ (host := "") hown (Or.inl (hw _ (List.mem_of_getElem? (i := 21) rfl))) Via.refl e9 F4 (hb hby d3_38) (q := 41) rfl (fun T10 X10 e10 => ?_)
    refine gLrem X10 hx (hb hby d3_41) (q := 42) rfl z2 ?_
    refine gAloadN X10 hx (hb hby d3_42) (q := 43) rfl rfl rfl ?_
    refine gGetF X10 hx hZ (host := "") hown (Or.inl (hw _ (List.mem_of_getElem? (i := 15) rfl))) Via.refl e10 F1 (hb hby d3_43) (q := 46) rfl (fun T11 X11 e11 => ?_)
    refine gLmul X11 hx (hb hby d3_46) (q := 47) rfl ?_
    refine gLadd X11 hx (hb hby d3_47) (q := 48) rfl ?_
    refine gAloadN X11 hx (hb hby d3_48) (q := 49) rfl rfl rfl ?_
    refine gGetF X11 hx hZ (host := "") hown (Or.inl (hw _ (List.mem_of_getElem? (i := 27) rfl))) Via.refl e11 F7 (hb hby d3_49) (q := 52) rfl (fun T12 X12 e12 => ?_)
    refine gLloadN X12 hx (hb hby d3_52) (q := 53) rfl rfl ?_
    refine gLmul X12 hx (hb hby d3_53) (q := 54) rfl ?_
    refine gLadd X12 hx (hb hby d3_54) (q := 55) rfl ?_
    refine gLstore X12 hx (hb hby d3_55) (q := 57) rfl (L' := #[.val (.ref a), .val (.long x1), .second, .val (.long x2), .second, .unset, .unset, .val (.long (up * x1)), .second, .val (.long (rw * x2)), .second, .val (.long (((((up * x1) - ((up * x1) / dn) * dn) * sr) + (((rw * x2) - ((rw * x2) / sr) * sr) * dn)) + (rl * x2))), .second, .unset, .unset]) rfl ?_
    refine gAloadN X12 hx (hb hby d3_57) (q := 58) rfl rfl rfl ?_
    refine gGetF X12 hx hZ (host := "") hown (Or.inl (hw _ (List.mem_of_getElem? (i := 15) rfl))) Via.refl e12 F1 (hb hby d3_58) (q := 61) rfl (fun T13 X13 e13 => ?_)
    refine gAloadN X13 hx (hb hby d3_61) (q := 62) rfl rfl rfl ?_
    refine gGetF X13 hx hZ (host := "") hown (Or.inl (hw _ (List.mem_of_getElem? (i := 21) rfl))) Via.refl e13 F4 (hb hby d3_62) (q := 65) rfl (fun T14 X14 e14 => ?_)
    refine gLmul X14 hx (hb hby d3_65) (q := 66) rfl ?_
    refine gLstore X14 hx (hb hby d3_66) (q := 68) rfl (L' := #[.val (.ref a), .val (.long x1), .second, .val (.long x2), .second, .unset, .unset, .val (.long (up * x1)), .second, .val (.long (rw * x2)), .second, .val (.long (((((up * x1) - ((up * x1) / dn) * dn) * sr) + (((rw * x2) - ((rw * x2) / sr) * sr) * dn)) + (rl * x2))), .second, .val (.long (dn * sr)), .second]) rfl ?_
    refine gLload X14 hx (hb hby d3_68) (q := 70) rfl rfl ?_
    refine gAloadN X14 hx (hb hby d3_70) (q := 71) rfl rfl rfl ?_
    refine gGetF X14 hx hZ (host := "") hown (Or.inl (hw _ (List.mem_of_getElem? (i := 15) rfl))) Via.refl e14 F1 (hb hby d3_71) (q := 74) rfl (fun T15 X15 e15 => ?_)
    refine gLdiv X15 hx (hb hby d3_74) (q := 75) rfl z1 ?_
    refine gLload X15 hx (hb hby d3_75) (q := 77) rfl rfl ?_
    refine gAloadN X15 hx (hb hby d3_77) (q := 78) rfl rfl rfl ?_
    refine gGetF X15 hx hZ (host := "") hown (Or.inl (hw _ (List.mem_of_getElem? (i := 21) rfl))) Via.refl e15 F4 (hb hby d3_78) (q := 81) rfl (fun T16 X16 e16 => ?_)
    refine gLdiv X16 hx (hb hby d3_81) (q := 82) rfl z2 ?_
    refine gLadd X16 hx (hb hby d3_82) (q := 83) rfl ?_
    refine gLdc2 X16 hx hZ hown (hw _ (List.mem_of_getElem? (i := 34) rfl)) (hb hby d3_83) (q := 86) rfl ?_
    refine gLload X16 hx (hb hby d3_86) (q := 88) rfl rfl ?_
    refine gLmul X16 hx (hb hby d3_88) (q := 89) rfl ?_
    refine gLload X16 hx (hb hby d3_89) (q := 91) rfl rfl ?_
    refine gLadd X16 hx (hb hby d3_91) (q := 92) rfl ?_
    refine gLdc2 X16 hx hZ hown (hw _ (List.mem_of_getElem? (i := 34) rfl)) (hb hby d3_92) (q := 95) rfl ?_
    refine gLload X16 hx (hb hby d3_95) (q := 97) rfl rfl ?_
    refine gLmul X16 hx (hb hby d3_97) (q := 98) rfl ?_
    refine gLdiv X16 hx (hb hby d3_98) (q := 99) rfl z3 ?_
    refine gLadd X16 hx (hb hby d3_99) (q := 100) rfl ?_
    refine gLstore X16 hx (hb hby d3_100) (q := 102) rfl (L' := #[.val (.ref a), .val (.long x1), .second, .val (.long x2), .second, .val (.long ((((up * x1) / dn) + ((rw * x2) / sr)) + ((((2 : Int64) * (((((up * x1) - ((up * x1) / dn) * dn) * sr) + (((rw * x2) - ((rw * x2) / sr) * sr) * dn)) + (rl * x2))) + (dn * sr)) / ((2 : Int64) * (dn * sr))))), .second, .val (.long (up * x1)), .second, .val (.long (rw * x2)), .second, .val (.long (((((up * x1) - ((up * x1) / dn) * dn) * sr) + (((rw * x2) - ((rw * x2) / sr) * sr) * dn)) + (rl * x2))), .second, .val (.long (dn * sr)), .second]) rfl ?_
    refine gGoto X16 hx (hb hby d3_102) (q := 131) (by decide) (by decide) ?_
    refine gLload X16 hx (hb hby d3_131) (q := 133) rfl rfl ?_
    exact gRetJ X16 hx hlk hret (hb hby d3_133) (by decide) (by decide) ⟨by simp only [own_end, if_neg c2], N0, e16⟩
theorem d4_0 : decode method_3_code 0 = .ok (.ldc2_w 28, 3) := by decide +kernel
theorem d4_3 : decode method_3_code 3 = .ok (.lload_n 0, 1) := by decide +kernel
theorem d4_4 : decode method_3_code 4 = .ok (.lmul, 1) := by decide +kernel
theorem d4_5 : decode method_3_code 5 = .ok (.lload_n 2, 1) := by decide +kernel
theorem d4_6 : decode method_3_code 6 = .ok (.ladd, 1) := by decide +kernel
theorem d4_7 : decode method_3_code 7 = .ok (.ldc2_w 28, 3) := by decide +kernel
theorem d4_10 : decode method_3_code 10 = .ok (.lload_n 2, 1) := by decide +kernel
theorem d4_11 : decode method_3_code 11 = .ok (.lmul, 1) := by decide +kernel
theorem d4_12 : decode method_3_code 12 = .ok (.ldiv, 1) := by decide +kernel
theorem d4_13 : decode method_3_code 13 = .ok (.lreturn, 1) := by decide +kernel
theorem pn1 : plainName "com/example/tintfold/tintfold/LayoutEndPinLaw" = true := by first | (simp [plainName, overriddenIn]; done) | decide +kernel
theorem ef2 (m : MethodId) (x0 : Int64) (x1 : Int64) : entryFrame m #[(.long x0), (.long x1)] 4 = mkF m 0 #[.val (.long x0), .second, .val (.long x1), .second] [] := by first | (simp [entryFrame, mkF, argsToLocals, Value.category]; done) | rfl
def Q_rmNear (Z : State) (x0 : Int64) (x1 : Int64) (h0 : Heap) (n0 : Nat) (v : Option Value) (h : Heap) (L : List Loc) : Prop := v = some (.long ((((2 : Int64) * x0) + x1) / ((2 : Int64) * x1))) ∧ Fr n0 L ∧ h = h0
set_option maxRecDepth 65536 in
set_option maxHeartbeats 40000000 in
theorem rmNear (l : Launch) (Z : State) (a0 : Array Value) (hw : ∀ d ∈ tables_1, d.before a0 Z = true) (ws : List Jvm.Cond) (x0 : Int64) (x1 : Int64) (h0 : Heap) (n0 : Nat) (Z0 : n0 ≤ h0.size) (z : (2 : Int64) * x1 ≠ 0) :
    Con l Z (⟨"com/example/tintfold/tintfold/LayoutEndPinLaw", "nearest", "(JJ)J"⟩ : MethodName) method_3_code 4 (some (.long)) ws ({ frames := 0, cells := 0, slots := 0, locals := 0 } : Room) #[(.long x0), (.long x1)] h0 (({ frames := 0, cells := 0, slots := 0, locals := 0 } : Room).cells) (({ frames := 0, cells := 0, slots := 0, locals := 0 } : Room).slots) (Q_rmNear Z x0 x1 h0 n0) := by
  refine Con.of (plainFor_of_name pn1) ?_
  intro p e s m below meth c s₁ hx hby hml hown hnm hret hlk hZ X0 e0
  have N0 := Fr.nil n0
  refine goE (L := #[.val (.long x0), .second, .val (.long x1), .second]) (ef2 m x0 x1) ?_
  refine gLdc2 X0 hx hZ hown (hw _ (List.mem_of_getElem? (i := 39) rfl)) (hb hby d4_0) (q := 3) rfl ?_
  refine gLloadN X0 hx (hb hby d4_3) (q := 4) rfl rfl ?_
  refine gLmul X0 hx (hb hby d4_4) (q := 5) rfl ?_
  refine gLloadN X0 hx (hb hby d4_5) (q := 6) rfl rfl ?_
  refine gLadd X0 hx (hb hby d4_6) (q := 7) rfl ?_
  refine gLdc2 X0 hx hZ hown (hw _ (List.mem_of_getElem? (i := 39) rfl)) (hb hby d4_7) (q := 10) rfl ?_
  refine gLloadN X0 hx (hb hby d4_10) (q := 11) rfl rfl ?_
  refine gLmul X0 hx (hb hby d4_11) (q := 12) rfl ?_
  refine gLdiv X0 hx (hb hby d4_12) (q := 13) rfl z ?_
  exact gRetJ X0 hx hlk hret (hb hby d4_13) (by decide) (by decide) ⟨rfl, N0, e0⟩

theorem ef3 (m : MethodId) (x0 : Int32) (x1 : Int32) (x2 : Int32) (x3 : Int32) (x4 : Int64) (x5 : Int64) : entryFrame m #[(.int x0), (.int x1), (.int x2), (.int x3), (.long x4), (.long x5)] maxLocals = mkF m 0 #[.val (.int x0), .val (.int x1), .val (.int x2), .val (.int x3), .val (.long x4), .second, .val (.long x5), .second, .unset, .unset, .unset, .unset, .unset, .unset, .unset, .unset, .unset, .unset, .unset, .unset, .unset, .unset, .unset, .unset, .unset, .unset, .unset, .unset, .unset, .unset] [] := by first | (simp [entryFrame, mkF, argsToLocals, Value.category, maxLocals]; done) | rfl
def Q_rm0 (Z : State) (x0 : Int32) (x1 : Int32) (x2 : Int32) (x3 : Int32) (x4 : Int64) (x5 : Int64) (h0 : Heap) (n0 : Nat) (v : Option Value) (h : Heap) (L : List Loc) : Prop := v = some (.int 1) ∧ Fr n0 L
set_option maxRecDepth 65536 in
set_option maxHeartbeats 40000000 in
theorem own_nzdown (x0 : Int32) (x1 : Int32) (x2 : Int32) (x3 : Int32) (x4 : Int64) (x5 : Int64) (u1 : Int32) (hu1 : ((1 : Int32) + (x0 &&& (16383 : Int32))) = u1) (v3 : Int32) (hv3 : v3 = (if x1 < (0 : Int32) then x1 else ((1 : Int32) + (x1 &&& (16383 : Int32))))) (u5 : Int32) (hu5 : (XT.ushr (x2 &&& (2147483647 : Int32)) (x3 &&& (31 : Int32))) = u5) (u6 : Int64) (hu6 : (x4 &&& (8388607 : Int64)) = u6) (u7 : Int64) (hu7 : ((1 : Int64) + ((XT.ushrL x4 (23 : Int32)) &&& (65535 : Int64))) = u7) (u8 : Int64) (hu8 : ((x5 &&& (2147483647 : Int64)) - ((x5 &&& (2147483647 : Int64)) / (u6 + (1 : Int64))) * (u6 + (1 : Int64))) = u8) (u9 : Int64) (hu9 : (((XT.ushrL x5 (32 : Int32)) &&& (2147483647 : Int64)) - (((XT.ushrL x5 (32 : Int32)) &&& (2147483647 : Int64)) / (u7 + (1 : Int64))) * (u7 + (1 : Int64))) = u9)  : own_up v3 v3 ≠ 0 := by
  obtain ⟨b1, b3, b5, b6, b7, b8, b9⟩ := own_bounds x0 x1 x2 x3 x4 x5 u1 v3 u5 u6 u7 u8 u9 hu1 hv3 hu5 hu6 hu7 hu8 hu9
  have hl : u5.toInt64.toInt = u5.toInt := c_i2l u5
  exact own_nzL (by have := own_upD v3 b3; omega)
theorem pd0 : parseMethodDescriptor "(IIIJJ)V" = some ⟨[.int, .int, .int, .long, .long], none⟩ := by decide +kernel
set_option maxRecDepth 65536 in
set_option maxHeartbeats 40000000 in
theorem own_nzend (x0 : Int32) (x1 : Int32) (x2 : Int32) (x3 : Int32) (x4 : Int64) (x5 : Int64) (u1 : Int32) (hu1 : ((1 : Int32) + (x0 &&& (16383 : Int32))) = u1) (v3 : Int32) (hv3 : v3 = (if x1 < (0 : Int32) then x1 else ((1 : Int32) + (x1 &&& (16383 : Int32))))) (u5 : Int32) (hu5 : (XT.ushr (x2 &&& (2147483647 : Int32)) (x3 &&& (31 : Int32))) = u5) (u6 : Int64) (hu6 : (x4 &&& (8388607 : Int64)) = u6) (u7 : Int64) (hu7 : ((1 : Int64) + ((XT.ushrL x4 (23 : Int32)) &&& (65535 : Int64))) = u7) (u8 : Int64) (hu8 : ((x5 &&& (2147483647 : Int64)) - ((x5 &&& (2147483647 : Int64)) / (u6 + (1 : Int64))) * (u6 + (1 : Int64))) = u8) (u9 : Int64) (hu9 : (((XT.ushrL x5 (32 : Int32)) &&& (2147483647 : Int64)) - (((XT.ushrL x5 (32 : Int32)) &&& (2147483647 : Int64)) / (u7 + (1 : Int64))) * (u7 + (1 : Int64))) = u9) (fu : Int64) (hfu : own_up u1 v3 = fu) (fd : Int64) (hfd : own_up v3 v3 = fd) (ff : Int32) (hff : own_fits u5.toInt64 fd u6 fu = ff) (fr : Int64) (hfr : own_room ff u5.toInt64 fd u6 fu = fr)  : fd ≠ 0 ∧ u7 ≠ 0 ∧ (2 : Int64) * (fd * u7) ≠ 0 ∧ (ff = 0 → (2 : Int64) * u6 ≠ 0) := by
  obtain ⟨b1, b3, b5, b6, b7, b8, b9⟩ := own_bounds x0 x1 x2 x3 x4 x5 u1 v3 u5 u6 u7 u8 u9 hu1 hv3 hu5 hu6 hu7 hu8 hu9
  have hl : u5.toInt64.toInt = u5.toInt := c_i2l u5
  have hd := own_upD v3 b3
  rw [hfd] at hd
  refine ⟨own_nzL (by omega), own_nzL (by omega), own_nz2m hd.1 hd.2 b7.1 b7.2, fun hz => own_nz2 (own_fixpos (len := u5.toInt64) (dn := fd) (up := fu) ?_ (by omega) (by omega) hd.1 hd.2 b6.1) (by omega)⟩
  rw [← hff] at hz
  unfold own_fits at hz
  by_cases h : u5.toInt64 * fd < u6 * fu
  · exact h
  · rw [if_neg h] at hz; exact absurd hz (by decide)
theorem pd1 : parseMethodDescriptor "(JJ)J" = some ⟨[.long, .long], some (.long)⟩ := by decide +kernel
set_option maxRecDepth 65536 in
set_option maxHeartbeats 40000000 in
theorem own_nznear209 (x0 : Int32) (x1 : Int32) (x2 : Int32) (x3 : Int32) (x4 : Int64) (x5 : Int64) (u1 : Int32) (hu1 : ((1 : Int32) + (x0 &&& (16383 : Int32))) = u1) (v3 : Int32) (hv3 : v3 = (if x1 < (0 : Int32) then x1 else ((1 : Int32) + (x1 &&& (16383 : Int32))))) (u5 : Int32) (hu5 : (XT.ushr (x2 &&& (2147483647 : Int32)) (x3 &&& (31 : Int32))) = u5) (u6 : Int64) (hu6 : (x4 &&& (8388607 : Int64)) = u6) (u7 : Int64) (hu7 : ((1 : Int64) + ((XT.ushrL x4 (23 : Int32)) &&& (65535 : Int64))) = u7) (u8 : Int64) (hu8 : ((x5 &&& (2147483647 : Int64)) - ((x5 &&& (2147483647 : Int64)) / (u6 + (1 : Int64))) * (u6 + (1 : Int64))) = u8) (u9 : Int64) (hu9 : (((XT.ushrL x5 (32 : Int32)) &&& (2147483647 : Int64)) - (((XT.ushrL x5 (32 : Int32)) &&& (2147483647 : Int64)) / (u7 + (1 : Int64))) * (u7 + (1 : Int64))) = u9) (fu : Int64) (hfu : own_up u1 v3 = fu) (fd : Int64) (hfd : own_up v3 v3 = fd) (ff : Int32) (hff : own_fits u5.toInt64 fd u6 fu = ff) (fr : Int64) (hfr : own_room ff u5.toInt64 fd u6 fu = fr) (u25 : Int64) (hu25 : (own_end ff fu fd (u5.toInt64) u6 u7 ((fr / fd)) ((fr - fr / fd * fd)) u8 u9) = u25) (v27 : Int64) (hv27 : v27 = (if v3 < (0 : Int32) then (1 : Int64) else (u1.toInt64))) (v30 : Int64) (hv30 : v30 = (if v3 < (0 : Int32) then (1 : Int64) else (v3.toInt64))) (c32 : ((u5.toInt64) * v30) < (u6 * v27)) : (2 : Int64) * u6 ≠ 0 := by
  obtain ⟨b1, b3, b5, b6, b7, b8, b9⟩ := own_bounds x0 x1 x2 x3 x4 x5 u1 v3 u5 u6 u7 u8 u9 hu1 hv3 hu5 hu6 hu7 hu8 hu9
  have hl : u5.toInt64.toInt = u5.toInt := c_i2l u5
  have hd := own_upD v3 b3
  have e30 : v30 = own_up v3 v3 := hv30
  rw [← e30] at hd
  exact own_nz2 (own_fixpos c32 (by omega) (by omega) hd.1 hd.2 b6.1) (by omega)
set_option maxRecDepth 65536 in
set_option maxHeartbeats 40000000 in
theorem own_law (x0 : Int32) (x1 : Int32) (x2 : Int32) (x3 : Int32) (x4 : Int64) (x5 : Int64) (u1 : Int32) (hu1 : ((1 : Int32) + (x0 &&& (16383 : Int32))) = u1) (v3 : Int32) (hv3 : v3 = (if x1 < (0 : Int32) then x1 else ((1 : Int32) + (x1 &&& (16383 : Int32))))) (u5 : Int32) (hu5 : (XT.ushr (x2 &&& (2147483647 : Int32)) (x3 &&& (31 : Int32))) = u5) (u6 : Int64) (hu6 : (x4 &&& (8388607 : Int64)) = u6) (u7 : Int64) (hu7 : ((1 : Int64) + ((XT.ushrL x4 (23 : Int32)) &&& (65535 : Int64))) = u7) (u8 : Int64) (hu8 : ((x5 &&& (2147483647 : Int64)) - ((x5 &&& (2147483647 : Int64)) / (u6 + (1 : Int64))) * (u6 + (1 : Int64))) = u8) (u9 : Int64) (hu9 : (((XT.ushrL x5 (32 : Int32)) &&& (2147483647 : Int64)) - (((XT.ushrL x5 (32 : Int32)) &&& (2147483647 : Int64)) / (u7 + (1 : Int64))) * (u7 + (1 : Int64))) = u9) (fu : Int64) (hfu : own_up u1 v3 = fu) (fd : Int64) (hfd : own_up v3 v3 = fd) (ff : Int32) (hff : own_fits u5.toInt64 fd u6 fu = ff) (fr : Int64) (hfr : own_room ff u5.toInt64 fd u6 fu = fr) (u25 : Int64) (hu25 : (own_end ff fu fd (u5.toInt64) u6 u7 ((fr / fd)) ((fr - fr / fd * fd)) u8 u9) = u25) (v27 : Int64) (hv27 : v27 = (if v3 < (0 : Int32) then (1 : Int64) else (u1.toInt64))) (v30 : Int64) (hv30 : v30 = (if v3 < (0 : Int32) then (1 : Int64) else (v3.toInt64))) (u35 : Int64) (hu35 : ((((2 : Int64) * ((u5.toInt64) * u8)) + u6) / ((2 : Int64) * u6)) = u35) (v37 : Int32) (hv37 : v37 = (if u25 = u35 then (1 : Int32) else (0 : Int32))) (c32 : ((u5.toInt64) * v30) < (u6 * v27)) : v37 = 1 := by
  obtain ⟨b1, b3, b5, b6, b7, b8, b9⟩ := own_bounds x0 x1 x2 x3 x4 x5 u1 v3 u5 u6 u7 u8 u9 hu1 hv3 hu5 hu6 hu7 hu8 hu9
  have hl : u5.toInt64.toInt = u5.toInt := c_i2l u5
  have e30 : v30 = fd := by rw [hv30, ← hfd]; rfl
  have e27 : v27 = fu := by rw [hv27, ← hfu]; rfl
  rw [e30, e27] at c32
  have hz : ff = 0 := by rw [← hff]; exact if_pos c32
  have : u25 = u35 := by rw [← hu25, ← hu35, hz]; unfold own_end; rw [if_pos rfl, Int64.mul_assoc]
  rw [hv37, if_pos this]
set_option maxRecDepth 65536 in
set_option maxHeartbeats 40000000 in
theorem own_nznear193 (x0 : Int32) (x1 : Int32) (x2 : Int32) (x3 : Int32) (x4 : Int64) (x5 : Int64) (u1 : Int32) (hu1 : ((1 : Int32) + (x0 &&& (16383 : Int32))) = u1) (v3 : Int32) (hv3 : v3 = (if x1 < (0 : Int32) then x1 else ((1 : Int32) + (x1 &&& (16383 : Int32))))) (u5 : Int32) (hu5 : (XT.ushr (x2 &&& (2147483647 : Int32)) (x3 &&& (31 : Int32))) = u5) (u6 : Int64) (hu6 : (x4 &&& (8388607 : Int64)) = u6) (u7 : Int64) (hu7 : ((1 : Int64) + ((XT.ushrL x4 (23 : Int32)) &&& (65535 : Int64))) = u7) (u8 : Int64) (hu8 : ((x5 &&& (2147483647 : Int64)) - ((x5 &&& (2147483647 : Int64)) / (u6 + (1 : Int64))) * (u6 + (1 : Int64))) = u8) (u9 : Int64) (hu9 : (((XT.ushrL x5 (32 : Int32)) &&& (2147483647 : Int64)) - (((XT.ushrL x5 (32 : Int32)) &&& (2147483647 : Int64)) / (u7 + (1 : Int64))) * (u7 + (1 : Int64))) = u9) (fu : Int64) (hfu : own_up u1 v3 = fu) (fd : Int64) (hfd : own_up v3 v3 = fd) (ff : Int32) (hff : own_fits u5.toInt64 fd u6 fu = ff) (fr : Int64) (hfr : own_room ff u5.toInt64 fd u6 fu = fr) (u25 : Int64) (hu25 : (own_end ff fu fd (u5.toInt64) u6 u7 ((fr / fd)) ((fr - fr / fd * fd)) u8 u9) = u25) (v27 : Int64) (hv27 : v27 = (if v3 < (0 : Int32) then (1 : Int64) else (u1.toInt64))) (v30 : Int64) (hv30 : v30 = (if v3 < (0 : Int32) then (1 : Int64) else (v3.toInt64))) (u39 : Int64) (hu39 : (((u5.toInt64) * v30) - (u6 * v27)) = u39) (c32 : ¬ (((u5.toInt64) * v30) < (u6 * v27))) : (2 : Int64) * (v30 * u7) ≠ 0 := by
  obtain ⟨b1, b3, b5, b6, b7, b8, b9⟩ := own_bounds x0 x1 x2 x3 x4 x5 u1 v3 u5 u6 u7 u8 u9 hu1 hv3 hu5 hu6 hu7 hu8 hu9
  have hl : u5.toInt64.toInt = u5.toInt := c_i2l u5
  have hd := own_upD v3 b3
  have e30 : v30 = own_up v3 v3 := hv30
  rw [← e30] at hd
  exact own_nz2m hd.1 hd.2 b7.1 b7.2
set_option maxRecDepth 65536 in
set_option maxHeartbeats 40000000 in
theorem own_law2 (x0 : Int32) (x1 : Int32) (x2 : Int32) (x3 : Int32) (x4 : Int64) (x5 : Int64) (u1 : Int32) (hu1 : ((1 : Int32) + (x0 &&& (16383 : Int32))) = u1) (v3 : Int32) (hv3 : v3 = (if x1 < (0 : Int32) then x1 else ((1 : Int32) + (x1 &&& (16383 : Int32))))) (u5 : Int32) (hu5 : (XT.ushr (x2 &&& (2147483647 : Int32)) (x3 &&& (31 : Int32))) = u5) (u6 : Int64) (hu6 : (x4 &&& (8388607 : Int64)) = u6) (u7 : Int64) (hu7 : ((1 : Int64) + ((XT.ushrL x4 (23 : Int32)) &&& (65535 : Int64))) = u7) (u8 : Int64) (hu8 : ((x5 &&& (2147483647 : Int64)) - ((x5 &&& (2147483647 : Int64)) / (u6 + (1 : Int64))) * (u6 + (1 : Int64))) = u8) (u9 : Int64) (hu9 : (((XT.ushrL x5 (32 : Int32)) &&& (2147483647 : Int64)) - (((XT.ushrL x5 (32 : Int32)) &&& (2147483647 : Int64)) / (u7 + (1 : Int64))) * (u7 + (1 : Int64))) = u9) (fu : Int64) (hfu : own_up u1 v3 = fu) (fd : Int64) (hfd : own_up v3 v3 = fd) (ff : Int32) (hff : own_fits u5.toInt64 fd u6 fu = ff) (fr : Int64) (hfr : own_room ff u5.toInt64 fd u6 fu = fr) (u25 : Int64) (hu25 : (own_end ff fu fd (u5.toInt64) u6 u7 ((fr / fd)) ((fr - fr / fd * fd)) u8 u9) = u25) (v27 : Int64) (hv27 : v27 = (if v3 < (0 : Int32) then (1 : Int64) else (u1.toInt64))) (v30 : Int64) (hv30 : v30 = (if v3 < (0 : Int32) then (1 : Int64) else (v3.toInt64))) (u39 : Int64) (hu39 : (((u5.toInt64) * v30) - (u6 * v27)) = u39) (u42 : Int64) (hu42 : ((((2 : Int64) * (((v27 * u8) * u7) + (u39 * u9))) + (v30 * u7)) / ((2 : Int64) * (v30 * u7))) = u42) (v44 : Int32) (hv44 : v44 = (if u25 = u42 then (1 : Int32) else (0 : Int32))) (c32 : ¬ (((u5.toInt64) * v30) < (u6 * v27))) : v44 = 1 := by
  obtain ⟨b1, b3, b5, b6, b7, b8, b9⟩ := own_bounds x0 x1 x2 x3 x4 x5 u1 v3 u5 u6 u7 u8 u9 hu1 hv3 hu5 hu6 hu7 hu8 hu9
  have hl : u5.toInt64.toInt = u5.toInt := c_i2l u5
  have e30 : v30 = fd := by rw [hv30, ← hfd]; rfl
  have e27 : v27 = fu := by rw [hv27, ← hfu]; rfl
  rw [e30, e27] at c32
  have hz : ff = 1 := by rw [← hff]; exact if_neg c32
  have hd := own_upD v3 b3
  have hu := own_upB u1 v3 b1
  rw [hfd] at hd
  rw [hfu] at hu
  have er : fr = u5.toInt64 * fd - u6 * fu := by rw [← hfr, hz]; rfl
  have ec := own_core fu fd u5.toInt64 u6 u7 u8 u9 hu.1 hu.2 hd.1 hd.2 (by omega) (by omega) b6.1 b6.2 b7.1 b7.2 b8.1 (by omega) b9.1 (by omega) c32
  rw [← er] at ec
  have em : u39 = fr := by rw [← hu39, e30, e27, er]
  have : u25 = u42 := by rw [← hu25, ← hu42, hz, e30, e27, em]; exact ec
  rw [hv44, if_pos this]
set_option maxRecDepth 65536 in
set_option maxHeartbeats 40000000 in
theorem rm0 (l : Launch) (Z : State) (a0 : Array Value) (hw : ∀ d ∈ tables_1, d.before a0 Z = true) (ws : List Jvm.Cond) (x0 : Int32) (x1 : Int32) (x2 : Int32) (x3 : Int32) (x4 : Int64) (x5 : Int64) (h0 : Heap) (n0 : Nat) (Z0 : n0 ≤ h0.size)  :
    Con l Z x code maxLocals ret ws room_1 #[(.int x0), (.int x1), (.int x2), (.int x3), (.long x4), (.long x5)] h0 (room_1.cells) (room_1.slots) (Q_rm0 Z x0 x1 x2 x3 x4 x5 h0 n0) := by
  refine Con.of (plainFor_of_name pn1) ?_
  intro p e s m below meth c s₁ hx hby hml hown hnm hret hlk hZ X0 e0
  have N0 := Fr.nil n0
  refine goE (L := #[.val (.int x0), .val (.int x1), .val (.int x2), .val (.int x3), .val (.long x4), .second, .val (.long x5), .second, .unset, .unset, .unset, .unset, .unset, .unset, .unset, .unset, .unset, .unset, .unset, .unset, .unset, .unset, .unset, .unset, .unset, .unset, .unset, .unset, .unset, .unset]) (ef3 m x0 x1 x2 x3 x4 x5) ?_
  refine gIconst X0 hx (1 : Int32) (hb hby at_0) (q := 1) rfl (by decide) ?_
  refine gIloadN X0 hx (hb hby at_1) (q := 2) rfl rfl ?_
  refine gSipush X0 hx (16383 : Int32) (hb hby at_2) (q := 5) rfl (by decide) ?_
  refine gIand X0 hx (hb hby at_5) (q := 6) rfl ?_
  refine gIadd X0 hx (hb hby at_6) (q := 7) rfl ?_
  generalize hu1 : ((1 : Int32) + (x0 &&& (16383 : Int32))) = u1
  refine gIstore X0 hx (hb hby at_7) (q := 9) rfl (L' := #[.val (.int x0), .val (.int x1), .val (.int x2), .val (.int x3), .val (.long x4), .second, .val (.long x5), .second, .val (.int u1), .unset, .unset, .unset, .unset, .unset, .unset, .unset, .unset, .unset, .unset, .unset, .unset, .unset, .unset, .unset, .unset, .unset, .unset, .unset, .unset, .unset]) rfl ?_
  refine gIloadN X0 hx (hb hby at_9) (q := 10) rfl rfl ?_
  have J10_4 : ∀ v3 : Int32, v3 = (if x1 < (0 : Int32) then x1 else ((1 : Int32) + (x1 &&& (16383 : Int32)))) → Go p.tables e below (Done s (Q_rm0 Z x0 x1 x2 x3 x4 x5 h0 n0) (room_1.cells) (room_1.slots)) (s₁.setTop (mkF m 24 #[.val (.int x0), .val (.int x1), .val (.int x2), .val (.int x3), .val (.long x4), .second, .val (.long x5), .second, .val (.int u1), .unset, .unset, .unset, .unset, .unset, .unset, .unset, .unset, .unset, .unset, .unset, .unset, .unset, .unset, .unset, .unset, .unset, .unset, .unset, .unset, .unset] [(.int v3)])) := by
    intro v3 hv3
    refine gIstore X0 hx (hb hby at_24) (q := 26) rfl (L' := #[.val (.int x0), .val (.int x1), .val (.int x2), .val (.int x3), .val (.long x4), .second, .val (.long x5), .second, .val (.int u1), .val (.int v3), .unset, .unset, .unset, .unset, .unset, .unset, .unset, .unset, .unset, .unset, .unset, .unset, .unset, .unset, .unset, .unset, .unset, .unset, .unset, .unset]) rfl ?_
    refine gIloadN X0 hx (hb hby at_26) (q := 27) rfl rfl ?_
    refine gLdc X0 hx hZ hown (hw _ (List.mem_of_getElem? (i := 0) rfl)) (hb hby at_27) (q := 29) rfl ?_
    refine gIand X0 hx (hb hby at_29) (q := 30) rfl ?_
    refine gIloadN X0 hx (hb hby at_30) (q := 31) rfl rfl ?_
    refine gBipush X0 hx (31 : Int32) (hb hby at_31) (q := 33) rfl (by decide) ?_
    refine gIand X0 hx (hb hby at_33) (q := 34) rfl ?_
    refine gIushr X0 hx (hb hby at_34) (q := 35) rfl ?_
    generalize hu5 : (XT.ushr (x2 &&& (2147483647 : Int32)) (x3 &&& (31 : Int32))) = u5
    refine gIstore X0 hx (hb hby at_35) (q := 37) rfl (L' := #[.val (.int x0), .val (.int x1), .val (.int x2), .val (.int x3), .val (.long x4), .second, .val (.long x5), .second, .val (.int u1), .val (.int v3), .val (.int u5), .unset, .unset, .unset, .unset, .unset, .unset, .unset, .unset, .unset, .unset, .unset, .unset, .unset, .unset, .unset, .unset, .unset, .unset, .unset]) rfl ?_
    refine gLload X0 hx (hb hby at_37) (q := 39) rfl rfl ?_
    refine gLdc2 X0 hx hZ hown (hw _ (List.mem_of_getElem? (i := 1) rfl)) (hb hby at_39) (q := 42) rfl ?_
    refine gLand X0 hx (hb hby at_42) (q := 43) rfl ?_
    generalize hu6 : (x4 &&& (8388607 : Int64)) = u6
    refine gLstore X0 hx (hb hby at_43) (q := 45) rfl (L' := #[.val (.int x0), .val (.int x1), .val (.int x2), .val (.int x3), .val (.long x4), .second, .val (.long x5), .second, .val (.int u1), .val (.int v3), .val (.int u5), .val (.long u6), .second, .unset, .unset, .unset, .unset, .unset, .unset, .unset, .unset, .unset, .unset, .unset, .unset, .unset, .unset, .unset, .unset, .unset]) rfl ?_
    refine gLconst X0 hx (1 : Int64) (hb hby at_45) (q := 46) rfl (by decide) ?_
    refine gLload X0 hx (hb hby at_46) (q := 48) rfl rfl ?_
    refine gBipush X0 hx (23 : Int32) (hb hby at_48) (q := 50) rfl (by decide) ?_
    refine gLushr X0 hx (hb hby at_50) (q := 51) rfl ?_
    refine gLdc2 X0 hx hZ hown (hw _ (List.mem_of_getElem? (i := 2) rfl)) (hb hby at_51) (q := 54) rfl ?_
    refine gLand X0 hx (hb hby at_54) (q := 55) rfl ?_
    refine gLadd X0 hx (hb hby at_55) (q := 56) rfl ?_
    generalize hu7 : ((1 : Int64) + ((XT.ushrL x4 (23 : Int32)) &&& (65535 : Int64))) = u7
    refine gLstore X0 hx (hb hby at_56) (q := 58) rfl (L' := #[.val (.int x0), .val (.int x1), .val (.int x2), .val (.int x3), .val (.long x4), .second, .val (.long x5), .second, .val (.int u1), .val (.int v3), .val (.int u5), .val (.long u6), .second, .val (.long u7), .second, .unset, .unset, .unset, .unset, .unset, .unset, .unset, .unset, .unset, .unset, .unset, .unset, .unset, .unset, .unset]) rfl ?_
    refine gLload X0 hx (hb hby at_58) (q := 60) rfl rfl ?_
    refine gLdc2 X0 hx hZ hown (hw _ (List.mem_of_getElem? (i := 3) rfl)) (hb hby at_60) (q := 63) rfl ?_
    refine gLand X0 hx (hb hby at_63) (q := 64) rfl ?_
    refine gLload X0 hx (hb hby at_64) (q := 66) rfl rfl ?_
    refine gLconst X0 hx (1 : Int64) (hb hby at_66) (q := 67) rfl (by decide) ?_
    refine gLadd X0 hx (hb hby at_67) (q := 68) rfl ?_
    refine gLrem X0 hx (hb hby at_68) (q := 69) rfl (own_nz68 x4 _ hu6) ?_
    generalize hu8 : ((x5 &&& (2147483647 : Int64)) - ((x5 &&& (2147483647 : Int64)) / (u6 + (1 : Int64))) * (u6 + (1 : Int64))) = u8
    refine gLstore X0 hx (hb hby at_69) (q := 71) rfl (L' := #[.val (.int x0), .val (.int x1), .val (.int x2), .val (.int x3), .val (.long x4), .second, .val (.long x5), .second, .val (.int u1), .val (.int v3), .val (.int u5), .val (.long u6), .second, .val (.long u7), .second, .val (.long u8), .second, .unset, .unset, .unset, .unset, .unset, .unset, .unset, .unset, .unset, .unset, .unset, .unset, .unset]) rfl ?_
    refine gLload X0 hx (hb hby at_71) (q := 73) rfl rfl ?_
    refine gBipush X0 hx (32 : Int32) (hb hby at_73) (q := 75) rfl (by decide) ?_
    refine gLushr X0 hx (hb hby at_75) (q := 76) rfl ?_
    refine gLdc2 X0 hx hZ hown (hw _ (List.mem_of_getElem? (i := 3) rfl)) (hb hby at_76) (q := 79) rfl ?_
    refine gLand X0 hx (hb hby at_79) (q := 80) rfl ?_
    refine gLload X0 hx (hb hby at_80) (q := 82) rfl rfl ?_
    refine gLconst X0 hx (1 : Int64) (hb hby at_82) (q := 83) rfl (by decide) ?_
    refine gLadd X0 hx (hb hby at_83) (q := 84) rfl ?_
    refine gLrem X0 hx (hb hby at_84) (q := 85) rfl (own_nz84 x4 _ hu7) ?_
    generalize hu9 : (((XT.ushrL x5 (32 : Int32)) &&& (2147483647 : Int64)) - (((XT.ushrL x5 (32 : Int32)) &&& (2147483647 : Int64)) / (u7 + (1 : Int64))) * (u7 + (1 : Int64))) = u9
    refine gLstore X0 hx (hb hby at_85) (q := 87) rfl (L' := #[.val (.int x0), .val (.int x1), .val (.int x2), .val (.int x3), .val (.long x4), .second, .val (.long x5), .second, .val (.int u1), .val (.int v3), .val (.int u5), .val (.long u6), .second, .val (.long u7), .second, .val (.long u8), .second, .val (.long u9), .second, .unset, .unset, .unset, .unset, .unset, .unset, .unset, .unset, .unset, .unset, .unset]) rfl ?_
    refine gNewO X0 hx hZ hown (hw _ (List.mem_of_getElem? (i := 4) rfl)) (hw _ (List.mem_of_getElem? (i := 5) rfl)) (hw _ (List.mem_of_getElem? (i := 6) rfl)) e0 (hb hby at_87) (q := 90) rfl (by decide) (by decide) (fun T10 h10 a10 X10 e10 g10 E10 A10 D10 => ?_)
    have le_a10 : n0 ≤ a10 := by rw [g10]; exact Z0
    have Z11 := Nat.le_trans Z0 E10.1
    have F12 : Fld Z h10 a10 "com/example/tintfold/tintfold/NinePatchDrawable$Layout" "up" "J" (.long (0 : Int64)) := D10 (Or.inr (hw _ (List.mem_of_getElem? (i := 14) rfl))) (ty := .long) (by decide)
    have F13 : Fld Z h10 a10 "com/example/tintfold/tintfold/NinePatchDrawable$Layout" "down" "J" (.long (0 : Int64)) := D10 (Or.inr (hw _ (List.mem_of_getElem? (i := 16) rfl))) (ty := .long) (by decide)
    have F14 : Fld Z h10 a10 "com/example/tintfold/tintfold/NinePatchDrawable$Layout" "length" "J" (.long (0 : Int64)) := D10 (Or.inr (hw _ (List.mem_of_getElem? (i := 18) rfl))) (ty := .long) (by decide)
    have F15 : Fld Z h10 a10 "com/example/tintfold/tintfold/NinePatchDrawable$Layout" "fixed" "J" (.long (0 : Int64)) := D10 (Or.inr (hw _ (List.mem_of_getElem? (i := 20) rfl))) (ty := .long) (by decide)
    have F16 : Fld Z h10 a10 "com/example/tintfold/tintfold/NinePatchDrawable$Layout" "stretched" "J" (.long (0 : Int64)) := D10 (Or.inr (hw _ (List.mem_of_getElem? (i := 22) rfl))) (ty := .long) (by decide)
    have F17 : Fld Z h10 a10 "com/example/tintfold/tintfold/NinePatchDrawable$Layout" "fits" "Z" (.int (0 : Int32)) := D10 (Or.inr (hw _ (List.mem_of_getElem? (i := 24) rfl))) (ty := .boolean) (by decide)
    have F18 : Fld Z h10 a10 "com/example/tintfold/tintfold/NinePatchDrawable$Layout" "roomWhole" "J" (.long (0 : Int64)) := D10 (Or.inr (hw _ (List.mem_of_getElem? (i := 26) rfl))) (ty := .long) (by decide)
    have F19 : Fld Z h10 a10 "com/example/tintfold/tintfold/NinePatchDrawable$Layout" "roomLeft" "J" (.long (0 : Int64)) := D10 (Or.inr (hw _ (List.mem_of_getElem? (i := 28) rfl))) (ty := .long) (by decide)
    clear D10
    refine gDup X10 hx (hb hby at_90) (q := 91) rfl rfl ?_
    refine gIload X10 hx (hb hby at_91) (q := 93) rfl rfl ?_
    refine gIload X10 hx (hb hby at_93) (q := 95) rfl rfl ?_
    refine gIload X10 hx (hb hby at_95) (q := 97) rfl rfl ?_
    refine gLload X10 hx (hb hby at_97) (q := 99) rfl rfl ?_
    refine gLload X10 hx (hb hby at_99) (q := 101) rfl rfl ?_
    have hdn := own_nzdown x0 x1 x2 x3 x4 x5 u1 hu1 v3 hv3 u5 hu5 u6 hu6 u7 hu7 u8 hu8 u9 hu9 
    refine gCallN X10 hx hZ rfl hown (hw _ (List.mem_of_getElem? (i := 7) rfl)) (hw _ (List.mem_of_getElem? (i := 8) rfl)) (hw _ (List.mem_of_getElem? (i := 6) rfl)) (hw _ (List.mem_of_getElem? (i := 9) rfl)) (by decide) (rmLay l Z a0 hw [] a10 u1 v3 u5 u6 u7 h10 n0 Z11 F12 F13 F14 F15 F16 F17 F18 F19 A10 le_a10 hdn) (W := 1) (by decide) (by decide) e10 (by rw [hml]; rfl) [(.int u1), (.int v3), (.int u5), (.long u6), (.long u7)] (lenOf pd0 rfl) rfl (S := [(.ref a10)]) rfl (Nat.le_of_eq rfl) (hb hby at_101) (q := 104) rfl (by decide) (by decide) (fun r20 T20 M20 X20 q20 => ?_)
    obtain ⟨rfl, M20n, K20, P20_e, P20_0, P20_1, P20_2, P20_3, P20_4, P20_5, P20_6, P20_7⟩ := q20
    have N21 := Fr.app N0 M20n
    have Z22 := Nat.le_trans Z11 K20.1
    dsimp only [Option.toList, List.cons_append, List.nil_append]
    generalize hfu : own_up u1 v3 = fu at P20_0 P20_1 P20_2 P20_3 P20_4 P20_5 P20_6 P20_7 ⊢
    generalize hfd : own_up v3 v3 = fd at P20_0 P20_1 P20_2 P20_3 P20_4 P20_5 P20_6 P20_7 ⊢
    generalize hff : own_fits u5.toInt64 fd u6 fu = ff at P20_0 P20_1 P20_2 P20_3 P20_4 P20_5 P20_6 P20_7 ⊢
    generalize hfr : own_room ff u5.toInt64 fd u6 fu = fr at P20_0 P20_1 P20_2 P20_3 P20_4 P20_5 P20_6 P20_7 ⊢
    refine gAstore X20 hx (hb hby at_104) (q := 106) rfl rfl (L' := #[.val (.int x0), .val (.int x1), .val (.int x2), .val (.int x3), .val (.long x4), .second, .val (.long x5), .second, .val (.int u1), .val (.int v3), .val (.int u5), .val (.long u6), .second, .val (.long u7), .second, .val (.long u8), .second, .val (.long u9), .second, .val (.ref a10), .unset, .unset, .unset, .unset, .unset, .unset, .unset, .unset, .unset, .unset]) rfl ?_
    refine gAload X20 hx (hb hby at_106) (q := 108) rfl rfl rfl ?_
    refine gLload X20 hx (hb hby at_108) (q := 110) rfl rfl ?_
    refine gLload X20 hx (hb hby at_110) (q := 112) rfl rfl ?_
    obtain ⟨zz1, zz2, zz3, zz4⟩ := own_nzend x0 x1 x2 x3 x4 x5 u1 hu1 v3 hv3 u5 hu5 u6 hu6 u7 hu7 u8 hu8 u9 hu9 fu hfu fd hfd ff hff fr hfr 
    refine gCallV X20 hx hZ hown (hw _ (List.mem_of_getElem? (i := 29) rfl)) (hw _ (List.mem_of_getElem? (i := 30) rfl)) (hw _ (List.mem_of_getElem? (i := 32) rfl)) (hw _ (List.mem_of_getElem? (i := 31) rfl)) (hw _ (List.mem_of_getElem? (i := 6) rfl)) (hw _ (List.mem_of_getElem? (i := 33) rfl)) (notFace_of_selects (args := #[]) (mvT hZ (hw _ (List.mem_of_getElem? (i := 32) rfl)))) (by decide) (rmEnd l Z a0 hw [] a10 u8 u9 ff fu fd (u5.toInt64) u6 u7 ((fr / fd)) ((fr - fr / fd * fd)) T20.heap n0 Z22 P20_0 P20_1 P20_2 P20_3 P20_4 P20_5 P20_6 P20_7 zz1 zz2 zz3 zz4) (W := 0) (by decide) (by decide) rfl (by rw [hml]; rfl) P20_e [(.long u8), (.long u9)] (lenOf pd1 rfl) rfl (S := []) rfl (Nat.le_of_eq rfl) (hb hby at_112) (q := 115) rfl (by decide) (by decide) (fun r23 T23 M23 X23 q23 => ?_)
    obtain ⟨rfl, M23n, e23⟩ := q23
    have N24 := Fr.app N21 M23n
    dsimp only [Option.toList, List.cons_append, List.nil_append]
    generalize hu25 : (own_end ff fu fd (u5.toInt64) u6 u7 ((fr / fd)) ((fr - fr / fd * fd)) u8 u9) = u25
    refine gLstore X23 hx (hb hby at_115) (q := 117) rfl (L' := #[.val (.int x0), .val (.int x1), .val (.int x2), .val (.int x3), .val (.long x4), .second, .val (.long x5), .second, .val (.int u1), .val (.int v3), .val (.int u5), .val (.long u6), .second, .val (.long u7), .second, .val (.long u8), .second, .val (.long u9), .second, .val (.ref a10), .val (.long u25), .second, .unset, .unset, .unset, .unset, .unset, .unset, .unset, .unset]) rfl ?_
    refine gIload X23 hx (hb hby at_117) (q := 119) rfl rfl ?_
    have J119_28 : ∀ v27 : Int64, v27 = (if v3 < (0 : Int32) then (1 : Int64) else (u1.toInt64)) → Go p.tables e below (Done s (Q_rm0 Z x0 x1 x2 x3 x4 x5 h0 n0) (room_1.cells) (room_1.slots)) (T23.setTop (mkF m 129 #[.val (.int x0), .val (.int x1), .val (.int x2), .val (.int x3), .val (.long x4), .second, .val (.long x5), .second, .val (.int u1), .val (.int v3), .val (.int u5), .val (.long u6), .second, .val (.long u7), .second, .val (.long u8), .second, .val (.long u9), .second, .val (.ref a10), .val (.long u25), .second, .unset, .unset, .unset, .unset, .unset, .unset, .unset, .unset] [(.long v27)])) := by
      intro v27 hv27
      refine gLstore X23 hx (hb hby at_129) (q := 131) rfl (L' := #[.val (.int x0), .val (.int x1), .val (.int x2), .val (.int x3), .val (.long x4), .second, .val (.long x5), .second, .val (.int u1), .val (.int v3), .val (.int u5), .val (.long u6), .second, .val (.long u7), .second, .val (.long u8), .second, .val (.long u9), .second, .val (.ref a10), .val (.long u25), .second, .val (.long v27), .second, .unset, .unset, .unset, .unset, .unset, .unset]) rfl ?_
      refine gIload X23 hx (hb hby at_131) (q := 133) rfl rfl ?_
      have J133_31 : ∀ v30 : Int64, v30 = (if v3 < (0 : Int32) then (1 : Int64) else (v3.toInt64)) → Go p.tables e below (Done s (Q_rm0 Z x0 x1 x2 x3 x4 x5 h0 n0) (room_1.cells) (room_1.slots)) (T23.setTop (mkF m 143 #[.val (.int x0), .val (.int x1), .val (.int x2), .val (.int x3), .val (.long x4), .second, .val (.long x5), .second, .val (.int u1), .val (.int v3), .val (.int u5), .val (.long u6), .second, .val (.long u7), .second, .val (.long u8), .second, .val (.long u9), .second, .val (.ref a10), .val (.long u25), .second, .val (.long v27), .second, .unset, .unset, .unset, .unset, .unset, .unset] [(.long v30)])) := by
        intro v30 hv30
        refine gLstore X23 hx (hb hby at_143) (q := 145) rfl (L' := #[.val (.int x0), .val (.int x1), .val (.int x2), .val (.int x3), .val (.long x4), .second, .val (.long x5), .second, .val (.int u1), .val (.int v3), .val (.int u5), .val (.long u6), .second, .val (.long u7), .second, .val (.long u8), .second, .val (.long u9), .second, .val (.ref a10), .val (.long u25), .second, .val (.long v27), .second, .val (.long v30), .second, .unset, .unset, .unset, .unset]) rfl ?_
        refine gLload X23 hx (hb hby at_145) (q := 147) rfl rfl ?_
        refine gLload X23 hx (hb hby at_147) (q := 149) rfl rfl ?_
        refine gLmul X23 hx (hb hby at_149) (q := 150) rfl ?_
        refine gIload X23 hx (hb hby at_150) (q := 152) rfl rfl ?_
        refine gI2l X23 hx (hb hby at_152) (q := 153) rfl ?_
        refine gLload X23 hx (hb hby at_153) (q := 155) rfl rfl ?_
        refine gLmul X23 hx (hb hby at_155) (q := 156) rfl ?_
        refine gLcmp X23 hx (hb hby at_156) (q := 157) rfl ?_
        by_cases c32 : ((u5.toInt64) * v30) < (u6 * v27)
        · refine gIfY X23 hx (hb hby at_157) (q := 201) (by decide) (by decide) (XT.ll_gt_t c32) ?_
          refine gIload X23 hx (hb hby at_201) (q := 203) rfl rfl ?_
          refine gI2l X23 hx (hb hby at_203) (q := 204) rfl ?_
          refine gLload X23 hx (hb hby at_204) (q := 206) rfl rfl ?_
          refine gLmul X23 hx (hb hby at_206) (q := 207) rfl ?_
          refine gLload X23 hx (hb hby at_207) (q := 209) rfl rfl ?_
          have hnz209 := own_nznear209 x0 x1 x2 x3 x4 x5 u1 hu1 v3 hv3 u5 hu5 u6 hu6 u7 hu7 u8 hu8 u9 hu9 fu hfu fd hfd ff hff fr hfr u25 hu25 v27 hv27 v30 hv30 c32
          refine gCallS X23 hx hZ hown (hw _ (List.mem_of_getElem? (i := 35) rfl)) (hw _ (List.mem_of_getElem? (i := 36) rfl)) (hw _ (List.mem_of_getElem? (i := 37) rfl)) (hw _ (List.mem_of_getElem? (i := 38) rfl)) (by decide) (rmNear l Z a0 hw [] ((u5.toInt64) * u8) u6 T20.heap n0 Z22 hnz209) (W := 0) (by decide) (by decide) e23 (by rw [hml]; rfl) [(.long ((u5.toInt64) * u8)), (.long u6)] (lenOf pd1 rfl) rfl (S := []) rfl (Nat.le_of_eq rfl) (hb hby at_209) (q := 212) rfl (by decide) (by decide) (fun r33 T33 M33 X33 q33 => ?_)
          obtain ⟨rfl, M33n, e33⟩ := q33
          have N34 := Fr.app N24 M33n
          dsimp only [Option.toList, List.cons_append, List.nil_append]
          generalize hu35 : ((((2 : Int64) * ((u5.toInt64) * u8)) + u6) / ((2 : Int64) * u6)) = u35
          refine gLstore X33 hx (hb hby at_212) (q := 214) rfl (L' := #[.val (.int x0), .val (.int x1), .val (.int x2), .val (.int x3), .val (.long x4), .second, .val (.long x5), .second, .val (.int u1), .val (.int v3), .val (.int u5), .val (.long u6), .second, .val (.long u7), .second, .val (.long u8), .second, .val (.long u9), .second, .val (.ref a10), .val (.long u25), .second, .val (.long v27), .second, .val (.long v30), .second, .val (.long u35), .second, .unset, .unset]) rfl ?_
          refine gLload X33 hx (hb hby at_214) (q := 216) rfl rfl ?_
          refine gLload X33 hx (hb hby at_216) (q := 218) rfl rfl ?_
          refine gLcmp X33 hx (hb hby at_218) (q := 219) rfl ?_
          have J219_38 : ∀ v37 : Int32, v37 = (if u25 = u35 then (1 : Int32) else (0 : Int32)) → Go p.tables e below (Done s (Q_rm0 Z x0 x1 x2 x3 x4 x5 h0 n0) (room_1.cells) (room_1.slots)) (T33.setTop (mkF m 227 #[.val (.int x0), .val (.int x1), .val (.int x2), .val (.int x3), .val (.long x4), .second, .val (.long x5), .second, .val (.int u1), .val (.int v3), .val (.int u5), .val (.long u6), .second, .val (.long u7), .second, .val (.long u8), .second, .val (.long u9), .second, .val (.ref a10), .val (.long u25), .second, .val (.long v27), .second, .val (.long v30), .second, .val (.long u35), .second, .unset, .unset] [(.int v37)])) := by
            intro v37 hv37
            have hone : v37 = 1 := own_law x0 x1 x2 x3 x4 x5 u1 hu1 v3 hv3 u5 hu5 u6 hu6 u7 hu7 u8 hu8 u9 hu9 fu hfu fd hfd ff hff fr hfr u25 hu25 v27 hv27 v30 hv30 u35 hu35 v37 hv37 c32
            exact gRetZ X33 hx hlk hret (hb hby at_227) (by decide) (by decide) (Or.inr hone) ⟨by rw [hone], N34⟩
          by_cases c36 : u25 = u35
          · refine gIfN X33 hx (hb hby at_219) (q := 222) rfl (XT.ll_ne_f c36) ?_
            refine gIconst X33 hx (1 : Int32) (hb hby at_222) (q := 223) rfl (by decide) ?_
            refine gGoto X33 hx (hb hby at_223) (q := 227) (by decide) (by decide) ?_
            exact J219_38 _ (by first | rfl | (simp only [if_pos c32, if_pos c36]; done) | (simp only [if_pos c32, if_pos c36]; done) | (simp only [if_pos c32, if_pos c36, if_true, if_false]; done) | (exfalso; simp at c36; done))
          · refine gIfY X33 hx (hb hby at_219) (q := 226) (by decide) (by decide) (XT.ll_ne_t c36) ?_
            refine gIconst X33 hx (0 : Int32) (hb hby at_226) (q := 227) rfl (by decide) ?_
            exact J219_38 _ (by first | rfl | (simp only [if_pos c32, if_neg c36]; done) | (simp only [if_pos c32, if_neg c36]; done) | (simp only [if_pos c32, if_neg c36, if_true, if_false]; done) | (exfalso; simp at c36; done))
        · refine gIfN X23 hx (hb hby at_157) (q := 160) rfl (XT.ll_gt_f c32) ?_
          refine gIload X23 hx (hb hby at_160) (q := 162) rfl rfl ?_
          refine gI2l X23 hx (hb hby at_162) (q := 163) rfl ?_
          refine gLload X23 hx (hb hby at_163) (q := 165) rfl rfl ?_
          refine gLmul X23 hx (hb hby at_165) (q := 166) rfl ?_
          refine gLload X23 hx (hb hby at_166) (q := 168) rfl rfl ?_
          refine gLload X23 hx (hb hby at_168) (q := 170) rfl rfl ?_
          refine gLmul X23 hx (hb hby at_170) (q := 171) rfl ?_
          refine gLsub X23 hx (hb hby at_171) (q := 172) rfl ?_
          generalize hu39 : (((u5.toInt64) * v30) - (u6 * v27)) = u39
          refine gLstore X23 hx (hb hby at_172) (q := 174) rfl (L' := #[.val (.int x0), .val (.int x1), .val (.int x2), .val (.int x3), .val (.long x4), .second, .val (.long x5), .second, .val (.int u1), .val (.int v3), .val (.int u5), .val (.long u6), .second, .val (.long u7), .second, .val (.long u8), .second, .val (.long u9), .second, .val (.ref a10), .val (.long u25), .second, .val (.long v27), .second, .val (.long v30), .second, .unset, .unset, .val (.long u39), .second]) rfl ?_
          refine gLload X23 hx (hb hby at_174) (q := 176) rfl rfl ?_
          refine gLload X23 hx (hb hby at_176) (q := 178) rfl rfl ?_
          refine gLmul X23 hx (hb hby at_178) (q := 179) rfl ?_
          refine gLload X23 hx (hb hby at_179) (q := 181) rfl rfl ?_
          refine gLmul X23 hx (hb hby at_181) (q := 182) rfl ?_
          refine gLload X23 hx (hb hby at_182) (q := 184) rfl rfl ?_
          refine gLload X23 hx (hb hby at_184) (q := 186) rfl rfl ?_
          refine gLmul X23 hx (hb hby at_186) (q := 187) rfl ?_
          refine gLadd X23 hx (hb hby at_187) (q := 188) rfl ?_
          refine gLload X23 hx (hb hby at_188) (q := 190) rfl rfl ?_
          refine gLload X23 hx (hb hby at_190) (q := 192) rfl rfl ?_
          refine gLmul X23 hx (hb hby at_192) (q := 193) rfl ?_
          have hnz193 := own_nznear193 x0 x1 x2 x3 x4 x5 u1 hu1 v3 hv3 u5 hu5 u6 hu6 u7 hu7 u8 hu8 u9 hu9 fu hfu fd hfd ff hff fr hfr u25 hu25 v27 hv27 v30 hv30 u39 hu39 c32
          refine gCallS X23 hx hZ hown (hw _ (List.mem_of_getElem? (i := 35) rfl)) (hw _ (List.mem_of_getElem? (i := 36) rfl)) (hw _ (List.mem_of_getElem? (i := 37) rfl)) (hw _ (List.mem_of_getElem? (i := 38) rfl)) (by decide) (rmNear l Z a0 hw [] (((v27 * u8) * u7) + (u39 * u9)) (v30 * u7) T20.heap n0 Z22 hnz193) (W := 0) (by decide) (by decide) e23 (by rw [hml]; rfl) [(.long (((v27 * u8) * u7) + (u39 * u9))), (.long (v30 * u7))] (lenOf pd1 rfl) rfl (S := []) rfl (Nat.le_of_eq rfl) (hb hby at_193) (q := 196) rfl (by decide) (by decide) (fun r40 T40 M40 X40 q40 => ?_)
          obtain ⟨rfl, M40n, e40⟩ := q40
          have N41 := Fr.app N24 M40n
          dsimp only [Option.toList, List.cons_append, List.nil_append]
          generalize hu42 : ((((2 : Int64) * (((v27 * u8) * u7) + (u39 * u9))) + (v30 * u7)) / ((2 : Int64) * (v30 * u7))) = u42
          refine gLstore X40 hx (hb hby at_196) (q := 198) rfl (L' := #[.val (.int x0), .val (.int x1), .val (.int x2), .val (.int x3), .val (.long x4), .second, .val (.long x5), .second, .val (.int u1), .val (.int v3), .val (.int u5), .val (.long u6), .second, .val (.long u7), .second, .val (.long u8), .second, .val (.long u9), .second, .val (.ref a10), .val (.long u25), .second, .val (.long v27), .second, .val (.long v30), .second, .val (.long u42), .second, .val (.long u39), .second]) rfl ?_
          refine gGoto X40 hx (hb hby at_198) (q := 214) (by decide) (by decide) ?_
          refine gLload X40 hx (hb hby at_214) (q := 216) rfl rfl ?_
          refine gLload X40 hx (hb hby at_216) (q := 218) rfl rfl ?_
          refine gLcmp X40 hx (hb hby at_218) (q := 219) rfl ?_
          have J219_45 : ∀ v44 : Int32, v44 = (if u25 = u42 then (1 : Int32) else (0 : Int32)) → Go p.tables e below (Done s (Q_rm0 Z x0 x1 x2 x3 x4 x5 h0 n0) (room_1.cells) (room_1.slots)) (T40.setTop (mkF m 227 #[.val (.int x0), .val (.int x1), .val (.int x2), .val (.int x3), .val (.long x4), .second, .val (.long x5), .second, .val (.int u1), .val (.int v3), .val (.int u5), .val (.long u6), .second, .val (.long u7), .second, .val (.long u8), .second, .val (.long u9), .second, .val (.ref a10), .val (.long u25), .second, .val (.long v27), .second, .val (.long v30), .second, .val (.long u42), .second, .val (.long u39), .second] [(.int v44)])) := by
            intro v44 hv44
            have hone : v44 = 1 := own_law2 x0 x1 x2 x3 x4 x5 u1 hu1 v3 hv3 u5 hu5 u6 hu6 u7 hu7 u8 hu8 u9 hu9 fu hfu fd hfd ff hff fr hfr u25 hu25 v27 hv27 v30 hv30 u39 hu39 u42 hu42 v44 hv44 c32
            exact gRetZ X40 hx hlk hret (hb hby at_227) (by decide) (by decide) (Or.inr hone) ⟨by rw [hone], N41⟩
          by_cases c43 : u25 = u42
          · refine gIfN X40 hx (hb hby at_219) (q := 222) rfl (XT.ll_ne_f c43) ?_
            refine gIconst X40 hx (1 : Int32) (hb hby at_222) (q := 223) rfl (by decide) ?_
            refine gGoto X40 hx (hb hby at_223) (q := 227) (by decide) (by decide) ?_
            exact J219_45 _ (by first | rfl | (simp only [if_neg c32, if_pos c43]; done) | (simp only [if_neg c32, if_pos c43]; done) | (simp only [if_neg c32, if_pos c43, if_true, if_false]; done) | (exfalso; simp at c43; done))
          · refine gIfY X40 hx (hb hby at_219) (q := 226) (by decide) (by decide) (XT.ll_ne_t c43) ?_
            refine gIconst X40 hx (0 : Int32) (hb hby at_226) (q := 227) rfl (by decide) ?_
            exact J219_45 _ (by first | rfl | (simp only [if_neg c32, if_neg c43]; done) | (simp only [if_neg c32, if_neg c43]; done) | (simp only [if_neg c32, if_neg c43, if_true, if_false]; done) | (exfalso; simp at c43; done))
      by_cases c29 : v3 < (0 : Int32)
      · refine gIfN X23 hx (hb hby at_133) (q := 136) rfl (XT.i0_ge_f c29) ?_
        refine gLconst X23 hx (1 : Int64) (hb hby at_136) (q := 137) rfl (by decide) ?_
        refine gGoto X23 hx (hb hby at_137) (q := 143) (by decide) (by decide) ?_
        exact J133_31 _ (by first | rfl | (simp only [if_pos c29]; done) | (simp only [if_pos c29]; done) | (simp only [if_pos c29, if_true, if_false]; done) | (exfalso; simp at c29; done))
      · refine gIfY X23 hx (hb hby at_133) (q := 140) (by decide) (by decide) (XT.i0_ge_t c29) ?_
        refine gIload X23 hx (hb hby at_140) (q := 142) rfl rfl ?_
        refine gI2l X23 hx (hb hby at_142) (q := 143) rfl ?_
        exact J133_31 _ (by first | rfl | (simp only [if_neg c29]; done) | (simp only [if_neg c29]; done) | (simp only [if_neg c29, if_true, if_false]; done) | (exfalso; simp at c29; done))
    by_cases c26 : v3 < (0 : Int32)
    · refine gIfN X23 hx (hb hby at_119) (q := 122) rfl (XT.i0_ge_f c26) ?_
      refine gLconst X23 hx (1 : Int64) (hb hby at_122) (q := 123) rfl (by decide) ?_
      refine gGoto X23 hx (hb hby at_123) (q := 129) (by decide) (by decide) ?_
      exact J119_28 _ (by first | rfl | (simp only [if_pos c26]; done) | (simp only [if_pos c26]; done) | (simp only [if_pos c26, if_true, if_false]; done) | (exfalso; simp at c26; done))
    · refine gIfY X23 hx (hb hby at_119) (q := 126) (by decide) (by decide) (XT.i0_ge_t c26) ?_
      refine gIload X23 hx (hb hby at_126) (q := 128) rfl rfl ?_
      refine gI2l X23 hx (hb hby at_128) (q := 129) rfl ?_
      exact J119_28 _ (by first | rfl | (simp only [if_neg c26]; done) | (simp only [if_neg c26]; done) | (simp only [if_neg c26, if_true, if_false]; done) | (exfalso; simp at c26; done))
  by_cases c2 : x1 < (0 : Int32)
  · refine gIfN X0 hx (hb hby at_10) (q := 13) rfl (XT.i0_ge_f c2) ?_
    refine gIloadN X0 hx (hb hby at_13) (q := 14) rfl rfl ?_
    refine gGoto X0 hx (hb hby at_14) (q := 24) (by decide) (by decide) ?_
    exact J10_4 _ (by first | rfl | (simp only [if_pos c2]; done) | (simp only [if_pos c2]; done) | (simp only [if_pos c2, if_true, if_false]; done) | (exfalso; simp at c2; done))
  · refine gIfY X0 hx (hb hby at_10) (q := 17) (by decide) (by decide) (XT.i0_ge_t c2) ?_
    refine gIconst X0 hx (1 : Int32) (hb hby at_17) (q := 18) rfl (by decide) ?_
    refine gIloadN X0 hx (hb hby at_18) (q := 19) rfl rfl ?_
    refine gSipush X0 hx (16383 : Int32) (hb hby at_19) (q := 22) rfl (by decide) ?_
    refine gIand X0 hx (hb hby at_22) (q := 23) rfl ?_
    refine gIadd X0 hx (hb hby at_23) (q := 24) rfl ?_
    exact J10_4 _ (by first | rfl | (simp only [if_neg c2]; done) | (simp only [if_neg c2]; done) | (simp only [if_neg c2, if_true, if_false]; done) | (exfalso; simp at c2; done))
set_option maxRecDepth 65536 in
set_option maxHeartbeats 40000000 in
theorem comes_1 {Post : Tables → Env → Array Value → State → Outcome → State → Prop} (hpost : ∀ tb e args s v u, (limb_1_1.after args s (.returned v) u = true ∧ limb_1_2.after args s (.returned v) u = true ∧ True) → FrameEnd s (.returned v) u (Jvm.fieldLocs frame_1_writes args s ++ Jvm.arrayLocs frame_1_arrays args s ++ Jvm.staticLocs frame_1_statics s) 16 128 → Post tb e args s (.returned v) u) :
    ArmFor flags0 classFile x code maxLocals ret World_1 tables_1 room_1 Calls_1 rest_1 Pre_1 Post := by
  intro l hfl _ _ p e ha hc hk s m args below hf hA hF happ hP
  obtain ⟨hcalls, hrest, hpre⟩ := hP
  obtain ⟨-, -, -, hnamed, -, -, -, hat⟩ := (Spec.applies_iff hf).mp happ
  obtain ⟨hg, hn⟩ := and_e (Cond.before_iff.mp (show (Jvm.Cond.and given_1 narrow_1).before args s = true from hpre))
  obtain ⟨hcount, hg⟩ := and_e hg
  obtain ⟨hk0, hg⟩ := and_e hg
  obtain ⟨hk1, hg⟩ := and_e hg
  obtain ⟨hk2, hg⟩ := and_e hg
  obtain ⟨hk3, hg⟩ := and_e hg
  obtain ⟨hk4, hg⟩ := and_e hg
  have hk5 := hg
  obtain ⟨w0, w1, w2, w3, w4, w5, rfl⟩ : ∃ w0 w1 w2 w3 w4 w5 : Value, args = #[w0, w1, w2, w3, w4, w5] := by
    have hs : args.size = 6 := by simpa [Cond.value, given_1] using hcount
    obtain ⟨L⟩ := args
    match L, hs with
    | [w0, w1, w2, w3, w4, w5], _ => exact ⟨w0, w1, w2, w3, w4, w5, rfl⟩
  have hw := fun d (hd : d ∈ tables_1) => atoms_spec (ws := Jvm.Cond.code x code maxLocals ret :: tables_1) hat d (List.mem_cons_of_mem _ hd)
  have hfit : Fit s := fun {y c} hc i hi => by
    obtain ⟨ha, rfl⟩ := Array.getElem?_eq_some_iff.mp hc
    have q := List.all_eq_true.mp ((Array.all_eq_true_iff_forall_mem.mp hF) _ (Array.getElem_mem ha)) i (List.mem_range.mpr hi)
    simpa [Array.getElem?_eq_getElem hi] using q
  obtain ⟨i0, hi0⟩ := is_v hk0
  obtain rfl : w0 = (.int i0) := Option.some.inj hi0
  obtain ⟨i1, hi1⟩ := is_v hk1
  obtain rfl : w1 = (.int i1) := Option.some.inj hi1
  obtain ⟨i2, hi2⟩ := is_v hk2
  obtain rfl : w2 = (.int i2) := Option.some.inj hi2
  obtain ⟨i3, hi3⟩ := is_v hk3
  obtain rfl : w3 = (.int i3) := Option.some.inj hi3
  obtain ⟨i4, hi4⟩ := isL_v hk4
  obtain rfl : w4 = (.long i4) := Option.some.inj hi4
  obtain ⟨i5, hi5⟩ := isL_v hk5
  obtain rfl : w5 = (.long i5) := Option.some.inj hi5
  obtain ⟨n, o, h1, h2, h3, _, L, rfl, ⟨rfl, N⟩, hq⟩ := rm0 l s _ hw tables_1 i0 i1 i2 i3 i4 i5  s.heap s.heap.size (Nat.le_refl _)  p e ha hc hk s m _ below hf ((Spec.applies_iff_loose hf).mp happ).1 ⟨rfl, State.Warmed39.refl s, rfl⟩ trivial
  refine ⟨n, _, h1, h2, h3, hpost _ _ _ _ _ _ ⟨Cond.after_iff.mpr rfl, Cond.after_iff.mpr (eq_i res_at (Term.int_eval (1)) rfl), trivial⟩ ⟨hq.1, hq.2.1, (hq.2.2.sift fun y hy => Or.inr (N y hy)).mono (by decide) (by decide)⟩⟩
theorem main_1_1 : Claimed_1_1 := comes_1 fun _ _ _ _ _ _ h hF => ⟨h.1, hF⟩
theorem main_1_2 : Claimed_1_2 := comes_1 fun _ _ _ _ _ _ h hF => ⟨h.2.1, hF⟩
end Jvm.Pilot.@@N@@
namespace Jvm.Pilot.@@N@@
open Jvm Jvm.ClassFile Sem Op Lib Jvm.Free Jvm.Stand Jvm.Pilot.@@N@@.Jvm.D
/-! MADE BY PROGRAM (witnessworld.py) out of the Statement's table words and the real class files: 9 classes; the members and pool entries that the words name. The judged class is class 1, her method 1. -/
namespace start1
open Jvm.ClassFile
def u (s : String) : CpInfo := .utf8 (stringToUtf16 s)
/-- a pool by its gaps: so many unusable entries, then the entry; so many at the end -/
def gap : Nat → List CpInfo → List CpInfo
  | 0, r => r
  | n + 1, r => .unusable :: gap n r
def poolList (es : List (Nat × CpInfo)) (last : Nat) : List CpInfo := es.foldr (fun e r => gap e.1 (e.2 :: r)) (gap last [])
def pool (es : List (Nat × CpInfo)) (last : Nat) : Array CpInfo := ⟨poolList es last⟩
def fileOf (pool : Array CpInfo) (this : Nat) (attrs : Array Attribute := #[]) (ms : Array MethodInfo := #[]) (fl : Nat := 33) (sup : Nat := 0) (ifs : Array Nat := #[]) (fds : Array FieldInfo := #[]) : ClassFile where
  minorVersion := 0
  majorVersion := 65
  constantPool := pool
  accessFlags := fl
  thisClass := this
  superClass := sup
  interfaces := ifs
  fields := fds
  methods := ms
  attributes := attrs
def plain (name : String) (sup : Option ClassId) : Class where
  name := name
  kind := .ordinary
  loader := none
  accessFlags := 33
  super := sup
  interfaces := #[]
  cf := none
  fields := #[]
  methods := #[]
  instanceTypes := #[]
  staticTypes := #[]
  resolved := #[]
  callSites := []
  init := .initialized
  statics := none
  mirror := none

def pool0 : Array CpInfo := pool [(5, u "<init>"), (0, u "()V"), (1, .class_ 10), (1, u "java/lang/Object")] 113

def k0c0 : Code := { maxStack := 0, maxLocals := 1, code := object_method_1_code, exceptionTable := #[], attributes := #[] }
def k0m0 : Method := { name := "<init>", desc := "()V", sig := { parameters := [], returnType := none }, accessFlags := 1, code := some k0c0 }
/-- java/lang/Object -/
def k0 : Class := { plain "java/lang/Object" none with
  accessFlags := 33
  interfaces := #[]
  cf := some (fileOf pool0 8 #[] #[{ accessFlags := 1, nameIndex := 5, descriptorIndex := 6, attributes := #[] }] 33 0 #[] #[])
  fields := #[]
  methods := #[k0m0]
  instanceTypes := #[]
  staticTypes := #[]
  resolved := Array.replicate 124 none
  statics := none }

def pool1 : Array CpInfo := pool [(2, .class_ 4), (1, u "java/lang/Object"), (0, u "<init>"), (0, u "()V"), (0, .integer 2147483647), (0, .long 8388607), (1, .long 65535), (1, .long 2147483647), (1, .class_ 15), (0, u "com/example/tintfold/tintfold/NinePatchDrawable$Layout"), (0, .methodref 14 17), (0, .nameAndType 5 18), (0, u "(IIIJJ)V"), (0, .methodref 14 20), (0, .nameAndType 21 22), (0, u "end"), (0, u "(JJ)J"), (0, .methodref 24 25), (0, .class_ 26), (0, .nameAndType 27 22), (0, u "com/example/tintfold/tintfold/LayoutEndPinLaw"), (0, u "nearest"), (0, .long 2), (3, u "law"), (0, u "(IIIIJJ)Z")] 7

def k1m0 : Method := { name := "<init>", desc := "()V", sig := { parameters := [], returnType := none }, accessFlags := 1, code := none }
def k1c1 : Code := { maxStack := 9, maxLocals := 30, code := code, exceptionTable := #[], attributes := #[] }
def k1m1 : Method := { name := "law", desc := "(IIIIJJ)Z", sig := { parameters := [.int, .int, .int, .int, .long, .long], returnType := some .boolean }, accessFlags := 9, code := some k1c1 }
def k1c2 : Code := { maxStack := 6, maxLocals := 4, code := method_3_code, exceptionTable := #[], attributes := #[] }
def k1m2 : Method := { name := "nearest", desc := "(JJ)J", sig := { parameters := [.long, .long], returnType := some .long }, accessFlags := 10, code := some k1c2 }
/-- com/example/tintfold/tintfold/LayoutEndPinLaw -/
def k1 : Class := { plain "com/example/tintfold/tintfold/LayoutEndPinLaw" (some 0) with
  accessFlags := 49
  interfaces := #[]
  cf := some (fileOf pool1 24 #[] #[{ accessFlags := 1, nameIndex := 5, descriptorIndex := 6, attributes := #[] }, { accessFlags := 9, nameIndex := 32, descriptorIndex := 33, attributes := #[] }, { accessFlags := 10, nameIndex := 27, descriptorIndex := 22, attributes := #[] }] 49 2 #[] #[])
  fields := #[]
  methods := #[k1m0, k1m1, k1m2]
  instanceTypes := #[]
  staticTypes := #[]
  resolved := Array.replicate 41 none
  statics := none }

def pool2 : Array CpInfo := pool [(1, .methodref 2 3), (0, .class_ 4), (0, .nameAndType 5 6), (0, u "java/lang/Object"), (0, u "<init>"), (0, u "()V"), (0, .fieldref 8 9), (0, .class_ 10), (0, .nameAndType 11 12), (0, u "com/example/tintfold/tintfold/NinePatchDrawable$Layout"), (0, u "up"), (0, u "J"), (0, .fieldref 8 14), (0, .nameAndType 15 12), (0, u "down"), (0, .fieldref 8 17), (0, .nameAndType 18 12), (0, u "length"), (0, .fieldref 8 20), (0, .nameAndType 21 12), (0, u "fixed"), (0, .fieldref 8 23), (0, .nameAndType 24 12), (0, u "stretched"), (0, .fieldref 8 26), (0, .nameAndType 27 28), (0, u "fits"), (0, u "Z"), (0, .fieldref 8 30), (0, .nameAndType 31 12), (0, u "roomWhole"), (0, .fieldref 8 33), (0, .nameAndType 34 12), (0, u "roomLeft"), (0, .long 2), (1, u "(IIIJJ)V"), (3, u "end"), (0, u "(JJ)J"), (3, .class_ 47), (0, u "com/example/tintfold/tintfold/NinePatchDrawable")] 2

def k2c0 : Code := { maxStack := 7, maxLocals := 10, code := prog_69_method_1_code, exceptionTable := #[], attributes := #[] }
def k2m0 : Method := { name := "<init>", desc := "(IIIJJ)V", sig := { parameters := [.int, .int, .int, .long, .long], returnType := none }, accessFlags := 0, code := some k2c0 }
def k2c1 : Code := { maxStack := 8, maxLocals := 15, code := prog_69_method_2_code, exceptionTable := #[], attributes := #[] }
def k2m1 : Method := { name := "end", desc := "(JJ)J", sig := { parameters := [.long, .long], returnType := some .long }, accessFlags := 0, code := some k2c1 }
/-- com/example/tintfold/tintfold/NinePatchDrawable$Layout -/
def k2 : Class := { plain "com/example/tintfold/tintfold/NinePatchDrawable$Layout" (some 0) with
  accessFlags := 48
  interfaces := #[]
  cf := some (fileOf pool2 8 #[.nestHost 46] #[{ accessFlags := 0, nameIndex := 5, descriptorIndex := 37, attributes := #[] }, { accessFlags := 0, nameIndex := 41, descriptorIndex := 42, attributes := #[] }] 48 2 #[] #[{ accessFlags := 18, nameIndex := 27, descriptorIndex := 28, attributes := #[] }, { accessFlags := 18, nameIndex := 11, descriptorIndex := 12, attributes := #[] }, { accessFlags := 18, nameIndex := 15, descriptorIndex := 12, attributes := #[] }, { accessFlags := 18, nameIndex := 18, descriptorIndex := 12, attributes := #[] }, { accessFlags := 18, nameIndex := 21, descriptorIndex := 12, attributes := #[] }, { accessFlags := 18, nameIndex := 24, descriptorIndex := 12, attributes := #[] }, { accessFlags := 18, nameIndex := 31, descriptorIndex := 12, attributes := #[] }, { accessFlags := 18, nameIndex := 34, descriptorIndex := 12, attributes := #[] }])
  fields := #[{ name := "fits", type := .boolean, accessFlags := 18, slot := 0, constantValue := 0 }, { name := "up", type := .long, accessFlags := 18, slot := 1, constantValue := 0 }, { name := "down", type := .long, accessFlags := 18, slot := 2, constantValue := 0 }, { name := "length", type := .long, accessFlags := 18, slot := 3, constantValue := 0 }, { name := "fixed", type := .long, accessFlags := 18, slot := 4, constantValue := 0 }, { name := "stretched", type := .long, accessFlags := 18, slot := 5, constantValue := 0 }, { name := "roomWhole", type := .long, accessFlags := 18, slot := 6, constantValue := 0 }, { name := "roomLeft", type := .long, accessFlags := 18, slot := 7, constantValue := 0 }]
  methods := #[k2m0, k2m1]
  instanceTypes := #[.boolean, .long, .long, .long, .long, .long, .long, .long]
  staticTypes := #[]
  resolved := Array.replicate 50 none
  statics := none }

def pool3 : Array CpInfo := pool [(1, u "java/lang/Cloneable"), (0, .class_ 1), (0, u "java/lang/Object"), (0, .class_ 3)] 3

/-- java/lang/Cloneable -/
def k3 : Class := { plain "java/lang/Cloneable" (some 0) with
  accessFlags := 1537
  interfaces := #[]
  cf := some (fileOf pool3 2 #[] #[] 1537 4 #[] #[])
  fields := #[]
  methods := #[]
  instanceTypes := #[]
  staticTypes := #[]
  resolved := Array.replicate 8 none
  statics := none }

def pool4 : Array CpInfo := pool [(1, u "java/io/Serializable"), (0, .class_ 1), (0, u "java/lang/Object"), (0, .class_ 3)] 3

/-- java/io/Serializable -/
def k4 : Class := { plain "java/io/Serializable" (some 0) with
  accessFlags := 1537
  interfaces := #[]
  cf := some (fileOf pool4 2 #[] #[] 1537 4 #[] #[])
  fields := #[]
  methods := #[]
  instanceTypes := #[]
  staticTypes := #[]
  resolved := Array.replicate 8 none
  statics := none }

/-- the primitive byte -/
def k5 : Class := { plain "byte" none with kind := .primitive 'B', accessFlags := 0x411 }
/-- [B -/
def k6 : Class := { plain "[B" (some 0) with kind := .array 5 .byte, interfaces := #[3, 4], accessFlags := 1041 }

/-- the primitive int -/
def k7 : Class := { plain "int" none with kind := .primitive 'I', accessFlags := 0x411 }
/-- [I -/
def k8 : Class := { plain "[I" (some 0) with kind := .array 7 .int, interfaces := #[3, 4], accessFlags := 1041 }

def heap : Heap := #[]
def classes : Array Class := #[k0, k1, k2, k3, k4, k5, k6, k7, k8]
def interned : List (Array UInt16 × Addr) := []
def slotsUsed : Nat := 0
def theMethod : MethodId := ⟨1, 1⟩
def args0 : Array Value := #[.int 5, .int 3, .int 7, .int 2, .long 1, .long 5]
def aboutOver (below : List Frame) : State where
  vm := { classes := classes, interned := interned.toArray }
  heap := heap
  slotsUsed := slotsUsed
  threads := #[{ frames := .invoking theMethod args0 :: below }]
def below0 : List Frame := [.native { method := ⟨0, 0⟩, args := #[] }]
def about1 : State := aboutOver below0
def p0 : Program := .bare "" "" ""
def e0 : Env := launch0.env 0 0 0
theorem w_frames : about1.frames = Frame.invoking theMethod args0 :: below0 := rfl
set_option maxRecDepth 65536 in
theorem w_args : argsFit about1.vm theMethod args0 = true := by decide +kernel
set_option maxRecDepth 65536 in
theorem w_heap : heapFits about1 = true := by decide +kernel
set_option maxRecDepth 65536 in
theorem w_runnable : about1.curStatus? = some .runnable := by decide +kernel
set_option maxRecDepth 65536 in
theorem w_alone : about1.alone = true := by decide +kernel
set_option maxRecDepth 65536 in
theorem w_named : about1.methodNamed? x = some theMethod := by decide +kernel
set_option maxRecDepth 65536 in
theorem w_hears : about1.hears theMethod below0 = true := by decide +kernel
set_option maxRecDepth 65536 in
theorem w_ripe : about1.ripe theMethod args0 below0 = true := by decide +kernel
theorem w_running : about1.status = .running := rfl
set_option maxRecDepth 65536 in
theorem w_room : about1.hasRoom e0.platform room_1 = true :=
  launch0.hasRoom_least _ room_1 (by decide +kernel) (by decide +kernel) (by decide +kernel) (by decide +kernel) (by decide +kernel) (by decide +kernel)
theorem allAtoms_all (ts : List Jvm.Cond) (a : Array Jvm.Value) (st : Jvm.State) : (allAtoms ts).before a st = ts.all (fun c => c.before a st) := by
  induction ts with
  | nil => rfl
  | cons c t ih =>
    show (Jvm.Cond.and c (allAtoms t)).before a st = _
    rw [Jvm.Cond.before_and, ih, List.all_cons]
def words1 : List Jvm.Cond := Jvm.Cond.code x code maxLocals ret :: tables_1
/-- a 'code' word, met by the world's own term for the bytes: nothing is compared byte by byte -/
theorem code_word {y : MethodName} {bytes : ByteArray} {mx : Nat} {rt : Option FieldType} {a : Array Value} {s : State} {m : MethodId} {meth : Method} {c : Code} (h1 : s.methodNamed? y = some m) (h2 : s.vm.method? m = some meth) (h3 : meth.code = some c) (h4 : c.code = bytes)
    (h5 : (c.maxLocals == mx && c.exceptionTable.isEmpty && decide (c.maxStack ≤ mostOperands) && decide (meth.sig.returnType = rt) && !meth.locks && decide (parseMethodDescriptor y.desc = some meth.sig)) = true) : (Jvm.Cond.code y bytes mx rt).before a s = true := by
  simp only [Bool.and_eq_true, beq_iff_eq, Bool.not_eq_true', decide_eq_true_eq] at h5
  obtain ⟨⟨⟨⟨⟨g1, g2⟩, g3⟩, g4⟩, g5⟩, g6⟩ := h5
  simp [Cond.before, Cond.holds, Cond.value, h1, h2, h3, h4, g1, g2, g3, g4, g5, g6]
def isCode : Jvm.Cond → Bool
  | .code _ _ _ _ => true
  | _ => false
theorem all_split {L : List Jvm.Cond} {P : Jvm.Cond → Bool} (h1 : L.all (fun c => isCode c || P c) = true) (h2 : ∀ c ∈ L.filter isCode, P c = true) : L.all P = true := by
  refine List.all_eq_true.mpr fun c hc => ?_
  have h := List.all_eq_true.mp h1 c hc
  rcases Bool.eq_false_or_eq_true (isCode c) with hi | hi
  · exact h2 c (List.mem_filter.mpr ⟨hc, hi⟩)
  · simpa [hi] using h
set_option maxRecDepth 65536 in
theorem w_c0 : (Jvm.Cond.code x code maxLocals ret).before args0 about1 = true := code_word (m := ⟨1, 1⟩) (meth := k1m1) (c := k1c1) (by decide +kernel) rfl rfl rfl (by decide +kernel)
set_option maxRecDepth 65536 in
theorem w_c1 : (Jvm.Cond.code ({ cls := "com/example/tintfold/tintfold/NinePatchDrawable$Layout", name := "<init>", desc := "(IIIJJ)V" } : Jvm.MethodName) prog_69_method_1_code (10 : Nat) (Option.none : Option Jvm.ClassFile.FieldType)).before args0 about1 = true := code_word (m := ⟨2, 0⟩) (meth := k2m0) (c := k2c0) (by decide +kernel) rfl rfl rfl (by decide +kernel)
set_option maxRecDepth 65536 in
theorem w_c2 : (Jvm.Cond.code ({ cls := "java/lang/Object", name := "<init>", desc := "()V" } : Jvm.MethodName) object_method_1_code (1 : Nat) (Option.none : Option Jvm.ClassFile.FieldType)).before args0 about1 = true := code_word (m := ⟨0, 0⟩) (meth := k0m0) (c := k0c0) (by decide +kernel) rfl rfl rfl (by decide +kernel)
set_option maxRecDepth 65536 in
theorem w_c3 : (Jvm.Cond.code ({ cls := "com/example/tintfold/tintfold/NinePatchDrawable$Layout", name := "end", desc := "(JJ)J" } : Jvm.MethodName) prog_69_method_2_code (15 : Nat) (Option.some Jvm.ClassFile.FieldType.long)).before args0 about1 = true := code_word (m := ⟨2, 1⟩) (meth := k2m1) (c := k2c1) (by decide +kernel) rfl rfl rfl (by decide +kernel)
set_option maxRecDepth 65536 in
theorem w_c4 : (Jvm.Cond.code ({ cls := "com/example/tintfold/tintfold/LayoutEndPinLaw", name := "nearest", desc := "(JJ)J" } : Jvm.MethodName) method_3_code (4 : Nat) (Option.some Jvm.ClassFile.FieldType.long)).before args0 about1 = true := code_word (m := ⟨1, 2⟩) (meth := k1m2) (c := k1c2) (by decide +kernel) rfl rfl rfl (by decide +kernel)
def codes1 : List Jvm.Cond := [Jvm.Cond.code x code maxLocals ret, Jvm.Cond.code ({ cls := "com/example/tintfold/tintfold/NinePatchDrawable$Layout", name := "<init>", desc := "(IIIJJ)V" } : Jvm.MethodName) prog_69_method_1_code (10 : Nat) (Option.none : Option Jvm.ClassFile.FieldType), Jvm.Cond.code ({ cls := "java/lang/Object", name := "<init>", desc := "()V" } : Jvm.MethodName) object_method_1_code (1 : Nat) (Option.none : Option Jvm.ClassFile.FieldType), Jvm.Cond.code ({ cls := "com/example/tintfold/tintfold/NinePatchDrawable$Layout", name := "end", desc := "(JJ)J" } : Jvm.MethodName) prog_69_method_2_code (15 : Nat) (Option.some Jvm.ClassFile.FieldType.long), Jvm.Cond.code ({ cls := "com/example/tintfold/tintfold/LayoutEndPinLaw", name := "nearest", desc := "(JJ)J" } : Jvm.MethodName) method_3_code (4 : Nat) (Option.some Jvm.ClassFile.FieldType.long)]
set_option maxRecDepth 65536 in
theorem codes_eq : words1.filter isCode = codes1 := rfl
theorem w_codes : ∀ c ∈ words1.filter isCode, c.before args0 about1 = true := by
  rw [codes_eq]
  intro c hc
  simp only [codes1, List.mem_cons, List.not_mem_nil, or_false] at hc
  rcases hc with rfl | rfl | rfl | rfl | rfl
  · exact w_c0
  · exact w_c1
  · exact w_c2
  · exact w_c3
  · exact w_c4
set_option maxRecDepth 65536 in
theorem w_t1 : (words1.take 24).all (fun c => isCode c || c.before args0 about1) = true := by decide +kernel
set_option maxRecDepth 65536 in
theorem w_t2 : (words1.drop 24).all (fun c => isCode c || c.before args0 about1) = true := by decide +kernel
theorem w_tables : (allAtoms (Jvm.Cond.code x code maxLocals ret :: tables_1)).before args0 about1 = true := by
  rw [allAtoms_all]
  show words1.all (fun c => c.before args0 about1) = true
  refine all_split ?_ w_codes
  rw [← List.take_append_drop 24 words1, List.all_append, w_t1, w_t2]
  rfl
set_option maxRecDepth 65536 in
theorem w_case : (Jvm.Cond.and given_1 narrow_1).before args0 about1 = true := by decide +kernel
theorem w_applies : (headSpec (Jvm.Cond.code x code maxLocals ret :: tables_1) room_1).applies x e0.platform about1 = true :=
  (Spec.applies_iff w_frames).mpr ⟨w_running, w_runnable, w_alone, w_named, w_hears, w_ripe, w_room, w_tables⟩
theorem atStart : AtStart classFile x code maxLocals ret World_1 tables_1 room_1 Calls_1 rest_1 Pre_1 launch0 p0 e0 about1 theMethod args0 below0 :=
  ⟨lists_1, trivial, launch0.admits_env _ _ _, launch0.least_env, fairChoices_fair.cas, fairChoices_fair.clock, w_frames, w_args, w_heap, w_applies, trivial, trivial, w_case⟩
end start1
theorem witness_1 : WitnessClaimed_1 := ⟨start1.p0, start1.e0, start1.about1, start1.theMethod, start1.args0, start1.below0, start1.atStart⟩
end Jvm.Pilot.@@N@@
