import JvmDerived
import JvmDerived.Pilot.@@N@@Statement
import JvmDerived.Pilot.@@N@@Code
set_option linter.unusedVariables false
set_option linter.unusedSimpArgs false
namespace Jvm.OwnKit
open Sem ClassFile Op Lib Jvm.Stand Jvm.Free Jvm.LawKit Jvm.RoadKit
def Go (tb : Tables) (e : Env) (below : List Frame) (P : State → Outcome → Prop) (S : State) : Prop :=
  ∃ s₂ o, Steps tb e below S s₂ ∧ s₂.status = .running ∧ Ended s₂ below o ∧ P s₂ o
theorem go {tb : Tables} {e : Env} {below : List Frame} {P : State → Outcome → Prop} {S S' : State} (h : ∀ t, Steps tb e below S' t → Steps tb e below S t) (k : Go tb e below P S') : Go tb e below P S := by
  obtain ⟨s₂, o, h1, h2⟩ := k
  exact ⟨s₂, o, h _ h1, h2⟩
theorem goT {tb : Tables} {e : Env} {below : List Frame} {P : State → Outcome → Prop} {S S' : State} (h : Steps tb e below S S') (k : Go tb e below P S') : Go tb e below P S := go (fun _ q => h.trans q) k
def Done (s : State) (Q : Option Value → Heap → List Loc → Prop) (k n : Nat) (t : State) (o : Outcome) : Prop := ∃ v L, o = .returned v ∧ Q v t.heap L ∧ FrameEnd s o t L k n
/-- a body's contract: called with just these arguments, over this heap -/
def Con (l : Launch) (Z : State) (y : MethodName) (bytes : ByteArray) (maxL : Nat) (rt : Option FieldType) (ws : List Jvm.Cond) (rm : Room) (as' : Array Value) (h : Heap) (k n : Nat) (Q : Option Value → Heap → List Loc → Prop) : Prop :=
  MetFree l y (head1 (Jvm.Cond.code y bytes maxL rt :: ws) rm) (fun a U => a = as' ∧ Z.Warmed39 U.vm ∧ U.heap = h) (fun _ _ _ _ _ => True) (fun _ U o U' => ∃ v L, o = .returned v ∧ Q v U'.heap L ∧ FrameEnd U o U' L k n)
theorem Con.of {l : Launch} {Z : State} {y : MethodName} {bytes : ByteArray} {maxL : Nat} {rt : Option FieldType} {ws : List Jvm.Cond} {rm : Room} {as' : Array Value} {h : Heap} {k n : Nat} {Q : Option Value → Heap → List Loc → Prop} (hp : plainFor y = true)
    (body : ∀ (p : Program) (e : Env) (s : State) (m : MethodId) (below : List Frame) (meth : Method) (c : Code) (s₁ : State), p.tables.exec = Jvm.exec → c.code = bytes → c.maxLocals = maxL → s.vm.findClass y.cls = some m.cls → meth.name = y.name → meth.sig.returnType = rt → meth.locks = false → Z.Warmed39 s.vm →
      Stand p l e rm s m as' below meth c s₁ [] 0 0 → s₁.heap = h → Go p.tables e below (Done s Q k n) (s₁.setTop (entryFrame m as' maxL))) : Con l Z y bytes maxL rt ws rm as' h k n Q := by
  refine MetFree.of_bodySF hp hisR ?_
  intro p e s m args below meth c s₁ Bd hml0 hP hK
  obtain ⟨rfl, hZ, hh⟩ := hP
  exact body p e s m below meth c s₁ Bd.exec Bd.bytes hml0 (findClass_of_methodNamed Bd.named) (name_of_methodNamed Bd.named Bd.method).1 Bd.returns Bd.notSynchronized hZ (Stand.of_body Bd) (by rw [← hh, Bd.state]; rfl)
section Steps1
variable {p : Program} {l : Launch} {e : Env} {R : Room} {s : State} {m : MethodId} {args : Array Value} {below : List Frame} {meth : Method} {c : Code} {T : State} {locs : List Loc} {cells slots : Nat} {P : State → Outcome → Prop} {pc q : Nat} {L L' : Array Slot} {S : List Value}
theorem goE {args' : Array Value} {n : Nat} (hq : entryFrame m args' n = mkF m 0 L []) (K : Go p.tables e below P (T.setTop (mkF m 0 L []))) : Go p.tables e below P (T.setTop (entryFrame m args' n)) := go (fun _ k => castTop hq k) K
theorem gIloadN (X : Stand p l e R s m args below meth c T locs cells slots) (hx : p.tables.exec = Jvm.exec) {k : Fin 4} {v : Int32} (hd : decode c.code pc = .ok (.iload_n k, 1)) (hq : pc + 1 = q) (hl : L[k.val]? = some (.val (.int v))) (K : Go p.tables e below P (T.setTop (mkF m q L (.int v :: S)))) : Go p.tables e below P (T.setTop (mkF m pc L (S))) := by subst hq; exact go (fun t k => XS.iloadN X.here hx rfl hd hl k) K
theorem gIload (X : Stand p l e R s m args below meth c T locs cells slots) (hx : p.tables.exec = Jvm.exec) {k : Nat} {v : Int32} (hd : decode c.code pc = .ok (.iload k, 2)) (hq : pc + 2 = q) (hl : L[k]? = some (.val (.int v))) (K : Go p.tables e below P (T.setTop (mkF m q L (.int v :: S)))) : Go p.tables e below P (T.setTop (mkF m pc L (S))) := by subst hq; exact go (fun t k => XS.iload X.here hx rfl hd hl k) K
theorem gLloadN (X : Stand p l e R s m args below meth c T locs cells slots) (hx : p.tables.exec = Jvm.exec) {k : Fin 4} {v : Int64} (hd : decode c.code pc = .ok (.lload_n k, 1)) (hq : pc + 1 = q) (hl : L[k.val]? = some (.val (.long v))) (K : Go p.tables e below P (T.setTop (mkF m q L (.long v :: S)))) : Go p.tables e below P (T.setTop (mkF m pc L (S))) := by subst hq; exact go (fun t k => XT.lloadN X.here hx rfl hd hl k) K
theorem gLload (X : Stand p l e R s m args below meth c T locs cells slots) (hx : p.tables.exec = Jvm.exec) {k : Nat} {v : Int64} (hd : decode c.code pc = .ok (.lload k, 2)) (hq : pc + 2 = q) (hl : L[k]? = some (.val (.long v))) (K : Go p.tables e below P (T.setTop (mkF m q L (.long v :: S)))) : Go p.tables e below P (T.setTop (mkF m pc L (S))) := by subst hq; exact go (fun t k => XT.lload X.here hx rfl hd hl k) K
theorem gAloadN (X : Stand p l e R s m args below meth c T locs cells slots) (hx : p.tables.exec = Jvm.exec) {k : Fin 4} {v : Value} (hd : decode c.code pc = .ok (.aload_n k, 1)) (hq : pc + 1 = q) (hl : L[k.val]? = some (.val v)) (hv : v.isRef = true) (K : Go p.tables e below P (T.setTop (mkF m q L (v :: S)))) : Go p.tables e below P (T.setTop (mkF m pc L (S))) := by subst hq; exact go (fun t k => XS.aloadN X.here hx rfl hd hl hv k) K
theorem gAload (X : Stand p l e R s m args below meth c T locs cells slots) (hx : p.tables.exec = Jvm.exec) {k : Nat} {v : Value} (hd : decode c.code pc = .ok (.aload k, 2)) (hq : pc + 2 = q) (hl : L[k]? = some (.val v)) (hv : v.isRef = true) (K : Go p.tables e below P (T.setTop (mkF m q L (v :: S)))) : Go p.tables e below P (T.setTop (mkF m pc L (S))) := by subst hq; exact go (fun t k => XS.aload X.here hx rfl hd hl hv k) K
theorem gIconst (X : Stand p l e R s m args below meth c T locs cells slots) (hx : p.tables.exec = Jvm.exec) {i : Int} (v : Int32) (hd : decode c.code pc = .ok (.iconst i, 1)) (hq : pc + 1 = q) (hv : Int32.ofInt i = v) (K : Go p.tables e below P (T.setTop (mkF m q L (.int v :: S)))) : Go p.tables e below P (T.setTop (mkF m pc L (S))) := by subst hq; exact go (fun t k => XT.iconstV X.here hx rfl v hd hv k) K
theorem gBipush (X : Stand p l e R s m args below meth c T locs cells slots) (hx : p.tables.exec = Jvm.exec) {i : Int} (v : Int32) (hd : decode c.code pc = .ok (.bipush i, 2)) (hq : pc + 2 = q) (hv : (Int8.ofInt i).toInt32 = v) (K : Go p.tables e below P (T.setTop (mkF m q L (.int v :: S)))) : Go p.tables e below P (T.setTop (mkF m pc L (S))) := by subst hq; exact go (fun t k => XT.bipushV X.here hx rfl v hd hv k) K
theorem gSipush (X : Stand p l e R s m args below meth c T locs cells slots) (hx : p.tables.exec = Jvm.exec) {i : Int} (v : Int32) (hd : decode c.code pc = .ok (.sipush i, 3)) (hq : pc + 3 = q) (hv : (Int16.ofInt i).toInt32 = v) (K : Go p.tables e below P (T.setTop (mkF m q L (.int v :: S)))) : Go p.tables e below P (T.setTop (mkF m pc L (S))) := by subst hq; exact go (fun t k => XT.sipushV X.here hx rfl v hd hv k) K
theorem gLconst (X : Stand p l e R s m args below meth c T locs cells slots) (hx : p.tables.exec = Jvm.exec) {k : Fin 2} (v : Int64) (hd : decode c.code pc = .ok (.lconst k, 1)) (hq : pc + 1 = q) (hv : Int64.ofNat k = v) (K : Go p.tables e below P (T.setTop (mkF m q L (.long v :: S)))) : Go p.tables e below P (T.setTop (mkF m pc L (S))) := by subst hq; exact go (fun t k => XT.lconstV X.here hx rfl v hd hv k) K
theorem gNull (X : Stand p l e R s m args below meth c T locs cells slots) (hx : p.tables.exec = Jvm.exec)  (hd : decode c.code pc = .ok (.aconst_null, 1)) (hq : pc + 1 = q)  (K : Go p.tables e below P (T.setTop (mkF m q L (.null :: S)))) : Go p.tables e below P (T.setTop (mkF m pc L (S))) := by subst hq; exact go (fun t k => XS.aconstNull X.here hx rfl hd  k) K
theorem gLdc (X : Stand p l e R s m args below meth c T locs cells slots) (hx : p.tables.exec = Jvm.exec) {Z : State} {a0 : Array Value} (hZ : Z.Warmed39 s.vm) {own : String} {i : Nat} {v : Int32} (hown : s.vm.findClass own = some m.cls) (w : (Jvm.Cond.constant own i v).before a0 Z = true) (hd : decode c.code pc = .ok (.ldc i, 2)) (hq : pc + 2 = q) (K : Go p.tables e below P (T.setTop (mkF m q L (.int v :: S)))) : Go p.tables e below P (T.setTop (mkF m pc L (S))) := by subst hq; exact go (fun t k => Stand.ldcI X hx hown (mvT hZ w) rfl hd k) K
theorem gLdcW (X : Stand p l e R s m args below meth c T locs cells slots) (hx : p.tables.exec = Jvm.exec) {Z : State} {a0 : Array Value} (hZ : Z.Warmed39 s.vm) {own : String} {i : Nat} {v : Int32} (hown : s.vm.findClass own = some m.cls) (w : (Jvm.Cond.constant own i v).before a0 Z = true) (hd : decode c.code pc = .ok (.ldc_w i, 3)) (hq : pc + 3 = q) (K : Go p.tables e below P (T.setTop (mkF m q L (.int v :: S)))) : Go p.tables e below P (T.setTop (mkF m pc L (S))) := by subst hq; exact go (fun t k => Stand.ldcWI X hx hown (mvT hZ w) rfl hd k) K
theorem gLdc2 (X : Stand p l e R s m args below meth c T locs cells slots) (hx : p.tables.exec = Jvm.exec) {Z : State} {a0 : Array Value} (hZ : Z.Warmed39 s.vm) {own : String} {i : Nat} {v : Int64} (hown : s.vm.findClass own = some m.cls) (w : (Jvm.Cond.constantLong own i v).before a0 Z = true) (hd : decode c.code pc = .ok (.ldc2_w i, 3)) (hq : pc + 3 = q) (K : Go p.tables e below P (T.setTop (mkF m q L (.long v :: S)))) : Go p.tables e below P (T.setTop (mkF m pc L (S))) := by subst hq; exact go (fun t k => Stand.ldc2J X hx hown (mvT hZ w) rfl hd k) K
theorem gIadd (X : Stand p l e R s m args below meth c T locs cells slots) (hx : p.tables.exec = Jvm.exec) {x y : Int32} (hd : decode c.code pc = .ok (.iadd, 1)) (hq : pc + 1 = q)  (K : Go p.tables e below P (T.setTop (mkF m q L (.int (x + y) :: S)))) : Go p.tables e below P (T.setTop (mkF m pc L (.int y :: .int x :: S))) := by subst hq; exact go (fun t k => XS.iadd X.here hx rfl hd rfl  k) K
theorem gIsub (X : Stand p l e R s m args below meth c T locs cells slots) (hx : p.tables.exec = Jvm.exec) {x y : Int32} (hd : decode c.code pc = .ok (.isub, 1)) (hq : pc + 1 = q)  (K : Go p.tables e below P (T.setTop (mkF m q L (.int (x - y) :: S)))) : Go p.tables e below P (T.setTop (mkF m pc L (.int y :: .int x :: S))) := by subst hq; exact go (fun t k => XS.isub X.here hx rfl hd rfl  k) K
theorem gIand (X : Stand p l e R s m args below meth c T locs cells slots) (hx : p.tables.exec = Jvm.exec) {x y : Int32} (hd : decode c.code pc = .ok (.iand, 1)) (hq : pc + 1 = q)  (K : Go p.tables e below P (T.setTop (mkF m q L (.int (x &&& y) :: S)))) : Go p.tables e below P (T.setTop (mkF m pc L (.int y :: .int x :: S))) := by subst hq; exact go (fun t k => XS.iand X.here hx rfl hd rfl  k) K
theorem gImul (X : Stand p l e R s m args below meth c T locs cells slots) (hx : p.tables.exec = Jvm.exec) {x y : Int32} (hd : decode c.code pc = .ok (.imul, 1)) (hq : pc + 1 = q)  (K : Go p.tables e below P (T.setTop (mkF m q L (.int (x * y) :: S)))) : Go p.tables e below P (T.setTop (mkF m pc L (.int y :: .int x :: S))) := by subst hq; exact go (fun t k => XS.imul X.here hx rfl hd rfl  k) K
theorem gIxor (X : Stand p l e R s m args below meth c T locs cells slots) (hx : p.tables.exec = Jvm.exec) {x y : Int32} (hd : decode c.code pc = .ok (.ixor, 1)) (hq : pc + 1 = q)  (K : Go p.tables e below P (T.setTop (mkF m q L (.int (x ^^^ y) :: S)))) : Go p.tables e below P (T.setTop (mkF m pc L (.int y :: .int x :: S))) := by subst hq; exact go (fun t k => XT.ixor X.here hx rfl hd rfl  k) K
theorem gIor (X : Stand p l e R s m args below meth c T locs cells slots) (hx : p.tables.exec = Jvm.exec) {x y : Int32} (hd : decode c.code pc = .ok (.ior, 1)) (hq : pc + 1 = q)  (K : Go p.tables e below P (T.setTop (mkF m q L (.int (x ||| y) :: S)))) : Go p.tables e below P (T.setTop (mkF m pc L (.int y :: .int x :: S))) := by subst hq; exact go (fun t k => XT.ior X.here hx rfl hd rfl  k) K
theorem gIshl (X : Stand p l e R s m args below meth c T locs cells slots) (hx : p.tables.exec = Jvm.exec) {x y : Int32} (hd : decode c.code pc = .ok (.ishl, 1)) (hq : pc + 1 = q)  (K : Go p.tables e below P (T.setTop (mkF m q L (.int (x <<< (y &&& 31)) :: S)))) : Go p.tables e below P (T.setTop (mkF m pc L (.int y :: .int x :: S))) := by subst hq; exact go (fun t k => XT.ishl X.here hx rfl hd rfl  k) K
theorem gIshr (X : Stand p l e R s m args below meth c T locs cells slots) (hx : p.tables.exec = Jvm.exec) {x y : Int32} (hd : decode c.code pc = .ok (.ishr, 1)) (hq : pc + 1 = q)  (K : Go p.tables e below P (T.setTop (mkF m q L (.int (x >>> (y &&& 31)) :: S)))) : Go p.tables e below P (T.setTop (mkF m pc L (.int y :: .int x :: S))) := by subst hq; exact go (fun t k => XT.ishr X.here hx rfl hd rfl  k) K
theorem gIushr (X : Stand p l e R s m args below meth c T locs cells slots) (hx : p.tables.exec = Jvm.exec) {x y : Int32} (hd : decode c.code pc = .ok (.iushr, 1)) (hq : pc + 1 = q)  (K : Go p.tables e below P (T.setTop (mkF m q L (.int (XT.ushr x y) :: S)))) : Go p.tables e below P (T.setTop (mkF m pc L (.int y :: .int x :: S))) := by subst hq; exact go (fun t k => XT.iushr X.here hx rfl hd rfl  k) K
theorem gIdiv (X : Stand p l e R s m args below meth c T locs cells slots) (hx : p.tables.exec = Jvm.exec) {x y : Int32} (hd : decode c.code pc = .ok (.idiv, 1)) (hq : pc + 1 = q) (hy : y ≠ 0) (K : Go p.tables e below P (T.setTop (mkF m q L (.int (x / y) :: S)))) : Go p.tables e below P (T.setTop (mkF m pc L (.int y :: .int x :: S))) := by subst hq; exact go (fun t k => XS.idiv X.here hx rfl hd rfl hy k) K
theorem gIrem (X : Stand p l e R s m args below meth c T locs cells slots) (hx : p.tables.exec = Jvm.exec) {x y : Int32} (hd : decode c.code pc = .ok (.irem, 1)) (hq : pc + 1 = q) (hy : y ≠ 0) (K : Go p.tables e below P (T.setTop (mkF m q L (.int (x % y) :: S)))) : Go p.tables e below P (T.setTop (mkF m pc L (.int y :: .int x :: S))) := by subst hq; exact go (fun t k => iremM X hx rfl hd rfl hy k) K
theorem gIneg (X : Stand p l e R s m args below meth c T locs cells slots) (hx : p.tables.exec = Jvm.exec) {x : Int32} (hd : decode c.code pc = .ok (.ineg, 1)) (hq : pc + 1 = q)  (K : Go p.tables e below P (T.setTop (mkF m q L (.int (-x) :: S)))) : Go p.tables e below P (T.setTop (mkF m pc L (.int x :: S))) := by subst hq; exact go (fun t k => XS.ineg X.here hx rfl hd rfl  k) K
theorem gLadd (X : Stand p l e R s m args below meth c T locs cells slots) (hx : p.tables.exec = Jvm.exec) {x y : Int64} (hd : decode c.code pc = .ok (.ladd, 1)) (hq : pc + 1 = q)  (K : Go p.tables e below P (T.setTop (mkF m q L (.long (x + y) :: S)))) : Go p.tables e below P (T.setTop (mkF m pc L (.long y :: .long x :: S))) := by subst hq; exact go (fun t k => XT.ladd X.here hx rfl hd rfl  k) K
theorem gLsub (X : Stand p l e R s m args below meth c T locs cells slots) (hx : p.tables.exec = Jvm.exec) {x y : Int64} (hd : decode c.code pc = .ok (.lsub, 1)) (hq : pc + 1 = q)  (K : Go p.tables e below P (T.setTop (mkF m q L (.long (x - y) :: S)))) : Go p.tables e below P (T.setTop (mkF m pc L (.long y :: .long x :: S))) := by subst hq; exact go (fun t k => XT.lsub X.here hx rfl hd rfl  k) K
theorem gLmul (X : Stand p l e R s m args below meth c T locs cells slots) (hx : p.tables.exec = Jvm.exec) {x y : Int64} (hd : decode c.code pc = .ok (.lmul, 1)) (hq : pc + 1 = q)  (K : Go p.tables e below P (T.setTop (mkF m q L (.long (x * y) :: S)))) : Go p.tables e below P (T.setTop (mkF m pc L (.long y :: .long x :: S))) := by subst hq; exact go (fun t k => XT.lmul X.here hx rfl hd rfl  k) K
theorem gLand (X : Stand p l e R s m args below meth c T locs cells slots) (hx : p.tables.exec = Jvm.exec) {x y : Int64} (hd : decode c.code pc = .ok (.land, 1)) (hq : pc + 1 = q)  (K : Go p.tables e below P (T.setTop (mkF m q L (.long (x &&& y) :: S)))) : Go p.tables e below P (T.setTop (mkF m pc L (.long y :: .long x :: S))) := by subst hq; exact go (fun t k => XT.land X.here hx rfl hd rfl  k) K
theorem gLor (X : Stand p l e R s m args below meth c T locs cells slots) (hx : p.tables.exec = Jvm.exec) {x y : Int64} (hd : decode c.code pc = .ok (.lor, 1)) (hq : pc + 1 = q)  (K : Go p.tables e below P (T.setTop (mkF m q L (.long (x ||| y) :: S)))) : Go p.tables e below P (T.setTop (mkF m pc L (.long y :: .long x :: S))) := by subst hq; exact go (fun t k => XT.lor X.here hx rfl hd rfl  k) K
theorem gLxor (X : Stand p l e R s m args below meth c T locs cells slots) (hx : p.tables.exec = Jvm.exec) {x y : Int64} (hd : decode c.code pc = .ok (.lxor, 1)) (hq : pc + 1 = q)  (K : Go p.tables e below P (T.setTop (mkF m q L (.long (x ^^^ y) :: S)))) : Go p.tables e below P (T.setTop (mkF m pc L (.long y :: .long x :: S))) := by subst hq; exact go (fun t k => XT.lxor X.here hx rfl hd rfl  k) K
theorem gLcmp (X : Stand p l e R s m args below meth c T locs cells slots) (hx : p.tables.exec = Jvm.exec) {x y : Int64} (hd : decode c.code pc = .ok (.lcmp, 1)) (hq : pc + 1 = q)  (K : Go p.tables e below P (T.setTop (mkF m q L (.int (XT.cmpL x y) :: S)))) : Go p.tables e below P (T.setTop (mkF m pc L (.long y :: .long x :: S))) := by subst hq; exact go (fun t k => XT.lcmp X.here hx rfl hd rfl  k) K
theorem gLneg (X : Stand p l e R s m args below meth c T locs cells slots) (hx : p.tables.exec = Jvm.exec) {x : Int64} (hd : decode c.code pc = .ok (.lneg, 1)) (hq : pc + 1 = q)  (K : Go p.tables e below P (T.setTop (mkF m q L (.long (-x) :: S)))) : Go p.tables e below P (T.setTop (mkF m pc L (.long x :: S))) := by subst hq; exact go (fun t k => XT.lneg X.here hx rfl hd rfl  k) K
theorem gI2l (X : Stand p l e R s m args below meth c T locs cells slots) (hx : p.tables.exec = Jvm.exec) {x : Int32} (hd : decode c.code pc = .ok (.i2l, 1)) (hq : pc + 1 = q)  (K : Go p.tables e below P (T.setTop (mkF m q L (.long x.toInt64 :: S)))) : Go p.tables e below P (T.setTop (mkF m pc L (.int x :: S))) := by subst hq; exact go (fun t k => XT.i2l X.here hx rfl hd rfl  k) K
theorem gL2i (X : Stand p l e R s m args below meth c T locs cells slots) (hx : p.tables.exec = Jvm.exec) {x : Int64} (hd : decode c.code pc = .ok (.l2i, 1)) (hq : pc + 1 = q)  (K : Go p.tables e below P (T.setTop (mkF m q L (.int x.toInt32 :: S)))) : Go p.tables e below P (T.setTop (mkF m pc L (.long x :: S))) := by subst hq; exact go (fun t k => XT.l2i X.here hx rfl hd rfl  k) K
theorem gI2c (X : Stand p l e R s m args below meth c T locs cells slots) (hx : p.tables.exec = Jvm.exec) {x : Int32} (hd : decode c.code pc = .ok (.i2c, 1)) (hq : pc + 1 = q)  (K : Go p.tables e below P (T.setTop (mkF m q L (.int x.toUInt32.toUInt16.toUInt32.toInt32 :: S)))) : Go p.tables e below P (T.setTop (mkF m pc L (.int x :: S))) := by subst hq; exact go (fun t k => XT.i2c X.here hx rfl hd rfl  k) K
theorem gI2b (X : Stand p l e R s m args below meth c T locs cells slots) (hx : p.tables.exec = Jvm.exec) {x : Int32} (hd : decode c.code pc = .ok (.i2b, 1)) (hq : pc + 1 = q)  (K : Go p.tables e below P (T.setTop (mkF m q L (.int x.toInt8.toInt32 :: S)))) : Go p.tables e below P (T.setTop (mkF m pc L (.int x :: S))) := by subst hq; exact go (fun t k => XT.i2b X.here hx rfl hd rfl  k) K
theorem gLdiv (X : Stand p l e R s m args below meth c T locs cells slots) (hx : p.tables.exec = Jvm.exec) {x y : Int64} (hd : decode c.code pc = .ok (.ldiv, 1)) (hq : pc + 1 = q) (hy : y ≠ 0) (K : Go p.tables e below P (T.setTop (mkF m q L (.long (x / y) :: S)))) : Go p.tables e below P (T.setTop (mkF m pc L (.long y :: .long x :: S))) := by subst hq; exact go (fun t k => XT.ldiv X.here hx rfl hd rfl hy k) K
theorem gLshl (X : Stand p l e R s m args below meth c T locs cells slots) (hx : p.tables.exec = Jvm.exec) {x : Int64} {y : Int32} (hd : decode c.code pc = .ok (.lshl, 1)) (hq : pc + 1 = q)  (K : Go p.tables e below P (T.setTop (mkF m q L (.long (x <<< (y.toInt64 &&& 63)) :: S)))) : Go p.tables e below P (T.setTop (mkF m pc L (.int y :: .long x :: S))) := by subst hq; exact go (fun t k => XT.lshl X.here hx rfl hd rfl  k) K
theorem gLshr (X : Stand p l e R s m args below meth c T locs cells slots) (hx : p.tables.exec = Jvm.exec) {x : Int64} {y : Int32} (hd : decode c.code pc = .ok (.lshr, 1)) (hq : pc + 1 = q)  (K : Go p.tables e below P (T.setTop (mkF m q L (.long (x >>> (y.toInt64 &&& 63)) :: S)))) : Go p.tables e below P (T.setTop (mkF m pc L (.int y :: .long x :: S))) := by subst hq; exact go (fun t k => XT.lshr X.here hx rfl hd rfl  k) K
theorem gLushr (X : Stand p l e R s m args below meth c T locs cells slots) (hx : p.tables.exec = Jvm.exec) {x : Int64} {y : Int32} (hd : decode c.code pc = .ok (.lushr, 1)) (hq : pc + 1 = q)  (K : Go p.tables e below P (T.setTop (mkF m q L (.long (XT.ushrL x y) :: S)))) : Go p.tables e below P (T.setTop (mkF m pc L (.int y :: .long x :: S))) := by subst hq; exact go (fun t k => XT.lushr X.here hx rfl hd rfl  k) K
theorem gLrem (X : Stand p l e R s m args below meth c T locs cells slots) (hx : p.tables.exec = Jvm.exec) {x y : Int64} (hd : decode c.code pc = .ok (.lrem, 1)) (hq : pc + 1 = q) (hy : y ≠ 0) (K : Go p.tables e below P (T.setTop (mkF m q L (.long (x - (x / y) * y) :: S)))) : Go p.tables e below P (T.setTop (mkF m pc L (.long y :: .long x :: S))) := by subst hq; exact go (fun t k => XT.lrem X.here hx rfl hd rfl hy k) K
theorem gIstoreN (X : Stand p l e R s m args below meth c T locs cells slots) (hx : p.tables.exec = Jvm.exec) {k : Fin 4} {x : Int32} (hd : decode c.code pc = .ok (.istore_n k, 1)) (hq : pc + 1 = q) (hl : storeLocals L k.val (.int x) = some L') (K : Go p.tables e below P (T.setTop (mkF m q L' (S)))) : Go p.tables e below P (T.setTop (mkF m pc L (.int x :: S))) := by subst hq; exact go (fun t k => XS.istoreN X.here hx rfl hd rfl hl k) K
theorem gIstore (X : Stand p l e R s m args below meth c T locs cells slots) (hx : p.tables.exec = Jvm.exec) {k : Nat} {x : Int32} (hd : decode c.code pc = .ok (.istore k, 2)) (hq : pc + 2 = q) (hl : storeLocals L k (.int x) = some L') (K : Go p.tables e below P (T.setTop (mkF m q L' (S)))) : Go p.tables e below P (T.setTop (mkF m pc L (.int x :: S))) := by subst hq; exact go (fun t k => XS.istore X.here hx rfl hd rfl hl k) K
theorem gLstoreN (X : Stand p l e R s m args below meth c T locs cells slots) (hx : p.tables.exec = Jvm.exec) {k : Fin 4} {x : Int64} (hd : decode c.code pc = .ok (.lstore_n k, 1)) (hq : pc + 1 = q) (hl : storeLocals L k.val (.long x) = some L') (K : Go p.tables e below P (T.setTop (mkF m q L' (S)))) : Go p.tables e below P (T.setTop (mkF m pc L (.long x :: S))) := by subst hq; exact go (fun t k => XT.lstoreN X.here hx rfl hd rfl hl k) K
theorem gLstore (X : Stand p l e R s m args below meth c T locs cells slots) (hx : p.tables.exec = Jvm.exec) {k : Nat} {x : Int64} (hd : decode c.code pc = .ok (.lstore k, 2)) (hq : pc + 2 = q) (hl : storeLocals L k (.long x) = some L') (K : Go p.tables e below P (T.setTop (mkF m q L' (S)))) : Go p.tables e below P (T.setTop (mkF m pc L (.long x :: S))) := by subst hq; exact go (fun t k => XT.lstore X.here hx rfl hd rfl hl k) K
theorem gAstoreN (X : Stand p l e R s m args below meth c T locs cells slots) (hx : p.tables.exec = Jvm.exec) {k : Fin 4} {x : Value} (hd : decode c.code pc = .ok (.astore_n k, 1)) (hq : pc + 1 = q) (hv : x.isRef = true) (hl : storeLocals L k.val x = some L') (K : Go p.tables e below P (T.setTop (mkF m q L' (S)))) : Go p.tables e below P (T.setTop (mkF m pc L (x :: S))) := by subst hq; exact go (fun t k => XS.astoreN X.here hx rfl hd rfl hv hl k) K
theorem gAstore (X : Stand p l e R s m args below meth c T locs cells slots) (hx : p.tables.exec = Jvm.exec) {k : Nat} {x : Value} (hd : decode c.code pc = .ok (.astore k, 2)) (hq : pc + 2 = q) (hv : x.isRef = true) (hl : storeLocals L k x = some L') (K : Go p.tables e below P (T.setTop (mkF m q L' (S)))) : Go p.tables e below P (T.setTop (mkF m pc L (x :: S))) := by subst hq; exact go (fun t k => XS.astore X.here hx rfl hd rfl hv hl k) K
theorem gIinc (X : Stand p l e R s m args below meth c T locs cells slots) (hx : p.tables.exec = Jvm.exec) {k : Nat} {cst : Int} {x : Int32} (v : Int32) (hd : decode c.code pc = .ok (.iinc k cst, 3)) (hq : pc + 3 = q) (hv : Int32.ofInt cst = v) (hl : L[k]? = some (.val (.int x))) (hl' : storeLocals L k (.int (x + v)) = some L') (K : Go p.tables e below P (T.setTop (mkF m q L' (S)))) : Go p.tables e below P (T.setTop (mkF m pc L (S))) := by subst hq; exact go (fun t k => XT.iincV X.here hx rfl v hd hv hl hl' k) K
theorem gDup (X : Stand p l e R s m args below meth c T locs cells slots) (hx : p.tables.exec = Jvm.exec) {x : Value} (hd : decode c.code pc = .ok (.dup, 1)) (hq : pc + 1 = q) (hc : x.category = 1) (K : Go p.tables e below P (T.setTop (mkF m q L (x :: x :: S)))) : Go p.tables e below P (T.setTop (mkF m pc L (x :: S))) := by subst hq; exact go (fun t k => XS.dup X.here hx rfl hd rfl hc k) K
theorem gPop (X : Stand p l e R s m args below meth c T locs cells slots) (hx : p.tables.exec = Jvm.exec) {x : Value} (hd : decode c.code pc = .ok (.pop, 1)) (hq : pc + 1 = q) (hc : x.category = 1) (K : Go p.tables e below P (T.setTop (mkF m q L (S)))) : Go p.tables e below P (T.setTop (mkF m pc L (x :: S))) := by subst hq; exact go (fun t k => XT.pop X.here hx rfl hd rfl hc k) K
theorem gDupX1 (X : Stand p l e R s m args below meth c T locs cells slots) (hx : p.tables.exec = Jvm.exec) {x y : Value} (hd : decode c.code pc = .ok (.dup_x1, 1)) (hq : pc + 1 = q) (hc : x.category = 1) (hc' : y.category = 1) (K : Go p.tables e below P (T.setTop (mkF m q L (x :: y :: x :: S)))) : Go p.tables e below P (T.setTop (mkF m pc L (x :: y :: S))) := by subst hq; exact go (fun t k => XT.dupX1 X.here hx rfl hd rfl hc hc' k) K
theorem gDup2 (X : Stand p l e R s m args below meth c T locs cells slots) (hx : p.tables.exec = Jvm.exec) {x y : Value} (hd : decode c.code pc = .ok (.dup2, 1)) (hq : pc + 1 = q) (hc : x.category = 1) (hc' : y.category = 1) (K : Go p.tables e below P (T.setTop (mkF m q L (x :: y :: x :: y :: S)))) : Go p.tables e below P (T.setTop (mkF m pc L (x :: y :: S))) := by subst hq; exact go (fun t k => XT.dup2 X.here hx rfl hd rfl hc hc' k) K
theorem gDup2L (X : Stand p l e R s m args below meth c T locs cells slots) (hx : p.tables.exec = Jvm.exec) {x : Int64} (hd : decode c.code pc = .ok (.dup2, 1)) (hq : pc + 1 = q)  (K : Go p.tables e below P (T.setTop (mkF m q L (.long x :: .long x :: S)))) : Go p.tables e below P (T.setTop (mkF m pc L (.long x :: S))) := by subst hq; exact go (fun t k => XT.dup2L X.here hx rfl hd rfl  k) K
theorem gGoto (X : Stand p l e R s m args below meth c T locs cells slots) (hx : p.tables.exec = Jvm.exec) {o : Int} (hd : decode c.code pc = .ok (.goto o, 3)) (ho : 0 ≤ (pc : Int) + o) (hq : ((pc : Int) + o).toNat = q) (K : Go p.tables e below P (T.setTop (mkF m q L (S)))) : Go p.tables e below P (T.setTop (mkF m pc L (S))) := go (fun t k => XS.goto X.here hx rfl rfl hd ho hq k) K
theorem gIfY (X : Stand p l e R s m args below meth c T locs cells slots) (hx : p.tables.exec = Jvm.exec) {cd : ClassFile.Cond} {x : Int32} {o : Int} (hd : decode c.code pc = .ok (.ifCond cd o, 3)) (ho : 0 ≤ (pc : Int) + o) (hq : ((pc : Int) + o).toNat = q) (hc : ifCond.holds cd x = true) (K : Go p.tables e below P (T.setTop (mkF m q L (S)))) : Go p.tables e below P (T.setTop (mkF m pc L (.int x :: S))) := go (fun t k => XS.ifYes X.here hx rfl rfl hd rfl hc ho hq k) K
theorem gIfN (X : Stand p l e R s m args below meth c T locs cells slots) (hx : p.tables.exec = Jvm.exec) {cd : ClassFile.Cond} {x : Int32} {o : Int} (hd : decode c.code pc = .ok (.ifCond cd o, 3)) (hq : pc + 3 = q) (hc : ifCond.holds cd x = false) (K : Go p.tables e below P (T.setTop (mkF m q L (S)))) : Go p.tables e below P (T.setTop (mkF m pc L (.int x :: S))) := by subst hq; exact go (fun t k => XS.ifNo X.here hx rfl hd rfl hc k) K
theorem gIcmpY (X : Stand p l e R s m args below meth c T locs cells slots) (hx : p.tables.exec = Jvm.exec) {cd : ClassFile.Cond} {x y : Int32} {o : Int} (hd : decode c.code pc = .ok (.if_icmp cd o, 3)) (ho : 0 ≤ (pc : Int) + o) (hq : ((pc : Int) + o).toNat = q) (hc : if_icmp.holds cd x y = true) (K : Go p.tables e below P (T.setTop (mkF m q L (S)))) : Go p.tables e below P (T.setTop (mkF m pc L (.int y :: .int x :: S))) := go (fun t k => XS.icmpYes X.here hx rfl rfl hd rfl hc ho hq k) K
theorem gIcmpN (X : Stand p l e R s m args below meth c T locs cells slots) (hx : p.tables.exec = Jvm.exec) {cd : ClassFile.Cond} {x y : Int32} {o : Int} (hd : decode c.code pc = .ok (.if_icmp cd o, 3)) (hq : pc + 3 = q) (hc : if_icmp.holds cd x y = false) (K : Go p.tables e below P (T.setTop (mkF m q L (S)))) : Go p.tables e below P (T.setTop (mkF m pc L (.int y :: .int x :: S))) := by subst hq; exact go (fun t k => XS.icmpNo X.here hx rfl hd rfl hc k) K
theorem gAcmpY (X : Stand p l e R s m args below meth c T locs cells slots) (hx : p.tables.exec = Jvm.exec) {cd : ClassFile.ACond} {x y : Value} {o : Int} (hd : decode c.code pc = .ok (.if_acmp cd o, 3)) (ho : 0 ≤ (pc : Int) + o) (hq : ((pc : Int) + o).toNat = q) (h1 : x.isRef = true) (h2 : y.isRef = true) (hc : XT.acmp cd x y = true) (K : Go p.tables e below P (T.setTop (mkF m q L (S)))) : Go p.tables e below P (T.setTop (mkF m pc L (y :: x :: S))) := go (fun t k => XT.acmpYes X.here hx rfl rfl hd rfl h1 h2 hc ho hq k) K
theorem gAcmpN (X : Stand p l e R s m args below meth c T locs cells slots) (hx : p.tables.exec = Jvm.exec) {cd : ClassFile.ACond} {x y : Value} {o : Int} (hd : decode c.code pc = .ok (.if_acmp cd o, 3)) (hq : pc + 3 = q) (h1 : x.isRef = true) (h2 : y.isRef = true) (hc : XT.acmp cd x y = false) (K : Go p.tables e below P (T.setTop (mkF m q L (S)))) : Go p.tables e below P (T.setTop (mkF m pc L (y :: x :: S))) := by subst hq; exact go (fun t k => XT.acmpNo X.here hx rfl hd rfl h1 h2 hc k) K
theorem gNullY (X : Stand p l e R s m args below meth c T locs cells slots) (hx : p.tables.exec = Jvm.exec) {v : Value} {o : Int} (hd : decode c.code pc = .ok (.ifnull o, 3)) (ho : 0 ≤ (pc : Int) + o) (hq : ((pc : Int) + o).toNat = q) (hv : v = .null) (K : Go p.tables e below P (T.setTop (mkF m q L (S)))) : Go p.tables e below P (T.setTop (mkF m pc L (v :: S))) := go (fun t k => XT.nullYes X.here hx rfl rfl hd rfl hv ho hq k) K
theorem gNullN (X : Stand p l e R s m args below meth c T locs cells slots) (hx : p.tables.exec = Jvm.exec) {v : Value} {o : Int} (hd : decode c.code pc = .ok (.ifnull o, 3)) (hq : pc + 3 = q) (hr : v.isRef = true) (hv : ¬ v = .null) (K : Go p.tables e below P (T.setTop (mkF m q L (S)))) : Go p.tables e below P (T.setTop (mkF m pc L (v :: S))) := by subst hq; exact go (fun t k => XT.nullNo X.here hx rfl hd rfl hr hv k) K
theorem gNonY (X : Stand p l e R s m args below meth c T locs cells slots) (hx : p.tables.exec = Jvm.exec) {v : Value} {o : Int} (hd : decode c.code pc = .ok (.ifnonnull o, 3)) (ho : 0 ≤ (pc : Int) + o) (hq : ((pc : Int) + o).toNat = q) (hr : v.isRef = true) (hv : ¬ v = .null) (K : Go p.tables e below P (T.setTop (mkF m q L (S)))) : Go p.tables e below P (T.setTop (mkF m pc L (v :: S))) := go (fun t k => XT.nonnullYes X.here hx rfl rfl hd rfl hr hv ho hq k) K
theorem gNonN (X : Stand p l e R s m args below meth c T locs cells slots) (hx : p.tables.exec = Jvm.exec) {v : Value} {o : Int} (hd : decode c.code pc = .ok (.ifnonnull o, 3)) (hq : pc + 3 = q) (hv : v = .null) (K : Go p.tables e below P (T.setTop (mkF m q L (S)))) : Go p.tables e below P (T.setTop (mkF m pc L (v :: S))) := by subst hq; exact go (fun t k => XT.nonnullNo X.here hx rfl hd rfl hv k) K
theorem gRet (X : Stand p l e R s m args below meth c T locs cells slots) (hx : p.tables.exec = Jvm.exec) {Q : Option Value → Heap → List Loc → Prop} {k n : Nat} {w : Value} {t : FieldType} {i : Instr} (hlk : meth.locks = false) (hret : meth.sig.returnType = some t) (hn : narrow t w = w)
    (hi : (i = .ireturn ∧ (t = .int ∨ t = .boolean ∨ t = .byte ∨ t = .char ∨ t = .short) ∧ ∃ z, w = .int z) ∨ (i = .lreturn ∧ t = .long ∧ ∃ z, w = .long z) ∨ (i = .dreturn ∧ t = .double ∧ ∃ z, w = .double z) ∨ (i = .freturn ∧ t = .float ∧ ∃ z, w = .float z) ∨ (i = .areturn ∧ t.isReference = true ∧ w.isRef = true))
    (hd : decode c.code pc = .ok (i, 1)) (hk : cells ≤ k) (hs : slots ≤ n) (hQ : Q (some w) T.heap locs) : Go p.tables e below (Done s Q k n) (T.setTop (mkF m pc L (w :: S))) := by
  obtain ⟨fs, hr, hrun, hended, hW, hsame⟩ := X.leave (v := some w) (fun h => by rw [hret] at h; cases h) hlk
  exact ⟨_, _, retOut X hx hret hn hi hd hr, hrun, hended, _, _, rfl, hQ, ⟨_, rfl⟩, hW, hsame.mono hk hs⟩
theorem gRetI (X : Stand p l e R s m args below meth c T locs cells slots) (hx : p.tables.exec = Jvm.exec) {Q : Option Value → Heap → List Loc → Prop} {k n : Nat} {z : Int32} (hlk : meth.locks = false) (hret : meth.sig.returnType = some .int) (hd : decode c.code pc = .ok (.ireturn, 1)) (hk : cells ≤ k) (hs : slots ≤ n) (hQ : Q (some (.int z)) T.heap locs) : Go p.tables e below (Done s Q k n) (T.setTop (mkF m pc L (.int z :: S))) :=
  gRet X hx hlk hret rfl (Or.inl ⟨rfl, Or.inl rfl, _, rfl⟩) hd hk hs hQ
theorem gRetZ (X : Stand p l e R s m args below meth c T locs cells slots) (hx : p.tables.exec = Jvm.exec) {Q : Option Value → Heap → List Loc → Prop} {k n : Nat} {z : Int32} (hlk : meth.locks = false) (hret : meth.sig.returnType = some .boolean) (hd : decode c.code pc = .ok (.ireturn, 1)) (hk : cells ≤ k) (hs : slots ≤ n) (hz : z = 0 ∨ z = 1) (hQ : Q (some (.int z)) T.heap locs) : Go p.tables e below (Done s Q k n) (T.setTop (mkF m pc L (.int z :: S))) :=
  gRet X hx hlk hret (by rcases hz with rfl | rfl <;> rfl) (Or.inl ⟨rfl, Or.inr (Or.inl rfl), _, rfl⟩) hd hk hs hQ
theorem gRetJ (X : Stand p l e R s m args below meth c T locs cells slots) (hx : p.tables.exec = Jvm.exec) {Q : Option Value → Heap → List Loc → Prop} {k n : Nat} {z : Int64} (hlk : meth.locks = false) (hret : meth.sig.returnType = some .long) (hd : decode c.code pc = .ok (.lreturn, 1)) (hk : cells ≤ k) (hs : slots ≤ n) (hQ : Q (some (.long z)) T.heap locs) : Go p.tables e below (Done s Q k n) (T.setTop (mkF m pc L (.long z :: S))) :=
  gRet X hx hlk hret rfl (Or.inr (Or.inl ⟨rfl, rfl, _, rfl⟩)) hd hk hs hQ
theorem gRetA (X : Stand p l e R s m args below meth c T locs cells slots) (hx : p.tables.exec = Jvm.exec) {Q : Option Value → Heap → List Loc → Prop} {k n : Nat} {w : Value} {t : FieldType} (hlk : meth.locks = false) (hret : meth.sig.returnType = some t) (ht : t.isReference = true) (hw : w.isRef = true) (hd : decode c.code pc = .ok (.areturn, 1)) (hk : cells ≤ k) (hs : slots ≤ n) (hQ : Q (some w) T.heap locs) : Go p.tables e below (Done s Q k n) (T.setTop (mkF m pc L (w :: S))) :=
  gRet X hx hlk hret (by cases t <;> simp [FieldType.isReference] at ht <;> cases w <;> simp [Value.isRef] at hw <;> rfl) (Or.inr (Or.inr (Or.inr (Or.inr ⟨rfl, ht, hw⟩)))) hd hk hs hQ
theorem gRetV (X : Stand p l e R s m args below meth c T locs cells slots) (hx : p.tables.exec = Jvm.exec) {Q : Option Value → Heap → List Loc → Prop} {k n : Nat} (hlk : meth.locks = false) (hret : meth.sig.returnType = none) (hd : decode c.code pc = .ok (.return_, 1)) (hk : cells ≤ k) (hs : slots ≤ n) (hQ : Q none T.heap locs) : Go p.tables e below (Done s Q k n) (T.setTop (mkF m pc L [])) := by
  obtain ⟨fs, hr, hrun, hended, hW, hsame⟩ := X.leave (v := none) (fun _ => rfl) hlk
  exact ⟨_, _, X.returnOut hx hret hd hr, hrun, hended, _, _, rfl, hQ, ⟨_, rfl⟩, hW, hsame.mono hk hs⟩
end Steps1
section Steps2
variable {p : Program} {l : Launch} {e : Env} {R : Room} {s : State} {m : MethodId} {args : Array Value} {below : List Frame} {meth : Method} {c : Code} {T : State} {locs : List Loc} {cells slots : Nat} {P : State → Outcome → Prop} {pc q : Nat} {L L' : Array Slot} {S : List Value} {Z : State} {a0 : Array Value} {h : Heap}
theorem gGetF (X : Stand p l e R s m args below meth c T locs cells slots) (hx : p.tables.exec = Jvm.exec) (hZ : Z.Warmed39 s.vm) {own R0 O n d host : String} {i : Nat} (hown : s.vm.findClass own = some m.cls) (w : (Jvm.Cond.fieldLink own i R0 n d).before a0 Z = true ∨ (Jvm.Cond.fieldLinkNest own i R0 n d host).before a0 Z = true) (via : Via Z R0 O n d)
    (eT : T.heap = h) {a : Addr} {v : Value} (F : Fld Z h a O n d v) (hd : decode c.code pc = .ok (.getfield i, 3)) (hq : pc + 3 = q)
    (K : ∀ T', Stand p l e R s m args below meth c T' locs cells slots → T'.heap = h → Go p.tables e below P (T'.setTop (mkF m q L (v :: S)))) : Go p.tables e below P (T.setTop (mkF m pc L (.ref a :: S))) := by
  subst hq
  obtain ⟨T', X', e', st⟩ := getF X hx hZ hown w via eT F (g := mkF m pc L (.ref a :: S)) rfl rfl hd
  exact go st (K T' X' e')
theorem gGetS (X : Stand p l e R s m args below meth c T locs cells slots) (hx : p.tables.exec = Jvm.exec) (hZ : Z.Warmed39 s.vm) {own R0 O n d : String} {i : Nat} (hown : s.vm.findClass own = some m.cls) (w : (Jvm.Cond.fieldLink own i R0 n d).before a0 Z = true) (via : Via Z R0 O n d)
    (eT : T.heap = h) {v : Value} (F : Sta Z h O n d v) (hd : decode c.code pc = .ok (.getstatic i, 3)) (hq : pc + 3 = q)
    (K : ∀ T', Stand p l e R s m args below meth c T' locs cells slots → T'.heap = h → Go p.tables e below P (T'.setTop (mkF m q L (v :: S)))) : Go p.tables e below P (T.setTop (mkF m pc L S)) := by
  subst hq
  obtain ⟨T', X', e', st⟩ := getS X hx hZ (host := "") hown w via eT F (g := mkF m pc L S) rfl hd
  exact go st (K T' X' e')
theorem gPutF (X : Stand p l e R s m args below meth c T locs cells slots) (hx : p.tables.exec = Jvm.exec) (hZ : Z.Warmed39 s.vm) {own R0 O n d host C : String} {i kk : Nat} {ty : FieldType} (hown : s.vm.findClass own = some m.cls) (w : (Jvm.Cond.fieldLink own i R0 n d).before a0 Z = true ∨ (Jvm.Cond.fieldLinkNest own i R0 n d host).before a0 Z = true) (via : Via Z R0 O n d)
    (eT : T.heap = h) {a : Addr} {v old : Value} (F : Fld Z h a O n d old) (E : Exa Z h a C) (Ly : (Jvm.Cond.lays C O n d).before a0 Z = true ∨ ((Jvm.Cond.laysFinal C O n d).before a0 Z = true ∧ own = O ∧ meth.name = "<init>")) (wi : (Jvm.Cond.instantiable C kk).before a0 Z = true)
    (hty : parseFieldDescriptor d = some ty) (hn : narrow ty v = v) (hf : fits ty v = true) (hd : decode c.code pc = .ok (.putfield i, 3)) (hq : pc + 3 = q)
    (K : ∀ T' h', Stand p l e R s m args below meth c T' (locs ++ [⟨a, Jvm.RoadKit.slotOf Z O n d⟩]) cells slots → T'.heap = h' → Wr h h' a (Jvm.RoadKit.slotOf Z O n d) v → Go p.tables e below P (T'.setTop (mkF m q L S))) : Go p.tables e below P (T.setTop (mkF m pc L (v :: .ref a :: S))) := by
  subst hq
  obtain ⟨T', h', X', e', W', st⟩ := putF X hx hZ hown w via eT F E Ly wi hty hn hf (g := mkF m pc L (v :: .ref a :: S)) rfl rfl hd
  exact go st (K T' h' X' e' W')
theorem gNewO (X : Stand p l e R s m args below meth c T locs cells slots) (hx : p.tables.exec = Jvm.exec) (hZ : Z.Warmed39 s.vm) {own C : String} {i n : Nat} (hown : s.vm.findClass own = some m.cls) (w : (Jvm.Cond.classLink own i C).before a0 Z = true) (wi : (Jvm.Cond.instantiable C n).before a0 Z = true) (wz : (Jvm.Cond.initialized C).before a0 Z = true) (eT : T.heap = h)
    (hd : decode c.code pc = .ok (.new i, 3)) (hq : pc + 3 = q) (hc : cells + 1 ≤ R.cells) (hl : slots + n ≤ R.slots)
    (K : ∀ T' h' a, Stand p l e R s m args below meth c T' locs (cells + 1) (slots + n) → T'.heap = h' → a = h.size → Ext h h' → Exa Z h' a C → (∀ {O nm d : String} {ty : FieldType}, Laid Z a0 C O nm d → parseFieldDescriptor d = some ty → Fld Z h' a O nm d (defaultValue ty)) → Go p.tables e below P (T'.setTop (mkF m q L (.ref a :: S)))) : Go p.tables e below P (T.setTop (mkF m pc L S)) := by
  subst hq
  obtain ⟨T', h', X', e', E', A', D', -, st⟩ := newO X hx hZ hown w wi wz eT (g := mkF m pc L S) rfl hd hc hl
  exact go st (K T' h' _ X' e' rfl E' A' D')
theorem gInitO (X : Stand p l e R s m args below meth c T locs cells slots) (hx : p.tables.exec = Jvm.exec) (hZ : Z.Warmed39 s.vm) {own : String} {i : Nat} (hown : s.vm.findClass own = some m.cls) (w1 : (Jvm.Cond.methodLink own i Lib.objectInit).before a0 Z = true) (w2 : (Jvm.Cond.instanceMethod Lib.objectInit).before a0 Z = true) (w3 : (Jvm.Cond.code Lib.objectInit ⟨#[0xb1]⟩ 1 none).before a0 Z = true) (eT : T.heap = h)
    (hsize : L.size = c.maxLocals) {a : Addr} (hd : decode c.code pc = .ok (.invokespecial i, 3)) (hq : pc + 3 = q) (hf : 1 ≤ R.frames) {W : Nat} (hW : (S.map fun v => v.category).sum ≤ W) (hl : W + 12 ≤ R.locals)
    (K : ∀ T', Stand p l e R s m args below meth c T' locs cells slots → T'.heap = h → Go p.tables e below P (T'.setTop (mkF m q L S))) : Go p.tables e below P (T.setTop (mkF m pc L (.ref a :: S))) := by
  subst hq
  obtain ⟨T', X', e', st⟩ := initO X hx hZ hown w1 w2 w3 eT (g := mkF m pc L (.ref a :: S)) rfl hsize rfl hd hf (W := W) (by show 2 * 0 + _ ≤ _; rw [Nat.mul_zero, Nat.zero_add]; exact hW) hl
  exact go st (K T' X' e')
/-! calls by a contract -/
theorem gCallS (X : Stand p l e R s m args below meth c T locs cells slots) (hx : p.tables.exec = Jvm.exec) (hZ : Z.Warmed39 s.vm) {own : String} {i : Nat} {y : MethodName} {bytes : ByteArray} {maxL : Nat} {rt : Option FieldType} {rm : Room} {as' : Array Value} {Q : Option Value → Heap → List Loc → Prop} (hown : s.vm.findClass own = some m.cls)
    (w1 : (Jvm.Cond.methodLink own i y).before a0 Z = true) (w2 : (Jvm.Cond.static y).before a0 Z = true) (w3 : (Jvm.Cond.initialized y.cls).before a0 Z = true) (w4 : (Jvm.Cond.code y bytes maxL rt).before a0 Z = true) (hy : y.cls ≠ "java/lang/invoke/MethodHandle" ∧ y.cls ≠ "java/lang/invoke/VarHandle")
    (hM : Con l Z y bytes maxL rt [] rm as' h rm.cells rm.slots Q) {W : Nat} (hf : rm.frames + 1 ≤ R.frames) (hlo : W + (maxL + 11) + rm.locals ≤ R.locals) (eT : T.heap = h) (hsize : L.size = c.maxLocals)
    {S0 : List Value} (argsL : List Value) (hlen : ∀ sig, parseMethodDescriptor y.desc = some sig → argsL.length = sig.parameters.length) (has : argsL.toArray = as') (hst : S0 = argsL.reverse ++ S) (hW : (S.map fun v => v.category).sum ≤ W) (hd : decode c.code pc = .ok (.invokestatic i, 3)) (hq : pc + 3 = q)
    (hc : cells + rm.cells ≤ R.cells) (hs : slots + rm.slots ≤ R.slots)
    (K : ∀ v T' Lc, Stand p l e R s m args below meth c T' (locs ++ Lc) (cells + rm.cells) (slots + rm.slots) → Q v T'.heap Lc → Go p.tables e below P (T'.setTop (mkF m q L (v.toList ++ S)))) : Go p.tables e below P (T.setTop (mkF m pc L S0)) := by
  subst hq has hst
  obtain ⟨v, _, ⟨T', L1, k1, n1⟩, -, X', ⟨Lc, hQ, h1, h2, h3⟩, st⟩ := Jvm.LawKit.callS X hx hown (mvT hZ w1) (mvT hZ w2) (mvT hZ w3) (mvT hZ w4) hy (backOf (W := W) hM hZ w4 w3 hf hlo) (g := mkF m pc L (argsL.reverse ++ S)) rfl hsize (argsL := argsL) (rest := S) hlen rfl (by show 2 * 0 + _ ≤ _; rw [Nat.mul_zero, Nat.zero_add]; exact hW) hd (fun _ _ => ⟨rfl, eT, hc, hs⟩)
  dsimp only [Pt.U, Pt.locs, Pt.cells, Pt.slots] at X' h1 h2 h3 st hQ
  subst h1 h2 h3
  exact go st (K v T' Lc X' hQ)
theorem gCallSN (X : Stand p l e R s m args below meth c T locs cells slots) (hx : p.tables.exec = Jvm.exec) (hZ : Z.Warmed39 s.vm) {own host : String} {i : Nat} {y : MethodName} {bytes : ByteArray} {maxL : Nat} {rt : Option FieldType} {rm : Room} {as' : Array Value} {Q : Option Value → Heap → List Loc → Prop} (hown : s.vm.findClass own = some m.cls)
    (w1 : (Jvm.Cond.methodLinkNest own i y host).before a0 Z = true) (w2 : (Jvm.Cond.static y).before a0 Z = true) (w3 : (Jvm.Cond.initialized y.cls).before a0 Z = true) (w4 : (Jvm.Cond.code y bytes maxL rt).before a0 Z = true) (hy : y.cls ≠ "java/lang/invoke/MethodHandle" ∧ y.cls ≠ "java/lang/invoke/VarHandle")
    (hM : Con l Z y bytes maxL rt [] rm as' h rm.cells rm.slots Q) {W : Nat} (hf : rm.frames + 1 ≤ R.frames) (hlo : W + (maxL + 11) + rm.locals ≤ R.locals) (eT : T.heap = h) (hsize : L.size = c.maxLocals)
    {S0 : List Value} (argsL : List Value) (hlen : ∀ sig, parseMethodDescriptor y.desc = some sig → argsL.length = sig.parameters.length) (has : argsL.toArray = as') (hst : S0 = argsL.reverse ++ S) (hW : (S.map fun v => v.category).sum ≤ W) (hd : decode c.code pc = .ok (.invokestatic i, 3)) (hq : pc + 3 = q)
    (hc : cells + rm.cells ≤ R.cells) (hs : slots + rm.slots ≤ R.slots)
    (K : ∀ v T' Lc, Stand p l e R s m args below meth c T' (locs ++ Lc) (cells + rm.cells) (slots + rm.slots) → Q v T'.heap Lc → Go p.tables e below P (T'.setTop (mkF m q L (v.toList ++ S)))) : Go p.tables e below P (T.setTop (mkF m pc L S0)) := by
  subst hq has hst
  obtain ⟨v, _, ⟨T', L1, k1, n1⟩, -, X', ⟨Lc, hQ, h1, h2, h3⟩, st⟩ := callSN X hx hown (Cond.methodLinkNest_wide hZ w1 :) (mvT hZ w2) (mvT hZ w3) (mvT hZ w4) hy (backOf (W := W) hM hZ w4 w3 hf hlo) (g := mkF m pc L (argsL.reverse ++ S)) rfl hsize (argsL := argsL) (rest := S) hlen rfl (by show 2 * 0 + _ ≤ _; rw [Nat.mul_zero, Nat.zero_add]; exact hW) hd (fun _ _ => ⟨rfl, eT, hc, hs⟩)
  dsimp only [Pt.U, Pt.locs, Pt.cells, Pt.slots] at X' h1 h2 h3 st hQ
  subst h1 h2 h3
  exact goT st (K v T' Lc X' hQ)
theorem gCallN (X : Stand p l e R s m args below meth c T locs cells slots) (hx : p.tables.exec = Jvm.exec) (hZ : Z.Warmed39 s.vm) {own : String} {i : Nat} {y : MethodName} {bytes : ByteArray} {maxL : Nat} {rm : Room} {as' : Array Value} {Q : Option Value → Heap → List Loc → Prop} (hy1 : y.name = "<init>") (hown : s.vm.findClass own = some m.cls)
    (w1 : (Jvm.Cond.methodLink own i y).before a0 Z = true) (w2 : (Jvm.Cond.instanceMethod y).before a0 Z = true) (w3 : (Jvm.Cond.initialized y.cls).before a0 Z = true) (w4 : (Jvm.Cond.code y bytes maxL none).before a0 Z = true) (hy : y.cls ≠ "java/lang/invoke/MethodHandle" ∧ y.cls ≠ "java/lang/invoke/VarHandle")
    (hM : Con l Z y bytes maxL none [] rm as' h rm.cells rm.slots Q) {W : Nat} (hf : rm.frames + 1 ≤ R.frames) (hlo : W + (maxL + 11) + rm.locals ≤ R.locals) (eT : T.heap = h) (hsize : L.size = c.maxLocals)
    {S0 : List Value} {a : Addr} (argsL : List Value) (hlen : ∀ sig, parseMethodDescriptor y.desc = some sig → argsL.length = sig.parameters.length) (has : (.ref a :: argsL).toArray = as') (hst : S0 = argsL.reverse ++ .ref a :: S) (hW : (S.map fun v => v.category).sum ≤ W) (hd : decode c.code pc = .ok (.invokespecial i, 3)) (hq : pc + 3 = q)
    (hc : cells + rm.cells ≤ R.cells) (hs : slots + rm.slots ≤ R.slots)
    (K : ∀ v T' Lc, Stand p l e R s m args below meth c T' (locs ++ Lc) (cells + rm.cells) (slots + rm.slots) → Q v T'.heap Lc → Go p.tables e below P (T'.setTop (mkF m q L (v.toList ++ S)))) : Go p.tables e below P (T.setTop (mkF m pc L S0)) := by
  subst hq has hst
  obtain ⟨v, _, ⟨T', L1, k1, n1⟩, -, X', ⟨Lc, hQ, h1, h2, h3⟩, st⟩ := X.specialBack hx hy1 hown (mvT hZ w1) (mvT hZ w2) (mvT hZ w4) hy (backOf (W := W) hM hZ w4 w3 hf hlo) (g := mkF m pc L (argsL.reverse ++ .ref a :: S)) rfl hsize (Steps.refl _) (a := a) (argsL := argsL) (rest := S) hlen rfl (by show 2 * 0 + _ ≤ _; rw [Nat.mul_zero, Nat.zero_add]; exact hW) hd (fun _ _ => ⟨rfl, eT, hc, hs⟩)
  dsimp only [Pt.U, Pt.locs, Pt.cells, Pt.slots] at X' h1 h2 h3 st hQ
  subst h1 h2 h3
  exact goT st (K v T' Lc X' hQ)
theorem gCallV (X : Stand p l e R s m args below meth c T locs cells slots) (hx : p.tables.exec = Jvm.exec) (hZ : Z.Warmed39 s.vm) {own C : String} {i : Nat} {y z : MethodName} {bytes : ByteArray} {maxL : Nat} {rt : Option FieldType} {rm : Room} {as' : Array Value} {Q : Option Value → Heap → List Loc → Prop} (hown : s.vm.findClass own = some m.cls)
    (w1 : (Jvm.Cond.methodLink own i y).before a0 Z = true) (w2 : (Jvm.Cond.declares y).before a0 Z = true) (w5 : (Jvm.Cond.selects C y z).before a0 Z = true) (w6 : (Jvm.Cond.instanceMethod z).before a0 Z = true) (w3 : (Jvm.Cond.initialized z.cls).before a0 Z = true) (w4 : (Jvm.Cond.code z bytes maxL rt).before a0 Z = true) (hnf : NotFace s y) (hy : y.cls ≠ "java/lang/invoke/MethodHandle" ∧ y.cls ≠ "java/lang/invoke/VarHandle")
    (hM : Con l Z z bytes maxL rt [] rm as' h rm.cells rm.slots Q) {W : Nat} (hf : rm.frames + 1 ≤ R.frames) (hlo : W + (maxL + 11) + rm.locals ≤ R.locals) (eT : T.heap = h) (hsize : L.size = c.maxLocals)
    {S0 : List Value} {a : Addr} (E : Exa Z h a C) (argsL : List Value) (hlen : ∀ sig, parseMethodDescriptor y.desc = some sig → argsL.length = sig.parameters.length) (has : (.ref a :: argsL).toArray = as') (hst : S0 = argsL.reverse ++ .ref a :: S) (hW : (S.map fun v => v.category).sum ≤ W) (hd : decode c.code pc = .ok (.invokevirtual i, 3)) (hq : pc + 3 = q)
    (hc : cells + rm.cells ≤ R.cells) (hs : slots + rm.slots ≤ R.slots)
    (K : ∀ v T' Lc, Stand p l e R s m args below meth c T' (locs ++ Lc) (cells + rm.cells) (slots + rm.slots) → Q v T'.heap Lc → Go p.tables e below P (T'.setTop (mkF m q L (v.toList ++ S)))) : Go p.tables e below P (T.setTop (mkF m pc L S0)) := by
  subst hq has hst
  obtain ⟨cq, kq, q1, q2, q3⟩ := isOf hZ eT E
  obtain ⟨v, _, ⟨T', L1, k1, n1⟩, -, X', ⟨Lc, hQ, h1, h2, h3⟩, st⟩ := X.virtualBack hx hown (mvT hZ w1) (mvT hZ w2) hnf (mvT hZ w5) (mvT hZ w6) hy (backOf (W := W) hM hZ w4 w3 hf hlo) q1 q3 (g := mkF m pc L (argsL.reverse ++ .ref a :: S)) rfl hsize (Steps.refl _) (argsL := argsL) (rest := S) hlen rfl (by show 2 * 0 + _ ≤ _; rw [Nat.mul_zero, Nat.zero_add]; exact hW) hd (fun _ _ => ⟨rfl, eT, hc, hs⟩)
  dsimp only [Pt.U, Pt.locs, Pt.cells, Pt.slots] at X' h1 h2 h3 st hQ
  subst h1 h2 h3
  exact goT st (K v T' Lc X' hQ)
end Steps2
end Jvm.OwnKit
namespace Jvm.OwnKit
open Sem ClassFile Op Lib Jvm.Stand Jvm.Free Jvm.LawKit Jvm.RoadKit
theorem own_fldI {args : Array Value} {Z : State} {t : Term} {C n d : String} {x : Addr} {k : Int32} (ev : t.eval args Z none [] Z = some (.ref x)) (h : (Jvm.Cond.eq (Term.field t C n d) (Term.int k)).value args Z none Z [] = some true) : Fld Z Z.heap x C n d (.int k) := by
  obtain ⟨u, w, h1, h2, h3, h4⟩ := cmp_v (Or.inl h)
  obtain rfl : w = .int k := Option.some.inj (h2.symm.trans (Term.int_eval k))
  obtain ⟨z, rfl⟩ := h4
  have hz : z = k := gotT (Cond.eq_ints h1 h2) h
  subst hz
  exact Fld.start ((fld_at ev).symm.trans h1)
end Jvm.OwnKit
namespace Jvm.OwnKit
open Sem ClassFile Op Lib Jvm.Stand Jvm.Free Jvm.LawKit Jvm.RoadKit
/-- the array at a: its class, its element type, its values -/
def Ary (Z : State) (h : Heap) (a : Addr) (k : ClassId) (ty : FieldType) (vs : List Value) : Prop := ∃ c : Cell, Arr Z h a c ty ∧ c.cls = k ∧ c.slots.toList = vs
section Ary
variable {Z : State} {h h' : Heap} {a b : Addr} {k : ClassId} {ty : FieldType} {vs : List Value} {sl : Nat} {v : Value} {ws : List Addr}
theorem Ary.ext (E : Ext h h') (F : Ary Z h a k ty vs) : Ary Z h' a k ty vs := by obtain ⟨c, A, r⟩ := F; exact ⟨c, A.ext E, r⟩
theorem Ary.other (W : Wr h h' a sl v) (F : Ary Z h b k ty vs) (q : b ≠ a) : Ary Z h' b k ty vs := by obtain ⟨c, A, r⟩ := F; exact ⟨c, A.other W q, r⟩
theorem Ary.keep (F : Ary Z h a k ty vs) (K : Keep h h' ws) (q : a ∉ ws) : Ary Z h' a k ty vs := by obtain ⟨c, A, r⟩ := F; exact ⟨c, ⟨K.2.1 a c A.1 q, A.2⟩, r⟩
theorem Ary.lt (F : Ary Z h a k ty vs) : a < h.size := by obtain ⟨c, A, -⟩ := F; exact A.lt
theorem Ary.same (W : Wr h h' a sl v) (F : Ary Z h a k ty vs) : Ary Z h' a k ty (vs.set sl v) := by
  obtain ⟨c, A, r1, r2⟩ := F
  exact ⟨_, A.same W, r1, by subst r2; simp [Cell.setSlot]⟩
theorem Ary.new {n : Int32} (A : Arr Z h a (newA k ty n) ty) : Ary Z h a k ty (List.replicate n.toNatClampNeg (defaultValue ty)) := ⟨_, A, rfl, by simp [newA]⟩
theorem Ary.ne_exa {a0 : Array Value} {C : String} {n : Nat} (F : Ary Z h a k ty vs) (E : Exa Z h b C) (wi : (Jvm.Cond.instantiable C n).before a0 Z = true) : a ≠ b := by obtain ⟨c, A, -⟩ := F; exact (ne_arr E wi A).symm
end Ary
section Steps3
variable {p : Program} {l : Launch} {e : Env} {R : Room} {s : State} {m : MethodId} {args : Array Value} {below : List Frame} {meth : Method} {c : Code} {T : State} {locs : List Loc} {cells slots : Nat} {P : State → Outcome → Prop} {pc q : Nat} {L L' : Array Slot} {S : List Value} {Z : State} {a0 : Array Value} {h : Heap} {a : Addr} {k : ClassId} {vs : List Value}
theorem gIaload (X : Stand p l e R s m args below meth c T locs cells slots) (hx : p.tables.exec = Jvm.exec) (hZ : Z.Warmed39 s.vm) (eT : T.heap = h) (A : Ary Z h a k .int vs) {j : Int32} {v : Value} (hd : decode c.code pc = .ok (.iaload, 1)) (hq : pc + 1 = q) (hj : ¬ (j < 0 ∨ vs.length ≤ j.toNatClampNeg)) (hv : vs[j.toNatClampNeg]? = some v) (K : Go p.tables e below P (T.setTop (mkF m q L (v :: S)))) : Go p.tables e below P (T.setTop (mkF m pc L (.int j :: .ref a :: S))) := by
  subst hq eT
  obtain ⟨cl, A, -, rfl⟩ := A
  exact go (fun t k => X.iaload hx (j := j) (v := v) A.1 (State.isArrayOf_alike hZ.alike A.2.1) A.2.2 (by simpa using hj) (by simpa using hv) (g := mkF m pc L (.int j :: .ref a :: S)) rfl rfl hd _ k) K
theorem gLaload (X : Stand p l e R s m args below meth c T locs cells slots) (hx : p.tables.exec = Jvm.exec) (hZ : Z.Warmed39 s.vm) (eT : T.heap = h) (A : Ary Z h a k .long vs) {j : Int32} {v : Value} (hd : decode c.code pc = .ok (.laload, 1)) (hq : pc + 1 = q) (hj : ¬ (j < 0 ∨ vs.length ≤ j.toNatClampNeg)) (hv : vs[j.toNatClampNeg]? = some v) (K : Go p.tables e below P (T.setTop (mkF m q L (v :: S)))) : Go p.tables e below P (T.setTop (mkF m pc L (.int j :: .ref a :: S))) := by
  subst hq eT
  obtain ⟨cl, A, -, rfl⟩ := A
  exact go (fun t k => X.laload hx (j := j) (v := v) A.1 (State.isArrayOf_alike hZ.alike A.2.1) A.2.2 (by simpa using hj) (by simpa using hv) (g := mkF m pc L (.int j :: .ref a :: S)) rfl rfl hd _ k) K
theorem gCaload (X : Stand p l e R s m args below meth c T locs cells slots) (hx : p.tables.exec = Jvm.exec) (hZ : Z.Warmed39 s.vm) (eT : T.heap = h) (A : Ary Z h a k .char vs) {j : Int32} {v : Value} (hd : decode c.code pc = .ok (.caload, 1)) (hq : pc + 1 = q) (hj : ¬ (j < 0 ∨ vs.length ≤ j.toNatClampNeg)) (hv : vs[j.toNatClampNeg]? = some v) (K : Go p.tables e below P (T.setTop (mkF m q L (v :: S)))) : Go p.tables e below P (T.setTop (mkF m pc L (.int j :: .ref a :: S))) := by
  subst hq eT
  obtain ⟨cl, A, -, rfl⟩ := A
  exact go (fun t k => X.caload hx (j := j) (v := v) A.1 (State.isArrayOf_alike hZ.alike A.2.1) A.2.2 (by simpa using hj) (by simpa using hv) (g := mkF m pc L (.int j :: .ref a :: S)) rfl rfl hd _ k) K
theorem gAaload (X : Stand p l e R s m args below meth c T locs cells slots) (hx : p.tables.exec = Jvm.exec) (hZ : Z.Warmed39 s.vm) (eT : T.heap = h) {ty : FieldType} (A : Ary Z h a k ty vs) (ht : ty.isReference = true) {j : Int32} {v : Value} (hd : decode c.code pc = .ok (.aaload, 1)) (hq : pc + 1 = q) (hj : ¬ (j < 0 ∨ vs.length ≤ j.toNatClampNeg)) (hv : vs[j.toNatClampNeg]? = some v) (K : Go p.tables e below P (T.setTop (mkF m q L (v :: S)))) : Go p.tables e below P (T.setTop (mkF m pc L (.int j :: .ref a :: S))) := by
  subst hq eT
  obtain ⟨cl, A, -, rfl⟩ := A
  exact go (fun t k => X.aaload hx (j := j) (v := v) A.1 (State.isArrayOf_alike hZ.alike A.2.1) ht A.2.2 (by simpa using hj) (by simpa using hv) (g := mkF m pc L (.int j :: .ref a :: S)) rfl rfl hd _ k) K
theorem gLen (X : Stand p l e R s m args below meth c T locs cells slots) (hx : p.tables.exec = Jvm.exec) (hZ : Z.Warmed39 s.vm) (eT : T.heap = h) {ty : FieldType} (A : Ary Z h a k ty vs) {n : Int32} (hn : vs.length.toInt32 = n) (hd : decode c.code pc = .ok (.arraylength, 1)) (hq : pc + 1 = q) (K : Go p.tables e below P (T.setTop (mkF m q L (.int n :: S)))) : Go p.tables e below P (T.setTop (mkF m pc L (.ref a :: S))) := by
  subst hq eT hn
  obtain ⟨cl, A, -, rfl⟩ := A
  exact go (fun t k => X.arraylength hx A.1 (State.isArrayOf_alike hZ.alike A.2.1) (g := mkF m pc L (.ref a :: S)) rfl rfl hd _ (by simpa using k)) K
theorem gIastore (X : Stand p l e R s m args below meth c T locs cells slots) (hx : p.tables.exec = Jvm.exec) (hZ : Z.Warmed39 s.vm) (eT : T.heap = h) (A : Ary Z h a k .int vs) {j : Int32} {x : Int32} (hd : decode c.code pc = .ok (.iastore, 1)) (hq : pc + 1 = q) (hj : ¬ (j < 0 ∨ vs.length ≤ j.toNatClampNeg))
    (K : ∀ T' h', Stand p l e R s m args below meth c T' (locs ++ [⟨a, j.toNatClampNeg⟩]) cells slots → T'.heap = h' → Wr h h' a j.toNatClampNeg (.int x) → Ary Z h' a k .int (vs.set j.toNatClampNeg (.int x)) → Go p.tables e below P (T'.setTop (mkF m q L (S)))) : Go p.tables e below P (T.setTop (mkF m pc L (.int x :: .int j :: .ref a :: S))) := by
  subst hq
  have A' := A
  obtain ⟨cl, Ac, r1, r2⟩ := A'
  obtain ⟨T', h', X', e', W', st⟩ := stI X hx hZ eT Ac (j := j) (x := x) (by subst r2; simpa using hj) (g := mkF m pc L (.int x :: .int j :: .ref a :: S)) rfl rfl hd
  exact go st (K T' h' X' e' W' (Ary.same W' A))
theorem gLastore (X : Stand p l e R s m args below meth c T locs cells slots) (hx : p.tables.exec = Jvm.exec) (hZ : Z.Warmed39 s.vm) (eT : T.heap = h) (A : Ary Z h a k .long vs) {j : Int32} {x : Int64} (hd : decode c.code pc = .ok (.lastore, 1)) (hq : pc + 1 = q) (hj : ¬ (j < 0 ∨ vs.length ≤ j.toNatClampNeg))
    (K : ∀ T' h', Stand p l e R s m args below meth c T' (locs ++ [⟨a, j.toNatClampNeg⟩]) cells slots → T'.heap = h' → Wr h h' a j.toNatClampNeg (.long x) → Ary Z h' a k .long (vs.set j.toNatClampNeg (.long x)) → Go p.tables e below P (T'.setTop (mkF m q L (S)))) : Go p.tables e below P (T.setTop (mkF m pc L (.long x :: .int j :: .ref a :: S))) := by
  subst hq
  have A' := A
  obtain ⟨cl, Ac, r1, r2⟩ := A'
  obtain ⟨T', h', X', e', W', st⟩ := stJ X hx hZ eT Ac (j := j) (x := x) (by subst r2; simpa using hj) (g := mkF m pc L (.long x :: .int j :: .ref a :: S)) rfl rfl hd
  exact go st (K T' h' X' e' W' (Ary.same W' A))
theorem gCastore (X : Stand p l e R s m args below meth c T locs cells slots) (hx : p.tables.exec = Jvm.exec) (hZ : Z.Warmed39 s.vm) (eT : T.heap = h) (A : Ary Z h a k .char vs) {j x : Int32} (hd : decode c.code pc = .ok (.castore, 1)) (hq : pc + 1 = q) (hj : ¬ (j < 0 ∨ vs.length ≤ j.toNatClampNeg))
    (K : ∀ T' h', Stand p l e R s m args below meth c T' (locs ++ [⟨a, j.toNatClampNeg⟩]) cells slots → T'.heap = h' → Wr h h' a j.toNatClampNeg (.int (nar .char x)) → Ary Z h' a k .char (vs.set j.toNatClampNeg (.int (nar .char x))) → Go p.tables e below P (T'.setTop (mkF m q L (S)))) : Go p.tables e below P (T.setTop (mkF m pc L (.int x :: .int j :: .ref a :: S))) := by
  subst hq
  have A' := A
  obtain ⟨cl, Ac, r1, r2⟩ := A'
  obtain ⟨T', h', X', e', W', st⟩ := stC X hx hZ eT Ac (j := j) (x := x) (by subst r2; simpa using hj) (g := mkF m pc L (.int x :: .int j :: .ref a :: S)) rfl rfl hd
  exact go st (K T' h' X' e' W' (Ary.same W' A))
theorem gAastore (X : Stand p l e R s m args below meth c T locs cells slots) (hx : p.tables.exec = Jvm.exec) (hZ : Z.Warmed39 s.vm) (eT : T.heap = h) {ty : FieldType} (A : Ary Z h a k ty vs) (ht : ty.isReference = true) {j : Int32} {v : Value} (F : Sto Z h a v) (hd : decode c.code pc = .ok (.aastore, 1)) (hq : pc + 1 = q) (hj : ¬ (j < 0 ∨ vs.length ≤ j.toNatClampNeg))
    (K : ∀ T' h', Stand p l e R s m args below meth c T' (locs ++ [⟨a, j.toNatClampNeg⟩]) cells slots → T'.heap = h' → Wr h h' a j.toNatClampNeg v → Ary Z h' a k ty (vs.set j.toNatClampNeg v) → Go p.tables e below P (T'.setTop (mkF m q L (S)))) : Go p.tables e below P (T.setTop (mkF m pc L (v :: .int j :: .ref a :: S))) := by
  subst hq
  have A' := A
  obtain ⟨cl, Ac, r1, r2⟩ := A'
  obtain ⟨T', h', X', e', W', st⟩ := stR X hx hZ eT Ac (j := j) (by subst r2; simpa using hj) ht F (g := mkF m pc L (v :: .int j :: .ref a :: S)) rfl rfl hd
  exact go st (K T' h' X' e' W' (Ary.same W' A))
theorem Sto.ofA {Z : State} {h : Heap} {a y : Addr} {k : ClassId} {ty : FieldType} {vs : List Value} {C : String} (A : Ary Z h a k ty vs) (O : Ovr Z k C) (I : Ins Z h y C true) : Sto Z h a (.ref y) := by obtain ⟨c, Ac, r, -⟩ := A; exact Sto.ofV Ac r O I
theorem gNewP (X : Stand p l e R s m args below meth c T locs cells slots) (hx : p.tables.exec = Jvm.exec) (hZ : Z.Warmed39 s.vm) {aty : ArrayType} (w : (Jvm.Cond.arrayClass (newarray.typeOf aty)).before a0 Z = true) (eT : T.heap = h) (hd : decode c.code pc = .ok (.newarray aty, 2)) (hq : pc + 2 = q) {n : Int32} (hn : ¬ n < 0) {cap : Nat} (hcap : n.toNatClampNeg ≤ cap) (hb : cap * 8 ≤ 536870912) (hc : cells + 1 ≤ R.cells) (hl : slots + cap ≤ R.slots)
    (K : ∀ T' h' a cA, Stand p l e R s m args below meth c T' locs (cells + 1) (slots + cap) → T'.heap = h' → a = h.size → Ext h h' → Ary Z h' a cA (newarray.typeOf aty) (List.replicate n.toNatClampNeg (defaultValue (newarray.typeOf aty))) → Go p.tables e below P (T'.setTop (mkF m q L (.ref a :: S)))) : Go p.tables e below P (T.setTop (mkF m pc L (.int n :: S))) := by
  subst hq
  obtain ⟨T', h', cA, X', e', E', A', st⟩ := newP X hx hZ w eT (g := mkF m pc L (.int n :: S)) rfl hd rfl hn hcap hb hc hl
  exact go st (K T' h' _ cA X' e' rfl E' (Ary.new A'))
theorem gNewR (X : Stand p l e R s m args below meth c T locs cells slots) (hx : p.tables.exec = Jvm.exec) (hZ : Z.Warmed39 s.vm) {own C : String} {i : Nat} (hown : s.vm.findClass own = some m.cls) (w1 : (Jvm.Cond.classLink own i C).before a0 Z = true) (w2 : (Jvm.Cond.arrayOver (.object C)).before a0 Z = true) (eT : T.heap = h) (hd : decode c.code pc = .ok (.anewarray i, 3)) (hq : pc + 3 = q) {n : Int32} (hn : ¬ n < 0) {cap : Nat} (hcap : n.toNatClampNeg ≤ cap) (hb : cap * 8 ≤ 536870912) (hc : cells + 1 ≤ R.cells) (hl : slots + cap ≤ R.slots)
    (K : ∀ T' h' a cA, Stand p l e R s m args below meth c T' locs (cells + 1) (slots + cap) → T'.heap = h' → a = h.size → Ext h h' → Ary Z h' a cA (.object C) (List.replicate n.toNatClampNeg .null) → Ovr Z cA C → Go p.tables e below P (T'.setTop (mkF m q L (.ref a :: S)))) : Go p.tables e below P (T.setTop (mkF m pc L (.int n :: S))) := by
  subst hq
  obtain ⟨T', h', cA, X', e', E', A', O', st⟩ := newR X hx hZ hown w1 w2 eT (g := mkF m pc L (.int n :: S)) rfl hd rfl hn hcap hb hc hl
  exact go st (K T' h' _ cA X' e' rfl E' (Ary.new A') O')
end Steps3
end Jvm.OwnKit
namespace Jvm.OwnKit
open Sem ClassFile Op Lib Jvm.Stand Jvm.Free Jvm.LawKit Jvm.RoadKit
theorem own_inst {Z : State} {a0 : Array Value} {K : String} {n : Nat} (w : (Jvm.Cond.instantiable K n).before a0 Z = true) : ∃ t k, Z.vm.findClass K = some t ∧ Z.vm.classes[t]? = some k ∧ k.kind = .ordinary ∧ k.isInterface = false := by
  obtain ⟨t, k, h1, h2, h3, h4, -⟩ := Cond.instantiable_spec w
  exact ⟨t, k, h1, h2, h3, by simp only [Bool.or_eq_false_iff] at h4; exact h4.1⟩
theorem own_nsRoot {Z : State} {a0 : Array Value} {O K : String} {n : Nat} (w : (Jvm.Cond.noSuperclass O).before a0 Z = true) (wk : (Jvm.Cond.instantiable K n).before a0 Z = true) (hn : O ≠ K) : NS Z O K := by
  obtain ⟨c, k, h1, h2, h3, -, -⟩ := Cond.noSuperclass_spec w
  obtain ⟨t, k', g1, -⟩ := own_inst wk
  have ne := ids_ne h1 g1 hn
  refine ⟨c, t, h1, g1, fun fuel => ?_⟩
  cases fuel with
  | zero => rfl
  | succ f => simp [Vm.isSubclassAux, ne, h2, h3]
theorem own_nsNo {Z : State} {a0 : Array Value} {C S K : String} {n : Nat} (w : (Jvm.Cond.superclass C S).before a0 Z = true) (wk : (Jvm.Cond.instantiable K n).before a0 Z = true) (m : NS Z C K) (hn : C ≠ K) : ∃ c t, Z.vm.findClass C = some c ∧ Z.vm.findClass K = some t ∧ Z.vm.assignable c t = false := by
  obtain ⟨c, t, h0, g0, n3⟩ := m
  obtain ⟨p, k, kp, h1, h2, h3, h4, h5, -, h7⟩ := Cond.superclass_spec h0 w
  obtain ⟨t', k', g1, g2, g3, g4⟩ := own_inst wk
  cases g0.symm.trans g1
  have ne := ids_ne h0 g0 hn
  refine ⟨c, t, h0, g0, ?_⟩
  show Z.vm.assignableAux (255 + 1) c t = false
  simp [Vm.assignableAux, ne, h2, g2, h5, g3, g4, Vm.isSubclass, n3]
section Steps4
variable {p : Program} {l : Launch} {e : Env} {R : Room} {s : State} {m : MethodId} {args : Array Value} {below : List Frame} {meth : Method} {c : Code} {T : State} {locs : List Loc} {cells slots : Nat} {P : State → Outcome → Prop} {pc q : Nat} {L L' : Array Slot} {S : List Value} {Z : State} {a0 : Array Value} {h : Heap} {a : Addr}
theorem gInstY (X : Stand p l e R s m args below meth c T locs cells slots) (hx : p.tables.exec = Jvm.exec) (hZ : Z.Warmed39 s.vm) {own K : String} {i : Nat} (hown : s.vm.findClass own = some m.cls) (w : (Jvm.Cond.classLink own i K).before a0 Z = true) (eT : T.heap = h) (F : Ins Z h a K true) (hd : decode c.code pc = .ok (.instanceof i, 3)) (hq : pc + 3 = q)
    (K1 : ∀ T', Stand p l e R s m args below meth c T' locs cells slots → T'.heap = h → Go p.tables e below P (T'.setTop (mkF m q L (.int 1 :: S)))) : Go p.tables e below P (T.setTop (mkF m pc L (.ref a :: S))) := by
  subst hq
  obtain ⟨T', X', e', st⟩ := instY X hx hZ hown w eT F (g := mkF m pc L (.ref a :: S)) rfl rfl hd
  exact go st (K1 T' X' e')
theorem gInstNo (X : Stand p l e R s m args below meth c T locs cells slots) (hx : p.tables.exec = Jvm.exec) (hZ : Z.Warmed39 s.vm) {own K C : String} {i : Nat} (hown : s.vm.findClass own = some m.cls) (w : (Jvm.Cond.classLink own i K).before a0 Z = true) (eT : T.heap = h) (E : Exa Z h a C) (F : ∃ c t, Z.vm.findClass C = some c ∧ Z.vm.findClass K = some t ∧ Z.vm.assignable c t = false) (hd : decode c.code pc = .ok (.instanceof i, 3)) (hq : pc + 3 = q)
    (K1 : ∀ T', Stand p l e R s m args below meth c T' locs cells slots → T'.heap = h → Go p.tables e below P (T'.setTop (mkF m q L (.int 0 :: S)))) : Go p.tables e below P (T.setTop (mkF m pc L (.ref a :: S))) := by
  subst hq
  obtain ⟨T', X', e', st⟩ := instNo X hx hZ hown w eT E F (g := mkF m pc L (.ref a :: S)) rfl rfl hd
  exact go st (K1 T' X' e')
theorem gInstNull (X : Stand p l e R s m args below meth c T locs cells slots) (hx : p.tables.exec = Jvm.exec) {i : Nat} (hd : decode c.code pc = .ok (.instanceof i, 3)) (hq : pc + 3 = q) (K1 : Go p.tables e below P (T.setTop (mkF m q L (.int 0 :: S)))) : Go p.tables e below P (T.setTop (mkF m pc L (.null :: S))) := by
  subst hq
  exact go (fun t k => X.instanceofNull hx (g := mkF m pc L (.null :: S)) rfl rfl hd _ k) K1
theorem gCastY (X : Stand p l e R s m args below meth c T locs cells slots) (hx : p.tables.exec = Jvm.exec) (hZ : Z.Warmed39 s.vm) {own K : String} {i : Nat} (hown : s.vm.findClass own = some m.cls) (w : (Jvm.Cond.classLink own i K).before a0 Z = true) (eT : T.heap = h) (F : Ins Z h a K true) (hd : decode c.code pc = .ok (.checkcast i, 3)) (hq : pc + 3 = q)
    (K1 : ∀ T', Stand p l e R s m args below meth c T' locs cells slots → T'.heap = h → Go p.tables e below P (T'.setTop (mkF m q L (.ref a :: S)))) : Go p.tables e below P (T.setTop (mkF m pc L (.ref a :: S))) := by
  subst hq
  obtain ⟨T', X', e', st⟩ := castY X hx hZ hown w eT F (g := mkF m pc L (.ref a :: S)) rfl rfl hd
  exact go st (K1 T' X' e')
end Steps4
end Jvm.OwnKit
namespace Jvm.OwnKit
open Sem ClassFile Op Lib Jvm.Stand Jvm.Free Jvm.LawKit Jvm.RoadKit
theorem own_lenlt {args : Array Value} {first s : State} {o : Option Outcome} {idx : List Nat} {t : Term} {a : Addr} {cl : Cell} {v : Value} (ev : t.eval args first o idx s = some (.ref a)) (hat : s.arrayAt? a = some cl) (h : (Term.length t).eval args first o idx s = some v) : cl.slots.size < 2 ^ 31 := by
  simp [Term.eval, ev, hat] at h
  exact h.1
theorem own_cache {s : State} {args : Array Value} (hf : Fit s) (w1 : (Jvm.Cond.initializedFor "java/lang/Integer$IntegerCache" "high" "I").before args s = true) (w2 : (Jvm.Cond.eq (Term.static "java/lang/Integer$IntegerCache" "high" "I") (Term.int 127)).before args s = true)
    (w3 : (Jvm.Cond.initialized "java/lang/Integer$IntegerCache").before args s = true) (w4 : (Jvm.Cond.laysStatic "java/lang/Integer$IntegerCache" "cache" "[Ljava/lang/Integer;").before args s = true) (w5 : (Jvm.Cond.arrayOf (Term.static "java/lang/Integer$IntegerCache" "cache" "[Ljava/lang/Integer;") (.object "java/lang/Integer")).before args s = true)
    (w6 : (Jvm.Cond.eq (Term.length (Term.static "java/lang/Integer$IntegerCache" "cache" "[Ljava/lang/Integer;")) (Term.int 256)).before args s = true)
    (w7 : (Jvm.Cond.all (Term.static "java/lang/Integer$IntegerCache" "cache" "[Ljava/lang/Integer;") (Jvm.Cond.and (Jvm.Cond.exactly (Term.elem (Term.static "java/lang/Integer$IntegerCache" "cache" "[Ljava/lang/Integer;") (Term.index 0)) "java/lang/Integer") (Jvm.Cond.eq (Term.field (Term.elem (Term.static "java/lang/Integer$IntegerCache" "cache" "[Ljava/lang/Integer;") (Term.index 0)) "java/lang/Integer" "value" "I") (Term.sub (Term.index 0) (Term.int 128))))).before args s = true) :
    Sta s s.heap "java/lang/Integer$IntegerCache" "high" "I" (.int 127) ∧ ∃ (rc : Addr) (kc : ClassId) (vc : List Value), Sta s s.heap "java/lang/Integer$IntegerCache" "cache" "[Ljava/lang/Integer;" (.ref rc) ∧ Ary s s.heap rc kc (.object "java/lang/Integer") vc ∧ vc.length = 256 ∧ ∀ j : Nat, j < 256 → ∃ r, vc[j]? = some (.ref r) ∧ Exa s s.heap r "java/lang/Integer" := by
  have w2' := Cond.before_iff.mp w2
  obtain ⟨u, w, h1, h2, h3, h4⟩ := cmp_v (Or.inl w2')
  obtain rfl : w = .int 127 := Option.some.inj (h2.symm.trans (Term.int_eval 127))
  obtain ⟨z, rfl⟩ := h4
  have hz : z = 127 := gotT (Cond.eq_ints h1 h2) w2'
  subst hz
  have SH := Sta.start h1 (Or.inl w1)
  have w5' := Cond.before_iff.mp w5
  obtain ⟨rc, ev⟩ := arr_v w5'
  obtain ⟨cl, A⟩ := Arr.start ev w5'
  have SC := Sta.start ev (Or.inr ⟨w3, w4⟩)
  have hal : s.vm.Alike s.vm := Vm.Alike.refl _
  have hat := Arr.fin hal A
  have w6' := Cond.before_iff.mp w6
  obtain ⟨u, w, g1, g2, g3, g4⟩ := cmp_v (Or.inl w6')
  obtain rfl : w = .int 256 := Option.some.inj (g2.symm.trans (Term.int_eval 256))
  obtain ⟨z, rfl⟩ := g4
  have hz : z = 256 := gotT (Cond.eq_ints g1 g2) w6'
  subst hz
  obtain ⟨b, cell, e1, e2, e3⟩ := Term.length_spec g1
  obtain rfl : rc = b := by have := ev.symm.trans e1; exact Value.ref.inj (Option.some.inj this)
  obtain rfl : cl = cell := Option.some.inj (hat.symm.trans e2)
  have hlt : cl.slots.size < 2 ^ 31 := own_lenlt ev hat g1
  have hsz : cl.slots.size = 256 := by
    have e4 := congrArg Int32.toInt (Value.int.inj e3)
    rw [len_toInt hlt] at e4
    have e5 : (256 : Int32).toInt = 256 := rfl
    omega
  have w7' := Cond.before_iff.mp w7
  refine ⟨SH, rc, cl.cls, cl.slots.toList, SC, ⟨cl, A, rfl, rfl⟩, by simpa using hsz, fun j hj => ?_⟩
  have hall := Cond.all_elim ev hat w7' j (by rw [hsz]; exact hj)
  obtain ⟨k1, -⟩ := and_e hall
  obtain ⟨r, er⟩ := exa_v k1
  have E := exa_at er k1
  have evj : (Term.static "java/lang/Integer$IntegerCache" "cache" "[Ljava/lang/Integer;").eval args s none [j] s = some (.ref rc) := ev
  have hi : (Term.index 0).eval args s none [j] s = some (.int j.toInt32) := Term.index_eval j
  refine ⟨r, ?_, E⟩
  have q := elem_in er evj hi A.1
  have hjn : j.toInt32.toNatClampNeg = j := by
    have := len_toInt (n := j) (by omega)
    show j.toInt32.toInt.toNat = j
    rw [this]; rfl
  rw [hjn] at q
  rw [Array.getElem?_toList]
  exact q.2
end Jvm.OwnKit
namespace Jvm.Pilot.@@N@@
open Jvm Jvm.ClassFile Sem Op Lib Jvm.Free Jvm.Stand Jvm.LawKit Jvm.RoadKit Bundle Jvm.OwnKit Jvm.Pilot.@@N@@.Jvm.D
theorem d7_0 : decode jdk_18_method_1_code 0 = .ok (.aload_n 0, 1) := by decide +kernel
theorem d7_1 : decode jdk_18_method_1_code 1 = .ok (.invokespecial 1, 3) := by decide +kernel
theorem d7_4 : decode jdk_18_method_1_code 4 = .ok (.return_, 1) := by decide +kernel
theorem pn0 : plainName "java/lang/Number" = true := by first | (simp [plainName, overriddenIn]; done) | decide +kernel
theorem ef0 (m : MethodId) (x0 : Addr) : entryFrame m #[(.ref x0)] 1 = mkF m 0 #[.val (.ref x0)] [] := by first | (simp [entryFrame, mkF, argsToLocals, Value.category]; done) | rfl
def Q_rmNum (Z : State) (a : Addr) (h0 : Heap) (n0 : Nat) (v : Option Value) (h : Heap) (L : List Loc) : Prop := v = none ∧ Fr n0 L ∧ h = h0
set_option maxRecDepth 65536 in
set_option maxHeartbeats 40000000 in
theorem rmNum (l : Launch) (Z : State) (a0 : Array Value) (hw : ∀ d ∈ tables_1, d.before a0 Z = true) (ws : List Jvm.Cond) (a : Addr) (h0 : Heap) (n0 : Nat) (Z0 : n0 ≤ h0.size)  :
    Con l Z (⟨"java/lang/Number", "<init>", "()V"⟩ : MethodName) jdk_18_method_1_code 1 none ws ({ frames := 1, cells := 0, slots := 0, locals := 12 } : Room) #[(.ref a)] h0 (({ frames := 1, cells := 0, slots := 0, locals := 12 } : Room).cells) (({ frames := 1, cells := 0, slots := 0, locals := 12 } : Room).slots) (Q_rmNum Z a h0 n0) := by
  refine Con.of (plainFor_of_name pn0) ?_
  intro p e s m below meth c s₁ hx hby hml hown hnm hret hlk hZ X0 e0
  have N0 := Fr.nil n0
  refine goE (L := #[.val (.ref a)]) (ef0 m a) ?_
  refine gAloadN X0 hx (hb hby d7_0) (q := 1) rfl rfl rfl ?_
  refine gInitO X0 hx hZ hown (hw _ (List.mem_of_getElem? (i := 53) rfl)) (hw _ (List.mem_of_getElem? (i := 15) rfl)) (hw _ (List.mem_of_getElem? (i := 16) rfl)) e0 (by rw [hml]; rfl) (hb hby d7_1) (q := 4) rfl (by decide) (W := 0) (Nat.le_of_eq rfl) (by decide) (fun T1 X1 e1 => ?_)
  exact gRetV X1 hx hlk hret (hb hby d7_4) (by decide) (by decide) ⟨rfl, N0, e1⟩
theorem d6_0 : decode jdk_33_method_23_code 0 = .ok (.aload_n 0, 1) := by decide +kernel
theorem d6_1 : decode jdk_33_method_23_code 1 = .ok (.invokespecial 202, 3) := by decide +kernel
theorem d6_4 : decode jdk_33_method_23_code 4 = .ok (.aload_n 0, 1) := by decide +kernel
theorem d6_5 : decode jdk_33_method_23_code 5 = .ok (.iload_n 1, 1) := by decide +kernel
theorem d6_6 : decode jdk_33_method_23_code 6 = .ok (.putfield 205, 3) := by decide +kernel
theorem d6_9 : decode jdk_33_method_23_code 9 = .ok (.return_, 1) := by decide +kernel
theorem pn1 : plainName "java/lang/Integer" = true := by first | (simp [plainName, overriddenIn]; done) | decide +kernel
theorem ef1 (m : MethodId) (x0 : Addr) (x1 : Int32) : entryFrame m #[(.ref x0), (.int x1)] 2 = mkF m 0 #[.val (.ref x0), .val (.int x1)] [] := by first | (simp [entryFrame, mkF, argsToLocals, Value.category]; done) | rfl
def Q_rmInt (Z : State) (a : Addr) (x1 : Int32) (h0 : Heap) (n0 : Nat) (v : Option Value) (h : Heap) (L : List Loc) : Prop := v = none ∧ Fr n0 L ∧ Keep h0 h [a] ∧ Exa Z h a "java/lang/Integer" ∧ Fld Z h a "java/lang/Integer" "value" "I" (.int x1)
theorem pd0 : parseMethodDescriptor "()V" = some ⟨[], none⟩ := by decide +kernel
set_option maxRecDepth 65536 in
set_option maxHeartbeats 40000000 in
theorem rmInt (l : Launch) (Z : State) (a0 : Array Value) (hw : ∀ d ∈ tables_1, d.before a0 Z = true) (ws : List Jvm.Cond) (a : Addr) (x1 : Int32) (h0 : Heap) (n0 : Nat) (Z0 : n0 ≤ h0.size) (F1 : Fld Z h0 a "java/lang/Integer" "value" "I" (.int (0 : Int32))) (E1 : Exa Z h0 a "java/lang/Integer") (la : n0 ≤ a) :
    Con l Z (⟨"java/lang/Integer", "<init>", "(I)V"⟩ : MethodName) jdk_33_method_23_code 2 none ws ({ frames := 2, cells := 0, slots := 0, locals := 24 } : Room) #[(.ref a), (.int x1)] h0 (({ frames := 2, cells := 0, slots := 0, locals := 24 } : Room).cells) (({ frames := 2, cells := 0, slots := 0, locals := 24 } : Room).slots) (Q_rmInt Z a x1 h0 n0) := by
  refine Con.of (plainFor_of_name pn1) ?_
  intro p e s m below meth c s₁ hx hby hml hown hnm hret hlk hZ X0 e0
  have N0 := Fr.nil n0
  refine goE (L := #[.val (.ref a), .val (.int x1)]) (ef1 m a x1) ?_
  refine gAloadN X0 hx (hb hby d6_0) (q := 1) rfl rfl rfl ?_
  refine gCallN X0 hx hZ rfl hown (hw _ (List.mem_of_getElem? (i := 47) rfl)) (hw _ (List.mem_of_getElem? (i := 48) rfl)) (hw _ (List.mem_of_getElem? (i := 51) rfl)) (hw _ (List.mem_of_getElem? (i := 52) rfl)) (by decide) (rmNum l Z a0 hw [] a h0 n0 Z0) (W := 0) (by decide) (by decide) e0 (by rw [hml]; rfl) [] (lenOf pd0 rfl) rfl (S := []) rfl (Nat.le_of_eq rfl) (hb hby d6_1) (q := 4) rfl (by decide) (by decide) (fun r1 T1 M1 X1 q1 => ?_)
  obtain ⟨rfl, M1n, e1⟩ := q1
  have N2 := Fr.app N0 M1n
  dsimp only [Option.toList, List.cons_append, List.nil_append]
  refine gAloadN X1 hx (hb hby d6_4) (q := 5) rfl rfl rfl ?_
  refine gIloadN X1 hx (hb hby d6_5) (q := 6) rfl rfl ?_
  refine gPutF X1 hx hZ (host := "") hown (Or.inl (hw _ (List.mem_of_getElem? (i := 54) rfl))) Via.refl e1 F1 E1 (Or.inr ⟨(hw _ (List.mem_of_getElem? (i := 55) rfl)), rfl, hnm⟩) (hw _ (List.mem_of_getElem? (i := 42) rfl)) (ty := .int) (by decide) rfl rfl (hb hby d6_6) (q := 9) rfl (fun T3 h3 X3 e3 W3 => ?_)
  have N4 := Fr.snoc X3 N2 la
  have K5 := (Keep.refl h0 [a]).wr W3 (Or.inl (List.mem_of_getElem? (i := 0) rfl))
  have F6 := Fld.same W3 F1
  have E7 := Exa.wr W3 E1
  have Z8 : n0 ≤ h3.size := by rw [W3.size]; exact Z0
  exact gRetV X3 hx hlk hret (hb hby d6_9) (by decide) (by decide) (by rw [e3]; exact ⟨rfl, N4, K5, E7, F6⟩)
theorem own_cacheIdx {x : Int32} {vs : List Value} (h1 : ¬ x < (-128 : Int32)) (h2 : ¬ (127 : Int32) < x) (hl : vs.length = 256) : ¬ ((x + (128 : Int32)) < 0 ∨ vs.length ≤ (x + (128 : Int32)).toNatClampNeg) := by
  rw [Int32.lt_iff_toInt_lt] at h1 h2
  have e1 : (-128 : Int32).toInt = -128 := rfl
  have e2 : (127 : Int32).toInt = 127 := rfl
  have e3 := c_iadd x 128
  have e4 : (128 : Int32).toInt = 128 := rfl
  have r1 := rng32 x
  have r2 := rng32 (x + 128)
  have e5 : (x + 128).toInt = x.toInt + 128 := by omega
  have e6 : (0 : Int32).toInt = 0 := rfl
  have hnn : ¬ (x + 128) < 0 := by rw [Int32.lt_iff_toInt_lt]; omega
  have e7 := nat_of hnn
  rintro (h | h)
  · exact hnn h
  · omega
theorem d5_0 : decode jdk_33_method_22_code 0 = .ok (.iload_n 0, 1) := by decide +kernel
theorem d5_1 : decode jdk_33_method_22_code 1 = .ok (.bipush (-128), 2) := by decide +kernel
theorem d5_3 : decode jdk_33_method_22_code 3 = .ok (.if_icmp .lt 20, 3) := by decide +kernel
theorem d5_6 : decode jdk_33_method_22_code 6 = .ok (.iload_n 0, 1) := by decide +kernel
theorem d5_7 : decode jdk_33_method_22_code 7 = .ok (.getstatic 191, 3) := by decide +kernel
theorem d5_10 : decode jdk_33_method_22_code 10 = .ok (.if_icmp .gt 13, 3) := by decide +kernel
theorem d5_13 : decode jdk_33_method_22_code 13 = .ok (.getstatic 195, 3) := by decide +kernel
theorem d5_16 : decode jdk_33_method_22_code 16 = .ok (.iload_n 0, 1) := by decide +kernel
theorem d5_17 : decode jdk_33_method_22_code 17 = .ok (.sipush 128, 3) := by decide +kernel
theorem d5_20 : decode jdk_33_method_22_code 20 = .ok (.iadd, 1) := by decide +kernel
theorem d5_21 : decode jdk_33_method_22_code 21 = .ok (.aaload, 1) := by decide +kernel
theorem d5_22 : decode jdk_33_method_22_code 22 = .ok (.areturn, 1) := by decide +kernel
theorem d5_23 : decode jdk_33_method_22_code 23 = .ok (.new 1, 3) := by decide +kernel
theorem d5_26 : decode jdk_33_method_22_code 26 = .ok (.dup, 1) := by decide +kernel
theorem d5_27 : decode jdk_33_method_22_code 27 = .ok (.iload_n 0, 1) := by decide +kernel
theorem d5_28 : decode jdk_33_method_22_code 28 = .ok (.invokespecial 199, 3) := by decide +kernel
theorem d5_31 : decode jdk_33_method_22_code 31 = .ok (.areturn, 1) := by decide +kernel
theorem ef2 (m : MethodId) (x0 : Int32) : entryFrame m #[(.int x0)] 1 = mkF m 0 #[.val (.int x0)] [] := by first | (simp [entryFrame, mkF, argsToLocals, Value.category]; done) | rfl
def Q_rmVal (Z : State) (x0 : Int32) (rc : Addr) (kc : ClassId) (vc : List Value) (h0 : Heap) (n0 : Nat) (v : Option Value) (h : Heap) (L : List Loc) : Prop := ∃ r, v = some (.ref r) ∧ Fr n0 L ∧ Keep h0 h [] ∧ Exa Z h r "java/lang/Integer"
theorem pd1 : parseMethodDescriptor "(I)V" = some ⟨[.int], none⟩ := by decide +kernel
set_option maxRecDepth 65536 in
set_option maxHeartbeats 40000000 in
theorem rmVal (l : Launch) (Z : State) (a0 : Array Value) (hw : ∀ d ∈ tables_1, d.before a0 Z = true) (ws : List Jvm.Cond) (x0 : Int32) (rc : Addr) (kc : ClassId) (vc : List Value) (h0 : Heap) (n0 : Nat) (Z0 : n0 ≤ h0.size) (SH : Sta Z h0 "java/lang/Integer$IntegerCache" "high" "I" (.int 127)) (SC : Sta Z h0 "java/lang/Integer$IntegerCache" "cache" "[Ljava/lang/Integer;" (.ref rc)) (AC : Ary Z h0 rc kc (.object "java/lang/Integer") vc) (hlen : vc.length = 256) (HC : ∀ j : Nat, j < 256 → ∃ r, vc[j]? = some (.ref r) ∧ Exa Z h0 r "java/lang/Integer") :
    Con l Z (⟨"java/lang/Integer", "valueOf", "(I)Ljava/lang/Integer;"⟩ : MethodName) jdk_33_method_22_code 1 (some (.object "java/lang/Integer")) ws ({ frames := 3, cells := 1, slots := 1, locals := 38 } : Room) #[(.int x0)] h0 (({ frames := 3, cells := 1, slots := 1, locals := 38 } : Room).cells) (({ frames := 3, cells := 1, slots := 1, locals := 38 } : Room).slots) (Q_rmVal Z x0 rc kc vc h0 n0) := by
  refine Con.of (plainFor_of_name pn1) ?_
  intro p e s m below meth c s₁ hx hby hml hown hnm hret hlk hZ X0 e0
  have N0 := Fr.nil n0
  refine goE (L := #[.val (.int x0)]) (ef2 m x0) ?_
  refine gIloadN X0 hx (hb hby d5_0) (q := 1) rfl rfl ?_
  refine gBipush X0 hx (-128 : Int32) (hb hby d5_1) (q := 3) rfl (by decide) ?_
  by_cases c1 : x0 < (-128 : Int32)
  · refine gIcmpY X0 hx (hb hby d5_3) (q := 23) (by decide) (by decide) (XT.ii_lt_t c1) ?_
    refine gNewO X0 hx hZ hown (hw _ (List.mem_of_getElem? (i := 41) rfl)) (hw _ (List.mem_of_getElem? (i := 42) rfl)) (hw _ (List.mem_of_getElem? (i := 33) rfl)) e0 (hb hby d5_23) (q := 26) rfl (by decide) (by decide) (fun T2 h2 a2 X2 e2 g2 E2 A2 D2 => ?_)
    have S3 := Sta.ext E2 SH
    have S4 := Sta.ext E2 SC
    have le_a2 : n0 ≤ a2 := by rw [g2]; exact Z0
    have Z5 := Nat.le_trans Z0 E2.1
    have F6 : Fld Z h2 a2 "java/lang/Integer" "value" "I" (.int (0 : Int32)) := D2 (Or.inr (hw _ (List.mem_of_getElem? (i := 55) rfl))) (ty := .int) (by decide)
    clear D2
    have KI := (Keep.refl h0 []).ext E2
    refine gDup X2 hx (hb hby d5_26) (q := 27) rfl rfl ?_
    refine gIloadN X2 hx (hb hby d5_27) (q := 28) rfl rfl ?_
    refine gCallN X2 hx hZ rfl hown (hw _ (List.mem_of_getElem? (i := 43) rfl)) (hw _ (List.mem_of_getElem? (i := 44) rfl)) (hw _ (List.mem_of_getElem? (i := 33) rfl)) (hw _ (List.mem_of_getElem? (i := 46) rfl)) (by decide) (rmInt l Z a0 hw [] a2 x0 h2 n0 Z5 F6 A2 le_a2) (W := 1) (by decide) (by decide) e2 (by rw [hml]; rfl) [(.int x0)] (lenOf pd1 rfl) rfl (S := [(.ref a2)]) rfl (Nat.le_of_eq rfl) (hb hby d5_28) (q := 31) rfl (by decide) (by decide) (fun r7 T7 M7 X7 q7 => ?_)
    obtain ⟨rfl, M7n, K7, P7e, P7m⟩ := q7
    have N8 := Fr.app N0 M7n
    have Z9 := Nat.le_trans Z5 K7.1
    have KK10 := KI.trans K7 (allS (Or.inr (Nat.le_of_eq g2.symm)) all0)
    dsimp only [Option.toList, List.cons_append, List.nil_append]
    exact gRetA X7 hx hlk hret rfl rfl (hb hby d5_31) (by decide) (by decide) (by exact ⟨_, rfl, N8, KK10, P7e⟩)
  · refine gIcmpN X0 hx (hb hby d5_3) (q := 6) rfl (XT.ii_lt_f c1) ?_
    refine gIloadN X0 hx (hb hby d5_6) (q := 7) rfl rfl ?_
    refine gGetS X0 hx hZ hown (hw _ (List.mem_of_getElem? (i := 35) rfl)) Via.refl e0 SH (hb hby d5_7) (q := 10) rfl (fun T11 X11 e11 => ?_)
    by_cases c12 : (127 : Int32) < x0
    · refine gIcmpY X11 hx (hb hby d5_10) (q := 23) (by decide) (by decide) (XT.ii_gt_t c12) ?_
      refine gNewO X11 hx hZ hown (hw _ (List.mem_of_getElem? (i := 41) rfl)) (hw _ (List.mem_of_getElem? (i := 42) rfl)) (hw _ (List.mem_of_getElem? (i := 33) rfl)) e11 (hb hby d5_23) (q := 26) rfl (by decide) (by decide) (fun T13 h13 a13 X13 e13 g13 E13 A13 D13 => ?_)
      have S14 := Sta.ext E13 SH
      have S15 := Sta.ext E13 SC
      have le_a13 : n0 ≤ a13 := by rw [g13]; exact Z0
      have Z16 := Nat.le_trans Z0 E13.1
      have F17 : Fld Z h13 a13 "java/lang/Integer" "value" "I" (.int (0 : Int32)) := D13 (Or.inr (hw _ (List.mem_of_getElem? (i := 55) rfl))) (ty := .int) (by decide)
      clear D13
      have KI := (Keep.refl h0 []).ext E13
      refine gDup X13 hx (hb hby d5_26) (q := 27) rfl rfl ?_
      refine gIloadN X13 hx (hb hby d5_27) (q := 28) rfl rfl ?_
      refine gCallN X13 hx hZ rfl hown (hw _ (List.mem_of_getElem? (i := 43) rfl)) (hw _ (List.mem_of_getElem? (i := 44) rfl)) (hw _ (List.mem_of_getElem? (i := 33) rfl)) (hw _ (List.mem_of_getElem? (i := 46) rfl)) (by decide) (rmInt l Z a0 hw [] a13 x0 h13 n0 Z16 F17 A13 le_a13) (W := 1) (by decide) (by decide) e13 (by rw [hml]; rfl) [(.int x0)] (lenOf pd1 rfl) rfl (S := [(.ref a13)]) rfl (Nat.le_of_eq rfl) (hb hby d5_28) (q := 31) rfl (by decide) (by decide) (fun r18 T18 M18 X18 q18 => ?_)
      obtain ⟨rfl, M18n, K18, P18e, P18m⟩ := q18
      have N19 := Fr.app N0 M18n
      have Z20 := Nat.le_trans Z16 K18.1
      have KK21 := KI.trans K18 (allS (Or.inr (Nat.le_of_eq g13.symm)) all0)
      dsimp only [Option.toList, List.cons_append, List.nil_append]
      exact gRetA X18 hx hlk hret rfl rfl (hb hby d5_31) (by decide) (by decide) (by exact ⟨_, rfl, N19, KK21, P18e⟩)
    · refine gIcmpN X11 hx (hb hby d5_10) (q := 13) rfl (XT.ii_gt_f c12) ?_
      refine gGetS X11 hx hZ hown (hw _ (List.mem_of_getElem? (i := 37) rfl)) Via.refl e11 SC (hb hby d5_13) (q := 16) rfl (fun T22 X22 e22 => ?_)
      refine gIloadN X22 hx (hb hby d5_16) (q := 17) rfl rfl ?_
      refine gSipush X22 hx (128 : Int32) (hb hby d5_17) (q := 20) rfl (by decide) ?_
      refine gIadd X22 hx (hb hby d5_20) (q := 21) rfl ?_
      have hjr : ¬ ((x0 + (128 : Int32)) < 0 ∨ vc.length ≤ (x0 + (128 : Int32)).toNatClampNeg) := own_cacheIdx c1 c12 hlen
      obtain ⟨rr, hrr, ER⟩ := HC (x0 + (128 : Int32)).toNatClampNeg (by rw [← hlen]; exact Nat.lt_of_not_le fun z => hjr (Or.inr z))
      refine gAaload X22 hx hZ e22 AC rfl (hb hby d5_21) (q := 22) rfl hjr hrr ?_
      exact gRetA X22 hx hlk hret rfl rfl (hb hby d5_22) (by decide) (by decide) (by rw [e22]; exact ⟨_, rfl, N0, (Keep.refl _ _), ER⟩)
theorem d2_0 : decode prog_83_method_1_code 0 = .ok (.aload_n 0, 1) := by decide +kernel
theorem d2_1 : decode prog_83_method_1_code 1 = .ok (.invokespecial 1, 3) := by decide +kernel
theorem d2_4 : decode prog_83_method_1_code 4 = .ok (.aload_n 0, 1) := by decide +kernel
theorem d2_5 : decode prog_83_method_1_code 5 = .ok (.aload_n 1, 1) := by decide +kernel
theorem d2_6 : decode prog_83_method_1_code 6 = .ok (.putfield 7, 3) := by decide +kernel
theorem d2_9 : decode prog_83_method_1_code 9 = .ok (.return_, 1) := by decide +kernel
theorem pn2 : plainName "com/example/tintfold/tintfold/Qualifier" = true := by first | (simp [plainName, overriddenIn]; done) | decide +kernel
theorem ef3 (m : MethodId) (x0 : Addr) (x1 : Addr) : entryFrame m #[(.ref x0), (.ref x1)] 2 = mkF m 0 #[.val (.ref x0), .val (.ref x1)] [] := by first | (simp [entryFrame, mkF, argsToLocals, Value.category]; done) | rfl
def Q_rmQual (Z : State) (a : Addr) (kk : Addr) (h0 : Heap) (n0 : Nat) (v : Option Value) (h : Heap) (L : List Loc) : Prop := v = none ∧ Fr n0 L ∧ Keep h0 h [a] ∧ Exa Z h a "com/example/tintfold/tintfold/Qualifier$Density" ∧ Fld Z h a "com/example/tintfold/tintfold/Qualifier$Density" "dpi" "I" (.int (0 : Int32))
set_option maxRecDepth 65536 in
set_option maxHeartbeats 40000000 in
theorem rmQual (l : Launch) (Z : State) (a0 : Array Value) (hw : ∀ d ∈ tables_1, d.before a0 Z = true) (ws : List Jvm.Cond) (a : Addr) (kk : Addr) (h0 : Heap) (n0 : Nat) (Z0 : n0 ≤ h0.size) (F1 : Fld Z h0 a "com/example/tintfold/tintfold/Qualifier" "kind" "Lcom/example/tintfold/tintfold/QualifierKind;" .null) (F2 : Fld Z h0 a "com/example/tintfold/tintfold/Qualifier$Density" "dpi" "I" (.int (0 : Int32))) (E1 : Exa Z h0 a "com/example/tintfold/tintfold/Qualifier$Density") (la : n0 ≤ a) :
    Con l Z (⟨"com/example/tintfold/tintfold/Qualifier", "<init>", "(Lcom/example/tintfold/tintfold/QualifierKind;)V"⟩ : MethodName) prog_83_method_1_code 2 none ws ({ frames := 1, cells := 0, slots := 0, locals := 12 } : Room) #[(.ref a), (.ref kk)] h0 (({ frames := 1, cells := 0, slots := 0, locals := 12 } : Room).cells) (({ frames := 1, cells := 0, slots := 0, locals := 12 } : Room).slots) (Q_rmQual Z a kk h0 n0) := by
  refine Con.of (plainFor_of_name pn2) ?_
  intro p e s m below meth c s₁ hx hby hml hown hnm hret hlk hZ X0 e0
  have N0 := Fr.nil n0
  refine goE (L := #[.val (.ref a), .val (.ref kk)]) (ef3 m a kk) ?_
  refine gAloadN X0 hx (hb hby d2_0) (q := 1) rfl rfl rfl ?_
  refine gInitO X0 hx hZ hown (hw _ (List.mem_of_getElem? (i := 14) rfl)) (hw _ (List.mem_of_getElem? (i := 15) rfl)) (hw _ (List.mem_of_getElem? (i := 16) rfl)) e0 (by rw [hml]; rfl) (hb hby d2_1) (q := 4) rfl (by decide) (W := 0) (Nat.le_of_eq rfl) (by decide) (fun T1 X1 e1 => ?_)
  refine gAloadN X1 hx (hb hby d2_4) (q := 5) rfl rfl rfl ?_
  refine gAloadN X1 hx (hb hby d2_5) (q := 6) rfl rfl rfl ?_
  refine gPutF X1 hx hZ (host := "") hown (Or.inl (hw _ (List.mem_of_getElem? (i := 17) rfl))) Via.refl e1 F1 E1 (Or.inr ⟨(hw _ (List.mem_of_getElem? (i := 18) rfl)), rfl, hnm⟩) (hw _ (List.mem_of_getElem? (i := 1) rfl)) (ty := .object "com/example/tintfold/tintfold/QualifierKind") (by decide) rfl rfl (hb hby d2_6) (q := 9) rfl (fun T2 h2 X2 e2 W2 => ?_)
  have N3 := Fr.snoc X2 N0 la
  have K4 := (Keep.refl h0 [a]).wr W2 (Or.inl (List.mem_of_getElem? (i := 0) rfl))
  have F5 := Fld.same W2 F1
  have F6 := Fld.other W2 F2 (Or.inr (slot_ne (Or.inr (hw _ (List.mem_of_getElem? (i := 20) rfl))) (Or.inr (hw _ (List.mem_of_getElem? (i := 18) rfl))) (by decide) (t := .int) (by decide) (t' := .object "com/example/tintfold/tintfold/QualifierKind") (by decide)))
  have E7 := Exa.wr W2 E1
  have Z8 : n0 ≤ h2.size := by rw [W2.size]; exact Z0
  exact gRetV X2 hx hlk hret (hb hby d2_9) (by decide) (by decide) (by rw [e2]; exact ⟨rfl, N3, K4, E7, F6⟩)
theorem d1_0 : decode prog_84_method_1_code 0 = .ok (.aload_n 0, 1) := by decide +kernel
theorem d1_1 : decode prog_84_method_1_code 1 = .ok (.getstatic 1, 3) := by decide +kernel
theorem d1_4 : decode prog_84_method_1_code 4 = .ok (.invokespecial 7, 3) := by decide +kernel
theorem d1_7 : decode prog_84_method_1_code 7 = .ok (.aload_n 0, 1) := by decide +kernel
theorem d1_8 : decode prog_84_method_1_code 8 = .ok (.iload_n 1, 1) := by decide +kernel
theorem d1_9 : decode prog_84_method_1_code 9 = .ok (.putfield 13, 3) := by decide +kernel
theorem d1_12 : decode prog_84_method_1_code 12 = .ok (.return_, 1) := by decide +kernel
theorem pn3 : plainName "com/example/tintfold/tintfold/Qualifier$Density" = true := by first | (simp [plainName, overriddenIn]; done) | decide +kernel
theorem ef4 (m : MethodId) (x0 : Addr) (x1 : Int32) : entryFrame m #[(.ref x0), (.int x1)] 2 = mkF m 0 #[.val (.ref x0), .val (.int x1)] [] := by first | (simp [entryFrame, mkF, argsToLocals, Value.category]; done) | rfl
def Q_rmDen (Z : State) (a : Addr) (x1 : Int32) (r0 : Addr) (h0 : Heap) (n0 : Nat) (v : Option Value) (h : Heap) (L : List Loc) : Prop := v = none ∧ Fr n0 L ∧ Keep h0 h [a] ∧ Exa Z h a "com/example/tintfold/tintfold/Qualifier$Density" ∧ Fld Z h a "com/example/tintfold/tintfold/Qualifier$Density" "dpi" "I" (.int x1)
theorem pd2 : parseMethodDescriptor "(Lcom/example/tintfold/tintfold/QualifierKind;)V" = some ⟨[.object "com/example/tintfold/tintfold/QualifierKind"], none⟩ := by decide +kernel
set_option maxRecDepth 65536 in
set_option maxHeartbeats 40000000 in
theorem rmDen (l : Launch) (Z : State) (a0 : Array Value) (hw : ∀ d ∈ tables_1, d.before a0 Z = true) (ws : List Jvm.Cond) (a : Addr) (x1 : Int32) (r0 : Addr) (h0 : Heap) (n0 : Nat) (Z0 : n0 ≤ h0.size) (F1 : Fld Z h0 a "com/example/tintfold/tintfold/Qualifier" "kind" "Lcom/example/tintfold/tintfold/QualifierKind;" .null) (F2 : Fld Z h0 a "com/example/tintfold/tintfold/Qualifier$Density" "dpi" "I" (.int (0 : Int32))) (E1 : Exa Z h0 a "com/example/tintfold/tintfold/Qualifier$Density") (la : n0 ≤ a) (SD : Sta Z h0 "com/example/tintfold/tintfold/QualifierKind" "DENSITY" "Lcom/example/tintfold/tintfold/QualifierKind;" (.ref r0)) :
    Con l Z (⟨"com/example/tintfold/tintfold/Qualifier$Density", "<init>", "(I)V"⟩ : MethodName) prog_84_method_1_code 2 none ws ({ frames := 2, cells := 0, slots := 0, locals := 25 } : Room) #[(.ref a), (.int x1)] h0 (({ frames := 2, cells := 0, slots := 0, locals := 25 } : Room).cells) (({ frames := 2, cells := 0, slots := 0, locals := 25 } : Room).slots) (Q_rmDen Z a x1 r0 h0 n0) := by
  refine Con.of (plainFor_of_name pn3) ?_
  intro p e s m below meth c s₁ hx hby hml hown hnm hret hlk hZ X0 e0
  have N0 := Fr.nil n0
  refine goE (L := #[.val (.ref a), .val (.int x1)]) (ef4 m a x1) ?_
  refine gAloadN X0 hx (hb hby d1_0) (q := 1) rfl rfl rfl ?_
  refine gGetS X0 hx hZ hown (hw _ (List.mem_of_getElem? (i := 6) rfl)) Via.refl e0 SD (hb hby d1_1) (q := 4) rfl (fun T1 X1 e1 => ?_)
  refine gCallN X1 hx hZ rfl hown (hw _ (List.mem_of_getElem? (i := 9) rfl)) (hw _ (List.mem_of_getElem? (i := 10) rfl)) (hw _ (List.mem_of_getElem? (i := 12) rfl)) (hw _ (List.mem_of_getElem? (i := 13) rfl)) (by decide) (rmQual l Z a0 hw [] a r0 h0 n0 Z0 F1 F2 E1 la) (W := 0) (by decide) (by decide) e1 (by rw [hml]; rfl) [(.ref r0)] (lenOf pd2 rfl) rfl (S := []) rfl (Nat.le_of_eq rfl) (hb hby d1_4) (q := 7) rfl (by decide) (by decide) (fun r2 T2 M2 X2 q2 => ?_)
  obtain ⟨rfl, M2n, K2, P2e, P2m⟩ := q2
  have N3 := Fr.app N0 M2n
  have Z5 := Nat.le_trans Z0 K2.1
  have KK6 := (Keep.refl h0 [a]).trans K2 (allS (Or.inl (List.mem_of_getElem? (i := 0) rfl)) all0)
  dsimp only [Option.toList, List.cons_append, List.nil_append]
  refine gAloadN X2 hx (hb hby d1_7) (q := 8) rfl rfl rfl ?_
  refine gIloadN X2 hx (hb hby d1_8) (q := 9) rfl rfl ?_
  refine gPutF X2 hx hZ (host := "") hown (Or.inl (hw _ (List.mem_of_getElem? (i := 19) rfl))) Via.refl rfl P2m P2e (Or.inr ⟨(hw _ (List.mem_of_getElem? (i := 20) rfl)), rfl, hnm⟩) (hw _ (List.mem_of_getElem? (i := 1) rfl)) (ty := .int) (by decide) rfl rfl (hb hby d1_9) (q := 12) rfl (fun T7 h7 X7 e7 W7 => ?_)
  have N8 := Fr.snoc X7 N3 la
  have K9 := KK6.wr W7 (Or.inl (List.mem_of_getElem? (i := 0) rfl))
  have E10 := Exa.wr W7 P2e
  have F11 := Fld.same W7 P2m
  have Z12 : n0 ≤ h7.size := by rw [W7.size]; exact Z5
  exact gRetV X7 hx hlk hret (hb hby d1_12) (by decide) (by decide) (by rw [e7]; exact ⟨rfl, N8, K9, E10, F11⟩)
theorem d4_0 : decode prog_84_method_7_code 0 = .ok (.aload_n 1, 1) := by decide +kernel
theorem d4_1 : decode prog_84_method_7_code 1 = .ok (.instanceof 14, 3) := by decide +kernel
theorem d4_4 : decode prog_84_method_7_code 4 = .ok (.ifCond .eq 48, 3) := by decide +kernel
theorem d4_7 : decode prog_84_method_7_code 7 = .ok (.aload_n 1, 1) := by decide +kernel
theorem d4_8 : decode prog_84_method_7_code 8 = .ok (.checkcast 14, 3) := by decide +kernel
theorem d4_11 : decode prog_84_method_7_code 11 = .ok (.getfield 13, 3) := by decide +kernel
theorem d4_14 : decode prog_84_method_7_code 14 = .ok (.aload_n 0, 1) := by decide +kernel
theorem d4_15 : decode prog_84_method_7_code 15 = .ok (.getfield 13, 3) := by decide +kernel
theorem d4_18 : decode prog_84_method_7_code 18 = .ok (.if_icmp .ne 34, 3) := by decide +kernel
theorem d4_21 : decode prog_84_method_7_code 21 = .ok (.aload_n 1, 1) := by decide +kernel
theorem d4_22 : decode prog_84_method_7_code 22 = .ok (.getstatic 94, 3) := by decide +kernel
theorem d4_25 : decode prog_84_method_7_code 25 = .ok (.if_acmp .ne 7, 3) := by decide +kernel
theorem d4_28 : decode prog_84_method_7_code 28 = .ok (.iconst 1, 1) := by decide +kernel
theorem d4_29 : decode prog_84_method_7_code 29 = .ok (.goto 4, 3) := by decide +kernel
theorem d4_32 : decode prog_84_method_7_code 32 = .ok (.iconst 0, 1) := by decide +kernel
theorem d4_33 : decode prog_84_method_7_code 33 = .ok (.aload_n 0, 1) := by decide +kernel
theorem d4_34 : decode prog_84_method_7_code 34 = .ok (.getstatic 94, 3) := by decide +kernel
theorem d4_37 : decode prog_84_method_7_code 37 = .ok (.if_acmp .ne 7, 3) := by decide +kernel
theorem d4_40 : decode prog_84_method_7_code 40 = .ok (.iconst 1, 1) := by decide +kernel
theorem d4_41 : decode prog_84_method_7_code 41 = .ok (.goto 4, 3) := by decide +kernel
theorem d4_44 : decode prog_84_method_7_code 44 = .ok (.iconst 0, 1) := by decide +kernel
theorem d4_45 : decode prog_84_method_7_code 45 = .ok (.if_icmp .ne 7, 3) := by decide +kernel
theorem d4_48 : decode prog_84_method_7_code 48 = .ok (.iconst 1, 1) := by decide +kernel
theorem d4_49 : decode prog_84_method_7_code 49 = .ok (.goto 4, 3) := by decide +kernel
theorem d4_52 : decode prog_84_method_7_code 52 = .ok (.iconst 0, 1) := by decide +kernel
theorem d4_53 : decode prog_84_method_7_code 53 = .ok (.ireturn, 1) := by decide +kernel
theorem ef5 (m : MethodId) (x0 : Addr) (x1 : Addr) : entryFrame m #[(.ref x0), (.ref x1)] 2 = mkF m 0 #[.val (.ref x0), .val (.ref x1)] [] := by first | (simp [entryFrame, mkF, argsToLocals, Value.category]; done) | rfl
def Q_rmEqC (Z : State) (a : Addr) (b : Addr) (x1 : Int32) (x2 : Int32) (r1 : Addr) (h0 : Heap) (n0 : Nat) (v : Option Value) (h : Heap) (L : List Loc) : Prop := v = some (.int (if x2 = x1 then (if (if (.ref b : Value) = (.ref r1 : Value) then (1 : Int32) else (0 : Int32)) = (if (.ref a : Value) = (.ref r1 : Value) then (1 : Int32) else (0 : Int32)) then (1 : Int32) else (0 : Int32)) else (0 : Int32))) ∧ Fr n0 L ∧ h = h0
set_option maxRecDepth 65536 in
set_option maxHeartbeats 40000000 in
theorem rmEqC (l : Launch) (Z : State) (a0 : Array Value) (hw : ∀ d ∈ tables_1, d.before a0 Z = true) (ws : List Jvm.Cond) (a : Addr) (b : Addr) (x1 : Int32) (x2 : Int32) (r1 : Addr) (h0 : Heap) (n0 : Nat) (Z0 : n0 ≤ h0.size) (F1 : Fld Z h0 a "com/example/tintfold/tintfold/Qualifier$Density" "dpi" "I" (.int x1)) (F2 : Fld Z h0 b "com/example/tintfold/tintfold/Qualifier$Density" "dpi" "I" (.int x2)) (E2 : Exa Z h0 b "com/example/tintfold/tintfold/Qualifier$Density") (SN : Sta Z h0 "com/example/tintfold/tintfold/Qualifier$Density" "NONE" "Lcom/example/tintfold/tintfold/Qualifier$Density;" (.ref r1)) :
    Con l Z (⟨"com/example/tintfold/tintfold/Qualifier$Density", "equals", "(Ljava/lang/Object;)Z"⟩ : MethodName) prog_84_method_7_code 2 (some (.boolean)) ws ({ frames := 0, cells := 0, slots := 0, locals := 0 } : Room) #[(.ref a), (.ref b)] h0 (({ frames := 0, cells := 0, slots := 0, locals := 0 } : Room).cells) (({ frames := 0, cells := 0, slots := 0, locals := 0 } : Room).slots) (Q_rmEqC Z a b x1 x2 r1 h0 n0) := by
  refine Con.of (plainFor_of_name pn3) ?_
  intro p e s m below meth c s₁ hx hby hml hown hnm hret hlk hZ X0 e0
  have N0 := Fr.nil n0
  refine goE (L := #[.val (.ref a), .val (.ref b)]) (ef5 m a b) ?_
  refine gAloadN X0 hx (hb hby d4_0) (q := 1) rfl rfl rfl ?_
  refine gInstY X0 hx hZ hown (hw _ (List.mem_of_getElem? (i := 28) rfl)) e0 (Ins.self E2) (hb hby d4_1) (q := 4) rfl (fun T1 X1 e1 => ?_)
  refine gIfN X1 hx (hb hby d4_4) (q := 7) rfl (XT.i0_eq_f (by decide)) ?_
  refine gAloadN X1 hx (hb hby d4_7) (q := 8) rfl rfl rfl ?_
  refine gCastY X1 hx hZ hown (hw _ (List.mem_of_getElem? (i := 28) rfl)) e1 (Ins.self E2) (hb hby d4_8) (q := 11) rfl (fun T2 X2 e2 => ?_)
  refine gGetF X2 hx hZ (host := "") hown (Or.inl (hw _ (List.mem_of_getElem? (i := 19) rfl))) Via.refl e2 F2 (hb hby d4_11) (q := 14) rfl (fun T3 X3 e3 => ?_)
  refine gAloadN X3 hx (hb hby d4_14) (q := 15) rfl rfl rfl ?_
  refine gGetF X3 hx hZ (host := "") hown (Or.inl (hw _ (List.mem_of_getElem? (i := 19) rfl))) Via.refl e3 F1 (hb hby d4_15) (q := 18) rfl (fun T4 X4 e4 => ?_)
  have J18_7 : ∀ (T8 : State) (L8 : List Loc), Stand p l e ({ frames := 0, cells := 0, slots := 0, locals := 0 } : Room) s m #[(.ref a), (.ref b)] below meth c T8 L8 0 0 → T8.heap = h0 → Fr n0 L8 → ∀ v6 : Int32, v6 = (if x2 = x1 then (if (if (.ref b : Value) = (.ref r1 : Value) then (1 : Int32) else (0 : Int32)) = (if (.ref a : Value) = (.ref r1 : Value) then (1 : Int32) else (0 : Int32)) then (1 : Int32) else (0 : Int32)) else (0 : Int32)) → Go p.tables e below (Done s (Q_rmEqC Z a b x1 x2 r1 h0 n0) (({ frames := 0, cells := 0, slots := 0, locals := 0 } : Room).cells) (({ frames := 0, cells := 0, slots := 0, locals := 0 } : Room).slots)) (T8.setTop (mkF m 53 #[.val (.ref a), .val (.ref b)] [(.int v6)])) := by
    intro T8 L8 X8 e8 N8 v6 hv6
    exact gRetZ X8 hx hlk hret (hb hby d4_53) (by decide) (by decide) (by rw [hv6]; (repeat' split) <;> first | exact Or.inl rfl | exact Or.inr rfl) ⟨by rw [hv6], N8, e8⟩
  by_cases c5 : x2 = x1
  · refine gIcmpN X4 hx (hb hby d4_18) (q := 21) rfl (XT.ii_ne_f c5) ?_
    refine gAloadN X4 hx (hb hby d4_21) (q := 22) rfl rfl rfl ?_
    refine gGetS X4 hx hZ hown (hw _ (List.mem_of_getElem? (i := 30) rfl)) Via.refl e4 SN (hb hby d4_22) (q := 25) rfl (fun T9 X9 e9 => ?_)
    have J25_12 : ∀ v11 : Int32, v11 = (if (.ref b : Value) = (.ref r1 : Value) then (1 : Int32) else (0 : Int32)) → Go p.tables e below (Done s (Q_rmEqC Z a b x1 x2 r1 h0 n0) (({ frames := 0, cells := 0, slots := 0, locals := 0 } : Room).cells) (({ frames := 0, cells := 0, slots := 0, locals := 0 } : Room).slots)) (T9.setTop (mkF m 33 #[.val (.ref a), .val (.ref b)] [(.int v11)])) := by
      intro v11 hv11
      refine gAloadN X9 hx (hb hby d4_33) (q := 34) rfl rfl rfl ?_
      refine gGetS X9 hx hZ hown (hw _ (List.mem_of_getElem? (i := 30) rfl)) Via.refl e9 SN (hb hby d4_34) (q := 37) rfl (fun T13 X13 e13 => ?_)
      have J37_16 : ∀ v15 : Int32, v15 = (if (.ref a : Value) = (.ref r1 : Value) then (1 : Int32) else (0 : Int32)) → Go p.tables e below (Done s (Q_rmEqC Z a b x1 x2 r1 h0 n0) (({ frames := 0, cells := 0, slots := 0, locals := 0 } : Room).cells) (({ frames := 0, cells := 0, slots := 0, locals := 0 } : Room).slots)) (T13.setTop (mkF m 45 #[.val (.ref a), .val (.ref b)] [(.int v15), (.int v11)])) := by
        intro v15 hv15
        by_cases c17 : v11 = v15
        · refine gIcmpN X13 hx (hb hby d4_45) (q := 48) rfl (XT.ii_ne_f c17) ?_
          refine gIconst X13 hx (1 : Int32) (hb hby d4_48) (q := 49) rfl (by decide) ?_
          refine gGoto X13 hx (hb hby d4_49) (q := 53) (by decide) (by decide) ?_
          exact J18_7 T13 _ X13 e13 N0 _ (by first | rfl | (simp only [if_pos c5, if_pos c17, hv11, hv15]; done) | (simp only [if_pos c5, if_pos c17, ← hv11, ← hv15]; done) | (simp only [if_pos c5, if_pos c17, hv11, hv15, if_true, if_false]; done) | (exfalso; simp at c17; done))
        · refine gIcmpY X13 hx (hb hby d4_45) (q := 52) (by decide) (by decide) (XT.ii_ne_t c17) ?_
          refine gIconst X13 hx (0 : Int32) (hb hby d4_52) (q := 53) rfl (by decide) ?_
          exact J18_7 T13 _ X13 e13 N0 _ (by first | rfl | (simp only [if_pos c5, if_neg c17, hv11, hv15]; done) | (simp only [if_pos c5, if_neg c17, ← hv11, ← hv15]; done) | (simp only [if_pos c5, if_neg c17, hv11, hv15, if_true, if_false]; done) | (exfalso; simp at c17; done))
      by_cases c14 : (.ref a : Value) = (.ref r1 : Value)
      · refine gAcmpN X13 hx (hb hby d4_37) (q := 40) rfl rfl rfl (XT.aa_ne_f c14) ?_
        refine gIconst X13 hx (1 : Int32) (hb hby d4_40) (q := 41) rfl (by decide) ?_
        refine gGoto X13 hx (hb hby d4_41) (q := 45) (by decide) (by decide) ?_
        exact J37_16 _ (by first | rfl | (simp only [if_pos c5, if_pos c14]; done) | (simp only [if_pos c5, if_pos c14]; done) | (simp only [if_pos c5, if_pos c14, if_true, if_false]; done) | (exfalso; simp at c14; done))
      · refine gAcmpY X13 hx (hb hby d4_37) (q := 44) (by decide) (by decide) rfl rfl (XT.aa_ne_t c14) ?_
        refine gIconst X13 hx (0 : Int32) (hb hby d4_44) (q := 45) rfl (by decide) ?_
        exact J37_16 _ (by first | rfl | (simp only [if_pos c5, if_neg c14]; done) | (simp only [if_pos c5, if_neg c14]; done) | (simp only [if_pos c5, if_neg c14, if_true, if_false]; done) | (exfalso; simp at c14; done))
    by_cases c10 : (.ref b : Value) = (.ref r1 : Value)
    · refine gAcmpN X9 hx (hb hby d4_25) (q := 28) rfl rfl rfl (XT.aa_ne_f c10) ?_
      refine gIconst X9 hx (1 : Int32) (hb hby d4_28) (q := 29) rfl (by decide) ?_
      refine gGoto X9 hx (hb hby d4_29) (q := 33) (by decide) (by decide) ?_
      exact J25_12 _ (by first | rfl | (simp only [if_pos c5, if_pos c10]; done) | (simp only [if_pos c5, if_pos c10]; done) | (simp only [if_pos c5, if_pos c10, if_true, if_false]; done) | (exfalso; simp at c10; done))
    · refine gAcmpY X9 hx (hb hby d4_25) (q := 32) (by decide) (by decide) rfl rfl (XT.aa_ne_t c10) ?_
      refine gIconst X9 hx (0 : Int32) (hb hby d4_32) (q := 33) rfl (by decide) ?_
      exact J25_12 _ (by first | rfl | (simp only [if_pos c5, if_neg c10]; done) | (simp only [if_pos c5, if_neg c10]; done) | (simp only [if_pos c5, if_neg c10, if_true, if_false]; done) | (exfalso; simp at c10; done))
  · refine gIcmpY X4 hx (hb hby d4_18) (q := 52) (by decide) (by decide) (XT.ii_ne_t c5) ?_
    refine gIconst X4 hx (0 : Int32) (hb hby d4_52) (q := 53) rfl (by decide) ?_
    exact J18_7 T4 _ X4 e4 N0 _ (by first | rfl | (simp only [if_neg c5]; done) | (simp only [if_neg c5]; done) | (simp only [if_neg c5, if_true, if_false]; done) | (exfalso; simp at c5; done))
theorem ef6 (m : MethodId) (x0 : Addr) : entryFrame m #[(.ref x0), (.null)] 2 = mkF m 0 #[.val (.ref x0), .val (.null)] [] := by first | (simp [entryFrame, mkF, argsToLocals, Value.category]; done) | rfl
def Q_rmEqN (Z : State) (a : Addr) (h0 : Heap) (n0 : Nat) (v : Option Value) (h : Heap) (L : List Loc) : Prop := v = some (.int (0 : Int32)) ∧ Fr n0 L ∧ h = h0
set_option maxRecDepth 65536 in
set_option maxHeartbeats 40000000 in
theorem rmEqN (l : Launch) (Z : State) (a0 : Array Value) (hw : ∀ d ∈ tables_1, d.before a0 Z = true) (ws : List Jvm.Cond) (a : Addr) (h0 : Heap) (n0 : Nat) (Z0 : n0 ≤ h0.size)  :
    Con l Z (⟨"com/example/tintfold/tintfold/Qualifier$Density", "equals", "(Ljava/lang/Object;)Z"⟩ : MethodName) prog_84_method_7_code 2 (some (.boolean)) ws ({ frames := 0, cells := 0, slots := 0, locals := 0 } : Room) #[(.ref a), (.null)] h0 (({ frames := 0, cells := 0, slots := 0, locals := 0 } : Room).cells) (({ frames := 0, cells := 0, slots := 0, locals := 0 } : Room).slots) (Q_rmEqN Z a h0 n0) := by
  refine Con.of (plainFor_of_name pn3) ?_
  intro p e s m below meth c s₁ hx hby hml hown hnm hret hlk hZ X0 e0
  have N0 := Fr.nil n0
  refine goE (L := #[.val (.ref a), .val (.null)]) (ef6 m a) ?_
  refine gAloadN X0 hx (hb hby d4_0) (q := 1) rfl rfl rfl ?_
  refine gInstNull X0 hx (hb hby d4_1) (q := 4) rfl ?_
  refine gIfY X0 hx (hb hby d4_4) (q := 52) (by decide) (by decide) (XT.i0_eq_t (by decide)) ?_
  refine gIconst X0 hx (0 : Int32) (hb hby d4_52) (q := 53) rfl (by decide) ?_
  exact gRetZ X0 hx hlk hret (hb hby d4_53) (by decide) (by decide) (by simp) ⟨rfl, N0, e0⟩
theorem ef7 (m : MethodId) (x0 : Addr) (x1 : Addr) : entryFrame m #[(.ref x0), (.ref x1)] 2 = mkF m 0 #[.val (.ref x0), .val (.ref x1)] [] := by first | (simp [entryFrame, mkF, argsToLocals, Value.category]; done) | rfl
def Q_rmEqI (Z : State) (a : Addr) (b : Addr) (h0 : Heap) (n0 : Nat) (v : Option Value) (h : Heap) (L : List Loc) : Prop := v = some (.int (0 : Int32)) ∧ Fr n0 L ∧ h = h0
set_option maxRecDepth 65536 in
set_option maxHeartbeats 40000000 in
theorem rmEqI (l : Launch) (Z : State) (a0 : Array Value) (hw : ∀ d ∈ tables_1, d.before a0 Z = true) (ws : List Jvm.Cond) (a : Addr) (b : Addr) (h0 : Heap) (n0 : Nat) (Z0 : n0 ≤ h0.size) (E2 : Exa Z h0 b "java/lang/Integer") :
    Con l Z (⟨"com/example/tintfold/tintfold/Qualifier$Density", "equals", "(Ljava/lang/Object;)Z"⟩ : MethodName) prog_84_method_7_code 2 (some (.boolean)) ws ({ frames := 0, cells := 0, slots := 0, locals := 0 } : Room) #[(.ref a), (.ref b)] h0 (({ frames := 0, cells := 0, slots := 0, locals := 0 } : Room).cells) (({ frames := 0, cells := 0, slots := 0, locals := 0 } : Room).slots) (Q_rmEqI Z a b h0 n0) := by
  refine Con.of (plainFor_of_name pn3) ?_
  intro p e s m below meth c s₁ hx hby hml hown hnm hret hlk hZ X0 e0
  have N0 := Fr.nil n0
  refine goE (L := #[.val (.ref a), .val (.ref b)]) (ef7 m a b) ?_
  refine gAloadN X0 hx (hb hby d4_0) (q := 1) rfl rfl rfl ?_
  refine gInstNo X0 hx hZ hown (hw _ (List.mem_of_getElem? (i := 28) rfl)) e0 E2 (own_nsNo (hw _ (List.mem_of_getElem? (i := 38) rfl)) (hw _ (List.mem_of_getElem? (i := 1) rfl)) (NS.step (hw _ (List.mem_of_getElem? (i := 38) rfl)) (NS.step (hw _ (List.mem_of_getElem? (i := 39) rfl)) (own_nsRoot (hw _ (List.mem_of_getElem? (i := 40) rfl)) (hw _ (List.mem_of_getElem? (i := 1) rfl)) (by decide)) (by decide)) (by decide)) (by decide)) (hb hby d4_1) (q := 4) rfl (fun T1 X1 e1 => ?_)
  refine gIfY X1 hx (hb hby d4_4) (q := 52) (by decide) (by decide) (XT.i0_eq_t (by decide)) ?_
  refine gIconst X1 hx (0 : Int32) (hb hby d4_52) (q := 53) rfl (by decide) ?_
  exact gRetZ X1 hx hlk hret (hb hby d4_53) (by decide) (by decide) (by simp) ⟨rfl, N0, e1⟩

theorem pn4 : plainName "com/example/tintfold/tintfold/DensityEqualsPinLaw" = true := by first | (simp [plainName, overriddenIn]; done) | decide +kernel
theorem ef8 (m : MethodId) (x0 : Int32) (x1 : Int32) (x2 : Int32) : entryFrame m #[(.int x0), (.int x1), (.int x2)] maxLocals = mkF m 0 #[.val (.int x0), .val (.int x1), .val (.int x2), .unset, .unset, .unset, .unset, .unset, .unset, .unset, .unset, .unset, .unset] [] := by first | (simp [entryFrame, mkF, argsToLocals, Value.category, maxLocals]; done) | rfl
def Q_rm0 (Z : State) (x0 : Int32) (x1 : Int32) (x2 : Int32) (r0 : Addr) (r1 : Addr) (rc : Addr) (kc : ClassId) (vc : List Value) (h0 : Heap) (n0 : Nat) (v : Option Value) (h : Heap) (L : List Loc) : Prop := v = some (.int 1) ∧ Fr n0 L
theorem pd3 : parseMethodDescriptor "(Ljava/lang/Object;)Z" = some ⟨[.object "java/lang/Object"], some (.boolean)⟩ := by decide +kernel
theorem pd4 : parseMethodDescriptor "(I)Ljava/lang/Integer;" = some ⟨[.int], some (.object "java/lang/Integer")⟩ := by decide +kernel
set_option maxRecDepth 65536 in
set_option maxHeartbeats 40000000 in
theorem own_dead1 (x0 : Int32) (x1 : Int32) (x2 : Int32) (r1 : Addr) (a12 : Addr) (a36 : Addr) (v2 : Int32) (hv2 : v2 = (if (x2 &&& (1 : Int32)) = (0 : Int32) then (0 : Int32) else (1 : Int32))) (v5 : Int32) (hv5 : v5 = (if (x2 &&& (2 : Int32)) = (0 : Int32) then (0 : Int32) else (1 : Int32))) (v8 : Int32) (hv8 : v8 = (if (x2 &&& (4 : Int32)) = (0 : Int32) then x1 else x0)) (u10 : Int32) (hu10 : ((XT.ushr x2 (3 : Int32)) &&& (3 : Int32)) = u10) (v51 : Int32) (hv51 : v51 = (if x0 = v8 then (if v2 = v5 then (1 : Int32) else (0 : Int32)) else (0 : Int32))) (g55 : Int32) (hg55 : (if v8 = x0 then (if (if (.ref a36 : Value) = (.ref r1 : Value) then (1 : Int32) else (0 : Int32)) = (if (.ref a12 : Value) = (.ref r1 : Value) then (1 : Int32) else (0 : Int32)) then (1 : Int32) else (0 : Int32)) else (0 : Int32)) = g55) (g59 : Int32) (hg59 : (if x0 = v8 then (if (if (.ref a12 : Value) = (.ref r1 : Value) then (1 : Int32) else (0 : Int32)) = (if (.ref a36 : Value) = (.ref r1 : Value) then (1 : Int32) else (0 : Int32)) then (1 : Int32) else (0 : Int32)) else (0 : Int32)) = g59) (ne_r1_a12 : r1 ≠ a12) (ne_r1_a36 : r1 ≠ a36) (ne_a12_a36 : a12 ≠ a36) (c11 : v2 = (0 : Int32)) (c22 : ¬ (u10 = (1 : Int32))) (c25 : ¬ (u10 = (2 : Int32))) (c35 : v5 = (0 : Int32)) (c56 : g55 = v51) : g59 = v51 := by
  have ne_r1_a12s := ne_r1_a12.symm
  have ne_r1_a36s := ne_r1_a36.symm
  have ne_a12_a36s := ne_a12_a36.symm
  have h2 : v2 = 0 ∨ v2 = 1 := by rw [hv2]; split <;> simp
  have h5 : v5 = 0 ∨ v5 = 1 := by rw [hv5]; split <;> simp
  clear hv2 hv5 hv8 hu10
  simp only [Value.ref.injEq, eq_comm (a := x0) (b := v8), eq_comm (a := (160 : Int32)) (b := v8), eq_comm (a := (160 : Int32)) (b := x0)] at *
  rcases h2 with rfl | rfl <;> rcases h5 with rfl | rfl <;> simp_all
set_option maxRecDepth 65536 in
set_option maxHeartbeats 40000000 in
theorem own_dead2 (x0 : Int32) (x1 : Int32) (x2 : Int32) (r1 : Addr) (a12 : Addr) (a36 : Addr) (v2 : Int32) (hv2 : v2 = (if (x2 &&& (1 : Int32)) = (0 : Int32) then (0 : Int32) else (1 : Int32))) (v5 : Int32) (hv5 : v5 = (if (x2 &&& (2 : Int32)) = (0 : Int32) then (0 : Int32) else (1 : Int32))) (v8 : Int32) (hv8 : v8 = (if (x2 &&& (4 : Int32)) = (0 : Int32) then x1 else x0)) (u10 : Int32) (hu10 : ((XT.ushr x2 (3 : Int32)) &&& (3 : Int32)) = u10) (v51 : Int32) (hv51 : v51 = (if x0 = v8 then (if v2 = v5 then (1 : Int32) else (0 : Int32)) else (0 : Int32))) (g55 : Int32) (hg55 : (if v8 = x0 then (if (if (.ref a36 : Value) = (.ref r1 : Value) then (1 : Int32) else (0 : Int32)) = (if (.ref a12 : Value) = (.ref r1 : Value) then (1 : Int32) else (0 : Int32)) then (1 : Int32) else (0 : Int32)) else (0 : Int32)) = g55) (ne_r1_a12 : r1 ≠ a12) (ne_r1_a36 : r1 ≠ a36) (ne_a12_a36 : a12 ≠ a36) (c11 : v2 = (0 : Int32)) (c22 : ¬ (u10 = (1 : Int32))) (c25 : ¬ (u10 = (2 : Int32))) (c35 : v5 = (0 : Int32)) : g55 = v51 := by
  have ne_r1_a12s := ne_r1_a12.symm
  have ne_r1_a36s := ne_r1_a36.symm
  have ne_a12_a36s := ne_a12_a36.symm
  have h2 : v2 = 0 ∨ v2 = 1 := by rw [hv2]; split <;> simp
  have h5 : v5 = 0 ∨ v5 = 1 := by rw [hv5]; split <;> simp
  clear hv2 hv5 hv8 hu10
  simp only [Value.ref.injEq, eq_comm (a := x0) (b := v8), eq_comm (a := (160 : Int32)) (b := v8), eq_comm (a := (160 : Int32)) (b := x0)] at *
  rcases h2 with rfl | rfl <;> rcases h5 with rfl | rfl <;> simp_all
set_option maxRecDepth 65536 in
set_option maxHeartbeats 40000000 in
theorem own_dead3 (x0 : Int32) (x1 : Int32) (x2 : Int32) (r1 : Addr) (a12 : Addr) (v2 : Int32) (hv2 : v2 = (if (x2 &&& (1 : Int32)) = (0 : Int32) then (0 : Int32) else (1 : Int32))) (v5 : Int32) (hv5 : v5 = (if (x2 &&& (2 : Int32)) = (0 : Int32) then (0 : Int32) else (1 : Int32))) (v8 : Int32) (hv8 : v8 = (if (x2 &&& (4 : Int32)) = (0 : Int32) then x1 else x0)) (u10 : Int32) (hu10 : ((XT.ushr x2 (3 : Int32)) &&& (3 : Int32)) = u10) (v64 : Int32) (hv64 : v64 = (if x0 = (160 : Int32) then (if v2 = v5 then (1 : Int32) else (0 : Int32)) else (0 : Int32))) (g68 : Int32) (hg68 : (if (160 : Int32) = x0 then (if (if (.ref r1 : Value) = (.ref r1 : Value) then (1 : Int32) else (0 : Int32)) = (if (.ref a12 : Value) = (.ref r1 : Value) then (1 : Int32) else (0 : Int32)) then (1 : Int32) else (0 : Int32)) else (0 : Int32)) = g68) (g72 : Int32) (hg72 : (if x0 = (160 : Int32) then (if (if (.ref a12 : Value) = (.ref r1 : Value) then (1 : Int32) else (0 : Int32)) = (if (.ref r1 : Value) = (.ref r1 : Value) then (1 : Int32) else (0 : Int32)) then (1 : Int32) else (0 : Int32)) else (0 : Int32)) = g72) (ne_r1_a12 : r1 ≠ a12) (c11 : v2 = (0 : Int32)) (c22 : ¬ (u10 = (1 : Int32))) (c25 : ¬ (u10 = (2 : Int32))) (c35 : ¬ (v5 = (0 : Int32))) (c69 : g68 = v64) : g72 = v64 := by
  have ne_r1_a12s := ne_r1_a12.symm
  have h2 : v2 = 0 ∨ v2 = 1 := by rw [hv2]; split <;> simp
  have h5 : v5 = 0 ∨ v5 = 1 := by rw [hv5]; split <;> simp
  clear hv2 hv5 hv8 hu10
  simp only [Value.ref.injEq, eq_comm (a := x0) (b := v8), eq_comm (a := (160 : Int32)) (b := v8), eq_comm (a := (160 : Int32)) (b := x0)] at *
  rcases h2 with rfl | rfl <;> rcases h5 with rfl | rfl <;> simp_all
set_option maxRecDepth 65536 in
set_option maxHeartbeats 40000000 in
theorem own_dead4 (x0 : Int32) (x1 : Int32) (x2 : Int32) (r1 : Addr) (a12 : Addr) (v2 : Int32) (hv2 : v2 = (if (x2 &&& (1 : Int32)) = (0 : Int32) then (0 : Int32) else (1 : Int32))) (v5 : Int32) (hv5 : v5 = (if (x2 &&& (2 : Int32)) = (0 : Int32) then (0 : Int32) else (1 : Int32))) (v8 : Int32) (hv8 : v8 = (if (x2 &&& (4 : Int32)) = (0 : Int32) then x1 else x0)) (u10 : Int32) (hu10 : ((XT.ushr x2 (3 : Int32)) &&& (3 : Int32)) = u10) (v64 : Int32) (hv64 : v64 = (if x0 = (160 : Int32) then (if v2 = v5 then (1 : Int32) else (0 : Int32)) else (0 : Int32))) (g68 : Int32) (hg68 : (if (160 : Int32) = x0 then (if (if (.ref r1 : Value) = (.ref r1 : Value) then (1 : Int32) else (0 : Int32)) = (if (.ref a12 : Value) = (.ref r1 : Value) then (1 : Int32) else (0 : Int32)) then (1 : Int32) else (0 : Int32)) else (0 : Int32)) = g68) (ne_r1_a12 : r1 ≠ a12) (c11 : v2 = (0 : Int32)) (c22 : ¬ (u10 = (1 : Int32))) (c25 : ¬ (u10 = (2 : Int32))) (c35 : ¬ (v5 = (0 : Int32))) : g68 = v64 := by
  have ne_r1_a12s := ne_r1_a12.symm
  have h2 : v2 = 0 ∨ v2 = 1 := by rw [hv2]; split <;> simp
  have h5 : v5 = 0 ∨ v5 = 1 := by rw [hv5]; split <;> simp
  clear hv2 hv5 hv8 hu10
  simp only [Value.ref.injEq, eq_comm (a := x0) (b := v8), eq_comm (a := (160 : Int32)) (b := v8), eq_comm (a := (160 : Int32)) (b := x0)] at *
  rcases h2 with rfl | rfl <;> rcases h5 with rfl | rfl <;> simp_all
set_option maxRecDepth 65536 in
set_option maxHeartbeats 40000000 in
theorem own_dead5 (x0 : Int32) (x1 : Int32) (x2 : Int32) (r1 : Addr) (a88 : Addr) (v2 : Int32) (hv2 : v2 = (if (x2 &&& (1 : Int32)) = (0 : Int32) then (0 : Int32) else (1 : Int32))) (v5 : Int32) (hv5 : v5 = (if (x2 &&& (2 : Int32)) = (0 : Int32) then (0 : Int32) else (1 : Int32))) (v8 : Int32) (hv8 : v8 = (if (x2 &&& (4 : Int32)) = (0 : Int32) then x1 else x0)) (u10 : Int32) (hu10 : ((XT.ushr x2 (3 : Int32)) &&& (3 : Int32)) = u10) (v99 : Int32) (hv99 : v99 = (if (160 : Int32) = v8 then (if v2 = v5 then (1 : Int32) else (0 : Int32)) else (0 : Int32))) (g103 : Int32) (hg103 : (if v8 = (160 : Int32) then (if (if (.ref a88 : Value) = (.ref r1 : Value) then (1 : Int32) else (0 : Int32)) = (if (.ref r1 : Value) = (.ref r1 : Value) then (1 : Int32) else (0 : Int32)) then (1 : Int32) else (0 : Int32)) else (0 : Int32)) = g103) (g107 : Int32) (hg107 : (if (160 : Int32) = v8 then (if (if (.ref r1 : Value) = (.ref r1 : Value) then (1 : Int32) else (0 : Int32)) = (if (.ref a88 : Value) = (.ref r1 : Value) then (1 : Int32) else (0 : Int32)) then (1 : Int32) else (0 : Int32)) else (0 : Int32)) = g107) (ne_r1_a88 : r1 ≠ a88) (c11 : ¬ (v2 = (0 : Int32))) (c76 : ¬ (u10 = (1 : Int32))) (c79 : ¬ (u10 = (2 : Int32))) (c87 : v5 = (0 : Int32)) (c104 : g103 = v99) : g107 = v99 := by
  have ne_r1_a88s := ne_r1_a88.symm
  have h2 : v2 = 0 ∨ v2 = 1 := by rw [hv2]; split <;> simp
  have h5 : v5 = 0 ∨ v5 = 1 := by rw [hv5]; split <;> simp
  clear hv2 hv5 hv8 hu10
  simp only [Value.ref.injEq, eq_comm (a := x0) (b := v8), eq_comm (a := (160 : Int32)) (b := v8), eq_comm (a := (160 : Int32)) (b := x0)] at *
  rcases h2 with rfl | rfl <;> rcases h5 with rfl | rfl <;> simp_all
set_option maxRecDepth 65536 in
set_option maxHeartbeats 40000000 in
theorem own_dead6 (x0 : Int32) (x1 : Int32) (x2 : Int32) (r1 : Addr) (a88 : Addr) (v2 : Int32) (hv2 : v2 = (if (x2 &&& (1 : Int32)) = (0 : Int32) then (0 : Int32) else (1 : Int32))) (v5 : Int32) (hv5 : v5 = (if (x2 &&& (2 : Int32)) = (0 : Int32) then (0 : Int32) else (1 : Int32))) (v8 : Int32) (hv8 : v8 = (if (x2 &&& (4 : Int32)) = (0 : Int32) then x1 else x0)) (u10 : Int32) (hu10 : ((XT.ushr x2 (3 : Int32)) &&& (3 : Int32)) = u10) (v99 : Int32) (hv99 : v99 = (if (160 : Int32) = v8 then (if v2 = v5 then (1 : Int32) else (0 : Int32)) else (0 : Int32))) (g103 : Int32) (hg103 : (if v8 = (160 : Int32) then (if (if (.ref a88 : Value) = (.ref r1 : Value) then (1 : Int32) else (0 : Int32)) = (if (.ref r1 : Value) = (.ref r1 : Value) then (1 : Int32) else (0 : Int32)) then (1 : Int32) else (0 : Int32)) else (0 : Int32)) = g103) (ne_r1_a88 : r1 ≠ a88) (c11 : ¬ (v2 = (0 : Int32))) (c76 : ¬ (u10 = (1 : Int32))) (c79 : ¬ (u10 = (2 : Int32))) (c87 : v5 = (0 : Int32)) : g103 = v99 := by
  have ne_r1_a88s := ne_r1_a88.symm
  have h2 : v2 = 0 ∨ v2 = 1 := by rw [hv2]; split <;> simp
  have h5 : v5 = 0 ∨ v5 = 1 := by rw [hv5]; split <;> simp
  clear hv2 hv5 hv8 hu10
  simp only [Value.ref.injEq, eq_comm (a := x0) (b := v8), eq_comm (a := (160 : Int32)) (b := v8), eq_comm (a := (160 : Int32)) (b := x0)] at *
  rcases h2 with rfl | rfl <;> rcases h5 with rfl | rfl <;> simp_all
set_option maxRecDepth 65536 in
set_option maxHeartbeats 40000000 in
theorem own_dead7 (x0 : Int32) (x1 : Int32) (x2 : Int32) (r1 : Addr) (v2 : Int32) (hv2 : v2 = (if (x2 &&& (1 : Int32)) = (0 : Int32) then (0 : Int32) else (1 : Int32))) (v5 : Int32) (hv5 : v5 = (if (x2 &&& (2 : Int32)) = (0 : Int32) then (0 : Int32) else (1 : Int32))) (v8 : Int32) (hv8 : v8 = (if (x2 &&& (4 : Int32)) = (0 : Int32) then x1 else x0)) (u10 : Int32) (hu10 : ((XT.ushr x2 (3 : Int32)) &&& (3 : Int32)) = u10) (v112 : Int32) (hv112 : v112 = (if v2 = v5 then (1 : Int32) else (0 : Int32))) (g116 : Int32) (hg116 : (if (160 : Int32) = (160 : Int32) then (if (if (.ref r1 : Value) = (.ref r1 : Value) then (1 : Int32) else (0 : Int32)) = (if (.ref r1 : Value) = (.ref r1 : Value) then (1 : Int32) else (0 : Int32)) then (1 : Int32) else (0 : Int32)) else (0 : Int32)) = g116) (g120 : Int32) (hg120 : (if (160 : Int32) = (160 : Int32) then (if (if (.ref r1 : Value) = (.ref r1 : Value) then (1 : Int32) else (0 : Int32)) = (if (.ref r1 : Value) = (.ref r1 : Value) then (1 : Int32) else (0 : Int32)) then (1 : Int32) else (0 : Int32)) else (0 : Int32)) = g120) (c11 : ¬ (v2 = (0 : Int32))) (c76 : ¬ (u10 = (1 : Int32))) (c79 : ¬ (u10 = (2 : Int32))) (c87 : ¬ (v5 = (0 : Int32))) (c117 : g116 = v112) : g120 = v112 := by
  have h2 : v2 = 0 ∨ v2 = 1 := by rw [hv2]; split <;> simp
  have h5 : v5 = 0 ∨ v5 = 1 := by rw [hv5]; split <;> simp
  clear hv2 hv5 hv8 hu10
  simp only [Value.ref.injEq, eq_comm (a := x0) (b := v8), eq_comm (a := (160 : Int32)) (b := v8), eq_comm (a := (160 : Int32)) (b := x0)] at *
  rcases h2 with rfl | rfl <;> rcases h5 with rfl | rfl <;> simp_all
set_option maxRecDepth 65536 in
set_option maxHeartbeats 40000000 in
theorem own_dead8 (x0 : Int32) (x1 : Int32) (x2 : Int32) (r1 : Addr) (v2 : Int32) (hv2 : v2 = (if (x2 &&& (1 : Int32)) = (0 : Int32) then (0 : Int32) else (1 : Int32))) (v5 : Int32) (hv5 : v5 = (if (x2 &&& (2 : Int32)) = (0 : Int32) then (0 : Int32) else (1 : Int32))) (v8 : Int32) (hv8 : v8 = (if (x2 &&& (4 : Int32)) = (0 : Int32) then x1 else x0)) (u10 : Int32) (hu10 : ((XT.ushr x2 (3 : Int32)) &&& (3 : Int32)) = u10) (v112 : Int32) (hv112 : v112 = (if v2 = v5 then (1 : Int32) else (0 : Int32))) (g116 : Int32) (hg116 : (if (160 : Int32) = (160 : Int32) then (if (if (.ref r1 : Value) = (.ref r1 : Value) then (1 : Int32) else (0 : Int32)) = (if (.ref r1 : Value) = (.ref r1 : Value) then (1 : Int32) else (0 : Int32)) then (1 : Int32) else (0 : Int32)) else (0 : Int32)) = g116) (c11 : ¬ (v2 = (0 : Int32))) (c76 : ¬ (u10 = (1 : Int32))) (c79 : ¬ (u10 = (2 : Int32))) (c87 : ¬ (v5 = (0 : Int32))) : g116 = v112 := by
  have h2 : v2 = 0 ∨ v2 = 1 := by rw [hv2]; split <;> simp
  have h5 : v5 = 0 ∨ v5 = 1 := by rw [hv5]; split <;> simp
  clear hv2 hv5 hv8 hu10
  simp only [Value.ref.injEq, eq_comm (a := x0) (b := v8), eq_comm (a := (160 : Int32)) (b := v8), eq_comm (a := (160 : Int32)) (b := x0)] at *
  rcases h2 with rfl | rfl <;> rcases h5 with rfl | rfl <;> simp_all
set_option maxRecDepth 65536 in
set_option maxHeartbeats 40000000 in
theorem rm0 (l : Launch) (Z : State) (a0 : Array Value) (hw : ∀ d ∈ tables_1, d.before a0 Z = true) (ws : List Jvm.Cond) (x0 : Int32) (x1 : Int32) (x2 : Int32) (r0 : Addr) (r1 : Addr) (rc : Addr) (kc : ClassId) (vc : List Value) (h0 : Heap) (n0 : Nat) (Z0 : n0 ≤ h0.size) (O0 : Old Z n0 h0) (SH : Sta Z Z.heap "java/lang/Integer$IntegerCache" "high" "I" (.int 127)) (SC : Sta Z Z.heap "java/lang/Integer$IntegerCache" "cache" "[Ljava/lang/Integer;" (.ref rc)) (AC : Ary Z Z.heap rc kc (.object "java/lang/Integer") vc) (hlen : vc.length = 256) (HC : ∀ j : Nat, j < 256 → ∃ r, vc[j]? = some (.ref r) ∧ Exa Z Z.heap r "java/lang/Integer") (S_r0 : Sta Z Z.heap "com/example/tintfold/tintfold/QualifierKind" "DENSITY" "Lcom/example/tintfold/tintfold/QualifierKind;" (.ref r0)) (E_r0 : Exa Z Z.heap r0 "com/example/tintfold/tintfold/QualifierKind$5") (S_r1 : Sta Z Z.heap "com/example/tintfold/tintfold/Qualifier$Density" "NONE" "Lcom/example/tintfold/tintfold/Qualifier$Density;" (.ref r1)) (E_r1 : Exa Z Z.heap r1 "com/example/tintfold/tintfold/Qualifier$Density") (Fdpi_r1 : Fld Z Z.heap r1 "com/example/tintfold/tintfold/Qualifier$Density" "dpi" "I" (.int 160)) :
    Con l Z x code maxLocals ret ws room_1 #[(.int x0), (.int x1), (.int x2)] h0 (room_1.cells) (room_1.slots) (Q_rm0 Z x0 x1 x2 r0 r1 rc kc vc h0 n0) := by
  refine Con.of (plainFor_of_name pn4) ?_
  intro p e s m below meth c s₁ hx hby hml hown hnm hret hlk hZ X0 e0
  have N0 := Fr.nil n0
  refine goE (L := #[.val (.int x0), .val (.int x1), .val (.int x2), .unset, .unset, .unset, .unset, .unset, .unset, .unset, .unset, .unset, .unset]) (ef8 m x0 x1 x2) ?_
  refine gIloadN X0 hx (hb hby at_0) (q := 1) rfl rfl ?_
  refine gIconst X0 hx (1 : Int32) (hb hby at_1) (q := 2) rfl (by decide) ?_
  refine gIand X0 hx (hb hby at_2) (q := 3) rfl ?_
  have J3_3 : ∀ v2 : Int32, v2 = (if (x2 &&& (1 : Int32)) = (0 : Int32) then (0 : Int32) else (1 : Int32)) → Go p.tables e below (Done s (Q_rm0 Z x0 x1 x2 r0 r1 rc kc vc h0 n0) (room_1.cells) (room_1.slots)) (s₁.setTop (mkF m 11 #[.val (.int x0), .val (.int x1), .val (.int x2), .unset, .unset, .unset, .unset, .unset, .unset, .unset, .unset, .unset, .unset] [(.int v2)])) := by
    intro v2 hv2
    refine gIstoreN X0 hx (hb hby at_11) (q := 12) rfl (L' := #[.val (.int x0), .val (.int x1), .val (.int x2), .val (.int v2), .unset, .unset, .unset, .unset, .unset, .unset, .unset, .unset, .unset]) rfl ?_
    refine gIloadN X0 hx (hb hby at_12) (q := 13) rfl rfl ?_
    refine gIconst X0 hx (2 : Int32) (hb hby at_13) (q := 14) rfl (by decide) ?_
    refine gIand X0 hx (hb hby at_14) (q := 15) rfl ?_
    have J15_6 : ∀ v5 : Int32, v5 = (if (x2 &&& (2 : Int32)) = (0 : Int32) then (0 : Int32) else (1 : Int32)) → Go p.tables e below (Done s (Q_rm0 Z x0 x1 x2 r0 r1 rc kc vc h0 n0) (room_1.cells) (room_1.slots)) (s₁.setTop (mkF m 23 #[.val (.int x0), .val (.int x1), .val (.int x2), .val (.int v2), .unset, .unset, .unset, .unset, .unset, .unset, .unset, .unset, .unset] [(.int v5)])) := by
      intro v5 hv5
      refine gIstore X0 hx (hb hby at_23) (q := 25) rfl (L' := #[.val (.int x0), .val (.int x1), .val (.int x2), .val (.int v2), .val (.int v5), .unset, .unset, .unset, .unset, .unset, .unset, .unset, .unset]) rfl ?_
      refine gIloadN X0 hx (hb hby at_25) (q := 26) rfl rfl ?_
      refine gIconst X0 hx (4 : Int32) (hb hby at_26) (q := 27) rfl (by decide) ?_
      refine gIand X0 hx (hb hby at_27) (q := 28) rfl ?_
      have J28_9 : ∀ v8 : Int32, v8 = (if (x2 &&& (4 : Int32)) = (0 : Int32) then x1 else x0) → Go p.tables e below (Done s (Q_rm0 Z x0 x1 x2 r0 r1 rc kc vc h0 n0) (room_1.cells) (room_1.slots)) (s₁.setTop (mkF m 36 #[.val (.int x0), .val (.int x1), .val (.int x2), .val (.int v2), .val (.int v5), .unset, .unset, .unset, .unset, .unset, .unset, .unset, .unset] [(.int v8)])) := by
        intro v8 hv8
        refine gIstore X0 hx (hb hby at_36) (q := 38) rfl (L' := #[.val (.int x0), .val (.int x1), .val (.int x2), .val (.int v2), .val (.int v5), .val (.int v8), .unset, .unset, .unset, .unset, .unset, .unset, .unset]) rfl ?_
        refine gIloadN X0 hx (hb hby at_38) (q := 39) rfl rfl ?_
        refine gIconst X0 hx (3 : Int32) (hb hby at_39) (q := 40) rfl (by decide) ?_
        refine gIushr X0 hx (hb hby at_40) (q := 41) rfl ?_
        refine gIconst X0 hx (3 : Int32) (hb hby at_41) (q := 42) rfl (by decide) ?_
        refine gIand X0 hx (hb hby at_42) (q := 43) rfl ?_
        generalize hu10 : ((XT.ushr x2 (3 : Int32)) &&& (3 : Int32)) = u10
        refine gIstore X0 hx (hb hby at_43) (q := 45) rfl (L' := #[.val (.int x0), .val (.int x1), .val (.int x2), .val (.int v2), .val (.int v5), .val (.int v8), .val (.int u10), .unset, .unset, .unset, .unset, .unset, .unset]) rfl ?_
        refine gIloadN X0 hx (hb hby at_45) (q := 46) rfl rfl ?_
        by_cases c11 : v2 = (0 : Int32)
        · refine gIfY X0 hx (hb hby at_46) (q := 55) (by decide) (by decide) (XT.i0_eq_t c11) ?_
          refine gNewO X0 hx hZ hown (hw _ (List.mem_of_getElem? (i := 0) rfl)) (hw _ (List.mem_of_getElem? (i := 1) rfl)) (hw _ (List.mem_of_getElem? (i := 2) rfl)) e0 (hb hby at_55) (q := 58) rfl (by decide) (by decide) (fun T12 h12 a12 X12 e12 g12 E12 A12 D12 => ?_)
          have O13 := O0.ext E12
          have le_a12 : n0 ≤ a12 := by rw [g12]; exact Z0
          have ne_r1_a12 : r1 ≠ a12 := by rw [g12]; exact Nat.ne_of_lt (Exa.ext O0.2 E_r1).lt
          have Z14 := Nat.le_trans Z0 E12.1
          have F15 : Fld Z h12 a12 "com/example/tintfold/tintfold/Qualifier" "kind" "Lcom/example/tintfold/tintfold/QualifierKind;" (.null) := D12 (Or.inr (hw _ (List.mem_of_getElem? (i := 18) rfl))) (ty := .object "com/example/tintfold/tintfold/QualifierKind") (by decide)
          have F16 : Fld Z h12 a12 "com/example/tintfold/tintfold/Qualifier$Density" "dpi" "I" (.int (0 : Int32)) := D12 (Or.inr (hw _ (List.mem_of_getElem? (i := 20) rfl))) (ty := .int) (by decide)
          clear D12
          refine gDup X12 hx (hb hby at_58) (q := 59) rfl rfl ?_
          refine gIloadN X12 hx (hb hby at_59) (q := 60) rfl rfl ?_
          refine gCallN X12 hx hZ rfl hown (hw _ (List.mem_of_getElem? (i := 3) rfl)) (hw _ (List.mem_of_getElem? (i := 4) rfl)) (hw _ (List.mem_of_getElem? (i := 2) rfl)) (hw _ (List.mem_of_getElem? (i := 5) rfl)) (by decide) (rmDen l Z a0 hw [] a12 x0 r0 h12 n0 Z14 F15 F16 A12 le_a12 (Sta.ext O13.2 S_r0)) (W := 1) (by decide) (by decide) e12 (by rw [hml]; rfl) [(.int x0)] (lenOf pd1 rfl) rfl (S := [(.ref a12)]) rfl (Nat.le_of_eq rfl) (hb hby at_60) (q := 63) rfl (by decide) (by decide) (fun r17 T17 M17 X17 q17 => ?_)
          obtain ⟨rfl, M17n, K17, P17e, P17m⟩ := q17
          have N18 := Fr.app N0 M17n
          have O20 := O13.keep K17 (allS le_a12 all0)
          have Z21 := Nat.le_trans Z14 K17.1
          dsimp only [Option.toList, List.cons_append, List.nil_append]
          refine gAstore X17 hx (hb hby at_63) (q := 65) rfl rfl (L' := #[.val (.int x0), .val (.int x1), .val (.int x2), .val (.int v2), .val (.int v5), .val (.int v8), .val (.int u10), .val (.ref a12), .unset, .unset, .unset, .unset, .unset]) rfl ?_
          refine gIloadN X17 hx (hb hby at_65) (q := 66) rfl rfl ?_
          refine gIfY X17 hx (hb hby at_66) (q := 75) (by decide) (by decide) (XT.i0_eq_t c11) ?_
          refine gIloadN X17 hx (hb hby at_75) (q := 76) rfl rfl ?_
          refine gIstore X17 hx (hb hby at_76) (q := 78) rfl (L' := #[.val (.int x0), .val (.int x1), .val (.int x2), .val (.int v2), .val (.int v5), .val (.int v8), .val (.int u10), .val (.ref a12), .val (.int x0), .unset, .unset, .unset, .unset]) rfl ?_
          refine gNull X17 hx (hb hby at_78) (q := 79) rfl ?_
          refine gAstore X17 hx (hb hby at_79) (q := 81) rfl rfl (L' := #[.val (.int x0), .val (.int x1), .val (.int x2), .val (.int v2), .val (.int v5), .val (.int v8), .val (.int u10), .val (.ref a12), .val (.int x0), .val (.null), .unset, .unset, .unset]) rfl ?_
          refine gIload X17 hx (hb hby at_81) (q := 83) rfl rfl ?_
          refine gIconst X17 hx (1 : Int32) (hb hby at_83) (q := 84) rfl (by decide) ?_
          by_cases c22 : u10 = (1 : Int32)
          · refine gIcmpN X17 hx (hb hby at_84) (q := 87) rfl (XT.ii_ne_f c22) ?_
            refine gNull X17 hx (hb hby at_87) (q := 88) rfl ?_
            refine gAstore X17 hx (hb hby at_88) (q := 90) rfl rfl (L' := #[.val (.int x0), .val (.int x1), .val (.int x2), .val (.int v2), .val (.int v5), .val (.int v8), .val (.int u10), .val (.ref a12), .val (.int x0), .val (.null), .val (.null), .unset, .unset]) rfl ?_
            refine gIconst X17 hx (0 : Int32) (hb hby at_90) (q := 91) rfl (by decide) ?_
            refine gIstore X17 hx (hb hby at_91) (q := 93) rfl (L' := #[.val (.int x0), .val (.int x1), .val (.int x2), .val (.int v2), .val (.int v5), .val (.int v8), .val (.int u10), .val (.ref a12), .val (.int x0), .val (.null), .val (.null), .val (.int (0 : Int32)), .unset]) rfl ?_
            refine gGoto X17 hx (hb hby at_93) (q := 176) (by decide) (by decide) ?_
            refine gAload X17 hx (hb hby at_176) (q := 178) rfl rfl rfl ?_
            refine gAload X17 hx (hb hby at_178) (q := 180) rfl rfl rfl ?_
            refine gCallV X17 hx hZ hown (hw _ (List.mem_of_getElem? (i := 23) rfl)) (hw _ (List.mem_of_getElem? (i := 24) rfl)) (hw _ (List.mem_of_getElem? (i := 26) rfl)) (hw _ (List.mem_of_getElem? (i := 25) rfl)) (hw _ (List.mem_of_getElem? (i := 2) rfl)) (hw _ (List.mem_of_getElem? (i := 27) rfl)) (notFace_of_selects (args := #[]) (mvT hZ (hw _ (List.mem_of_getElem? (i := 26) rfl)))) (by decide) (rmEqN l Z a0 hw [] a12 T17.heap n0 Z21) (W := 0) (by decide) (by decide) rfl (by rw [hml]; rfl) P17e [(.null)] (lenOf pd3 rfl) rfl (S := []) rfl (Nat.le_of_eq rfl) (hb hby at_180) (q := 183) rfl (by decide) (by decide) (fun r23 T23 M23 X23 q23 => ?_)
            obtain ⟨rfl, M23n, e23⟩ := q23
            have N24 := Fr.app N18 M23n
            dsimp only [Option.toList, List.cons_append, List.nil_append]
            refine gIstore X23 hx (hb hby at_183) (q := 185) rfl (L' := #[.val (.int x0), .val (.int x1), .val (.int x2), .val (.int v2), .val (.int v5), .val (.int v8), .val (.int u10), .val (.ref a12), .val (.int x0), .val (.null), .val (.null), .val (.int (0 : Int32)), .val (.int (0 : Int32))]) rfl ?_
            refine gIload X23 hx (hb hby at_185) (q := 187) rfl rfl ?_
            refine gIload X23 hx (hb hby at_187) (q := 189) rfl rfl ?_
            refine gIcmpY X23 hx (hb hby at_189) (q := 194) (by decide) (by decide) (XT.ii_eq_t (by decide)) ?_
            refine gAload X23 hx (hb hby at_194) (q := 196) rfl rfl rfl ?_
            refine gNullY X23 hx (hb hby at_196) (q := 213) (by decide) (by decide) rfl ?_
            refine gIconst X23 hx (1 : Int32) (hb hby at_213) (q := 214) rfl (by decide) ?_
            exact gRetZ X23 hx hlk hret (hb hby at_214) (by decide) (by decide) (Or.inr rfl) ⟨rfl, N24⟩
          · refine gIcmpY X17 hx (hb hby at_84) (q := 96) (by decide) (by decide) (XT.ii_ne_t c22) ?_
            refine gIload X17 hx (hb hby at_96) (q := 98) rfl rfl ?_
            refine gIconst X17 hx (2 : Int32) (hb hby at_98) (q := 99) rfl (by decide) ?_
            by_cases c25 : u10 = (2 : Int32)
            · refine gIcmpN X17 hx (hb hby at_99) (q := 102) rfl (XT.ii_ne_f c25) ?_
              refine gIload X17 hx (hb hby at_102) (q := 104) rfl rfl ?_
              refine gCallS X17 hx hZ hown (hw _ (List.mem_of_getElem? (i := 31) rfl)) (hw _ (List.mem_of_getElem? (i := 32) rfl)) (hw _ (List.mem_of_getElem? (i := 33) rfl)) (hw _ (List.mem_of_getElem? (i := 34) rfl)) (by decide) (rmVal l Z a0 hw [] x0 rc kc vc T17.heap n0 Z21 (Sta.ext O20.2 SH) (Sta.ext O20.2 SC) (Ary.ext O20.2 AC) hlen (fun j hj => (HC j hj).elim fun r hr => ⟨r, hr.1, Exa.ext O20.2 hr.2⟩)) (W := 0) (by decide) (by decide) rfl (by rw [hml]; rfl) [(.int x0)] (lenOf pd4 rfl) rfl (S := []) rfl (Nat.le_of_eq rfl) (hb hby at_104) (q := 107) rfl (by decide) (by decide) (fun r27 T27 M27 X27 q27 => ?_)
              obtain ⟨rI26, rfl, M27n, K27, ErI26⟩ := q27
              have N28 := Fr.app N18 M27n
              have E29 := Exa.keep P17e K27
              have F30 := Fld.keep P17m K27 nin0
              have O31 := O20.keep K27 all0
              have Z32 := Nat.le_trans Z21 K27.1
              dsimp only [Option.toList, List.cons_append, List.nil_append]
              refine gAstore X27 hx (hb hby at_107) (q := 109) rfl rfl (L' := #[.val (.int x0), .val (.int x1), .val (.int x2), .val (.int v2), .val (.int v5), .val (.int v8), .val (.int u10), .val (.ref a12), .val (.int x0), .val (.null), .val (.ref rI26), .unset, .unset]) rfl ?_
              refine gIconst X27 hx (0 : Int32) (hb hby at_109) (q := 110) rfl (by decide) ?_
              refine gIstore X27 hx (hb hby at_110) (q := 112) rfl (L' := #[.val (.int x0), .val (.int x1), .val (.int x2), .val (.int v2), .val (.int v5), .val (.int v8), .val (.int u10), .val (.ref a12), .val (.int x0), .val (.null), .val (.ref rI26), .val (.int (0 : Int32)), .unset]) rfl ?_
              refine gGoto X27 hx (hb hby at_112) (q := 176) (by decide) (by decide) ?_
              refine gAload X27 hx (hb hby at_176) (q := 178) rfl rfl rfl ?_
              refine gAload X27 hx (hb hby at_178) (q := 180) rfl rfl rfl ?_
              refine gCallV X27 hx hZ hown (hw _ (List.mem_of_getElem? (i := 23) rfl)) (hw _ (List.mem_of_getElem? (i := 24) rfl)) (hw _ (List.mem_of_getElem? (i := 26) rfl)) (hw _ (List.mem_of_getElem? (i := 25) rfl)) (hw _ (List.mem_of_getElem? (i := 2) rfl)) (hw _ (List.mem_of_getElem? (i := 27) rfl)) (notFace_of_selects (args := #[]) (mvT hZ (hw _ (List.mem_of_getElem? (i := 26) rfl)))) (by decide) (rmEqI l Z a0 hw [] a12 rI26 T27.heap n0 Z32 ErI26) (W := 0) (by decide) (by decide) rfl (by rw [hml]; rfl) E29 [(.ref rI26)] (lenOf pd3 rfl) rfl (S := []) rfl (Nat.le_of_eq rfl) (hb hby at_180) (q := 183) rfl (by decide) (by decide) (fun r33 T33 M33 X33 q33 => ?_)
              obtain ⟨rfl, M33n, e33⟩ := q33
              have N34 := Fr.app N28 M33n
              dsimp only [Option.toList, List.cons_append, List.nil_append]
              refine gIstore X33 hx (hb hby at_183) (q := 185) rfl (L' := #[.val (.int x0), .val (.int x1), .val (.int x2), .val (.int v2), .val (.int v5), .val (.int v8), .val (.int u10), .val (.ref a12), .val (.int x0), .val (.null), .val (.ref rI26), .val (.int (0 : Int32)), .val (.int (0 : Int32))]) rfl ?_
              refine gIload X33 hx (hb hby at_185) (q := 187) rfl rfl ?_
              refine gIload X33 hx (hb hby at_187) (q := 189) rfl rfl ?_
              refine gIcmpY X33 hx (hb hby at_189) (q := 194) (by decide) (by decide) (XT.ii_eq_t (by decide)) ?_
              refine gAload X33 hx (hb hby at_194) (q := 196) rfl rfl rfl ?_
              refine gNullY X33 hx (hb hby at_196) (q := 213) (by decide) (by decide) rfl ?_
              refine gIconst X33 hx (1 : Int32) (hb hby at_213) (q := 214) rfl (by decide) ?_
              exact gRetZ X33 hx hlk hret (hb hby at_214) (by decide) (by decide) (Or.inr rfl) ⟨rfl, N34⟩
            · refine gIcmpY X17 hx (hb hby at_99) (q := 115) (by decide) (by decide) (XT.ii_ne_t c25) ?_
              refine gIload X17 hx (hb hby at_115) (q := 117) rfl rfl ?_
              by_cases c35 : v5 = (0 : Int32)
              · refine gIfY X17 hx (hb hby at_117) (q := 126) (by decide) (by decide) (XT.i0_eq_t c35) ?_
                refine gNewO X17 hx hZ hown (hw _ (List.mem_of_getElem? (i := 0) rfl)) (hw _ (List.mem_of_getElem? (i := 1) rfl)) (hw _ (List.mem_of_getElem? (i := 2) rfl)) rfl (hb hby at_126) (q := 129) rfl (by decide) (by decide) (fun T36 h36 a36 X36 e36 g36 E36 A36 D36 => ?_)
                have E37 := Exa.ext E36 P17e
                have F38 := Fld.ext E36 P17m
                have O39 := O20.ext E36
                have le_a36 : n0 ≤ a36 := by rw [g36]; exact Z21
                have ne_r1_a36 : r1 ≠ a36 := by rw [g36]; exact Nat.ne_of_lt (Exa.ext O20.2 E_r1).lt
                have ne_a12_a36 : a12 ≠ a36 := by rw [g36]; exact Nat.ne_of_lt P17e.lt
                have Z40 := Nat.le_trans Z21 E36.1
                have F41 : Fld Z h36 a36 "com/example/tintfold/tintfold/Qualifier" "kind" "Lcom/example/tintfold/tintfold/QualifierKind;" (.null) := D36 (Or.inr (hw _ (List.mem_of_getElem? (i := 18) rfl))) (ty := .object "com/example/tintfold/tintfold/QualifierKind") (by decide)
                have F42 : Fld Z h36 a36 "com/example/tintfold/tintfold/Qualifier$Density" "dpi" "I" (.int (0 : Int32)) := D36 (Or.inr (hw _ (List.mem_of_getElem? (i := 20) rfl))) (ty := .int) (by decide)
                clear D36
                refine gDup X36 hx (hb hby at_129) (q := 130) rfl rfl ?_
                refine gIload X36 hx (hb hby at_130) (q := 132) rfl rfl ?_
                refine gCallN X36 hx hZ rfl hown (hw _ (List.mem_of_getElem? (i := 3) rfl)) (hw _ (List.mem_of_getElem? (i := 4) rfl)) (hw _ (List.mem_of_getElem? (i := 2) rfl)) (hw _ (List.mem_of_getElem? (i := 5) rfl)) (by decide) (rmDen l Z a0 hw [] a36 v8 r0 h36 n0 Z40 F41 F42 A36 le_a36 (Sta.ext O39.2 S_r0)) (W := 1) (by decide) (by decide) e36 (by rw [hml]; rfl) [(.int v8)] (lenOf pd1 rfl) rfl (S := [(.ref a36)]) rfl (Nat.le_of_eq rfl) (hb hby at_132) (q := 135) rfl (by decide) (by decide) (fun r43 T43 M43 X43 q43 => ?_)
                obtain ⟨rfl, M43n, K43, P43e, P43m⟩ := q43
                have N44 := Fr.app N18 M43n
                have E45 := Exa.keep E37 K43
                have F46 := Fld.keep F38 K43 (ninS ne_a12_a36 nin0)
                have O48 := O39.keep K43 (allS le_a36 all0)
                have Z49 := Nat.le_trans Z40 K43.1
                dsimp only [Option.toList, List.cons_append, List.nil_append]
                refine gAstore X43 hx (hb hby at_135) (q := 137) rfl rfl (L' := #[.val (.int x0), .val (.int x1), .val (.int x2), .val (.int v2), .val (.int v5), .val (.int v8), .val (.int u10), .val (.ref a12), .val (.int x0), .val (.ref a36), .unset, .unset, .unset]) rfl ?_
                refine gAload X43 hx (hb hby at_137) (q := 139) rfl rfl rfl ?_
                refine gAstore X43 hx (hb hby at_139) (q := 141) rfl rfl (L' := #[.val (.int x0), .val (.int x1), .val (.int x2), .val (.int v2), .val (.int v5), .val (.int v8), .val (.int u10), .val (.ref a12), .val (.int x0), .val (.ref a36), .val (.ref a36), .unset, .unset]) rfl ?_
                refine gIload X43 hx (hb hby at_141) (q := 143) rfl rfl ?_
                refine gIfY X43 hx (hb hby at_143) (q := 152) (by decide) (by decide) (XT.i0_eq_t c35) ?_
                refine gIload X43 hx (hb hby at_152) (q := 154) rfl rfl ?_
                refine gIstore X43 hx (hb hby at_154) (q := 156) rfl (L' := #[.val (.int x0), .val (.int x1), .val (.int x2), .val (.int v2), .val (.int v5), .val (.int v8), .val (.int u10), .val (.ref a12), .val (.int x0), .val (.ref a36), .val (.ref a36), .unset, .val (.int v8)]) rfl ?_
                refine gIload X43 hx (hb hby at_156) (q := 158) rfl rfl ?_
                refine gIload X43 hx (hb hby at_158) (q := 160) rfl rfl ?_
                have J160_52 : ∀ v51 : Int32, v51 = (if x0 = v8 then (if v2 = v5 then (1 : Int32) else (0 : Int32)) else (0 : Int32)) → Go p.tables e below (Done s (Q_rm0 Z x0 x1 x2 r0 r1 rc kc vc h0 n0) (room_1.cells) (room_1.slots)) (T43.setTop (mkF m 174 #[.val (.int x0), .val (.int x1), .val (.int x2), .val (.int v2), .val (.int v5), .val (.int v8), .val (.int u10), .val (.ref a12), .val (.int x0), .val (.ref a36), .val (.ref a36), .unset, .val (.int v8)] [(.int v51)])) := by
                  intro v51 hv51
                  refine gIstore X43 hx (hb hby at_174) (q := 176) rfl (L' := #[.val (.int x0), .val (.int x1), .val (.int x2), .val (.int v2), .val (.int v5), .val (.int v8), .val (.int u10), .val (.ref a12), .val (.int x0), .val (.ref a36), .val (.ref a36), .val (.int v51), .val (.int v8)]) rfl ?_
                  refine gAload X43 hx (hb hby at_176) (q := 178) rfl rfl rfl ?_
                  refine gAload X43 hx (hb hby at_178) (q := 180) rfl rfl rfl ?_
                  refine gCallV X43 hx hZ hown (hw _ (List.mem_of_getElem? (i := 23) rfl)) (hw _ (List.mem_of_getElem? (i := 24) rfl)) (hw _ (List.mem_of_getElem? (i := 26) rfl)) (hw _ (List.mem_of_getElem? (i := 25) rfl)) (hw _ (List.mem_of_getElem? (i := 2) rfl)) (hw _ (List.mem_of_getElem? (i := 27) rfl)) (notFace_of_selects (args := #[]) (mvT hZ (hw _ (List.mem_of_getElem? (i := 26) rfl)))) (by decide) (rmEqC l Z a0 hw [] a12 a36 x0 v8 r1 T43.heap n0 Z49 F46 P43m P43e (Sta.ext O48.2 S_r1)) (W := 0) (by decide) (by decide) rfl (by rw [hml]; rfl) E45 [(.ref a36)] (lenOf pd3 rfl) rfl (S := []) rfl (Nat.le_of_eq rfl) (hb hby at_180) (q := 183) rfl (by decide) (by decide) (fun r53 T53 M53 X53 q53 => ?_)
                  obtain ⟨rfl, M53n, e53⟩ := q53
                  have N54 := Fr.app N44 M53n
                  dsimp only [Option.toList, List.cons_append, List.nil_append]
                  generalize hg55 : (if v8 = x0 then (if (if (.ref a36 : Value) = (.ref r1 : Value) then (1 : Int32) else (0 : Int32)) = (if (.ref a12 : Value) = (.ref r1 : Value) then (1 : Int32) else (0 : Int32)) then (1 : Int32) else (0 : Int32)) else (0 : Int32)) = g55
                  refine gIstore X53 hx (hb hby at_183) (q := 185) rfl (L' := #[.val (.int x0), .val (.int x1), .val (.int x2), .val (.int v2), .val (.int v5), .val (.int v8), .val (.int u10), .val (.ref a12), .val (.int x0), .val (.ref a36), .val (.ref a36), .val (.int v51), .val (.int g55)]) rfl ?_
                  refine gIload X53 hx (hb hby at_185) (q := 187) rfl rfl ?_
                  refine gIload X53 hx (hb hby at_187) (q := 189) rfl rfl ?_
                  by_cases c56 : g55 = v51
                  · refine gIcmpY X53 hx (hb hby at_189) (q := 194) (by decide) (by decide) (XT.ii_eq_t c56) ?_
                    refine gAload X53 hx (hb hby at_194) (q := 196) rfl rfl rfl ?_
                    refine gNullN X53 hx (hb hby at_196) (q := 199) rfl rfl Value.noConfusion ?_
                    refine gAload X53 hx (hb hby at_199) (q := 201) rfl rfl rfl ?_
                    refine gAload X53 hx (hb hby at_201) (q := 203) rfl rfl rfl ?_
                    refine gCallV X53 hx hZ hown (hw _ (List.mem_of_getElem? (i := 23) rfl)) (hw _ (List.mem_of_getElem? (i := 24) rfl)) (hw _ (List.mem_of_getElem? (i := 26) rfl)) (hw _ (List.mem_of_getElem? (i := 25) rfl)) (hw _ (List.mem_of_getElem? (i := 2) rfl)) (hw _ (List.mem_of_getElem? (i := 27) rfl)) (notFace_of_selects (args := #[]) (mvT hZ (hw _ (List.mem_of_getElem? (i := 26) rfl)))) (by decide) (rmEqC l Z a0 hw [] a36 a12 v8 x0 r1 T43.heap n0 Z49 P43m F46 E45 (Sta.ext O48.2 S_r1)) (W := 0) (by decide) (by decide) e53 (by rw [hml]; rfl) P43e [(.ref a12)] (lenOf pd3 rfl) rfl (S := []) rfl (Nat.le_of_eq rfl) (hb hby at_203) (q := 206) rfl (by decide) (by decide) (fun r57 T57 M57 X57 q57 => ?_)
                    obtain ⟨rfl, M57n, e57⟩ := q57
                    have N58 := Fr.app N54 M57n
                    dsimp only [Option.toList, List.cons_append, List.nil_append]
                    generalize hg59 : (if x0 = v8 then (if (if (.ref a12 : Value) = (.ref r1 : Value) then (1 : Int32) else (0 : Int32)) = (if (.ref a36 : Value) = (.ref r1 : Value) then (1 : Int32) else (0 : Int32)) then (1 : Int32) else (0 : Int32)) else (0 : Int32)) = g59
                    refine gIload X57 hx (hb hby at_206) (q := 208) rfl rfl ?_
                    by_cases c60 : g59 = v51
                    · refine gIcmpY X57 hx (hb hby at_208) (q := 213) (by decide) (by decide) (XT.ii_eq_t c60) ?_
                      refine gIconst X57 hx (1 : Int32) (hb hby at_213) (q := 214) rfl (by decide) ?_
                      exact gRetZ X57 hx hlk hret (hb hby at_214) (by decide) (by decide) (Or.inr rfl) ⟨rfl, N58⟩
                    · refine gIcmpN X57 hx (hb hby at_208) (q := 211) rfl (XT.ii_eq_f c60) ?_
                      exact absurd (own_dead1 x0 x1 x2 r1 a12 a36 v2 hv2 v5 hv5 v8 hv8 u10 hu10 v51 hv51 g55 hg55 g59 hg59 ne_r1_a12 ne_r1_a36 ne_a12_a36 c11 c22 c25 c35 c56) c60
                  · refine gIcmpN X53 hx (hb hby at_189) (q := 192) rfl (XT.ii_eq_f c56) ?_
                    exact absurd (own_dead2 x0 x1 x2 r1 a12 a36 v2 hv2 v5 hv5 v8 hv8 u10 hu10 v51 hv51 g55 hg55 ne_r1_a12 ne_r1_a36 ne_a12_a36 c11 c22 c25 c35) c56
                by_cases c50 : x0 = v8
                · refine gIcmpN X43 hx (hb hby at_160) (q := 163) rfl (XT.ii_ne_f c50) ?_
                  refine gIloadN X43 hx (hb hby at_163) (q := 164) rfl rfl ?_
                  refine gIload X43 hx (hb hby at_164) (q := 166) rfl rfl ?_
                  by_cases c61 : v2 = v5
                  · refine gIcmpN X43 hx (hb hby at_166) (q := 169) rfl (XT.ii_ne_f c61) ?_
                    refine gIconst X43 hx (1 : Int32) (hb hby at_169) (q := 170) rfl (by decide) ?_
                    refine gGoto X43 hx (hb hby at_170) (q := 174) (by decide) (by decide) ?_
                    exact J160_52 _ (by first | rfl | (simp only [if_pos c11, if_neg c22, if_neg c25, if_pos c35, if_pos c50, if_pos c61]; done) | (simp only [if_pos c11, if_neg c22, if_neg c25, if_pos c35, if_pos c50, if_pos c61]; done) | (simp only [if_pos c11, if_neg c22, if_neg c25, if_pos c35, if_pos c50, if_pos c61, if_true, if_false]; done) | (exfalso; simp at c61; done))
                  · refine gIcmpY X43 hx (hb hby at_166) (q := 173) (by decide) (by decide) (XT.ii_ne_t c61) ?_
                    refine gIconst X43 hx (0 : Int32) (hb hby at_173) (q := 174) rfl (by decide) ?_
                    exact J160_52 _ (by first | rfl | (simp only [if_pos c11, if_neg c22, if_neg c25, if_pos c35, if_pos c50, if_neg c61]; done) | (simp only [if_pos c11, if_neg c22, if_neg c25, if_pos c35, if_pos c50, if_neg c61]; done) | (simp only [if_pos c11, if_neg c22, if_neg c25, if_pos c35, if_pos c50, if_neg c61, if_true, if_false]; done) | (exfalso; simp at c61; done))
                · refine gIcmpY X43 hx (hb hby at_160) (q := 173) (by decide) (by decide) (XT.ii_ne_t c50) ?_
                  refine gIconst X43 hx (0 : Int32) (hb hby at_173) (q := 174) rfl (by decide) ?_
                  exact J160_52 _ (by first | rfl | (simp only [if_pos c11, if_neg c22, if_neg c25, if_pos c35, if_neg c50]; done) | (simp only [if_pos c11, if_neg c22, if_neg c25, if_pos c35, if_neg c50]; done) | (simp only [if_pos c11, if_neg c22, if_neg c25, if_pos c35, if_neg c50, if_true, if_false]; done) | (exfalso; simp at c50; done))
              · refine gIfN X17 hx (hb hby at_117) (q := 120) rfl (XT.i0_eq_f c35) ?_
                refine gGetS X17 hx hZ hown (hw _ (List.mem_of_getElem? (i := 21) rfl)) Via.refl rfl (Sta.ext O20.2 S_r1) (hb hby at_120) (q := 123) rfl (fun T62 X62 e62 => ?_)
                refine gGoto X62 hx (hb hby at_123) (q := 135) (by decide) (by decide) ?_
                refine gAstore X62 hx (hb hby at_135) (q := 137) rfl rfl (L' := #[.val (.int x0), .val (.int x1), .val (.int x2), .val (.int v2), .val (.int v5), .val (.int v8), .val (.int u10), .val (.ref a12), .val (.int x0), .val (.ref r1), .unset, .unset, .unset]) rfl ?_
                refine gAload X62 hx (hb hby at_137) (q := 139) rfl rfl rfl ?_
                refine gAstore X62 hx (hb hby at_139) (q := 141) rfl rfl (L' := #[.val (.int x0), .val (.int x1), .val (.int x2), .val (.int v2), .val (.int v5), .val (.int v8), .val (.int u10), .val (.ref a12), .val (.int x0), .val (.ref r1), .val (.ref r1), .unset, .unset]) rfl ?_
                refine gIload X62 hx (hb hby at_141) (q := 143) rfl rfl ?_
                refine gIfN X62 hx (hb hby at_143) (q := 146) rfl (XT.i0_eq_f c35) ?_
                refine gSipush X62 hx (160 : Int32) (hb hby at_146) (q := 149) rfl (by decide) ?_
                refine gGoto X62 hx (hb hby at_149) (q := 154) (by decide) (by decide) ?_
                refine gIstore X62 hx (hb hby at_154) (q := 156) rfl (L' := #[.val (.int x0), .val (.int x1), .val (.int x2), .val (.int v2), .val (.int v5), .val (.int v8), .val (.int u10), .val (.ref a12), .val (.int x0), .val (.ref r1), .val (.ref r1), .unset, .val (.int (160 : Int32))]) rfl ?_
                refine gIload X62 hx (hb hby at_156) (q := 158) rfl rfl ?_
                refine gIload X62 hx (hb hby at_158) (q := 160) rfl rfl ?_
                have J160_65 : ∀ v64 : Int32, v64 = (if x0 = (160 : Int32) then (if v2 = v5 then (1 : Int32) else (0 : Int32)) else (0 : Int32)) → Go p.tables e below (Done s (Q_rm0 Z x0 x1 x2 r0 r1 rc kc vc h0 n0) (room_1.cells) (room_1.slots)) (T62.setTop (mkF m 174 #[.val (.int x0), .val (.int x1), .val (.int x2), .val (.int v2), .val (.int v5), .val (.int v8), .val (.int u10), .val (.ref a12), .val (.int x0), .val (.ref r1), .val (.ref r1), .unset, .val (.int (160 : Int32))] [(.int v64)])) := by
                  intro v64 hv64
                  refine gIstore X62 hx (hb hby at_174) (q := 176) rfl (L' := #[.val (.int x0), .val (.int x1), .val (.int x2), .val (.int v2), .val (.int v5), .val (.int v8), .val (.int u10), .val (.ref a12), .val (.int x0), .val (.ref r1), .val (.ref r1), .val (.int v64), .val (.int (160 : Int32))]) rfl ?_
                  refine gAload X62 hx (hb hby at_176) (q := 178) rfl rfl rfl ?_
                  refine gAload X62 hx (hb hby at_178) (q := 180) rfl rfl rfl ?_
                  refine gCallV X62 hx hZ hown (hw _ (List.mem_of_getElem? (i := 23) rfl)) (hw _ (List.mem_of_getElem? (i := 24) rfl)) (hw _ (List.mem_of_getElem? (i := 26) rfl)) (hw _ (List.mem_of_getElem? (i := 25) rfl)) (hw _ (List.mem_of_getElem? (i := 2) rfl)) (hw _ (List.mem_of_getElem? (i := 27) rfl)) (notFace_of_selects (args := #[]) (mvT hZ (hw _ (List.mem_of_getElem? (i := 26) rfl)))) (by decide) (rmEqC l Z a0 hw [] a12 r1 x0 (160 : Int32) r1 T17.heap n0 Z21 P17m (Fld.ext O20.2 Fdpi_r1) (Exa.ext O20.2 E_r1) (Sta.ext O20.2 S_r1)) (W := 0) (by decide) (by decide) e62 (by rw [hml]; rfl) P17e [(.ref r1)] (lenOf pd3 rfl) rfl (S := []) rfl (Nat.le_of_eq rfl) (hb hby at_180) (q := 183) rfl (by decide) (by decide) (fun r66 T66 M66 X66 q66 => ?_)
                  obtain ⟨rfl, M66n, e66⟩ := q66
                  have N67 := Fr.app N18 M66n
                  dsimp only [Option.toList, List.cons_append, List.nil_append]
                  generalize hg68 : (if (160 : Int32) = x0 then (if (if (.ref r1 : Value) = (.ref r1 : Value) then (1 : Int32) else (0 : Int32)) = (if (.ref a12 : Value) = (.ref r1 : Value) then (1 : Int32) else (0 : Int32)) then (1 : Int32) else (0 : Int32)) else (0 : Int32)) = g68
                  refine gIstore X66 hx (hb hby at_183) (q := 185) rfl (L' := #[.val (.int x0), .val (.int x1), .val (.int x2), .val (.int v2), .val (.int v5), .val (.int v8), .val (.int u10), .val (.ref a12), .val (.int x0), .val (.ref r1), .val (.ref r1), .val (.int v64), .val (.int g68)]) rfl ?_
                  refine gIload X66 hx (hb hby at_185) (q := 187) rfl rfl ?_
                  refine gIload X66 hx (hb hby at_187) (q := 189) rfl rfl ?_
                  by_cases c69 : g68 = v64
                  · refine gIcmpY X66 hx (hb hby at_189) (q := 194) (by decide) (by decide) (XT.ii_eq_t c69) ?_
                    refine gAload X66 hx (hb hby at_194) (q := 196) rfl rfl rfl ?_
                    refine gNullN X66 hx (hb hby at_196) (q := 199) rfl rfl Value.noConfusion ?_
                    refine gAload X66 hx (hb hby at_199) (q := 201) rfl rfl rfl ?_
                    refine gAload X66 hx (hb hby at_201) (q := 203) rfl rfl rfl ?_
                    refine gCallV X66 hx hZ hown (hw _ (List.mem_of_getElem? (i := 23) rfl)) (hw _ (List.mem_of_getElem? (i := 24) rfl)) (hw _ (List.mem_of_getElem? (i := 26) rfl)) (hw _ (List.mem_of_getElem? (i := 25) rfl)) (hw _ (List.mem_of_getElem? (i := 2) rfl)) (hw _ (List.mem_of_getElem? (i := 27) rfl)) (notFace_of_selects (args := #[]) (mvT hZ (hw _ (List.mem_of_getElem? (i := 26) rfl)))) (by decide) (rmEqC l Z a0 hw [] r1 a12 (160 : Int32) x0 r1 T17.heap n0 Z21 (Fld.ext O20.2 Fdpi_r1) P17m P17e (Sta.ext O20.2 S_r1)) (W := 0) (by decide) (by decide) e66 (by rw [hml]; rfl) (Exa.ext O20.2 E_r1) [(.ref a12)] (lenOf pd3 rfl) rfl (S := []) rfl (Nat.le_of_eq rfl) (hb hby at_203) (q := 206) rfl (by decide) (by decide) (fun r70 T70 M70 X70 q70 => ?_)
                    obtain ⟨rfl, M70n, e70⟩ := q70
                    have N71 := Fr.app N67 M70n
                    dsimp only [Option.toList, List.cons_append, List.nil_append]
                    generalize hg72 : (if x0 = (160 : Int32) then (if (if (.ref a12 : Value) = (.ref r1 : Value) then (1 : Int32) else (0 : Int32)) = (if (.ref r1 : Value) = (.ref r1 : Value) then (1 : Int32) else (0 : Int32)) then (1 : Int32) else (0 : Int32)) else (0 : Int32)) = g72
                    refine gIload X70 hx (hb hby at_206) (q := 208) rfl rfl ?_
                    by_cases c73 : g72 = v64
                    · refine gIcmpY X70 hx (hb hby at_208) (q := 213) (by decide) (by decide) (XT.ii_eq_t c73) ?_
                      refine gIconst X70 hx (1 : Int32) (hb hby at_213) (q := 214) rfl (by decide) ?_
                      exact gRetZ X70 hx hlk hret (hb hby at_214) (by decide) (by decide) (Or.inr rfl) ⟨rfl, N71⟩
                    · refine gIcmpN X70 hx (hb hby at_208) (q := 211) rfl (XT.ii_eq_f c73) ?_
                      exact absurd (own_dead3 x0 x1 x2 r1 a12 v2 hv2 v5 hv5 v8 hv8 u10 hu10 v64 hv64 g68 hg68 g72 hg72 ne_r1_a12 c11 c22 c25 c35 c69) c73
                  · refine gIcmpN X66 hx (hb hby at_189) (q := 192) rfl (XT.ii_eq_f c69) ?_
                    exact absurd (own_dead4 x0 x1 x2 r1 a12 v2 hv2 v5 hv5 v8 hv8 u10 hu10 v64 hv64 g68 hg68 ne_r1_a12 c11 c22 c25 c35) c69
                by_cases c63 : x0 = (160 : Int32)
                · refine gIcmpN X62 hx (hb hby at_160) (q := 163) rfl (XT.ii_ne_f c63) ?_
                  refine gIloadN X62 hx (hb hby at_163) (q := 164) rfl rfl ?_
                  refine gIload X62 hx (hb hby at_164) (q := 166) rfl rfl ?_
                  by_cases c74 : v2 = v5
                  · refine gIcmpN X62 hx (hb hby at_166) (q := 169) rfl (XT.ii_ne_f c74) ?_
                    refine gIconst X62 hx (1 : Int32) (hb hby at_169) (q := 170) rfl (by decide) ?_
                    refine gGoto X62 hx (hb hby at_170) (q := 174) (by decide) (by decide) ?_
                    exact J160_65 _ (by first | rfl | (simp only [if_pos c11, if_neg c22, if_neg c25, if_neg c35, if_pos c63, if_pos c74]; done) | (simp only [if_pos c11, if_neg c22, if_neg c25, if_neg c35, if_pos c63, if_pos c74]; done) | (simp only [if_pos c11, if_neg c22, if_neg c25, if_neg c35, if_pos c63, if_pos c74, if_true, if_false]; done) | (exfalso; simp at c74; done))
                  · refine gIcmpY X62 hx (hb hby at_166) (q := 173) (by decide) (by decide) (XT.ii_ne_t c74) ?_
                    refine gIconst X62 hx (0 : Int32) (hb hby at_173) (q := 174) rfl (by decide) ?_
                    exact J160_65 _ (by first | rfl | (simp only [if_pos c11, if_neg c22, if_neg c25, if_neg c35, if_pos c63, if_neg c74]; done) | (simp only [if_pos c11, if_neg c22, if_neg c25, if_neg c35, if_pos c63, if_neg c74]; done) | (simp only [if_pos c11, if_neg c22, if_neg c25, if_neg c35, if_pos c63, if_neg c74, if_true, if_false]; done) | (exfalso; simp at c74; done))
                · refine gIcmpY X62 hx (hb hby at_160) (q := 173) (by decide) (by decide) (XT.ii_ne_t c63) ?_
                  refine gIconst X62 hx (0 : Int32) (hb hby at_173) (q := 174) rfl (by decide) ?_
                  exact J160_65 _ (by first | rfl | (simp only [if_pos c11, if_neg c22, if_neg c25, if_neg c35, if_neg c63]; done) | (simp only [if_pos c11, if_neg c22, if_neg c25, if_neg c35, if_neg c63]; done) | (simp only [if_pos c11, if_neg c22, if_neg c25, if_neg c35, if_neg c63, if_true, if_false]; done) | (exfalso; simp at c63; done))
        · refine gIfN X0 hx (hb hby at_46) (q := 49) rfl (XT.i0_eq_f c11) ?_
          refine gGetS X0 hx hZ hown (hw _ (List.mem_of_getElem? (i := 21) rfl)) Via.refl e0 (Sta.ext O0.2 S_r1) (hb hby at_49) (q := 52) rfl (fun T75 X75 e75 => ?_)
          refine gGoto X75 hx (hb hby at_52) (q := 63) (by decide) (by decide) ?_
          refine gAstore X75 hx (hb hby at_63) (q := 65) rfl rfl (L' := #[.val (.int x0), .val (.int x1), .val (.int x2), .val (.int v2), .val (.int v5), .val (.int v8), .val (.int u10), .val (.ref r1), .unset, .unset, .unset, .unset, .unset]) rfl ?_
          refine gIloadN X75 hx (hb hby at_65) (q := 66) rfl rfl ?_
          refine gIfN X75 hx (hb hby at_66) (q := 69) rfl (XT.i0_eq_f c11) ?_
          refine gSipush X75 hx (160 : Int32) (hb hby at_69) (q := 72) rfl (by decide) ?_
          refine gGoto X75 hx (hb hby at_72) (q := 76) (by decide) (by decide) ?_
          refine gIstore X75 hx (hb hby at_76) (q := 78) rfl (L' := #[.val (.int x0), .val (.int x1), .val (.int x2), .val (.int v2), .val (.int v5), .val (.int v8), .val (.int u10), .val (.ref r1), .val (.int (160 : Int32)), .unset, .unset, .unset, .unset]) rfl ?_
          refine gNull X75 hx (hb hby at_78) (q := 79) rfl ?_
          refine gAstore X75 hx (hb hby at_79) (q := 81) rfl rfl (L' := #[.val (.int x0), .val (.int x1), .val (.int x2), .val (.int v2), .val (.int v5), .val (.int v8), .val (.int u10), .val (.ref r1), .val (.int (160 : Int32)), .val (.null), .unset, .unset, .unset]) rfl ?_
          refine gIload X75 hx (hb hby at_81) (q := 83) rfl rfl ?_
          refine gIconst X75 hx (1 : Int32) (hb hby at_83) (q := 84) rfl (by decide) ?_
          by_cases c76 : u10 = (1 : Int32)
          · refine gIcmpN X75 hx (hb hby at_84) (q := 87) rfl (XT.ii_ne_f c76) ?_
            refine gNull X75 hx (hb hby at_87) (q := 88) rfl ?_
            refine gAstore X75 hx (hb hby at_88) (q := 90) rfl rfl (L' := #[.val (.int x0), .val (.int x1), .val (.int x2), .val (.int v2), .val (.int v5), .val (.int v8), .val (.int u10), .val (.ref r1), .val (.int (160 : Int32)), .val (.null), .val (.null), .unset, .unset]) rfl ?_
            refine gIconst X75 hx (0 : Int32) (hb hby at_90) (q := 91) rfl (by decide) ?_
            refine gIstore X75 hx (hb hby at_91) (q := 93) rfl (L' := #[.val (.int x0), .val (.int x1), .val (.int x2), .val (.int v2), .val (.int v5), .val (.int v8), .val (.int u10), .val (.ref r1), .val (.int (160 : Int32)), .val (.null), .val (.null), .val (.int (0 : Int32)), .unset]) rfl ?_
            refine gGoto X75 hx (hb hby at_93) (q := 176) (by decide) (by decide) ?_
            refine gAload X75 hx (hb hby at_176) (q := 178) rfl rfl rfl ?_
            refine gAload X75 hx (hb hby at_178) (q := 180) rfl rfl rfl ?_
            refine gCallV X75 hx hZ hown (hw _ (List.mem_of_getElem? (i := 23) rfl)) (hw _ (List.mem_of_getElem? (i := 24) rfl)) (hw _ (List.mem_of_getElem? (i := 26) rfl)) (hw _ (List.mem_of_getElem? (i := 25) rfl)) (hw _ (List.mem_of_getElem? (i := 2) rfl)) (hw _ (List.mem_of_getElem? (i := 27) rfl)) (notFace_of_selects (args := #[]) (mvT hZ (hw _ (List.mem_of_getElem? (i := 26) rfl)))) (by decide) (rmEqN l Z a0 hw [] r1 h0 n0 Z0) (W := 0) (by decide) (by decide) e75 (by rw [hml]; rfl) (Exa.ext O0.2 E_r1) [(.null)] (lenOf pd3 rfl) rfl (S := []) rfl (Nat.le_of_eq rfl) (hb hby at_180) (q := 183) rfl (by decide) (by decide) (fun r77 T77 M77 X77 q77 => ?_)
            obtain ⟨rfl, M77n, e77⟩ := q77
            have N78 := Fr.app N0 M77n
            dsimp only [Option.toList, List.cons_append, List.nil_append]
            refine gIstore X77 hx (hb hby at_183) (q := 185) rfl (L' := #[.val (.int x0), .val (.int x1), .val (.int x2), .val (.int v2), .val (.int v5), .val (.int v8), .val (.int u10), .val (.ref r1), .val (.int (160 : Int32)), .val (.null), .val (.null), .val (.int (0 : Int32)), .val (.int (0 : Int32))]) rfl ?_
            refine gIload X77 hx (hb hby at_185) (q := 187) rfl rfl ?_
            refine gIload X77 hx (hb hby at_187) (q := 189) rfl rfl ?_
            refine gIcmpY X77 hx (hb hby at_189) (q := 194) (by decide) (by decide) (XT.ii_eq_t (by decide)) ?_
            refine gAload X77 hx (hb hby at_194) (q := 196) rfl rfl rfl ?_
            refine gNullY X77 hx (hb hby at_196) (q := 213) (by decide) (by decide) rfl ?_
            refine gIconst X77 hx (1 : Int32) (hb hby at_213) (q := 214) rfl (by decide) ?_
            exact gRetZ X77 hx hlk hret (hb hby at_214) (by decide) (by decide) (Or.inr rfl) ⟨rfl, N78⟩
          · refine gIcmpY X75 hx (hb hby at_84) (q := 96) (by decide) (by decide) (XT.ii_ne_t c76) ?_
            refine gIload X75 hx (hb hby at_96) (q := 98) rfl rfl ?_
            refine gIconst X75 hx (2 : Int32) (hb hby at_98) (q := 99) rfl (by decide) ?_
            by_cases c79 : u10 = (2 : Int32)
            · refine gIcmpN X75 hx (hb hby at_99) (q := 102) rfl (XT.ii_ne_f c79) ?_
              refine gIload X75 hx (hb hby at_102) (q := 104) rfl rfl ?_
              refine gCallS X75 hx hZ hown (hw _ (List.mem_of_getElem? (i := 31) rfl)) (hw _ (List.mem_of_getElem? (i := 32) rfl)) (hw _ (List.mem_of_getElem? (i := 33) rfl)) (hw _ (List.mem_of_getElem? (i := 34) rfl)) (by decide) (rmVal l Z a0 hw [] (160 : Int32) rc kc vc h0 n0 Z0 (Sta.ext O0.2 SH) (Sta.ext O0.2 SC) (Ary.ext O0.2 AC) hlen (fun j hj => (HC j hj).elim fun r hr => ⟨r, hr.1, Exa.ext O0.2 hr.2⟩)) (W := 0) (by decide) (by decide) e75 (by rw [hml]; rfl) [(.int (160 : Int32))] (lenOf pd4 rfl) rfl (S := []) rfl (Nat.le_of_eq rfl) (hb hby at_104) (q := 107) rfl (by decide) (by decide) (fun r81 T81 M81 X81 q81 => ?_)
              obtain ⟨rI80, rfl, M81n, K81, ErI80⟩ := q81
              have N82 := Fr.app N0 M81n
              have O83 := O0.keep K81 all0
              have Z84 := Nat.le_trans Z0 K81.1
              dsimp only [Option.toList, List.cons_append, List.nil_append]
              refine gAstore X81 hx (hb hby at_107) (q := 109) rfl rfl (L' := #[.val (.int x0), .val (.int x1), .val (.int x2), .val (.int v2), .val (.int v5), .val (.int v8), .val (.int u10), .val (.ref r1), .val (.int (160 : Int32)), .val (.null), .val (.ref rI80), .unset, .unset]) rfl ?_
              refine gIconst X81 hx (0 : Int32) (hb hby at_109) (q := 110) rfl (by decide) ?_
              refine gIstore X81 hx (hb hby at_110) (q := 112) rfl (L' := #[.val (.int x0), .val (.int x1), .val (.int x2), .val (.int v2), .val (.int v5), .val (.int v8), .val (.int u10), .val (.ref r1), .val (.int (160 : Int32)), .val (.null), .val (.ref rI80), .val (.int (0 : Int32)), .unset]) rfl ?_
              refine gGoto X81 hx (hb hby at_112) (q := 176) (by decide) (by decide) ?_
              refine gAload X81 hx (hb hby at_176) (q := 178) rfl rfl rfl ?_
              refine gAload X81 hx (hb hby at_178) (q := 180) rfl rfl rfl ?_
              refine gCallV X81 hx hZ hown (hw _ (List.mem_of_getElem? (i := 23) rfl)) (hw _ (List.mem_of_getElem? (i := 24) rfl)) (hw _ (List.mem_of_getElem? (i := 26) rfl)) (hw _ (List.mem_of_getElem? (i := 25) rfl)) (hw _ (List.mem_of_getElem? (i := 2) rfl)) (hw _ (List.mem_of_getElem? (i := 27) rfl)) (notFace_of_selects (args := #[]) (mvT hZ (hw _ (List.mem_of_getElem? (i := 26) rfl)))) (by decide) (rmEqI l Z a0 hw [] r1 rI80 T81.heap n0 Z84 ErI80) (W := 0) (by decide) (by decide) rfl (by rw [hml]; rfl) (Exa.ext O83.2 E_r1) [(.ref rI80)] (lenOf pd3 rfl) rfl (S := []) rfl (Nat.le_of_eq rfl) (hb hby at_180) (q := 183) rfl (by decide) (by decide) (fun r85 T85 M85 X85 q85 => ?_)
              obtain ⟨rfl, M85n, e85⟩ := q85
              have N86 := Fr.app N82 M85n
              dsimp only [Option.toList, List.cons_append, List.nil_append]
              refine gIstore X85 hx (hb hby at_183) (q := 185) rfl (L' := #[.val (.int x0), .val (.int x1), .val (.int x2), .val (.int v2), .val (.int v5), .val (.int v8), .val (.int u10), .val (.ref r1), .val (.int (160 : Int32)), .val (.null), .val (.ref rI80), .val (.int (0 : Int32)), .val (.int (0 : Int32))]) rfl ?_
              refine gIload X85 hx (hb hby at_185) (q := 187) rfl rfl ?_
              refine gIload X85 hx (hb hby at_187) (q := 189) rfl rfl ?_
              refine gIcmpY X85 hx (hb hby at_189) (q := 194) (by decide) (by decide) (XT.ii_eq_t (by decide)) ?_
              refine gAload X85 hx (hb hby at_194) (q := 196) rfl rfl rfl ?_
              refine gNullY X85 hx (hb hby at_196) (q := 213) (by decide) (by decide) rfl ?_
              refine gIconst X85 hx (1 : Int32) (hb hby at_213) (q := 214) rfl (by decide) ?_
              exact gRetZ X85 hx hlk hret (hb hby at_214) (by decide) (by decide) (Or.inr rfl) ⟨rfl, N86⟩
            · refine gIcmpY X75 hx (hb hby at_99) (q := 115) (by decide) (by decide) (XT.ii_ne_t c79) ?_
              refine gIload X75 hx (hb hby at_115) (q := 117) rfl rfl ?_
              by_cases c87 : v5 = (0 : Int32)
              · refine gIfY X75 hx (hb hby at_117) (q := 126) (by decide) (by decide) (XT.i0_eq_t c87) ?_
                refine gNewO X75 hx hZ hown (hw _ (List.mem_of_getElem? (i := 0) rfl)) (hw _ (List.mem_of_getElem? (i := 1) rfl)) (hw _ (List.mem_of_getElem? (i := 2) rfl)) e75 (hb hby at_126) (q := 129) rfl (by decide) (by decide) (fun T88 h88 a88 X88 e88 g88 E88 A88 D88 => ?_)
                have O89 := O0.ext E88
                have le_a88 : n0 ≤ a88 := by rw [g88]; exact Z0
                have ne_r1_a88 : r1 ≠ a88 := by rw [g88]; exact Nat.ne_of_lt (Exa.ext O0.2 E_r1).lt
                have Z90 := Nat.le_trans Z0 E88.1
                have F91 : Fld Z h88 a88 "com/example/tintfold/tintfold/Qualifier" "kind" "Lcom/example/tintfold/tintfold/QualifierKind;" (.null) := D88 (Or.inr (hw _ (List.mem_of_getElem? (i := 18) rfl))) (ty := .object "com/example/tintfold/tintfold/QualifierKind") (by decide)
                have F92 : Fld Z h88 a88 "com/example/tintfold/tintfold/Qualifier$Density" "dpi" "I" (.int (0 : Int32)) := D88 (Or.inr (hw _ (List.mem_of_getElem? (i := 20) rfl))) (ty := .int) (by decide)
                clear D88
                refine gDup X88 hx (hb hby at_129) (q := 130) rfl rfl ?_
                refine gIload X88 hx (hb hby at_130) (q := 132) rfl rfl ?_
                refine gCallN X88 hx hZ rfl hown (hw _ (List.mem_of_getElem? (i := 3) rfl)) (hw _ (List.mem_of_getElem? (i := 4) rfl)) (hw _ (List.mem_of_getElem? (i := 2) rfl)) (hw _ (List.mem_of_getElem? (i := 5) rfl)) (by decide) (rmDen l Z a0 hw [] a88 v8 r0 h88 n0 Z90 F91 F92 A88 le_a88 (Sta.ext O89.2 S_r0)) (W := 1) (by decide) (by decide) e88 (by rw [hml]; rfl) [(.int v8)] (lenOf pd1 rfl) rfl (S := [(.ref a88)]) rfl (Nat.le_of_eq rfl) (hb hby at_132) (q := 135) rfl (by decide) (by decide) (fun r93 T93 M93 X93 q93 => ?_)
                obtain ⟨rfl, M93n, K93, P93e, P93m⟩ := q93
                have N94 := Fr.app N0 M93n
                have O96 := O89.keep K93 (allS le_a88 all0)
                have Z97 := Nat.le_trans Z90 K93.1
                dsimp only [Option.toList, List.cons_append, List.nil_append]
                refine gAstore X93 hx (hb hby at_135) (q := 137) rfl rfl (L' := #[.val (.int x0), .val (.int x1), .val (.int x2), .val (.int v2), .val (.int v5), .val (.int v8), .val (.int u10), .val (.ref r1), .val (.int (160 : Int32)), .val (.ref a88), .unset, .unset, .unset]) rfl ?_
                refine gAload X93 hx (hb hby at_137) (q := 139) rfl rfl rfl ?_
                refine gAstore X93 hx (hb hby at_139) (q := 141) rfl rfl (L' := #[.val (.int x0), .val (.int x1), .val (.int x2), .val (.int v2), .val (.int v5), .val (.int v8), .val (.int u10), .val (.ref r1), .val (.int (160 : Int32)), .val (.ref a88), .val (.ref a88), .unset, .unset]) rfl ?_
                refine gIload X93 hx (hb hby at_141) (q := 143) rfl rfl ?_
                refine gIfY X93 hx (hb hby at_143) (q := 152) (by decide) (by decide) (XT.i0_eq_t c87) ?_
                refine gIload X93 hx (hb hby at_152) (q := 154) rfl rfl ?_
                refine gIstore X93 hx (hb hby at_154) (q := 156) rfl (L' := #[.val (.int x0), .val (.int x1), .val (.int x2), .val (.int v2), .val (.int v5), .val (.int v8), .val (.int u10), .val (.ref r1), .val (.int (160 : Int32)), .val (.ref a88), .val (.ref a88), .unset, .val (.int v8)]) rfl ?_
                refine gIload X93 hx (hb hby at_156) (q := 158) rfl rfl ?_
                refine gIload X93 hx (hb hby at_158) (q := 160) rfl rfl ?_
                have J160_100 : ∀ v99 : Int32, v99 = (if (160 : Int32) = v8 then (if v2 = v5 then (1 : Int32) else (0 : Int32)) else (0 : Int32)) → Go p.tables e below (Done s (Q_rm0 Z x0 x1 x2 r0 r1 rc kc vc h0 n0) (room_1.cells) (room_1.slots)) (T93.setTop (mkF m 174 #[.val (.int x0), .val (.int x1), .val (.int x2), .val (.int v2), .val (.int v5), .val (.int v8), .val (.int u10), .val (.ref r1), .val (.int (160 : Int32)), .val (.ref a88), .val (.ref a88), .unset, .val (.int v8)] [(.int v99)])) := by
                  intro v99 hv99
                  refine gIstore X93 hx (hb hby at_174) (q := 176) rfl (L' := #[.val (.int x0), .val (.int x1), .val (.int x2), .val (.int v2), .val (.int v5), .val (.int v8), .val (.int u10), .val (.ref r1), .val (.int (160 : Int32)), .val (.ref a88), .val (.ref a88), .val (.int v99), .val (.int v8)]) rfl ?_
                  refine gAload X93 hx (hb hby at_176) (q := 178) rfl rfl rfl ?_
                  refine gAload X93 hx (hb hby at_178) (q := 180) rfl rfl rfl ?_
                  refine gCallV X93 hx hZ hown (hw _ (List.mem_of_getElem? (i := 23) rfl)) (hw _ (List.mem_of_getElem? (i := 24) rfl)) (hw _ (List.mem_of_getElem? (i := 26) rfl)) (hw _ (List.mem_of_getElem? (i := 25) rfl)) (hw _ (List.mem_of_getElem? (i := 2) rfl)) (hw _ (List.mem_of_getElem? (i := 27) rfl)) (notFace_of_selects (args := #[]) (mvT hZ (hw _ (List.mem_of_getElem? (i := 26) rfl)))) (by decide) (rmEqC l Z a0 hw [] r1 a88 (160 : Int32) v8 r1 T93.heap n0 Z97 (Fld.ext O96.2 Fdpi_r1) P93m P93e (Sta.ext O96.2 S_r1)) (W := 0) (by decide) (by decide) rfl (by rw [hml]; rfl) (Exa.ext O96.2 E_r1) [(.ref a88)] (lenOf pd3 rfl) rfl (S := []) rfl (Nat.le_of_eq rfl) (hb hby at_180) (q := 183) rfl (by decide) (by decide) (fun r101 T101 M101 X101 q101 => ?_)
                  obtain ⟨rfl, M101n, e101⟩ := q101
                  have N102 := Fr.app N94 M101n
                  dsimp only [Option.toList, List.cons_append, List.nil_append]
                  generalize hg103 : (if v8 = (160 : Int32) then (if (if (.ref a88 : Value) = (.ref r1 : Value) then (1 : Int32) else (0 : Int32)) = (if (.ref r1 : Value) = (.ref r1 : Value) then (1 : Int32) else (0 : Int32)) then (1 : Int32) else (0 : Int32)) else (0 : Int32)) = g103
                  refine gIstore X101 hx (hb hby at_183) (q := 185) rfl (L' := #[.val (.int x0), .val (.int x1), .val (.int x2), .val (.int v2), .val (.int v5), .val (.int v8), .val (.int u10), .val (.ref r1), .val (.int (160 : Int32)), .val (.ref a88), .val (.ref a88), .val (.int v99), .val (.int g103)]) rfl ?_
                  refine gIload X101 hx (hb hby at_185) (q := 187) rfl rfl ?_
                  refine gIload X101 hx (hb hby at_187) (q := 189) rfl rfl ?_
                  by_cases c104 : g103 = v99
                  · refine gIcmpY X101 hx (hb hby at_189) (q := 194) (by decide) (by decide) (XT.ii_eq_t c104) ?_
                    refine gAload X101 hx (hb hby at_194) (q := 196) rfl rfl rfl ?_
                    refine gNullN X101 hx (hb hby at_196) (q := 199) rfl rfl Value.noConfusion ?_
                    refine gAload X101 hx (hb hby at_199) (q := 201) rfl rfl rfl ?_
                    refine gAload X101 hx (hb hby at_201) (q := 203) rfl rfl rfl ?_
                    refine gCallV X101 hx hZ hown (hw _ (List.mem_of_getElem? (i := 23) rfl)) (hw _ (List.mem_of_getElem? (i := 24) rfl)) (hw _ (List.mem_of_getElem? (i := 26) rfl)) (hw _ (List.mem_of_getElem? (i := 25) rfl)) (hw _ (List.mem_of_getElem? (i := 2) rfl)) (hw _ (List.mem_of_getElem? (i := 27) rfl)) (notFace_of_selects (args := #[]) (mvT hZ (hw _ (List.mem_of_getElem? (i := 26) rfl)))) (by decide) (rmEqC l Z a0 hw [] a88 r1 v8 (160 : Int32) r1 T93.heap n0 Z97 P93m (Fld.ext O96.2 Fdpi_r1) (Exa.ext O96.2 E_r1) (Sta.ext O96.2 S_r1)) (W := 0) (by decide) (by decide) e101 (by rw [hml]; rfl) P93e [(.ref r1)] (lenOf pd3 rfl) rfl (S := []) rfl (Nat.le_of_eq rfl) (hb hby at_203) (q := 206) rfl (by decide) (by decide) (fun r105 T105 M105 X105 q105 => ?_)
                    obtain ⟨rfl, M105n, e105⟩ := q105
                    have N106 := Fr.app N102 M105n
                    dsimp only [Option.toList, List.cons_append, List.nil_append]
                    generalize hg107 : (if (160 : Int32) = v8 then (if (if (.ref r1 : Value) = (.ref r1 : Value) then (1 : Int32) else (0 : Int32)) = (if (.ref a88 : Value) = (.ref r1 : Value) then (1 : Int32) else (0 : Int32)) then (1 : Int32) else (0 : Int32)) else (0 : Int32)) = g107
                    refine gIload X105 hx (hb hby at_206) (q := 208) rfl rfl ?_
                    by_cases c108 : g107 = v99
                    · refine gIcmpY X105 hx (hb hby at_208) (q := 213) (by decide) (by decide) (XT.ii_eq_t c108) ?_
                      refine gIconst X105 hx (1 : Int32) (hb hby at_213) (q := 214) rfl (by decide) ?_
                      exact gRetZ X105 hx hlk hret (hb hby at_214) (by decide) (by decide) (Or.inr rfl) ⟨rfl, N106⟩
                    · refine gIcmpN X105 hx (hb hby at_208) (q := 211) rfl (XT.ii_eq_f c108) ?_
                      exact absurd (own_dead5 x0 x1 x2 r1 a88 v2 hv2 v5 hv5 v8 hv8 u10 hu10 v99 hv99 g103 hg103 g107 hg107 ne_r1_a88 c11 c76 c79 c87 c104) c108
                  · refine gIcmpN X101 hx (hb hby at_189) (q := 192) rfl (XT.ii_eq_f c104) ?_
                    exact absurd (own_dead6 x0 x1 x2 r1 a88 v2 hv2 v5 hv5 v8 hv8 u10 hu10 v99 hv99 g103 hg103 ne_r1_a88 c11 c76 c79 c87) c104
                by_cases c98 : (160 : Int32) = v8
                · refine gIcmpN X93 hx (hb hby at_160) (q := 163) rfl (XT.ii_ne_f c98) ?_
                  refine gIloadN X93 hx (hb hby at_163) (q := 164) rfl rfl ?_
                  refine gIload X93 hx (hb hby at_164) (q := 166) rfl rfl ?_
                  by_cases c109 : v2 = v5
                  · refine gIcmpN X93 hx (hb hby at_166) (q := 169) rfl (XT.ii_ne_f c109) ?_
                    refine gIconst X93 hx (1 : Int32) (hb hby at_169) (q := 170) rfl (by decide) ?_
                    refine gGoto X93 hx (hb hby at_170) (q := 174) (by decide) (by decide) ?_
                    exact J160_100 _ (by first | rfl | (simp only [if_neg c11, if_neg c76, if_neg c79, if_pos c87, if_pos c98, if_pos c109]; done) | (simp only [if_neg c11, if_neg c76, if_neg c79, if_pos c87, if_pos c98, if_pos c109]; done) | (simp only [if_neg c11, if_neg c76, if_neg c79, if_pos c87, if_pos c98, if_pos c109, if_true, if_false]; done) | (exfalso; simp at c109; done))
                  · refine gIcmpY X93 hx (hb hby at_166) (q := 173) (by decide) (by decide) (XT.ii_ne_t c109) ?_
                    refine gIconst X93 hx (0 : Int32) (hb hby at_173) (q := 174) rfl (by decide) ?_
                    exact J160_100 _ (by first | rfl | (simp only [if_neg c11, if_neg c76, if_neg c79, if_pos c87, if_pos c98, if_neg c109]; done) | (simp only [if_neg c11, if_neg c76, if_neg c79, if_pos c87, if_pos c98, if_neg c109]; done) | (simp only [if_neg c11, if_neg c76, if_neg c79, if_pos c87, if_pos c98, if_neg c109, if_true, if_false]; done) | (exfalso; simp at c109; done))
                · refine gIcmpY X93 hx (hb hby at_160) (q := 173) (by decide) (by decide) (XT.ii_ne_t c98) ?_
                  refine gIconst X93 hx (0 : Int32) (hb hby at_173) (q := 174) rfl (by decide) ?_
                  exact J160_100 _ (by first | rfl | (simp only [if_neg c11, if_neg c76, if_neg c79, if_pos c87, if_neg c98]; done) | (simp only [if_neg c11, if_neg c76, if_neg c79, if_pos c87, if_neg c98]; done) | (simp only [if_neg c11, if_neg c76, if_neg c79, if_pos c87, if_neg c98, if_true, if_false]; done) | (exfalso; simp at c98; done))
              · refine gIfN X75 hx (hb hby at_117) (q := 120) rfl (XT.i0_eq_f c87) ?_
                refine gGetS X75 hx hZ hown (hw _ (List.mem_of_getElem? (i := 21) rfl)) Via.refl e75 (Sta.ext O0.2 S_r1) (hb hby at_120) (q := 123) rfl (fun T110 X110 e110 => ?_)
                refine gGoto X110 hx (hb hby at_123) (q := 135) (by decide) (by decide) ?_
                refine gAstore X110 hx (hb hby at_135) (q := 137) rfl rfl (L' := #[.val (.int x0), .val (.int x1), .val (.int x2), .val (.int v2), .val (.int v5), .val (.int v8), .val (.int u10), .val (.ref r1), .val (.int (160 : Int32)), .val (.ref r1), .unset, .unset, .unset]) rfl ?_
                refine gAload X110 hx (hb hby at_137) (q := 139) rfl rfl rfl ?_
                refine gAstore X110 hx (hb hby at_139) (q := 141) rfl rfl (L' := #[.val (.int x0), .val (.int x1), .val (.int x2), .val (.int v2), .val (.int v5), .val (.int v8), .val (.int u10), .val (.ref r1), .val (.int (160 : Int32)), .val (.ref r1), .val (.ref r1), .unset, .unset]) rfl ?_
                refine gIload X110 hx (hb hby at_141) (q := 143) rfl rfl ?_
                refine gIfN X110 hx (hb hby at_143) (q := 146) rfl (XT.i0_eq_f c87) ?_
                refine gSipush X110 hx (160 : Int32) (hb hby at_146) (q := 149) rfl (by decide) ?_
                refine gGoto X110 hx (hb hby at_149) (q := 154) (by decide) (by decide) ?_
                refine gIstore X110 hx (hb hby at_154) (q := 156) rfl (L' := #[.val (.int x0), .val (.int x1), .val (.int x2), .val (.int v2), .val (.int v5), .val (.int v8), .val (.int u10), .val (.ref r1), .val (.int (160 : Int32)), .val (.ref r1), .val (.ref r1), .unset, .val (.int (160 : Int32))]) rfl ?_
                refine gIload X110 hx (hb hby at_156) (q := 158) rfl rfl ?_
                refine gIload X110 hx (hb hby at_158) (q := 160) rfl rfl ?_
                refine gIcmpN X110 hx (hb hby at_160) (q := 163) rfl (XT.ii_ne_f (by decide)) ?_
                refine gIloadN X110 hx (hb hby at_163) (q := 164) rfl rfl ?_
                refine gIload X110 hx (hb hby at_164) (q := 166) rfl rfl ?_
                have J166_113 : ∀ v112 : Int32, v112 = (if v2 = v5 then (1 : Int32) else (0 : Int32)) → Go p.tables e below (Done s (Q_rm0 Z x0 x1 x2 r0 r1 rc kc vc h0 n0) (room_1.cells) (room_1.slots)) (T110.setTop (mkF m 174 #[.val (.int x0), .val (.int x1), .val (.int x2), .val (.int v2), .val (.int v5), .val (.int v8), .val (.int u10), .val (.ref r1), .val (.int (160 : Int32)), .val (.ref r1), .val (.ref r1), .unset, .val (.int (160 : Int32))] [(.int v112)])) := by
                  intro v112 hv112
                  refine gIstore X110 hx (hb hby at_174) (q := 176) rfl (L' := #[.val (.int x0), .val (.int x1), .val (.int x2), .val (.int v2), .val (.int v5), .val (.int v8), .val (.int u10), .val (.ref r1), .val (.int (160 : Int32)), .val (.ref r1), .val (.ref r1), .val (.int v112), .val (.int (160 : Int32))]) rfl ?_
                  refine gAload X110 hx (hb hby at_176) (q := 178) rfl rfl rfl ?_
                  refine gAload X110 hx (hb hby at_178) (q := 180) rfl rfl rfl ?_
                  refine gCallV X110 hx hZ hown (hw _ (List.mem_of_getElem? (i := 23) rfl)) (hw _ (List.mem_of_getElem? (i := 24) rfl)) (hw _ (List.mem_of_getElem? (i := 26) rfl)) (hw _ (List.mem_of_getElem? (i := 25) rfl)) (hw _ (List.mem_of_getElem? (i := 2) rfl)) (hw _ (List.mem_of_getElem? (i := 27) rfl)) (notFace_of_selects (args := #[]) (mvT hZ (hw _ (List.mem_of_getElem? (i := 26) rfl)))) (by decide) (rmEqC l Z a0 hw [] r1 r1 (160 : Int32) (160 : Int32) r1 h0 n0 Z0 (Fld.ext O0.2 Fdpi_r1) (Fld.ext O0.2 Fdpi_r1) (Exa.ext O0.2 E_r1) (Sta.ext O0.2 S_r1)) (W := 0) (by decide) (by decide) e110 (by rw [hml]; rfl) (Exa.ext O0.2 E_r1) [(.ref r1)] (lenOf pd3 rfl) rfl (S := []) rfl (Nat.le_of_eq rfl) (hb hby at_180) (q := 183) rfl (by decide) (by decide) (fun r114 T114 M114 X114 q114 => ?_)
                  obtain ⟨rfl, M114n, e114⟩ := q114
                  have N115 := Fr.app N0 M114n
                  dsimp only [Option.toList, List.cons_append, List.nil_append]
                  generalize hg116 : (if (160 : Int32) = (160 : Int32) then (if (if (.ref r1 : Value) = (.ref r1 : Value) then (1 : Int32) else (0 : Int32)) = (if (.ref r1 : Value) = (.ref r1 : Value) then (1 : Int32) else (0 : Int32)) then (1 : Int32) else (0 : Int32)) else (0 : Int32)) = g116
                  refine gIstore X114 hx (hb hby at_183) (q := 185) rfl (L' := #[.val (.int x0), .val (.int x1), .val (.int x2), .val (.int v2), .val (.int v5), .val (.int v8), .val (.int u10), .val (.ref r1), .val (.int (160 : Int32)), .val (.ref r1), .val (.ref r1), .val (.int v112), .val (.int g116)]) rfl ?_
                  refine gIload X114 hx (hb hby at_185) (q := 187) rfl rfl ?_
                  refine gIload X114 hx (hb hby at_187) (q := 189) rfl rfl ?_
                  by_cases c117 : g116 = v112
                  · refine gIcmpY X114 hx (hb hby at_189) (q := 194) (by decide) (by decide) (XT.ii_eq_t c117) ?_
                    refine gAload X114 hx (hb hby at_194) (q := 196) rfl rfl rfl ?_
                    refine gNullN X114 hx (hb hby at_196) (q := 199) rfl rfl Value.noConfusion ?_
                    refine gAload X114 hx (hb hby at_199) (q := 201) rfl rfl rfl ?_
                    refine gAload X114 hx (hb hby at_201) (q := 203) rfl rfl rfl ?_
                    refine gCallV X114 hx hZ hown (hw _ (List.mem_of_getElem? (i := 23) rfl)) (hw _ (List.mem_of_getElem? (i := 24) rfl)) (hw _ (List.mem_of_getElem? (i := 26) rfl)) (hw _ (List.mem_of_getElem? (i := 25) rfl)) (hw _ (List.mem_of_getElem? (i := 2) rfl)) (hw _ (List.mem_of_getElem? (i := 27) rfl)) (notFace_of_selects (args := #[]) (mvT hZ (hw _ (List.mem_of_getElem? (i := 26) rfl)))) (by decide) (rmEqC l Z a0 hw [] r1 r1 (160 : Int32) (160 : Int32) r1 h0 n0 Z0 (Fld.ext O0.2 Fdpi_r1) (Fld.ext O0.2 Fdpi_r1) (Exa.ext O0.2 E_r1) (Sta.ext O0.2 S_r1)) (W := 0) (by decide) (by decide) e114 (by rw [hml]; rfl) (Exa.ext O0.2 E_r1) [(.ref r1)] (lenOf pd3 rfl) rfl (S := []) rfl (Nat.le_of_eq rfl) (hb hby at_203) (q := 206) rfl (by decide) (by decide) (fun r118 T118 M118 X118 q118 => ?_)
                    obtain ⟨rfl, M118n, e118⟩ := q118
                    have N119 := Fr.app N115 M118n
                    dsimp only [Option.toList, List.cons_append, List.nil_append]
                    generalize hg120 : (if (160 : Int32) = (160 : Int32) then (if (if (.ref r1 : Value) = (.ref r1 : Value) then (1 : Int32) else (0 : Int32)) = (if (.ref r1 : Value) = (.ref r1 : Value) then (1 : Int32) else (0 : Int32)) then (1 : Int32) else (0 : Int32)) else (0 : Int32)) = g120
                    refine gIload X118 hx (hb hby at_206) (q := 208) rfl rfl ?_
                    by_cases c121 : g120 = v112
                    · refine gIcmpY X118 hx (hb hby at_208) (q := 213) (by decide) (by decide) (XT.ii_eq_t c121) ?_
                      refine gIconst X118 hx (1 : Int32) (hb hby at_213) (q := 214) rfl (by decide) ?_
                      exact gRetZ X118 hx hlk hret (hb hby at_214) (by decide) (by decide) (Or.inr rfl) ⟨rfl, N119⟩
                    · refine gIcmpN X118 hx (hb hby at_208) (q := 211) rfl (XT.ii_eq_f c121) ?_
                      exact absurd (own_dead7 x0 x1 x2 r1 v2 hv2 v5 hv5 v8 hv8 u10 hu10 v112 hv112 g116 hg116 g120 hg120 c11 c76 c79 c87 c117) c121
                  · refine gIcmpN X114 hx (hb hby at_189) (q := 192) rfl (XT.ii_eq_f c117) ?_
                    exact absurd (own_dead8 x0 x1 x2 r1 v2 hv2 v5 hv5 v8 hv8 u10 hu10 v112 hv112 g116 hg116 c11 c76 c79 c87) c117
                by_cases c111 : v2 = v5
                · refine gIcmpN X110 hx (hb hby at_166) (q := 169) rfl (XT.ii_ne_f c111) ?_
                  refine gIconst X110 hx (1 : Int32) (hb hby at_169) (q := 170) rfl (by decide) ?_
                  refine gGoto X110 hx (hb hby at_170) (q := 174) (by decide) (by decide) ?_
                  exact J166_113 _ (by first | rfl | (simp only [if_neg c11, if_neg c76, if_neg c79, if_neg c87, if_pos c111]; done) | (simp only [if_neg c11, if_neg c76, if_neg c79, if_neg c87, if_pos c111]; done) | (simp only [if_neg c11, if_neg c76, if_neg c79, if_neg c87, if_pos c111, if_true, if_false]; done) | (exfalso; simp at c111; done))
                · refine gIcmpY X110 hx (hb hby at_166) (q := 173) (by decide) (by decide) (XT.ii_ne_t c111) ?_
                  refine gIconst X110 hx (0 : Int32) (hb hby at_173) (q := 174) rfl (by decide) ?_
                  exact J166_113 _ (by first | rfl | (simp only [if_neg c11, if_neg c76, if_neg c79, if_neg c87, if_neg c111]; done) | (simp only [if_neg c11, if_neg c76, if_neg c79, if_neg c87, if_neg c111]; done) | (simp only [if_neg c11, if_neg c76, if_neg c79, if_neg c87, if_neg c111, if_true, if_false]; done) | (exfalso; simp at c111; done))
      by_cases c7 : (x2 &&& (4 : Int32)) = (0 : Int32)
      · refine gIfY X0 hx (hb hby at_28) (q := 35) (by decide) (by decide) (XT.i0_eq_t c7) ?_
        refine gIloadN X0 hx (hb hby at_35) (q := 36) rfl rfl ?_
        exact J28_9 _ (by first | rfl | (simp only [if_pos c7]; done) | (simp only [if_pos c7]; done) | (simp only [if_pos c7, if_true, if_false]; done) | (exfalso; simp at c7; done))
      · refine gIfN X0 hx (hb hby at_28) (q := 31) rfl (XT.i0_eq_f c7) ?_
        refine gIloadN X0 hx (hb hby at_31) (q := 32) rfl rfl ?_
        refine gGoto X0 hx (hb hby at_32) (q := 36) (by decide) (by decide) ?_
        exact J28_9 _ (by first | rfl | (simp only [if_neg c7]; done) | (simp only [if_neg c7]; done) | (simp only [if_neg c7, if_true, if_false]; done) | (exfalso; simp at c7; done))
    by_cases c4 : (x2 &&& (2 : Int32)) = (0 : Int32)
    · refine gIfY X0 hx (hb hby at_15) (q := 22) (by decide) (by decide) (XT.i0_eq_t c4) ?_
      refine gIconst X0 hx (0 : Int32) (hb hby at_22) (q := 23) rfl (by decide) ?_
      exact J15_6 _ (by first | rfl | (simp only [if_pos c4]; done) | (simp only [if_pos c4]; done) | (simp only [if_pos c4, if_true, if_false]; done) | (exfalso; simp at c4; done))
    · refine gIfN X0 hx (hb hby at_15) (q := 18) rfl (XT.i0_eq_f c4) ?_
      refine gIconst X0 hx (1 : Int32) (hb hby at_18) (q := 19) rfl (by decide) ?_
      refine gGoto X0 hx (hb hby at_19) (q := 23) (by decide) (by decide) ?_
      exact J15_6 _ (by first | rfl | (simp only [if_neg c4]; done) | (simp only [if_neg c4]; done) | (simp only [if_neg c4, if_true, if_false]; done) | (exfalso; simp at c4; done))
  by_cases c1 : (x2 &&& (1 : Int32)) = (0 : Int32)
  · refine gIfY X0 hx (hb hby at_3) (q := 10) (by decide) (by decide) (XT.i0_eq_t c1) ?_
    refine gIconst X0 hx (0 : Int32) (hb hby at_10) (q := 11) rfl (by decide) ?_
    exact J3_3 _ (by first | rfl | (simp only [if_pos c1]; done) | (simp only [if_pos c1]; done) | (simp only [if_pos c1, if_true, if_false]; done) | (exfalso; simp at c1; done))
  · refine gIfN X0 hx (hb hby at_3) (q := 6) rfl (XT.i0_eq_f c1) ?_
    refine gIconst X0 hx (1 : Int32) (hb hby at_6) (q := 7) rfl (by decide) ?_
    refine gGoto X0 hx (hb hby at_7) (q := 11) (by decide) (by decide) ?_
    exact J3_3 _ (by first | rfl | (simp only [if_neg c1]; done) | (simp only [if_neg c1]; done) | (simp only [if_neg c1, if_true, if_false]; done) | (exfalso; simp at c1; done))
set_option maxRecDepth 65536 in
set_option maxHeartbeats 40000000 in
theorem comes_1 {Post : Tables → Env → Array Value → State → Outcome → State → Prop} (hpost : ∀ tb e args s v u, (limb_1_1.after args s (.returned v) u = true ∧ limb_1_2.after args s (.returned v) u = true ∧ True) → FrameEnd s (.returned v) u (Jvm.fieldLocs frame_1_writes args s ++ Jvm.arrayLocs frame_1_arrays args s ++ Jvm.staticLocs frame_1_statics s) 16 128 → Post tb e args s (.returned v) u) :
    ArmFor flags0 classFile x code maxLocals ret World_1 tables_1 room_1 Calls_1 rest_1 Pre_1 Post := by
  intro l hfl _ _ p e ha hc hk s m args below hf hA hF happ hP
  obtain ⟨hcalls, hrest, hpre⟩ := hP
  obtain ⟨-, -, -, hnamed, -, -, -, hat⟩ := (Spec.applies_iff hf).mp happ
  obtain ⟨hg, hn⟩ := and_e (Cond.before_iff.mp (show (Jvm.Cond.and given_1 narrow_1).before args s = true from hpre))
  obtain ⟨hcount, hg⟩ := and_e hg
  obtain ⟨hk0, hg⟩ := and_e hg
  obtain ⟨hk1, hg⟩ := and_e hg
  have hk2 := hg
  obtain ⟨w0, w1, w2, rfl⟩ : ∃ w0 w1 w2 : Value, args = #[w0, w1, w2] := by
    have hs : args.size = 3 := by simpa [Cond.value, given_1] using hcount
    obtain ⟨L⟩ := args
    match L, hs with
    | [w0, w1, w2], _ => exact ⟨w0, w1, w2, rfl⟩
  have hw := fun d (hd : d ∈ tables_1) => atoms_spec (ws := Jvm.Cond.code x code maxLocals ret :: tables_1) hat d (List.mem_cons_of_mem _ hd)
  have hfit : Fit s := fun {y c} hc i hi => by
    obtain ⟨ha, rfl⟩ := Array.getElem?_eq_some_iff.mp hc
    have q := List.all_eq_true.mp ((Array.all_eq_true_iff_forall_mem.mp hF) _ (Array.getElem_mem ha)) i (List.mem_range.mpr hi)
    simpa [Array.getElem?_eq_getElem hi] using q
  obtain ⟨i0, hi0⟩ := is_v hk0
  obtain rfl : w0 = (.int i0) := Option.some.inj hi0
  obtain ⟨i1, hi1⟩ := is_v hk1
  obtain rfl : w1 = (.int i1) := Option.some.inj hi1
  obtain ⟨i2, hi2⟩ := is_v hk2
  obtain rfl : w2 = (.int i2) := Option.some.inj hi2
  obtain ⟨hsets, hown0⟩ := atoms_of _ (rest_1_c_eq ▸ (show rest_1_c.before _ s = true from hrest))
  obtain ⟨SH, rc, kc, vc, SC, AC, hlen, HC⟩ := own_cache hfit (hsets _ (List.mem_of_getElem? (i := 1) rfl)) (hsets _ (List.mem_of_getElem? (i := 3) rfl)) (hw _ (List.mem_of_getElem? (i := 36) rfl)) (hsets _ (List.mem_of_getElem? (i := 2) rfl)) (hsets _ (List.mem_of_getElem? (i := 4) rfl)) (hsets _ (List.mem_of_getElem? (i := 6) rfl)) (hsets _ (List.mem_of_getElem? (i := 7) rfl))
  obtain ⟨na0, hn⟩ := and_e hn
  obtain ⟨na1, hn⟩ := and_e hn
  have na2 := hn
  obtain ⟨r0, ev_r0⟩ := exa_v na0
  have E_r0 := Exa.start ev_r0 na0
  have S_r0 : Sta s s.heap "com/example/tintfold/tintfold/QualifierKind" "DENSITY" "Lcom/example/tintfold/tintfold/QualifierKind;" (.ref r0) := Sta.start ev_r0 (Or.inr ⟨(hw _ (List.mem_of_getElem? (i := 7) rfl)), (hw _ (List.mem_of_getElem? (i := 8) rfl))⟩)
  obtain ⟨r1, ev_r1⟩ := exa_v na1
  have E_r1 := Exa.start ev_r1 na1
  have S_r1 : Sta s s.heap "com/example/tintfold/tintfold/Qualifier$Density" "NONE" "Lcom/example/tintfold/tintfold/Qualifier$Density;" (.ref r1) := Sta.start ev_r1 (Or.inr ⟨(hw _ (List.mem_of_getElem? (i := 2) rfl)), (hw _ (List.mem_of_getElem? (i := 22) rfl))⟩)
  have Fdpi_r1 := own_fldI ev_r1 na2
  obtain ⟨n, o, h1, h2, h3, _, L, rfl, ⟨rfl, N⟩, hq⟩ := rm0 l s _ hw tables_1 i0 i1 i2 r0 r1 rc kc vc s.heap s.heap.size (Nat.le_refl _) (Old.start s) SH SC AC hlen HC S_r0 E_r0 S_r1 E_r1 Fdpi_r1 p e ha hc hk s m _ below hf ((Spec.applies_iff_loose hf).mp happ).1 ⟨rfl, State.Warmed39.refl s, rfl⟩ trivial
  refine ⟨n, _, h1, h2, h3, hpost _ _ _ _ _ _ ⟨Cond.after_iff.mpr rfl, Cond.after_iff.mpr (eq_i res_at (Term.int_eval (1)) rfl), trivial⟩ ⟨hq.1, hq.2.1, (hq.2.2.sift fun y hy => Or.inr (N y hy)).mono (by decide) (by decide)⟩⟩
theorem main_1_1 : Claimed_1_1 := comes_1 fun _ _ _ _ _ _ h hF => ⟨h.1, hF⟩
theorem main_1_2 : Claimed_1_2 := comes_1 fun _ _ _ _ _ _ h hF => ⟨h.2.1, hF⟩
end Jvm.Pilot.@@N@@
namespace Jvm.Pilot.@@N@@
open Jvm Jvm.ClassFile Sem Op Lib Jvm.Free Jvm.Stand Jvm.Pilot.@@N@@.Jvm.D
/-! MADE BY PROGRAM (witnessworld.py) out of the Statement's table words and the real class files: 20 classes; the members and pool entries that the words name. The judged class is class 1, her method 1. -/
namespace start1
open Jvm.ClassFile
def u (s : String) : CpInfo := .utf8 (stringToUtf16 s)
/-- a pool by its gaps: so many unusable entries, then the entry; so many at the end -/
def gap : Nat → List CpInfo → List CpInfo
  | 0, r => r
  | n + 1, r => .unusable :: gap n r
def poolList (es : List (Nat × CpInfo)) (last : Nat) : List CpInfo := es.foldr (fun e r => gap e.1 (e.2 :: r)) (gap last [])
def pool (es : List (Nat × CpInfo)) (last : Nat) : Array CpInfo := ⟨poolList es last⟩
def fileOf (pool : Array CpInfo) (this : Nat) (attrs : Array Attribute := #[]) (ms : Array MethodInfo := #[]) (fl : Nat := 33) (sup : Nat := 0) (ifs : Array Nat := #[]) (fds : Array FieldInfo := #[]) : ClassFile where
  minorVersion := 0
  majorVersion := 65
  constantPool := pool
  accessFlags := fl
  thisClass := this
  superClass := sup
  interfaces := ifs
  fields := fds
  methods := ms
  attributes := attrs
def plain (name : String) (sup : Option ClassId) : Class where
  name := name
  kind := .ordinary
  loader := none
  accessFlags := 33
  super := sup
  interfaces := #[]
  cf := none
  fields := #[]
  methods := #[]
  instanceTypes := #[]
  staticTypes := #[]
  resolved := #[]
  callSites := []
  init := .initialized
  statics := none
  mirror := none

def pool0 : Array CpInfo := pool [(5, u "<init>"), (0, u "()V"), (1, .class_ 10), (1, u "java/lang/Object")] 113

def k0c0 : Code := { maxStack := 0, maxLocals := 1, code := object_method_1_code, exceptionTable := #[], attributes := #[] }
def k0m0 : Method := { name := "<init>", desc := "()V", sig := { parameters := [], returnType := none }, accessFlags := 1, code := some k0c0 }
/-- java/lang/Object -/
def k0 : Class := { plain "java/lang/Object" none with
  accessFlags := 33
  interfaces := #[]
  cf := some (fileOf pool0 8 #[] #[{ accessFlags := 1, nameIndex := 5, descriptorIndex := 6, attributes := #[] }] 33 0 #[] #[])
  fields := #[]
  methods := #[k0m0]
  instanceTypes := #[]
  staticTypes := #[]
  resolved := Array.replicate 124 none
  statics := none }

def pool1 : Array CpInfo := pool [(2, .class_ 4), (1, u "java/lang/Object"), (0, u "<init>"), (0, u "()V"), (0, .fieldref 8 9), (0, .class_ 10), (0, .nameAndType 11 12), (0, u "com/example/tintfold/tintfold/Qualifier$Density"), (0, u "NONE"), (0, u "Lcom/example/tintfold/tintfold/Qualifier$Density;"), (0, .methodref 8 14), (0, .nameAndType 5 15), (0, u "(I)V"), (0, .methodref 17 18), (0, .class_ 19), (0, .nameAndType 20 21), (0, u "java/lang/Integer"), (0, u "valueOf"), (0, u "(I)Ljava/lang/Integer;"), (0, .methodref 8 23), (0, .nameAndType 24 25), (0, u "equals"), (0, u "(Ljava/lang/Object;)Z"), (0, .class_ 27), (0, u "com/example/tintfold/tintfold/DensityEqualsPinLaw"), (2, u "law"), (0, u "(III)Z")] 7

def k1m0 : Method := { name := "<init>", desc := "()V", sig := { parameters := [], returnType := none }, accessFlags := 1, code := none }
def k1c1 : Code := { maxStack := 3, maxLocals := 13, code := code, exceptionTable := #[], attributes := #[] }
def k1m1 : Method := { name := "law", desc := "(III)Z", sig := { parameters := [.int, .int, .int], returnType := some .boolean }, accessFlags := 9, code := some k1c1 }
/-- com/example/tintfold/tintfold/DensityEqualsPinLaw -/
def k1 : Class := { plain "com/example/tintfold/tintfold/DensityEqualsPinLaw" (some 0) with
  accessFlags := 49
  interfaces := #[]
  cf := some (fileOf pool1 26 #[] #[{ accessFlags := 1, nameIndex := 5, descriptorIndex := 6, attributes := #[] }, { accessFlags := 9, nameIndex := 30, descriptorIndex := 31, attributes := #[] }] 49 2 #[] #[])
  fields := #[]
  methods := #[k1m0, k1m1]
  instanceTypes := #[]
  staticTypes := #[]
  resolved := Array.replicate 39 none
  statics := none }

def pool2 : Array CpInfo := pool [(1, .methodref 2 3), (0, .class_ 4), (0, .nameAndType 5 6), (0, u "java/lang/Object"), (0, u "<init>"), (0, u "()V"), (0, .fieldref 8 9), (0, .class_ 10), (0, .nameAndType 11 12), (0, u "com/example/tintfold/tintfold/Qualifier"), (0, u "kind"), (0, u "Lcom/example/tintfold/tintfold/QualifierKind;"), (2, u "TRIED"), (0, u "Ljava/util/List;"), (64, u "(Lcom/example/tintfold/tintfold/QualifierKind;)V"), (15, .class_ 98), (0, u "com/example/tintfold/tintfold/Qualifier$Language"), (0, .class_ 100), (0, u "com/example/tintfold/tintfold/Qualifier$Network"), (0, .class_ 102), (0, u "com/example/tintfold/tintfold/Qualifier$Density"), (0, .class_ 104), (0, u "com/example/tintfold/tintfold/Qualifier$ScreenSize"), (0, .class_ 106), (0, u "com/example/tintfold/tintfold/Qualifier$Minimum"), (0, .class_ 108), (0, u "com/example/tintfold/tintfold/Qualifier$Word")] 21

def k2c0 : Code := { maxStack := 2, maxLocals := 2, code := prog_83_method_1_code, exceptionTable := #[], attributes := #[] }
def k2m0 : Method := { name := "<init>", desc := "(Lcom/example/tintfold/tintfold/QualifierKind;)V", sig := { parameters := [(.object "com/example/tintfold/tintfold/QualifierKind")], returnType := none }, accessFlags := 0, code := some k2c0 }
/-- com/example/tintfold/tintfold/Qualifier -/
def k2 : Class := { plain "com/example/tintfold/tintfold/Qualifier" (some 0) with
  accessFlags := 1056
  interfaces := #[]
  cf := some (fileOf pool2 8 #[.nestMembers #[97, 99, 101, 103, 105, 107]] #[{ accessFlags := 0, nameIndex := 5, descriptorIndex := 81, attributes := #[] }] 1056 2 #[] #[{ accessFlags := 26, nameIndex := 15, descriptorIndex := 16, attributes := #[] }, { accessFlags := 18, nameIndex := 11, descriptorIndex := 12, attributes := #[] }])
  fields := #[{ name := "TRIED", type := (.object "java/util/List"), accessFlags := 26, slot := 0, constantValue := 0 }, { name := "kind", type := (.object "com/example/tintfold/tintfold/QualifierKind"), accessFlags := 18, slot := 0, constantValue := 0 }]
  methods := #[k2m0]
  instanceTypes := #[(.object "com/example/tintfold/tintfold/QualifierKind")]
  staticTypes := #[(.object "java/util/List")]
  resolved := Array.replicate 130 none
  statics := none }

def pool3 : Array CpInfo := pool [(1, .fieldref 2 3), (0, .class_ 4), (0, .nameAndType 5 6), (0, u "com/example/tintfold/tintfold/QualifierKind"), (0, u "DENSITY"), (0, u "Lcom/example/tintfold/tintfold/QualifierKind;"), (0, .methodref 8 9), (0, .class_ 10), (0, .nameAndType 11 12), (0, u "com/example/tintfold/tintfold/Qualifier"), (0, u "<init>"), (0, u "(Lcom/example/tintfold/tintfold/QualifierKind;)V"), (0, .fieldref 14 15), (0, .class_ 16), (0, .nameAndType 17 18), (0, u "com/example/tintfold/tintfold/Qualifier$Density"), (0, u "dpi"), (0, u "I"), (14, u "DPI"), (0, u "Ljava/util/regex/Pattern;"), (8, u "NAMED"), (0, u "Ljava/util/Map;"), (5, u "(Ljava/lang/Object;)Z"), (12, u "(I)V"), (4, u "equals"), (25, .fieldref 14 95), (0, .nameAndType 96 97), (0, u "NONE"), (0, u "Lcom/example/tintfold/tintfold/Qualifier$Density;"), (44, u "MEDIUM"), (4, u "ANY"), (1, u "NODPI"), (1, u "NODPI_WEIGHED"), (0, u "ANY_DRAWN")] 20

def k3c0 : Code := { maxStack := 2, maxLocals := 2, code := prog_84_method_1_code, exceptionTable := #[], attributes := #[] }
def k3m0 : Method := { name := "<init>", desc := "(I)V", sig := { parameters := [.int], returnType := none }, accessFlags := 0, code := some k3c0 }
def k3c1 : Code := { maxStack := 3, maxLocals := 2, code := prog_84_method_7_code, exceptionTable := #[], attributes := #[] }
def k3m1 : Method := { name := "equals", desc := "(Ljava/lang/Object;)Z", sig := { parameters := [(.object "java/lang/Object")], returnType := some .boolean }, accessFlags := 1, code := some k3c1 }
/-- com/example/tintfold/tintfold/Qualifier$Density -/
def k3 : Class := { plain "com/example/tintfold/tintfold/Qualifier$Density" (some 2) with
  accessFlags := 48
  interfaces := #[]
  cf := some (fileOf pool3 14 #[.nestHost 8] #[{ accessFlags := 0, nameIndex := 11, descriptorIndex := 63, attributes := #[] }, { accessFlags := 1, nameIndex := 68, descriptorIndex := 50, attributes := #[] }] 48 8 #[] #[{ accessFlags := 24, nameIndex := 142, descriptorIndex := 18, attributes := #[] }, { accessFlags := 24, nameIndex := 96, descriptorIndex := 97, attributes := #[] }, { accessFlags := 26, nameIndex := 43, descriptorIndex := 44, attributes := #[] }, { accessFlags := 26, nameIndex := 33, descriptorIndex := 34, attributes := #[] }, { accessFlags := 26, nameIndex := 147, descriptorIndex := 18, attributes := #[] }, { accessFlags := 26, nameIndex := 149, descriptorIndex := 18, attributes := #[] }, { accessFlags := 26, nameIndex := 151, descriptorIndex := 18, attributes := #[] }, { accessFlags := 26, nameIndex := 152, descriptorIndex := 18, attributes := #[] }, { accessFlags := 18, nameIndex := 17, descriptorIndex := 18, attributes := #[] }])
  fields := #[{ name := "MEDIUM", type := .int, accessFlags := 24, slot := 0, constantValue := 0 }, { name := "NONE", type := (.object "com/example/tintfold/tintfold/Qualifier$Density"), accessFlags := 24, slot := 1, constantValue := 0 }, { name := "NAMED", type := (.object "java/util/Map"), accessFlags := 26, slot := 2, constantValue := 0 }, { name := "DPI", type := (.object "java/util/regex/Pattern"), accessFlags := 26, slot := 3, constantValue := 0 }, { name := "ANY", type := .int, accessFlags := 26, slot := 4, constantValue := 0 }, { name := "NODPI", type := .int, accessFlags := 26, slot := 5, constantValue := 0 }, { name := "NODPI_WEIGHED", type := .int, accessFlags := 26, slot := 6, constantValue := 0 }, { name := "ANY_DRAWN", type := .int, accessFlags := 26, slot := 7, constantValue := 0 }, { name := "dpi", type := .int, accessFlags := 18, slot := 1, constantValue := 0 }]
  methods := #[k3m0, k3m1]
  instanceTypes := #[(.object "com/example/tintfold/tintfold/QualifierKind"), .int]
  staticTypes := #[.int, (.object "com/example/tintfold/tintfold/Qualifier$Density"), (.object "java/util/Map"), (.object "java/util/regex/Pattern"), .int, .int, .int, .int]
  resolved := Array.replicate 173 none
  statics := some 0 }

def pool4 : Array CpInfo := pool [(1, .class_ 2), (0, u "java/lang/constant/Constable"), (0, .class_ 4), (0, u "java/lang/Object")] 6

/-- java/lang/constant/Constable -/
def k4 : Class := { plain "java/lang/constant/Constable" (some 0) with
  accessFlags := 1537
  interfaces := #[]
  cf := some (fileOf pool4 1 #[] #[] 1537 3 #[] #[])
  fields := #[]
  methods := #[]
  instanceTypes := #[]
  staticTypes := #[]
  resolved := Array.replicate 11 none
  statics := none }

def pool5 : Array CpInfo := pool [(1, .class_ 2), (0, u "java/lang/Comparable"), (0, .class_ 4), (0, u "java/lang/Object")] 7

/-- java/lang/Comparable -/
def k5 : Class := { plain "java/lang/Comparable" (some 0) with
  accessFlags := 1537
  interfaces := #[]
  cf := some (fileOf pool5 1 #[] #[] 1537 3 #[] #[])
  fields := #[]
  methods := #[]
  instanceTypes := #[]
  staticTypes := #[]
  resolved := Array.replicate 12 none
  statics := none }

def pool6 : Array CpInfo := pool [(1, .class_ 2), (0, u "java/io/Serializable"), (0, .class_ 4), (0, u "java/lang/Object")] 2

/-- java/io/Serializable -/
def k6 : Class := { plain "java/io/Serializable" (some 0) with
  accessFlags := 1537
  interfaces := #[]
  cf := some (fileOf pool6 1 #[] #[] 1537 3 #[] #[])
  fields := #[]
  methods := #[]
  instanceTypes := #[]
  staticTypes := #[]
  resolved := Array.replicate 7 none
  statics := none }

def pool7 : Array CpInfo := pool [(2, .class_ 4), (1, u "java/lang/Enum"), (0, u "name"), (0, u "Ljava/lang/String;"), (2, u "ordinal"), (0, u "I"), (1, .class_ 14), (1, u "java/lang/Object"), (4, u "hash"), (86, .class_ 108), (1, u "java/lang/Enum$EnumDesc"), (2, .class_ 112), (0, u "java/lang/constant/Constable"), (0, .class_ 114), (0, u "java/lang/Comparable"), (0, .class_ 116), (0, u "java/io/Serializable")] 87

/-- java/lang/Enum -/
def k7 : Class := { plain "java/lang/Enum" (some 0) with
  accessFlags := 1057
  interfaces := #[4, 5, 6]
  cf := some (fileOf pool7 2 #[.nestMembers #[106]] #[] 1057 12 #[111, 113, 115] #[{ accessFlags := 18, nameIndex := 5, descriptorIndex := 6, attributes := #[] }, { accessFlags := 18, nameIndex := 9, descriptorIndex := 10, attributes := #[] }, { accessFlags := 2, nameIndex := 19, descriptorIndex := 10, attributes := #[] }])
  fields := #[{ name := "name", type := (.object "java/lang/String"), accessFlags := 18, slot := 0, constantValue := 0 }, { name := "ordinal", type := .int, accessFlags := 18, slot := 1, constantValue := 0 }, { name := "hash", type := .int, accessFlags := 2, slot := 2, constantValue := 0 }]
  methods := #[]
  instanceTypes := #[(.object "java/lang/String"), .int, .int]
  staticTypes := #[]
  resolved := Array.replicate 204 none
  statics := none }

def pool8 : Array CpInfo := pool [(1, .class_ 2), (0, u "com/example/tintfold/tintfold/QualifierKind"), (2, u "NETWORK"), (0, u "Lcom/example/tintfold/tintfold/QualifierKind;"), (2, u "LANGUAGE"), (2, u "LAYOUT_DIRECTION"), (2, u "SMALLEST_WIDTH"), (2, u "AVAILABLE_WIDTH"), (2, u "AVAILABLE_HEIGHT"), (2, u "SCREEN_SIZE"), (2, u "SCREEN_ASPECT"), (2, u "ORIENTATION"), (2, u "UI_MODE"), (2, u "NIGHT_MODE"), (2, u "DENSITY"), (2, u "TOUCHSCREEN"), (2, u "KEYBOARD"), (2, u "TEXT_INPUT"), (2, u "NAVIGATION_KEYS"), (2, u "NAVIGATION"), (2, u "API_LEVEL"), (2, u "$VALUES"), (0, u "[Lcom/example/tintfold/tintfold/QualifierKind;"), (6, .class_ 70), (1, u "java/lang/Enum"), (8, u "description"), (0, u "Ljava/lang/String;"), (8, u "words"), (0, u "Ljava/util/List;"), (2, u "minimum"), (0, u "Ljava/util/regex/Pattern;"), (65, .class_ 161), (0, u "com/example/tintfold/tintfold/QualifierKind$1"), (6, .class_ 169), (0, u "com/example/tintfold/tintfold/QualifierKind$2"), (31, .class_ 202), (0, u "com/example/tintfold/tintfold/QualifierKind$3"), (6, .class_ 210), (0, u "com/example/tintfold/tintfold/QualifierKind$4"), (40, .class_ 252), (0, u "com/example/tintfold/tintfold/QualifierKind$5"), (13, .class_ 267), (0, u "com/example/tintfold/tintfold/QualifierKind$6"), (19, .class_ 288), (0, u "com/example/tintfold/tintfold/QualifierKind$7")] 80

/-- com/example/tintfold/tintfold/QualifierKind -/
def k8 : Class := { plain "com/example/tintfold/tintfold/QualifierKind" (some 7) with
  accessFlags := 16416
  interfaces := #[]
  cf := some (fileOf pool8 1 #[.nestMembers #[287, 266, 251, 209, 201, 168, 160]] #[] 16416 68 #[] #[{ accessFlags := 16409, nameIndex := 5, descriptorIndex := 6, attributes := #[] }, { accessFlags := 16409, nameIndex := 9, descriptorIndex := 6, attributes := #[] }, { accessFlags := 16409, nameIndex := 12, descriptorIndex := 6, attributes := #[] }, { accessFlags := 16409, nameIndex := 15, descriptorIndex := 6, attributes := #[] }, { accessFlags := 16409, nameIndex := 18, descriptorIndex := 6, attributes := #[] }, { accessFlags := 16409, nameIndex := 21, descriptorIndex := 6, attributes := #[] }, { accessFlags := 16409, nameIndex := 24, descriptorIndex := 6, attributes := #[] }, { accessFlags := 16409, nameIndex := 27, descriptorIndex := 6, attributes := #[] }, { accessFlags := 16409, nameIndex := 30, descriptorIndex := 6, attributes := #[] }, { accessFlags := 16409, nameIndex := 33, descriptorIndex := 6, attributes := #[] }, { accessFlags := 16409, nameIndex := 36, descriptorIndex := 6, attributes := #[] }, { accessFlags := 16409, nameIndex := 39, descriptorIndex := 6, attributes := #[] }, { accessFlags := 16409, nameIndex := 42, descriptorIndex := 6, attributes := #[] }, { accessFlags := 16409, nameIndex := 45, descriptorIndex := 6, attributes := #[] }, { accessFlags := 16409, nameIndex := 48, descriptorIndex := 6, attributes := #[] }, { accessFlags := 16409, nameIndex := 51, descriptorIndex := 6, attributes := #[] }, { accessFlags := 16409, nameIndex := 54, descriptorIndex := 6, attributes := #[] }, { accessFlags := 16409, nameIndex := 57, descriptorIndex := 6, attributes := #[] }, { accessFlags := 18, nameIndex := 79, descriptorIndex := 80, attributes := #[] }, { accessFlags := 18, nameIndex := 89, descriptorIndex := 90, attributes := #[] }, { accessFlags := 18, nameIndex := 93, descriptorIndex := 94, attributes := #[] }, { accessFlags := 4122, nameIndex := 60, descriptorIndex := 61, attributes := #[] }])
  fields := #[{ name := "NETWORK", type := (.object "com/example/tintfold/tintfold/QualifierKind"), accessFlags := 16409, slot := 0, constantValue := 0 }, { name := "LANGUAGE", type := (.object "com/example/tintfold/tintfold/QualifierKind"), accessFlags := 16409, slot := 1, constantValue := 0 }, { name := "LAYOUT_DIRECTION", type := (.object "com/example/tintfold/tintfold/QualifierKind"), accessFlags := 16409, slot := 2, constantValue := 0 }, { name := "SMALLEST_WIDTH", type := (.object "com/example/tintfold/tintfold/QualifierKind"), accessFlags := 16409, slot := 3, constantValue := 0 }, { name := "AVAILABLE_WIDTH", type := (.object "com/example/tintfold/tintfold/QualifierKind"), accessFlags := 16409, slot := 4, constantValue := 0 }, { name := "AVAILABLE_HEIGHT", type := (.object "com/example/tintfold/tintfold/QualifierKind"), accessFlags := 16409, slot := 5, constantValue := 0 }, { name := "SCREEN_SIZE", type := (.object "com/example/tintfold/tintfold/QualifierKind"), accessFlags := 16409, slot := 6, constantValue := 0 }, { name := "SCREEN_ASPECT", type := (.object "com/example/tintfold/tintfold/QualifierKind"), accessFlags := 16409, slot := 7, constantValue := 0 }, { name := "ORIENTATION", type := (.object "com/example/tintfold/tintfold/QualifierKind"), accessFlags := 16409, slot := 8, constantValue := 0 }, { name := "UI_MODE", type := (.object "com/example/tintfold/tintfold/QualifierKind"), accessFlags := 16409, slot := 9, constantValue := 0 }, { name := "NIGHT_MODE", type := (.object "com/example/tintfold/tintfold/QualifierKind"), accessFlags := 16409, slot := 10, constantValue := 0 }, { name := "DENSITY", type := (.object "com/example/tintfold/tintfold/QualifierKind"), accessFlags := 16409, slot := 11, constantValue := 0 }, { name := "TOUCHSCREEN", type := (.object "com/example/tintfold/tintfold/QualifierKind"), accessFlags := 16409, slot := 12, constantValue := 0 }, { name := "KEYBOARD", type := (.object "com/example/tintfold/tintfold/QualifierKind"), accessFlags := 16409, slot := 13, constantValue := 0 }, { name := "TEXT_INPUT", type := (.object "com/example/tintfold/tintfold/QualifierKind"), accessFlags := 16409, slot := 14, constantValue := 0 }, { name := "NAVIGATION_KEYS", type := (.object "com/example/tintfold/tintfold/QualifierKind"), accessFlags := 16409, slot := 15, constantValue := 0 }, { name := "NAVIGATION", type := (.object "com/example/tintfold/tintfold/QualifierKind"), accessFlags := 16409, slot := 16, constantValue := 0 }, { name := "API_LEVEL", type := (.object "com/example/tintfold/tintfold/QualifierKind"), accessFlags := 16409, slot := 17, constantValue := 0 }, { name := "description", type := (.object "java/lang/String"), accessFlags := 18, slot := 3, constantValue := 0 }, { name := "words", type := (.object "java/util/List"), accessFlags := 18, slot := 4, constantValue := 0 }, { name := "minimum", type := (.object "java/util/regex/Pattern"), accessFlags := 18, slot := 5, constantValue := 0 }, { name := "$VALUES", type := (.array (.object "com/example/tintfold/tintfold/QualifierKind")), accessFlags := 4122, slot := 18, constantValue := 0 }]
  methods := #[]
  instanceTypes := #[(.object "java/lang/String"), .int, .int, (.object "java/lang/String"), (.object "java/util/List"), (.object "java/util/regex/Pattern")]
  staticTypes := #[(.object "com/example/tintfold/tintfold/QualifierKind"), (.object "com/example/tintfold/tintfold/QualifierKind"), (.object "com/example/tintfold/tintfold/QualifierKind"), (.object "com/example/tintfold/tintfold/QualifierKind"), (.object "com/example/tintfold/tintfold/QualifierKind"), (.object "com/example/tintfold/tintfold/QualifierKind"), (.object "com/example/tintfold/tintfold/QualifierKind"), (.object "com/example/tintfold/tintfold/QualifierKind"), (.object "com/example/tintfold/tintfold/QualifierKind"), (.object "com/example/tintfold/tintfold/QualifierKind"), (.object "com/example/tintfold/tintfold/QualifierKind"), (.object "com/example/tintfold/tintfold/QualifierKind"), (.object "com/example/tintfold/tintfold/QualifierKind"), (.object "com/example/tintfold/tintfold/QualifierKind"), (.object "com/example/tintfold/tintfold/QualifierKind"), (.object "com/example/tintfold/tintfold/QualifierKind"), (.object "com/example/tintfold/tintfold/QualifierKind"), (.object "com/example/tintfold/tintfold/QualifierKind"), (.array (.object "com/example/tintfold/tintfold/QualifierKind"))]
  resolved := Array.replicate 369 none
  statics := some 1 }

def pool9 : Array CpInfo := pool [(1, .methodref 2 3), (0, .class_ 4), (0, .nameAndType 5 6), (0, u "java/lang/Object"), (0, u "<init>"), (0, u "()V"), (1, .class_ 10), (1, u "java/lang/Number"), (2, .class_ 14), (0, u "java/io/Serializable"), (0, u "serialVersionUID"), (0, u "J")] 20

def k9c0 : Code := { maxStack := 1, maxLocals := 1, code := jdk_18_method_1_code, exceptionTable := #[], attributes := #[] }
def k9m0 : Method := { name := "<init>", desc := "()V", sig := { parameters := [], returnType := none }, accessFlags := 1, code := some k9c0 }
/-- java/lang/Number -/
def k9 : Class := { plain "java/lang/Number" (some 0) with
  accessFlags := 1057
  interfaces := #[6]
  cf := some (fileOf pool9 8 #[] #[{ accessFlags := 1, nameIndex := 5, descriptorIndex := 6, attributes := #[] }] 1057 2 #[13] #[{ accessFlags := 26, nameIndex := 15, descriptorIndex := 16, attributes := #[] }])
  fields := #[{ name := "serialVersionUID", type := .long, accessFlags := 26, slot := 0, constantValue := 0 }]
  methods := #[k9m0]
  instanceTypes := #[]
  staticTypes := #[.long]
  resolved := Array.replicate 37 none
  statics := none }

def pool10 : Array CpInfo := pool [(1, .class_ 2), (0, u "java/lang/constant/ConstantDesc"), (0, .class_ 4), (0, u "java/lang/Object")] 32

/-- java/lang/constant/ConstantDesc -/
def k10 : Class := { plain "java/lang/constant/ConstantDesc" (some 0) with
  accessFlags := 1537
  interfaces := #[]
  cf := some (fileOf pool10 1 #[] #[] 1537 3 #[] #[])
  fields := #[]
  methods := #[]
  instanceTypes := #[]
  staticTypes := #[]
  resolved := Array.replicate 37 none
  statics := none }

def pool11 : Array CpInfo := pool [(1, .class_ 2), (0, u "java/lang/Integer"), (16, u "digits"), (0, u "[C"), (46, u "<init>"), (17, u "DigitOnes"), (0, u "[B"), (2, u "DigitTens"), (10, .nameAndType 67 101), (0, u "()V"), (85, u "valueOf"), (0, u "(I)Ljava/lang/Integer;"), (0, .class_ 190), (0, u "java/lang/Integer$IntegerCache"), (0, .fieldref 189 192), (0, .nameAndType 193 194), (0, u "high"), (0, u "I"), (0, .fieldref 189 196), (0, .nameAndType 197 198), (0, u "cache"), (0, u "[Ljava/lang/Integer;"), (0, .methodref 1 200), (0, .nameAndType 67 201), (0, u "(I)V"), (0, .methodref 203 100), (0, .class_ 204), (0, u "java/lang/Number"), (0, .fieldref 1 206), (0, .nameAndType 207 194), (0, u "value"), (94, u "TYPE"), (0, u "Ljava/lang/Class;"), (0, .class_ 305), (0, u "java/lang/Comparable"), (0, .class_ 307), (0, u "java/lang/constant/Constable"), (0, .class_ 309), (0, u "java/lang/constant/ConstantDesc"), (0, u "MIN_VALUE"), (1, u "MAX_VALUE"), (3, u "SIZE"), (1, u "BYTES"), (1, u "serialVersionUID"), (0, u "J")] 131

def k11c0 : Code := { maxStack := 3, maxLocals := 1, code := jdk_33_method_22_code, exceptionTable := #[], attributes := #[] }
def k11m0 : Method := { name := "valueOf", desc := "(I)Ljava/lang/Integer;", sig := { parameters := [.int], returnType := some (.object "java/lang/Integer") }, accessFlags := 9, code := some k11c0 }
def k11c1 : Code := { maxStack := 2, maxLocals := 2, code := jdk_33_method_23_code, exceptionTable := #[], attributes := #[] }
def k11m1 : Method := { name := "<init>", desc := "(I)V", sig := { parameters := [.int], returnType := none }, accessFlags := 1, code := some k11c1 }
/-- java/lang/Integer -/
def k11 : Class := { plain "java/lang/Integer" (some 9) with
  accessFlags := 49
  interfaces := #[5, 4, 10]
  cf := some (fileOf pool11 1 #[.nestMembers #[189]] #[{ accessFlags := 9, nameIndex := 187, descriptorIndex := 188, attributes := #[] }, { accessFlags := 1, nameIndex := 67, descriptorIndex := 201, attributes := #[] }] 49 203 #[304, 306, 308] #[{ accessFlags := 25, nameIndex := 310, descriptorIndex := 194, attributes := #[] }, { accessFlags := 25, nameIndex := 312, descriptorIndex := 194, attributes := #[] }, { accessFlags := 25, nameIndex := 302, descriptorIndex := 303, attributes := #[] }, { accessFlags := 24, nameIndex := 19, descriptorIndex := 20, attributes := #[] }, { accessFlags := 24, nameIndex := 89, descriptorIndex := 86, attributes := #[] }, { accessFlags := 24, nameIndex := 85, descriptorIndex := 86, attributes := #[] }, { accessFlags := 18, nameIndex := 207, descriptorIndex := 194, attributes := #[] }, { accessFlags := 25, nameIndex := 316, descriptorIndex := 194, attributes := #[] }, { accessFlags := 25, nameIndex := 318, descriptorIndex := 194, attributes := #[] }, { accessFlags := 26, nameIndex := 320, descriptorIndex := 321, attributes := #[] }])
  fields := #[{ name := "MIN_VALUE", type := .int, accessFlags := 25, slot := 0, constantValue := 0 }, { name := "MAX_VALUE", type := .int, accessFlags := 25, slot := 1, constantValue := 0 }, { name := "TYPE", type := (.object "java/lang/Class"), accessFlags := 25, slot := 2, constantValue := 0 }, { name := "digits", type := (.array .char), accessFlags := 24, slot := 3, constantValue := 0 }, { name := "DigitTens", type := (.array .byte), accessFlags := 24, slot := 4, constantValue := 0 }, { name := "DigitOnes", type := (.array .byte), accessFlags := 24, slot := 5, constantValue := 0 }, { name := "value", type := .int, accessFlags := 18, slot := 0, constantValue := 0 }, { name := "SIZE", type := .int, accessFlags := 25, slot := 6, constantValue := 0 }, { name := "BYTES", type := .int, accessFlags := 25, slot := 7, constantValue := 0 }, { name := "serialVersionUID", type := .long, accessFlags := 26, slot := 8, constantValue := 0 }]
  methods := #[k11m0, k11m1]
  instanceTypes := #[.int]
  staticTypes := #[.int, .int, (.object "java/lang/Class"), (.array .char), (.array .byte), (.array .byte), .int, .int, .long]
  resolved := Array.replicate 453 none
  statics := none }

def pool12 : Array CpInfo := pool [(2, .class_ 4), (1, u "java/lang/Object"), (0, u "<init>"), (0, u "()V"), (0, .class_ 8), (0, u "java/lang/Integer"), (7, .class_ 18), (1, u "java/lang/Integer$IntegerCache"), (0, u "$assertionsDisabled"), (0, u "Z"), (26, u "high"), (0, u "I"), (8, u "archivedCache"), (0, u "[Ljava/lang/Integer;"), (12, u "cache"), (0, u "low")] 27

def k12m0 : Method := { name := "<init>", desc := "()V", sig := { parameters := [], returnType := none }, accessFlags := 2, code := none }
/-- java/lang/Integer$IntegerCache -/
def k12 : Class := { plain "java/lang/Integer$IntegerCache" (some 0) with
  accessFlags := 48
  interfaces := #[]
  cf := some (fileOf pool12 16 #[.nestHost 7] #[{ accessFlags := 2, nameIndex := 5, descriptorIndex := 6, attributes := #[] }] 48 2 #[] #[{ accessFlags := 24, nameIndex := 72, descriptorIndex := 48, attributes := #[] }, { accessFlags := 24, nameIndex := 47, descriptorIndex := 48, attributes := #[] }, { accessFlags := 24, nameIndex := 71, descriptorIndex := 58, attributes := #[] }, { accessFlags := 8, nameIndex := 57, descriptorIndex := 58, attributes := #[] }, { accessFlags := 4120, nameIndex := 19, descriptorIndex := 20, attributes := #[] }])
  fields := #[{ name := "low", type := .int, accessFlags := 24, slot := 0, constantValue := 0 }, { name := "high", type := .int, accessFlags := 24, slot := 1, constantValue := 0 }, { name := "cache", type := (.array (.object "java/lang/Integer")), accessFlags := 24, slot := 2, constantValue := 0 }, { name := "archivedCache", type := (.array (.object "java/lang/Integer")), accessFlags := 8, slot := 3, constantValue := 0 }, { name := "$assertionsDisabled", type := .boolean, accessFlags := 4120, slot := 4, constantValue := 0 }]
  methods := #[k12m0]
  instanceTypes := #[]
  staticTypes := #[.int, .int, (.array (.object "java/lang/Integer")), (.array (.object "java/lang/Integer")), .boolean]
  resolved := Array.replicate 100 none
  statics := some 2 }

def pool13 : Array CpInfo := pool [(2, .class_ 4), (1, u "com/example/tintfold/tintfold/QualifierKind"), (12, .class_ 18), (0, u "com/example/tintfold/tintfold/QualifierKind$5")] 16

/-- com/example/tintfold/tintfold/QualifierKind$5 -/
def k13 : Class := { plain "com/example/tintfold/tintfold/QualifierKind$5" (some 8) with
  accessFlags := 16432
  interfaces := #[]
  cf := some (fileOf pool13 17 #[.nestHost 2] #[] 16432 2 #[] #[])
  fields := #[]
  methods := #[]
  instanceTypes := #[(.object "java/lang/String"), .int, .int, (.object "java/lang/String"), (.object "java/util/List"), (.object "java/util/regex/Pattern")]
  staticTypes := #[]
  resolved := Array.replicate 35 none
  statics := none }

def pool14 : Array CpInfo := pool [(1, u "java/lang/Cloneable"), (0, .class_ 1), (0, u "java/lang/Object"), (0, .class_ 3)] 3

/-- java/lang/Cloneable -/
def k14 : Class := { plain "java/lang/Cloneable" (some 0) with
  accessFlags := 1537
  interfaces := #[]
  cf := some (fileOf pool14 2 #[] #[] 1537 4 #[] #[])
  fields := #[]
  methods := #[]
  instanceTypes := #[]
  staticTypes := #[]
  resolved := Array.replicate 8 none
  statics := none }

/-- the primitive byte -/
def k15 : Class := { plain "byte" none with kind := .primitive 'B', accessFlags := 0x411 }
/-- [B -/
def k16 : Class := { plain "[B" (some 0) with kind := .array 15 .byte, interfaces := #[14, 6], accessFlags := 1041 }

/-- the primitive int -/
def k17 : Class := { plain "int" none with kind := .primitive 'I', accessFlags := 0x411 }
/-- [I -/
def k18 : Class := { plain "[I" (some 0) with kind := .array 17 .int, interfaces := #[14, 6], accessFlags := 1041 }

/-- [Ljava/lang/Integer; -/
def k19 : Class := { plain "[Ljava/lang/Integer;" (some 0) with kind := .array 11 (.object "java/lang/Integer"), interfaces := #[14, 6], accessFlags := 1041 }

def heap : Heap := #[{ cls := 3, slots := #[.int 0, .ref 261, .null, .null, .int 0, .int 0, .int 0, .int 0], vm := .statics 3 },
  { cls := 8, slots := #[.null, .null, .null, .null, .null, .null, .null, .null, .null, .null, .null, .ref 260, .null, .null, .null, .null, .null, .null, .null], vm := .statics 8 },
  { cls := 12, slots := #[.int 0, .int 127, .ref 3, .null, .int 0], vm := .statics 12 },
  { cls := 19, slots := #[.ref 4, .ref 5, .ref 6, .ref 7, .ref 8, .ref 9, .ref 10, .ref 11, .ref 12, .ref 13, .ref 14, .ref 15, .ref 16, .ref 17, .ref 18, .ref 19, .ref 20, .ref 21, .ref 22, .ref 23, .ref 24, .ref 25, .ref 26, .ref 27, .ref 28, .ref 29, .ref 30, .ref 31, .ref 32, .ref 33, .ref 34, .ref 35, .ref 36, .ref 37, .ref 38, .ref 39, .ref 40, .ref 41, .ref 42, .ref 43, .ref 44, .ref 45, .ref 46, .ref 47, .ref 48, .ref 49, .ref 50, .ref 51, .ref 52, .ref 53, .ref 54, .ref 55, .ref 56, .ref 57, .ref 58, .ref 59, .ref 60, .ref 61, .ref 62, .ref 63, .ref 64, .ref 65, .ref 66, .ref 67, .ref 68, .ref 69, .ref 70, .ref 71, .ref 72, .ref 73, .ref 74, .ref 75, .ref 76, .ref 77, .ref 78, .ref 79, .ref 80, .ref 81, .ref 82, .ref 83, .ref 84, .ref 85, .ref 86, .ref 87, .ref 88, .ref 89, .ref 90, .ref 91, .ref 92, .ref 93, .ref 94, .ref 95, .ref 96, .ref 97, .ref 98, .ref 99, .ref 100, .ref 101, .ref 102, .ref 103, .ref 104, .ref 105, .ref 106, .ref 107, .ref 108, .ref 109, .ref 110, .ref 111, .ref 112, .ref 113, .ref 114, .ref 115, .ref 116, .ref 117, .ref 118, .ref 119, .ref 120, .ref 121, .ref 122, .ref 123, .ref 124, .ref 125, .ref 126, .ref 127, .ref 128, .ref 129, .ref 130, .ref 131, .ref 132, .ref 133, .ref 134, .ref 135, .ref 136, .ref 137, .ref 138, .ref 139, .ref 140, .ref 141, .ref 142, .ref 143, .ref 144, .ref 145, .ref 146, .ref 147, .ref 148, .ref 149, .ref 150, .ref 151, .ref 152, .ref 153, .ref 154, .ref 155, .ref 156, .ref 157, .ref 158, .ref 159, .ref 160, .ref 161, .ref 162, .ref 163, .ref 164, .ref 165, .ref 166, .ref 167, .ref 168, .ref 169, .ref 170, .ref 171, .ref 172, .ref 173, .ref 174, .ref 175, .ref 176, .ref 177, .ref 178, .ref 179, .ref 180, .ref 181, .ref 182, .ref 183, .ref 184, .ref 185, .ref 186, .ref 187, .ref 188, .ref 189, .ref 190, .ref 191, .ref 192, .ref 193, .ref 194, .ref 195, .ref 196, .ref 197, .ref 198, .ref 199, .ref 200, .ref 201, .ref 202, .ref 203, .ref 204, .ref 205, .ref 206, .ref 207, .ref 208, .ref 209, .ref 210, .ref 211, .ref 212, .ref 213, .ref 214, .ref 215, .ref 216, .ref 217, .ref 218, .ref 219, .ref 220, .ref 221, .ref 222, .ref 223, .ref 224, .ref 225, .ref 226, .ref 227, .ref 228, .ref 229, .ref 230, .ref 231, .ref 232, .ref 233, .ref 234, .ref 235, .ref 236, .ref 237, .ref 238, .ref 239, .ref 240, .ref 241, .ref 242, .ref 243, .ref 244, .ref 245, .ref 246, .ref 247, .ref 248, .ref 249, .ref 250, .ref 251, .ref 252, .ref 253, .ref 254, .ref 255, .ref 256, .ref 257, .ref 258, .ref 259], vm := .none },
  { cls := 11, slots := #[.int (-128)], vm := .none },
  { cls := 11, slots := #[.int (-127)], vm := .none },
  { cls := 11, slots := #[.int (-126)], vm := .none },
  { cls := 11, slots := #[.int (-125)], vm := .none },
  { cls := 11, slots := #[.int (-124)], vm := .none },
  { cls := 11, slots := #[.int (-123)], vm := .none },
  { cls := 11, slots := #[.int (-122)], vm := .none },
  { cls := 11, slots := #[.int (-121)], vm := .none },
  { cls := 11, slots := #[.int (-120)], vm := .none },
  { cls := 11, slots := #[.int (-119)], vm := .none },
  { cls := 11, slots := #[.int (-118)], vm := .none },
  { cls := 11, slots := #[.int (-117)], vm := .none },
  { cls := 11, slots := #[.int (-116)], vm := .none },
  { cls := 11, slots := #[.int (-115)], vm := .none },
  { cls := 11, slots := #[.int (-114)], vm := .none },
  { cls := 11, slots := #[.int (-113)], vm := .none },
  { cls := 11, slots := #[.int (-112)], vm := .none },
  { cls := 11, slots := #[.int (-111)], vm := .none },
  { cls := 11, slots := #[.int (-110)], vm := .none },
  { cls := 11, slots := #[.int (-109)], vm := .none },
  { cls := 11, slots := #[.int (-108)], vm := .none },
  { cls := 11, slots := #[.int (-107)], vm := .none },
  { cls := 11, slots := #[.int (-106)], vm := .none },
  { cls := 11, slots := #[.int (-105)], vm := .none },
  { cls := 11, slots := #[.int (-104)], vm := .none },
  { cls := 11, slots := #[.int (-103)], vm := .none },
  { cls := 11, slots := #[.int (-102)], vm := .none },
  { cls := 11, slots := #[.int (-101)], vm := .none },
  { cls := 11, slots := #[.int (-100)], vm := .none },
  { cls := 11, slots := #[.int (-99)], vm := .none },
  { cls := 11, slots := #[.int (-98)], vm := .none },
  { cls := 11, slots := #[.int (-97)], vm := .none },
  { cls := 11, slots := #[.int (-96)], vm := .none },
  { cls := 11, slots := #[.int (-95)], vm := .none },
  { cls := 11, slots := #[.int (-94)], vm := .none },
  { cls := 11, slots := #[.int (-93)], vm := .none },
  { cls := 11, slots := #[.int (-92)], vm := .none },
  { cls := 11, slots := #[.int (-91)], vm := .none },
  { cls := 11, slots := #[.int (-90)], vm := .none },
  { cls := 11, slots := #[.int (-89)], vm := .none },
  { cls := 11, slots := #[.int (-88)], vm := .none },
  { cls := 11, slots := #[.int (-87)], vm := .none },
  { cls := 11, slots := #[.int (-86)], vm := .none },
  { cls := 11, slots := #[.int (-85)], vm := .none },
  { cls := 11, slots := #[.int (-84)], vm := .none },
  { cls := 11, slots := #[.int (-83)], vm := .none },
  { cls := 11, slots := #[.int (-82)], vm := .none },
  { cls := 11, slots := #[.int (-81)], vm := .none },
  { cls := 11, slots := #[.int (-80)], vm := .none },
  { cls := 11, slots := #[.int (-79)], vm := .none },
  { cls := 11, slots := #[.int (-78)], vm := .none },
  { cls := 11, slots := #[.int (-77)], vm := .none },
  { cls := 11, slots := #[.int (-76)], vm := .none },
  { cls := 11, slots := #[.int (-75)], vm := .none },
  { cls := 11, slots := #[.int (-74)], vm := .none },
  { cls := 11, slots := #[.int (-73)], vm := .none },
  { cls := 11, slots := #[.int (-72)], vm := .none },
  { cls := 11, slots := #[.int (-71)], vm := .none },
  { cls := 11, slots := #[.int (-70)], vm := .none },
  { cls := 11, slots := #[.int (-69)], vm := .none },
  { cls := 11, slots := #[.int (-68)], vm := .none },
  { cls := 11, slots := #[.int (-67)], vm := .none },
  { cls := 11, slots := #[.int (-66)], vm := .none },
  { cls := 11, slots := #[.int (-65)], vm := .none },
  { cls := 11, slots := #[.int (-64)], vm := .none },
  { cls := 11, slots := #[.int (-63)], vm := .none },
  { cls := 11, slots := #[.int (-62)], vm := .none },
  { cls := 11, slots := #[.int (-61)], vm := .none },
  { cls := 11, slots := #[.int (-60)], vm := .none },
  { cls := 11, slots := #[.int (-59)], vm := .none },
  { cls := 11, slots := #[.int (-58)], vm := .none },
  { cls := 11, slots := #[.int (-57)], vm := .none },
  { cls := 11, slots := #[.int (-56)], vm := .none },
  { cls := 11, slots := #[.int (-55)], vm := .none },
  { cls := 11, slots := #[.int (-54)], vm := .none },
  { cls := 11, slots := #[.int (-53)], vm := .none },
  { cls := 11, slots := #[.int (-52)], vm := .none },
  { cls := 11, slots := #[.int (-51)], vm := .none },
  { cls := 11, slots := #[.int (-50)], vm := .none },
  { cls := 11, slots := #[.int (-49)], vm := .none },
  { cls := 11, slots := #[.int (-48)], vm := .none },
  { cls := 11, slots := #[.int (-47)], vm := .none },
  { cls := 11, slots := #[.int (-46)], vm := .none },
  { cls := 11, slots := #[.int (-45)], vm := .none },
  { cls := 11, slots := #[.int (-44)], vm := .none },
  { cls := 11, slots := #[.int (-43)], vm := .none },
  { cls := 11, slots := #[.int (-42)], vm := .none },
  { cls := 11, slots := #[.int (-41)], vm := .none },
  { cls := 11, slots := #[.int (-40)], vm := .none },
  { cls := 11, slots := #[.int (-39)], vm := .none },
  { cls := 11, slots := #[.int (-38)], vm := .none },
  { cls := 11, slots := #[.int (-37)], vm := .none },
  { cls := 11, slots := #[.int (-36)], vm := .none },
  { cls := 11, slots := #[.int (-35)], vm := .none },
  { cls := 11, slots := #[.int (-34)], vm := .none },
  { cls := 11, slots := #[.int (-33)], vm := .none },
  { cls := 11, slots := #[.int (-32)], vm := .none },
  { cls := 11, slots := #[.int (-31)], vm := .none },
  { cls := 11, slots := #[.int (-30)], vm := .none },
  { cls := 11, slots := #[.int (-29)], vm := .none },
  { cls := 11, slots := #[.int (-28)], vm := .none },
  { cls := 11, slots := #[.int (-27)], vm := .none },
  { cls := 11, slots := #[.int (-26)], vm := .none },
  { cls := 11, slots := #[.int (-25)], vm := .none },
  { cls := 11, slots := #[.int (-24)], vm := .none },
  { cls := 11, slots := #[.int (-23)], vm := .none },
  { cls := 11, slots := #[.int (-22)], vm := .none },
  { cls := 11, slots := #[.int (-21)], vm := .none },
  { cls := 11, slots := #[.int (-20)], vm := .none },
  { cls := 11, slots := #[.int (-19)], vm := .none },
  { cls := 11, slots := #[.int (-18)], vm := .none },
  { cls := 11, slots := #[.int (-17)], vm := .none },
  { cls := 11, slots := #[.int (-16)], vm := .none },
  { cls := 11, slots := #[.int (-15)], vm := .none },
  { cls := 11, slots := #[.int (-14)], vm := .none },
  { cls := 11, slots := #[.int (-13)], vm := .none },
  { cls := 11, slots := #[.int (-12)], vm := .none },
  { cls := 11, slots := #[.int (-11)], vm := .none },
  { cls := 11, slots := #[.int (-10)], vm := .none },
  { cls := 11, slots := #[.int (-9)], vm := .none },
  { cls := 11, slots := #[.int (-8)], vm := .none },
  { cls := 11, slots := #[.int (-7)], vm := .none },
  { cls := 11, slots := #[.int (-6)], vm := .none },
  { cls := 11, slots := #[.int (-5)], vm := .none },
  { cls := 11, slots := #[.int (-4)], vm := .none },
  { cls := 11, slots := #[.int (-3)], vm := .none },
  { cls := 11, slots := #[.int (-2)], vm := .none },
  { cls := 11, slots := #[.int (-1)], vm := .none },
  { cls := 11, slots := #[.int 0], vm := .none },
  { cls := 11, slots := #[.int 1], vm := .none },
  { cls := 11, slots := #[.int 2], vm := .none },
  { cls := 11, slots := #[.int 3], vm := .none },
  { cls := 11, slots := #[.int 4], vm := .none },
  { cls := 11, slots := #[.int 5], vm := .none },
  { cls := 11, slots := #[.int 6], vm := .none },
  { cls := 11, slots := #[.int 7], vm := .none },
  { cls := 11, slots := #[.int 8], vm := .none },
  { cls := 11, slots := #[.int 9], vm := .none },
  { cls := 11, slots := #[.int 10], vm := .none },
  { cls := 11, slots := #[.int 11], vm := .none },
  { cls := 11, slots := #[.int 12], vm := .none },
  { cls := 11, slots := #[.int 13], vm := .none },
  { cls := 11, slots := #[.int 14], vm := .none },
  { cls := 11, slots := #[.int 15], vm := .none },
  { cls := 11, slots := #[.int 16], vm := .none },
  { cls := 11, slots := #[.int 17], vm := .none },
  { cls := 11, slots := #[.int 18], vm := .none },
  { cls := 11, slots := #[.int 19], vm := .none },
  { cls := 11, slots := #[.int 20], vm := .none },
  { cls := 11, slots := #[.int 21], vm := .none },
  { cls := 11, slots := #[.int 22], vm := .none },
  { cls := 11, slots := #[.int 23], vm := .none },
  { cls := 11, slots := #[.int 24], vm := .none },
  { cls := 11, slots := #[.int 25], vm := .none },
  { cls := 11, slots := #[.int 26], vm := .none },
  { cls := 11, slots := #[.int 27], vm := .none },
  { cls := 11, slots := #[.int 28], vm := .none },
  { cls := 11, slots := #[.int 29], vm := .none },
  { cls := 11, slots := #[.int 30], vm := .none },
  { cls := 11, slots := #[.int 31], vm := .none },
  { cls := 11, slots := #[.int 32], vm := .none },
  { cls := 11, slots := #[.int 33], vm := .none },
  { cls := 11, slots := #[.int 34], vm := .none },
  { cls := 11, slots := #[.int 35], vm := .none },
  { cls := 11, slots := #[.int 36], vm := .none },
  { cls := 11, slots := #[.int 37], vm := .none },
  { cls := 11, slots := #[.int 38], vm := .none },
  { cls := 11, slots := #[.int 39], vm := .none },
  { cls := 11, slots := #[.int 40], vm := .none },
  { cls := 11, slots := #[.int 41], vm := .none },
  { cls := 11, slots := #[.int 42], vm := .none },
  { cls := 11, slots := #[.int 43], vm := .none },
  { cls := 11, slots := #[.int 44], vm := .none },
  { cls := 11, slots := #[.int 45], vm := .none },
  { cls := 11, slots := #[.int 46], vm := .none },
  { cls := 11, slots := #[.int 47], vm := .none },
  { cls := 11, slots := #[.int 48], vm := .none },
  { cls := 11, slots := #[.int 49], vm := .none },
  { cls := 11, slots := #[.int 50], vm := .none },
  { cls := 11, slots := #[.int 51], vm := .none },
  { cls := 11, slots := #[.int 52], vm := .none },
  { cls := 11, slots := #[.int 53], vm := .none },
  { cls := 11, slots := #[.int 54], vm := .none },
  { cls := 11, slots := #[.int 55], vm := .none },
  { cls := 11, slots := #[.int 56], vm := .none },
  { cls := 11, slots := #[.int 57], vm := .none },
  { cls := 11, slots := #[.int 58], vm := .none },
  { cls := 11, slots := #[.int 59], vm := .none },
  { cls := 11, slots := #[.int 60], vm := .none },
  { cls := 11, slots := #[.int 61], vm := .none },
  { cls := 11, slots := #[.int 62], vm := .none },
  { cls := 11, slots := #[.int 63], vm := .none },
  { cls := 11, slots := #[.int 64], vm := .none },
  { cls := 11, slots := #[.int 65], vm := .none },
  { cls := 11, slots := #[.int 66], vm := .none },
  { cls := 11, slots := #[.int 67], vm := .none },
  { cls := 11, slots := #[.int 68], vm := .none },
  { cls := 11, slots := #[.int 69], vm := .none },
  { cls := 11, slots := #[.int 70], vm := .none },
  { cls := 11, slots := #[.int 71], vm := .none },
  { cls := 11, slots := #[.int 72], vm := .none },
  { cls := 11, slots := #[.int 73], vm := .none },
  { cls := 11, slots := #[.int 74], vm := .none },
  { cls := 11, slots := #[.int 75], vm := .none },
  { cls := 11, slots := #[.int 76], vm := .none },
  { cls := 11, slots := #[.int 77], vm := .none },
  { cls := 11, slots := #[.int 78], vm := .none },
  { cls := 11, slots := #[.int 79], vm := .none },
  { cls := 11, slots := #[.int 80], vm := .none },
  { cls := 11, slots := #[.int 81], vm := .none },
  { cls := 11, slots := #[.int 82], vm := .none },
  { cls := 11, slots := #[.int 83], vm := .none },
  { cls := 11, slots := #[.int 84], vm := .none },
  { cls := 11, slots := #[.int 85], vm := .none },
  { cls := 11, slots := #[.int 86], vm := .none },
  { cls := 11, slots := #[.int 87], vm := .none },
  { cls := 11, slots := #[.int 88], vm := .none },
  { cls := 11, slots := #[.int 89], vm := .none },
  { cls := 11, slots := #[.int 90], vm := .none },
  { cls := 11, slots := #[.int 91], vm := .none },
  { cls := 11, slots := #[.int 92], vm := .none },
  { cls := 11, slots := #[.int 93], vm := .none },
  { cls := 11, slots := #[.int 94], vm := .none },
  { cls := 11, slots := #[.int 95], vm := .none },
  { cls := 11, slots := #[.int 96], vm := .none },
  { cls := 11, slots := #[.int 97], vm := .none },
  { cls := 11, slots := #[.int 98], vm := .none },
  { cls := 11, slots := #[.int 99], vm := .none },
  { cls := 11, slots := #[.int 100], vm := .none },
  { cls := 11, slots := #[.int 101], vm := .none },
  { cls := 11, slots := #[.int 102], vm := .none },
  { cls := 11, slots := #[.int 103], vm := .none },
  { cls := 11, slots := #[.int 104], vm := .none },
  { cls := 11, slots := #[.int 105], vm := .none },
  { cls := 11, slots := #[.int 106], vm := .none },
  { cls := 11, slots := #[.int 107], vm := .none },
  { cls := 11, slots := #[.int 108], vm := .none },
  { cls := 11, slots := #[.int 109], vm := .none },
  { cls := 11, slots := #[.int 110], vm := .none },
  { cls := 11, slots := #[.int 111], vm := .none },
  { cls := 11, slots := #[.int 112], vm := .none },
  { cls := 11, slots := #[.int 113], vm := .none },
  { cls := 11, slots := #[.int 114], vm := .none },
  { cls := 11, slots := #[.int 115], vm := .none },
  { cls := 11, slots := #[.int 116], vm := .none },
  { cls := 11, slots := #[.int 117], vm := .none },
  { cls := 11, slots := #[.int 118], vm := .none },
  { cls := 11, slots := #[.int 119], vm := .none },
  { cls := 11, slots := #[.int 120], vm := .none },
  { cls := 11, slots := #[.int 121], vm := .none },
  { cls := 11, slots := #[.int 122], vm := .none },
  { cls := 11, slots := #[.int 123], vm := .none },
  { cls := 11, slots := #[.int 124], vm := .none },
  { cls := 11, slots := #[.int 125], vm := .none },
  { cls := 11, slots := #[.int 126], vm := .none },
  { cls := 11, slots := #[.int 127], vm := .none },
  { cls := 13, slots := #[.null, .int 0, .int 0, .null, .null, .null], vm := .none },
  { cls := 3, slots := #[.null, .int 160], vm := .none }]
def classes : Array Class := #[k0, k1, k2, k3, k4, k5, k6, k7, k8, k9, k10, k11, k12, k13, k14, k15, k16, k17, k18, k19]
def interned : List (Array UInt16 × Addr) := []
def slotsUsed : Nat := 552
def theMethod : MethodId := ⟨1, 1⟩
def args0 : Array Value := #[.int 5, .int 3, .int 7]
def aboutOver (below : List Frame) : State where
  vm := { classes := classes, interned := interned.toArray }
  heap := heap
  slotsUsed := slotsUsed
  threads := #[{ frames := .invoking theMethod args0 :: below }]
def below0 : List Frame := [.native { method := ⟨0, 0⟩, args := #[] }]
def about1 : State := aboutOver below0
def p0 : Program := .bare "" "" ""
def e0 : Env := launch0.env 0 0 0
theorem w_frames : about1.frames = Frame.invoking theMethod args0 :: below0 := rfl
set_option maxRecDepth 65536 in
theorem w_args : argsFit about1.vm theMethod args0 = true := by decide +kernel
set_option maxRecDepth 65536 in
theorem w_heap : heapFits about1 = true := by decide +kernel
set_option maxRecDepth 65536 in
theorem w_runnable : about1.curStatus? = some .runnable := by decide +kernel
set_option maxRecDepth 65536 in
theorem w_alone : about1.alone = true := by decide +kernel
set_option maxRecDepth 65536 in
theorem w_named : about1.methodNamed? x = some theMethod := by decide +kernel
set_option maxRecDepth 65536 in
theorem w_hears : about1.hears theMethod below0 = true := by decide +kernel
set_option maxRecDepth 65536 in
theorem w_ripe : about1.ripe theMethod args0 below0 = true := by decide +kernel
theorem w_running : about1.status = .running := rfl
set_option maxRecDepth 65536 in
theorem w_room : about1.hasRoom e0.platform room_1 = true :=
  launch0.hasRoom_least _ room_1 (by decide +kernel) (by decide +kernel) (by decide +kernel) (by decide +kernel) (by decide +kernel) (by decide +kernel)
theorem allAtoms_all (ts : List Jvm.Cond) (a : Array Jvm.Value) (st : Jvm.State) : (allAtoms ts).before a st = ts.all (fun c => c.before a st) := by
  induction ts with
  | nil => rfl
  | cons c t ih =>
    show (Jvm.Cond.and c (allAtoms t)).before a st = _
    rw [Jvm.Cond.before_and, ih, List.all_cons]
def words1 : List Jvm.Cond := Jvm.Cond.code x code maxLocals ret :: tables_1
/-- a 'code' word, met by the world's own term for the bytes: nothing is compared byte by byte -/
theorem code_word {y : MethodName} {bytes : ByteArray} {mx : Nat} {rt : Option FieldType} {a : Array Value} {s : State} {m : MethodId} {meth : Method} {c : Code} (h1 : s.methodNamed? y = some m) (h2 : s.vm.method? m = some meth) (h3 : meth.code = some c) (h4 : c.code = bytes)
    (h5 : (c.maxLocals == mx && c.exceptionTable.isEmpty && decide (c.maxStack ≤ mostOperands) && decide (meth.sig.returnType = rt) && !meth.locks && decide (parseMethodDescriptor y.desc = some meth.sig)) = true) : (Jvm.Cond.code y bytes mx rt).before a s = true := by
  simp only [Bool.and_eq_true, beq_iff_eq, Bool.not_eq_true', decide_eq_true_eq] at h5
  obtain ⟨⟨⟨⟨⟨g1, g2⟩, g3⟩, g4⟩, g5⟩, g6⟩ := h5
  simp [Cond.before, Cond.holds, Cond.value, h1, h2, h3, h4, g1, g2, g3, g4, g5, g6]
def isCode : Jvm.Cond → Bool
  | .code _ _ _ _ => true
  | _ => false
theorem all_split {L : List Jvm.Cond} {P : Jvm.Cond → Bool} (h1 : L.all (fun c => isCode c || P c) = true) (h2 : ∀ c ∈ L.filter isCode, P c = true) : L.all P = true := by
  refine List.all_eq_true.mpr fun c hc => ?_
  have h := List.all_eq_true.mp h1 c hc
  rcases Bool.eq_false_or_eq_true (isCode c) with hi | hi
  · exact h2 c (List.mem_filter.mpr ⟨hc, hi⟩)
  · simpa [hi] using h
set_option maxRecDepth 65536 in
theorem w_c0 : (Jvm.Cond.code x code maxLocals ret).before args0 about1 = true := code_word (m := ⟨1, 1⟩) (meth := k1m1) (c := k1c1) (by decide +kernel) rfl rfl rfl (by decide +kernel)
set_option maxRecDepth 65536 in
theorem w_c1 : (Jvm.Cond.code ({ cls := "com/example/tintfold/tintfold/Qualifier$Density", name := "<init>", desc := "(I)V" } : Jvm.MethodName) prog_84_method_1_code (2 : Nat) (Option.none : Option Jvm.ClassFile.FieldType)).before args0 about1 = true := code_word (m := ⟨3, 0⟩) (meth := k3m0) (c := k3c0) (by decide +kernel) rfl rfl rfl (by decide +kernel)
set_option maxRecDepth 65536 in
theorem w_c2 : (Jvm.Cond.code ({ cls := "com/example/tintfold/tintfold/Qualifier", name := "<init>", desc := "(Lcom/example/tintfold/tintfold/QualifierKind;)V" } : Jvm.MethodName) prog_83_method_1_code (2 : Nat) (Option.none : Option Jvm.ClassFile.FieldType)).before args0 about1 = true := code_word (m := ⟨2, 0⟩) (meth := k2m0) (c := k2c0) (by decide +kernel) rfl rfl rfl (by decide +kernel)
set_option maxRecDepth 65536 in
theorem w_c3 : (Jvm.Cond.code ({ cls := "java/lang/Object", name := "<init>", desc := "()V" } : Jvm.MethodName) object_method_1_code (1 : Nat) (Option.none : Option Jvm.ClassFile.FieldType)).before args0 about1 = true := code_word (m := ⟨0, 0⟩) (meth := k0m0) (c := k0c0) (by decide +kernel) rfl rfl rfl (by decide +kernel)
set_option maxRecDepth 65536 in
theorem w_c4 : (Jvm.Cond.code ({ cls := "com/example/tintfold/tintfold/Qualifier$Density", name := "equals", desc := "(Ljava/lang/Object;)Z" } : Jvm.MethodName) prog_84_method_7_code (2 : Nat) (Option.some Jvm.ClassFile.FieldType.boolean)).before args0 about1 = true := code_word (m := ⟨3, 1⟩) (meth := k3m1) (c := k3c1) (by decide +kernel) rfl rfl rfl (by decide +kernel)
set_option maxRecDepth 65536 in
theorem w_c5 : (Jvm.Cond.code ({ cls := "java/lang/Integer", name := "valueOf", desc := "(I)Ljava/lang/Integer;" } : Jvm.MethodName) jdk_33_method_22_code (1 : Nat) (Option.some (Jvm.ClassFile.FieldType.object "java/lang/Integer"))).before args0 about1 = true := code_word (m := ⟨11, 0⟩) (meth := k11m0) (c := k11c0) (by decide +kernel) rfl rfl rfl (by decide +kernel)
set_option maxRecDepth 65536 in
theorem w_c6 : (Jvm.Cond.code ({ cls := "java/lang/Integer", name := "<init>", desc := "(I)V" } : Jvm.MethodName) jdk_33_method_23_code (2 : Nat) (Option.none : Option Jvm.ClassFile.FieldType)).before args0 about1 = true := code_word (m := ⟨11, 1⟩) (meth := k11m1) (c := k11c1) (by decide +kernel) rfl rfl rfl (by decide +kernel)
set_option maxRecDepth 65536 in
theorem w_c7 : (Jvm.Cond.code ({ cls := "java/lang/Number", name := "<init>", desc := "()V" } : Jvm.MethodName) jdk_18_method_1_code (1 : Nat) (Option.none : Option Jvm.ClassFile.FieldType)).before args0 about1 = true := code_word (m := ⟨9, 0⟩) (meth := k9m0) (c := k9c0) (by decide +kernel) rfl rfl rfl (by decide +kernel)
def codes1 : List Jvm.Cond := [Jvm.Cond.code x code maxLocals ret, Jvm.Cond.code ({ cls := "com/example/tintfold/tintfold/Qualifier$Density", name := "<init>", desc := "(I)V" } : Jvm.MethodName) prog_84_method_1_code (2 : Nat) (Option.none : Option Jvm.ClassFile.FieldType), Jvm.Cond.code ({ cls := "com/example/tintfold/tintfold/Qualifier", name := "<init>", desc := "(Lcom/example/tintfold/tintfold/QualifierKind;)V" } : Jvm.MethodName) prog_83_method_1_code (2 : Nat) (Option.none : Option Jvm.ClassFile.FieldType), Jvm.Cond.code ({ cls := "java/lang/Object", name := "<init>", desc := "()V" } : Jvm.MethodName) object_method_1_code (1 : Nat) (Option.none : Option Jvm.ClassFile.FieldType), Jvm.Cond.code ({ cls := "com/example/tintfold/tintfold/Qualifier$Density", name := "equals", desc := "(Ljava/lang/Object;)Z" } : Jvm.MethodName) prog_84_method_7_code (2 : Nat) (Option.some Jvm.ClassFile.FieldType.boolean), Jvm.Cond.code ({ cls := "java/lang/Integer", name := "valueOf", desc := "(I)Ljava/lang/Integer;" } : Jvm.MethodName) jdk_33_method_22_code (1 : Nat) (Option.some (Jvm.ClassFile.FieldType.object "java/lang/Integer")), Jvm.Cond.code ({ cls := "java/lang/Integer", name := "<init>", desc := "(I)V" } : Jvm.MethodName) jdk_33_method_23_code (2 : Nat) (Option.none : Option Jvm.ClassFile.FieldType), Jvm.Cond.code ({ cls := "java/lang/Number", name := "<init>", desc := "()V" } : Jvm.MethodName) jdk_18_method_1_code (1 : Nat) (Option.none : Option Jvm.ClassFile.FieldType)]
set_option maxRecDepth 65536 in
theorem codes_eq : words1.filter isCode = codes1 := rfl
theorem w_codes : ∀ c ∈ words1.filter isCode, c.before args0 about1 = true := by
  rw [codes_eq]
  intro c hc
  simp only [codes1, List.mem_cons, List.not_mem_nil, or_false] at hc
  rcases hc with rfl | rfl | rfl | rfl | rfl | rfl | rfl | rfl
  · exact w_c0
  · exact w_c1
  · exact w_c2
  · exact w_c3
  · exact w_c4
  · exact w_c5
  · exact w_c6
  · exact w_c7
set_option maxRecDepth 65536 in
theorem w_t1 : (words1.take 24).all (fun c => isCode c || c.before args0 about1) = true := by decide +kernel
set_option maxRecDepth 65536 in
theorem w_t2 : ((words1.drop 24).take 24).all (fun c => isCode c || c.before args0 about1) = true := by decide +kernel
set_option maxRecDepth 65536 in
theorem w_t3 : ((words1.drop 24).drop 24).all (fun c => isCode c || c.before args0 about1) = true := by decide +kernel
theorem w_tables : (allAtoms (Jvm.Cond.code x code maxLocals ret :: tables_1)).before args0 about1 = true := by
  rw [allAtoms_all]
  show words1.all (fun c => c.before args0 about1) = true
  refine all_split ?_ w_codes
  rw [← List.take_append_drop 24 words1, List.all_append, w_t1, ← List.take_append_drop 24 (words1.drop 24), List.all_append, w_t2, w_t3]
  rfl
set_option maxRecDepth 65536 in
theorem w_rest : rest_1_c.before args0 about1 = true := by decide +kernel
set_option maxRecDepth 65536 in
theorem w_case : (Jvm.Cond.and given_1 narrow_1).before args0 about1 = true := by decide +kernel
theorem w_applies : (headSpec (Jvm.Cond.code x code maxLocals ret :: tables_1) room_1).applies x e0.platform about1 = true :=
  (Spec.applies_iff w_frames).mpr ⟨w_running, w_runnable, w_alone, w_named, w_hears, w_ripe, w_room, w_tables⟩
theorem atStart : AtStart classFile x code maxLocals ret World_1 tables_1 room_1 Calls_1 rest_1 Pre_1 launch0 p0 e0 about1 theMethod args0 below0 :=
  ⟨lists_1, trivial, launch0.admits_env _ _ _, launch0.least_env, fairChoices_fair.cas, fairChoices_fair.clock, w_frames, w_args, w_heap, w_applies, trivial, w_rest, w_case⟩
end start1
theorem witness_1 : WitnessClaimed_1 := ⟨start1.p0, start1.e0, start1.about1, start1.theMethod, start1.args0, start1.below0, start1.atStart⟩
end Jvm.Pilot.@@N@@
