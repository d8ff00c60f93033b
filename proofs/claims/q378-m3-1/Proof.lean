import JvmDerived
import JvmDerived.Pilot.@@N@@Statement
import JvmDerived.Pilot.@@N@@Code
set_option linter.unusedVariables false
set_option linter.unusedSimpArgs false
namespace Jvm.OwnKit
open Sem ClassFile Op Lib Jvm.Stand Jvm.Free Jvm.LawKit Jvm.RoadKit
def Go (tb : Tables) (e : Env) (below : List Frame) (P : State → Outcome → Prop) (S : State) : Prop :=
  ∃ s₂ o, Steps tb e below S s₂ ∧ s₂.status = .running ∧ Ended s₂ below o ∧ P s₂ o
theorem go {tb : Tables} {e : Env} {below : List Frame} {P : State → Outcome → Prop} {S S' : State} (h : ∀ t, Steps tb e below S' t → Steps tb e below S t) (k : Go tb e below P S') : Go tb e below P S := by
  obtain ⟨s₂, o, h1, h2⟩ := k
  exact ⟨s₂, o, h _ h1, h2⟩
theorem goT {tb : Tables} {e : Env} {below : List Frame} {P : State → Outcome → Prop} {S S' : State} (h : Steps tb e below S S') (k : Go tb e below P S') : Go tb e below P S := go (fun _ q => h.trans q) k
def Done (s : State) (Q : Option Value → Heap → List Loc → Prop) (k n : Nat) (t : State) (o : Outcome) : Prop := ∃ v L, o = .returned v ∧ Q v t.heap L ∧ FrameEnd s o t L k n
/-- a body's contract: called with just these arguments, over this heap -/
def Con (l : Launch) (Z : State) (y : MethodName) (bytes : ByteArray) (maxL : Nat) (rt : Option FieldType) (ws : List Jvm.Cond) (rm : Room) (as' : Array Value) (h : Heap) (k n : Nat) (Q : Option Value → Heap → List Loc → Prop) : Prop :=
  MetFree l y (head1 (Jvm.Cond.code y bytes maxL rt :: ws) rm) (fun a U => a = as' ∧ Z.Warmed39 U.vm ∧ U.heap = h) (fun _ _ _ _ _ => True) (fun _ U o U' => ∃ v L, o = .returned v ∧ Q v U'.heap L ∧ FrameEnd U o U' L k n)
theorem Con.of {l : Launch} {Z : State} {y : MethodName} {bytes : ByteArray} {maxL : Nat} {rt : Option FieldType} {ws : List Jvm.Cond} {rm : Room} {as' : Array Value} {h : Heap} {k n : Nat} {Q : Option Value → Heap → List Loc → Prop} (hp : plainFor y = true)
    (body : ∀ (p : Program) (e : Env) (s : State) (m : MethodId) (below : List Frame) (meth : Method) (c : Code) (s₁ : State), p.tables.exec = Jvm.exec → c.code = bytes → c.maxLocals = maxL → s.vm.findClass y.cls = some m.cls → meth.name = y.name → meth.sig.returnType = rt → meth.locks = false → Z.Warmed39 s.vm →
      Stand p l e rm s m as' below meth c s₁ [] 0 0 → s₁.heap = h → Go p.tables e below (Done s Q k n) (s₁.setTop (entryFrame m as' maxL))) : Con l Z y bytes maxL rt ws rm as' h k n Q := by
  refine MetFree.of_bodySF hp hisR ?_
  intro p e s m args below meth c s₁ Bd hml0 hP hK
  obtain ⟨rfl, hZ, hh⟩ := hP
  exact body p e s m below meth c s₁ Bd.exec Bd.bytes hml0 (findClass_of_methodNamed Bd.named) (name_of_methodNamed Bd.named Bd.method).1 Bd.returns Bd.notSynchronized hZ (Stand.of_body Bd) (by rw [← hh, Bd.state]; rfl)
section Steps1
variable {p : Program} {l : Launch} {e : Env} {R : Room} {s : State} {m : MethodId} {args : Array Value} {below : List Frame} {meth : Method} {c : Code} {T : State} {locs : List Loc} {cells slots : Nat} {P : State → Outcome → Prop} {pc q : Nat} {L L' : Array Slot} {S : List Value}
theorem goE {args' : Array Value} {n : Nat} (hq : entryFrame m args' n = mkF m 0 L []) (K : Go p.tables e below P (T.setTop (mkF m 0 L []))) : Go p.tables e below P (T.setTop (entryFrame m args' n)) := go (fun _ k => castTop hq k) K
theorem gIloadN (X : Stand p l e R s m args below meth c T locs cells slots) (hx : p.tables.exec = Jvm.exec) {k : Fin 4} {v : Int32} (hd : decode c.code pc = .ok (.iload_n k, 1)) (hq : pc + 1 = q) (hl : L[k.val]? = some (.val (.int v))) (K : Go p.tables e below P (T.setTop (mkF m q L (.int v :: S)))) : Go p.tables e below P (T.setTop (mkF m pc L (S))) := by subst hq; exact go (fun t k => XS.iloadN X.here hx rfl hd hl k) K
theorem gIload (X : Stand p l e R s m args below meth c T locs cells slots) (hx : p.tables.exec = Jvm.exec) {k : Nat} {v : Int32} (hd : decode c.code pc = .ok (.iload k, 2)) (hq : pc + 2 = q) (hl : L[k]? = some (.val (.int v))) (K : Go p.tables e below P (T.setTop (mkF m q L (.int v :: S)))) : Go p.tables e below P (T.setTop (mkF m pc L (S))) := by subst hq; exact go (fun t k => XS.iload X.here hx rfl hd hl k) K
theorem gLloadN (X : Stand p l e R s m args below meth c T locs cells slots) (hx : p.tables.exec = Jvm.exec) {k : Fin 4} {v : Int64} (hd : decode c.code pc = .ok (.lload_n k, 1)) (hq : pc + 1 = q) (hl : L[k.val]? = some (.val (.long v))) (K : Go p.tables e below P (T.setTop (mkF m q L (.long v :: S)))) : Go p.tables e below P (T.setTop (mkF m pc L (S))) := by subst hq; exact go (fun t k => XT.lloadN X.here hx rfl hd hl k) K
theorem gLload (X : Stand p l e R s m args below meth c T locs cells slots) (hx : p.tables.exec = Jvm.exec) {k : Nat} {v : Int64} (hd : decode c.code pc = .ok (.lload k, 2)) (hq : pc + 2 = q) (hl : L[k]? = some (.val (.long v))) (K : Go p.tables e below P (T.setTop (mkF m q L (.long v :: S)))) : Go p.tables e below P (T.setTop (mkF m pc L (S))) := by subst hq; exact go (fun t k => XT.lload X.here hx rfl hd hl k) K
theorem gAloadN (X : Stand p l e R s m args below meth c T locs cells slots) (hx : p.tables.exec = Jvm.exec) {k : Fin 4} {v : Value} (hd : decode c.code pc = .ok (.aload_n k, 1)) (hq : pc + 1 = q) (hl : L[k.val]? = some (.val v)) (hv : v.isRef = true) (K : Go p.tables e below P (T.setTop (mkF m q L (v :: S)))) : Go p.tables e below P (T.setTop (mkF m pc L (S))) := by subst hq; exact go (fun t k => XS.aloadN X.here hx rfl hd hl hv k) K
theorem gAload (X : Stand p l e R s m args below meth c T locs cells slots) (hx : p.tables.exec = Jvm.exec) {k : Nat} {v : Value} (hd : decode c.code pc = .ok (.aload k, 2)) (hq : pc + 2 = q) (hl : L[k]? = some (.val v)) (hv : v.isRef = true) (K : Go p.tables e below P (T.setTop (mkF m q L (v :: S)))) : Go p.tables e below P (T.setTop (mkF m pc L (S))) := by subst hq; exact go (fun t k => XS.aload X.here hx rfl hd hl hv k) K
theorem gIconst (X : Stand p l e R s m args below meth c T locs cells slots) (hx : p.tables.exec = Jvm.exec) {i : Int} (v : Int32) (hd : decode c.code pc = .ok (.iconst i, 1)) (hq : pc + 1 = q) (hv : Int32.ofInt i = v) (K : Go p.tables e below P (T.setTop (mkF m q L (.int v :: S)))) : Go p.tables e below P (T.setTop (mkF m pc L (S))) := by subst hq; exact go (fun t k => XT.iconstV X.here hx rfl v hd hv k) K
theorem gBipush (X : Stand p l e R s m args below meth c T locs cells slots) (hx : p.tables.exec = Jvm.exec) {i : Int} (v : Int32) (hd : decode c.code pc = .ok (.bipush i, 2)) (hq : pc + 2 = q) (hv : (Int8.ofInt i).toInt32 = v) (K : Go p.tables e below P (T.setTop (mkF m q L (.int v :: S)))) : Go p.tables e below P (T.setTop (mkF m pc L (S))) := by subst hq; exact go (fun t k => XT.bipushV X.here hx rfl v hd hv k) K
theorem gSipush (X : Stand p l e R s m args below meth c T locs cells slots) (hx : p.tables.exec = Jvm.exec) {i : Int} (v : Int32) (hd : decode c.code pc = .ok (.sipush i, 3)) (hq : pc + 3 = q) (hv : (Int16.ofInt i).toInt32 = v) (K : Go p.tables e below P (T.setTop (mkF m q L (.int v :: S)))) : Go p.tables e below P (T.setTop (mkF m pc L (S))) := by subst hq; exact go (fun t k => XT.sipushV X.here hx rfl v hd hv k) K
theorem gLconst (X : Stand p l e R s m args below meth c T locs cells slots) (hx : p.tables.exec = Jvm.exec) {k : Fin 2} (v : Int64) (hd : decode c.code pc = .ok (.lconst k, 1)) (hq : pc + 1 = q) (hv : Int64.ofNat k = v) (K : Go p.tables e below P (T.setTop (mkF m q L (.long v :: S)))) : Go p.tables e below P (T.setTop (mkF m pc L (S))) := by subst hq; exact go (fun t k => XT.lconstV X.here hx rfl v hd hv k) K
theorem gNull (X : Stand p l e R s m args below meth c T locs cells slots) (hx : p.tables.exec = Jvm.exec)  (hd : decode c.code pc = .ok (.aconst_null, 1)) (hq : pc + 1 = q)  (K : Go p.tables e below P (T.setTop (mkF m q L (.null :: S)))) : Go p.tables e below P (T.setTop (mkF m pc L (S))) := by subst hq; exact go (fun t k => XS.aconstNull X.here hx rfl hd  k) K
theorem gLdc (X : Stand p l e R s m args below meth c T locs cells slots) (hx : p.tables.exec = Jvm.exec) {Z : State} {a0 : Array Value} (hZ : Z.Warmed39 s.vm) {own : String} {i : Nat} {v : Int32} (hown : s.vm.findClass own = some m.cls) (w : (Jvm.Cond.constant own i v).before a0 Z = true) (hd : decode c.code pc = .ok (.ldc i, 2)) (hq : pc + 2 = q) (K : Go p.tables e below P (T.setTop (mkF m q L (.int v :: S)))) : Go p.tables e below P (T.setTop (mkF m pc L (S))) := by subst hq; exact go (fun t k => Stand.ldcI X hx hown (mvT hZ w) rfl hd k) K
theorem gLdcW (X : Stand p l e R s m args below meth c T locs cells slots) (hx : p.tables.exec = Jvm.exec) {Z : State} {a0 : Array Value} (hZ : Z.Warmed39 s.vm) {own : String} {i : Nat} {v : Int32} (hown : s.vm.findClass own = some m.cls) (w : (Jvm.Cond.constant own i v).before a0 Z = true) (hd : decode c.code pc = .ok (.ldc_w i, 3)) (hq : pc + 3 = q) (K : Go p.tables e below P (T.setTop (mkF m q L (.int v :: S)))) : Go p.tables e below P (T.setTop (mkF m pc L (S))) := by subst hq; exact go (fun t k => Stand.ldcWI X hx hown (mvT hZ w) rfl hd k) K
theorem gLdc2 (X : Stand p l e R s m args below meth c T locs cells slots) (hx : p.tables.exec = Jvm.exec) {Z : State} {a0 : Array Value} (hZ : Z.Warmed39 s.vm) {own : String} {i : Nat} {v : Int64} (hown : s.vm.findClass own = some m.cls) (w : (Jvm.Cond.constantLong own i v).before a0 Z = true) (hd : decode c.code pc = .ok (.ldc2_w i, 3)) (hq : pc + 3 = q) (K : Go p.tables e below P (T.setTop (mkF m q L (.long v :: S)))) : Go p.tables e below P (T.setTop (mkF m pc L (S))) := by subst hq; exact go (fun t k => Stand.ldc2J X hx hown (mvT hZ w) rfl hd k) K
theorem gIadd (X : Stand p l e R s m args below meth c T locs cells slots) (hx : p.tables.exec = Jvm.exec) {x y : Int32} (hd : decode c.code pc = .ok (.iadd, 1)) (hq : pc + 1 = q)  (K : Go p.tables e below P (T.setTop (mkF m q L (.int (x + y) :: S)))) : Go p.tables e below P (T.setTop (mkF m pc L (.int y :: .int x :: S))) := by subst hq; exact go (fun t k => XS.iadd X.here hx rfl hd rfl  k) K
theorem gIsub (X : Stand p l e R s m args below meth c T locs cells slots) (hx : p.tables.exec = Jvm.exec) {x y : Int32} (hd : decode c.code pc = .ok (.isub, 1)) (hq : pc + 1 = q)  (K : Go p.tables e below P (T.setTop (mkF m q L (.int (x - y) :: S)))) : Go p.tables e below P (T.setTop (mkF m pc L (.int y :: .int x :: S))) := by subst hq; exact go (fun t k => XS.isub X.here hx rfl hd rfl  k) K
theorem gIand (X : Stand p l e R s m args below meth c T locs cells slots) (hx : p.tables.exec = Jvm.exec) {x y : Int32} (hd : decode c.code pc = .ok (.iand, 1)) (hq : pc + 1 = q)  (K : Go p.tables e below P (T.setTop (mkF m q L (.int (x &&& y) :: S)))) : Go p.tables e below P (T.setTop (mkF m pc L (.int y :: .int x :: S))) := by subst hq; exact go (fun t k => XS.iand X.here hx rfl hd rfl  k) K
theorem gImul (X : Stand p l e R s m args below meth c T locs cells slots) (hx : p.tables.exec = Jvm.exec) {x y : Int32} (hd : decode c.code pc = .ok (.imul, 1)) (hq : pc + 1 = q)  (K : Go p.tables e below P (T.setTop (mkF m q L (.int (x * y) :: S)))) : Go p.tables e below P (T.setTop (mkF m pc L (.int y :: .int x :: S))) := by subst hq; exact go (fun t k => XS.imul X.here hx rfl hd rfl  k) K
theorem gIxor (X : Stand p l e R s m args below meth c T locs cells slots) (hx : p.tables.exec = Jvm.exec) {x y : Int32} (hd : decode c.code pc = .ok (.ixor, 1)) (hq : pc + 1 = q)  (K : Go p.tables e below P (T.setTop (mkF m q L (.int (x ^^^ y) :: S)))) : Go p.tables e below P (T.setTop (mkF m pc L (.int y :: .int x :: S))) := by subst hq; exact go (fun t k => XT.ixor X.here hx rfl hd rfl  k) K
theorem gIor (X : Stand p l e R s m args below meth c T locs cells slots) (hx : p.tables.exec = Jvm.exec) {x y : Int32} (hd : decode c.code pc = .ok (.ior, 1)) (hq : pc + 1 = q)  (K : Go p.tables e below P (T.setTop (mkF m q L (.int (x ||| y) :: S)))) : Go p.tables e below P (T.setTop (mkF m pc L (.int y :: .int x :: S))) := by subst hq; exact go (fun t k => XT.ior X.here hx rfl hd rfl  k) K
theorem gIshl (X : Stand p l e R s m args below meth c T locs cells slots) (hx : p.tables.exec = Jvm.exec) {x y : Int32} (hd : decode c.code pc = .ok (.ishl, 1)) (hq : pc + 1 = q)  (K : Go p.tables e below P (T.setTop (mkF m q L (.int (x <<< (y &&& 31)) :: S)))) : Go p.tables e below P (T.setTop (mkF m pc L (.int y :: .int x :: S))) := by subst hq; exact go (fun t k => XT.ishl X.here hx rfl hd rfl  k) K
theorem gIshr (X : Stand p l e R s m args below meth c T locs cells slots) (hx : p.tables.exec = Jvm.exec) {x y : Int32} (hd : decode c.code pc = .ok (.ishr, 1)) (hq : pc + 1 = q)  (K : Go p.tables e below P (T.setTop (mkF m q L (.int (x >>> (y &&& 31)) :: S)))) : Go p.tables e below P (T.setTop (mkF m pc L (.int y :: .int x :: S))) := by subst hq; exact go (fun t k => XT.ishr X.here hx rfl hd rfl  k) K
theorem gIushr (X : Stand p l e R s m args below meth c T locs cells slots) (hx : p.tables.exec = Jvm.exec) {x y : Int32} (hd : decode c.code pc = .ok (.iushr, 1)) (hq : pc + 1 = q)  (K : Go p.tables e below P (T.setTop (mkF m q L (.int (XT.ushr x y) :: S)))) : Go p.tables e below P (T.setTop (mkF m pc L (.int y :: .int x :: S))) := by subst hq; exact go (fun t k => XT.iushr X.here hx rfl hd rfl  k) K
theorem gIdiv (X : Stand p l e R s m args below meth c T locs cells slots) (hx : p.tables.exec = Jvm.exec) {x y : Int32} (hd : decode c.code pc = .ok (.idiv, 1)) (hq : pc + 1 = q) (hy : y ≠ 0) (K : Go p.tables e below P (T.setTop (mkF m q L (.int (x / y) :: S)))) : Go p.tables e below P (T.setTop (mkF m pc L (.int y :: .int x :: S))) := by subst hq; exact go (fun t k => XS.idiv X.here hx rfl hd rfl hy k) K
theorem gIrem (X : Stand p l e R s m args below meth c T locs cells slots) (hx : p.tables.exec = Jvm.exec) {x y : Int32} (hd : decode c.code pc = .ok (.irem, 1)) (hq : pc + 1 = q) (hy : y ≠ 0) (K : Go p.tables e below P (T.setTop (mkF m q L (.int (x % y) :: S)))) : Go p.tables e below P (T.setTop (mkF m pc L (.int y :: .int x :: S))) := by subst hq; exact go (fun t k => iremM X hx rfl hd rfl hy k) K
theorem gIneg (X : Stand p l e R s m args below meth c T locs cells slots) (hx : p.tables.exec = Jvm.exec) {x : Int32} (hd : decode c.code pc = .ok (.ineg, 1)) (hq : pc + 1 = q)  (K : Go p.tables e below P (T.setTop (mkF m q L (.int (-x) :: S)))) : Go p.tables e below P (T.setTop (mkF m pc L (.int x :: S))) := by subst hq; exact go (fun t k => XS.ineg X.here hx rfl hd rfl  k) K
theorem gLadd (X : Stand p l e R s m args below meth c T locs cells slots) (hx : p.tables.exec = Jvm.exec) {x y : Int64} (hd : decode c.code pc = .ok (.ladd, 1)) (hq : pc + 1 = q)  (K : Go p.tables e below P (T.setTop (mkF m q L (.long (x + y) :: S)))) : Go p.tables e below P (T.setTop (mkF m pc L (.long y :: .long x :: S))) := by subst hq; exact go (fun t k => XT.ladd X.here hx rfl hd rfl  k) K
theorem gLsub (X : Stand p l e R s m args below meth c T locs cells slots) (hx : p.tables.exec = Jvm.exec) {x y : Int64} (hd : decode c.code pc = .ok (.lsub, 1)) (hq : pc + 1 = q)  (K : Go p.tables e below P (T.setTop (mkF m q L (.long (x - y) :: S)))) : Go p.tables e below P (T.setTop (mkF m pc L (.long y :: .long x :: S))) := by subst hq; exact go (fun t k => XT.lsub X.here hx rfl hd rfl  k) K
theorem gLmul (X : Stand p l e R s m args below meth c T locs cells slots) (hx : p.tables.exec = Jvm.exec) {x y : Int64} (hd : decode c.code pc = .ok (.lmul, 1)) (hq : pc + 1 = q)  (K : Go p.tables e below P (T.setTop (mkF m q L (.long (x * y) :: S)))) : Go p.tables e below P (T.setTop (mkF m pc L (.long y :: .long x :: S))) := by subst hq; exact go (fun t k => XT.lmul X.here hx rfl hd rfl  k) K
theorem gLand (X : Stand p l e R s m args below meth c T locs cells slots) (hx : p.tables.exec = Jvm.exec) {x y : Int64} (hd : decode c.code pc = .ok (.land, 1)) (hq : pc + 1 = q)  (K : Go p.tables e below P (T.setTop (mkF m q L (.long (x &&& y) :: S)))) : Go p.tables e below P (T.setTop (mkF m pc L (.long y :: .long x :: S))) := by subst hq; exact go (fun t k => XT.land X.here hx rfl hd rfl  k) K
theorem gLor (X : Stand p l e R s m args below meth c T locs cells slots) (hx : p.tables.exec = Jvm.exec) {x y : Int64} (hd : decode c.code pc = .ok (.lor, 1)) (hq : pc + 1 = q)  (K : Go p.tables e below P (T.setTop (mkF m q L (.long (x ||| y) :: S)))) : Go p.tables e below P (T.setTop (mkF m pc L (.long y :: .long x :: S))) := by subst hq; exact go (fun t k => XT.lor X.here hx rfl hd rfl  k) K
theorem gLxor (X : Stand p l e R s m args below meth c T locs cells slots) (hx : p.tables.exec = Jvm.exec) {x y : Int64} (hd : decode c.code pc = .ok (.lxor, 1)) (hq : pc + 1 = q)  (K : Go p.tables e below P (T.setTop (mkF m q L (.long (x ^^^ y) :: S)))) : Go p.tables e below P (T.setTop (mkF m pc L (.long y :: .long x :: S))) := by subst hq; exact go (fun t k => XT.lxor X.here hx rfl hd rfl  k) K
theorem gLcmp (X : Stand p l e R s m args below meth c T locs cells slots) (hx : p.tables.exec = Jvm.exec) {x y : Int64} (hd : decode c.code pc = .ok (.lcmp, 1)) (hq : pc + 1 = q)  (K : Go p.tables e below P (T.setTop (mkF m q L (.int (XT.cmpL x y) :: S)))) : Go p.tables e below P (T.setTop (mkF m pc L (.long y :: .long x :: S))) := by subst hq; exact go (fun t k => XT.lcmp X.here hx rfl hd rfl  k) K
theorem gLneg (X : Stand p l e R s m args below meth c T locs cells slots) (hx : p.tables.exec = Jvm.exec) {x : Int64} (hd : decode c.code pc = .ok (.lneg, 1)) (hq : pc + 1 = q)  (K : Go p.tables e below P (T.setTop (mkF m q L (.long (-x) :: S)))) : Go p.tables e below P (T.setTop (mkF m pc L (.long x :: S))) := by subst hq; exact go (fun t k => XT.lneg X.here hx rfl hd rfl  k) K
theorem gI2l (X : Stand p l e R s m args below meth c T locs cells slots) (hx : p.tables.exec = Jvm.exec) {x : Int32} (hd : decode c.code pc = .ok (.i2l, 1)) (hq : pc + 1 = q)  (K : Go p.tables e below P (T.setTop (mkF m q L (.long x.toInt64 :: S)))) : Go p.tables e below P (T.setTop (mkF m pc L (.int x :: S))) := by subst hq; exact go (fun t k => XT.i2l X.here hx rfl hd rfl  k) K
theorem gL2i (X : Stand p l e R s m args below meth c T locs cells slots) (hx : p.tables.exec = Jvm.exec) {x : Int64} (hd : decode c.code pc = .ok (.l2i, 1)) (hq : pc + 1 = q)  (K : Go p.tables e below P (T.setTop (mkF m q L (.int x.toInt32 :: S)))) : Go p.tables e below P (T.setTop (mkF m pc L (.long x :: S))) := by subst hq; exact go (fun t k => XT.l2i X.here hx rfl hd rfl  k) K
theorem gI2c (X : Stand p l e R s m args below meth c T locs cells slots) (hx : p.tables.exec = Jvm.exec) {x : Int32} (hd : decode c.code pc = .ok (.i2c, 1)) (hq : pc + 1 = q)  (K : Go p.tables e below P (T.setTop (mkF m q L (.int x.toUInt32.toUInt16.toUInt32.toInt32 :: S)))) : Go p.tables e below P (T.setTop (mkF m pc L (.int x :: S))) := by subst hq; exact go (fun t k => XT.i2c X.here hx rfl hd rfl  k) K
theorem gI2b (X : Stand p l e R s m args below meth c T locs cells slots) (hx : p.tables.exec = Jvm.exec) {x : Int32} (hd : decode c.code pc = .ok (.i2b, 1)) (hq : pc + 1 = q)  (K : Go p.tables e below P (T.setTop (mkF m q L (.int x.toInt8.toInt32 :: S)))) : Go p.tables e below P (T.setTop (mkF m pc L (.int x :: S))) := by subst hq; exact go (fun t k => XT.i2b X.here hx rfl hd rfl  k) K
theorem gLdiv (X : Stand p l e R s m args below meth c T locs cells slots) (hx : p.tables.exec = Jvm.exec) {x y : Int64} (hd : decode c.code pc = .ok (.ldiv, 1)) (hq : pc + 1 = q) (hy : y ≠ 0) (K : Go p.tables e below P (T.setTop (mkF m q L (.long (x / y) :: S)))) : Go p.tables e below P (T.setTop (mkF m pc L (.long y :: .long x :: S))) := by subst hq; exact go (fun t k => XT.ldiv X.here hx rfl hd rfl hy k) K
theorem gLshl (X : Stand p l e R s m args below meth c T locs cells slots) (hx : p.tables.exec = Jvm.exec) {x : Int64} {y : Int32} (hd : decode c.code pc = .ok (.lshl, 1)) (hq : pc + 1 = q)  (K : Go p.tables e below P (T.setTop (mkF m q L (.long (x <<< (y.toInt64 &&& 63)) :: S)))) : Go p.tables e below P (T.setTop (mkF m pc L (.int y :: .long x :: S))) := by subst hq; exact go (fun t k => XT.lshl X.here hx rfl hd rfl  k) K
theorem gLshr (X : Stand p l e R s m args below meth c T locs cells slots) (hx : p.tables.exec = Jvm.exec) {x : Int64} {y : Int32} (hd : decode c.code pc = .ok (.lshr, 1)) (hq : pc + 1 = q)  (K : Go p.tables e below P (T.setTop (mkF m q L (.long (x >>> (y.toInt64 &&& 63)) :: S)))) : Go p.tables e below P (T.setTop (mkF m pc L (.int y :: .long x :: S))) := by subst hq; exact go (fun t k => XT.lshr X.here hx rfl hd rfl  k) K
theorem gLushr (X : Stand p l e R s m args below meth c T locs cells slots) (hx : p.tables.exec = Jvm.exec) {x : Int64} {y : Int32} (hd : decode c.code pc = .ok (.lushr, 1)) (hq : pc + 1 = q)  (K : Go p.tables e below P (T.setTop (mkF m q L (.long (XT.ushrL x y) :: S)))) : Go p.tables e below P (T.setTop (mkF m pc L (.int y :: .long x :: S))) := by subst hq; exact go (fun t k => XT.lushr X.here hx rfl hd rfl  k) K
theorem gLrem (X : Stand p l e R s m args below meth c T locs cells slots) (hx : p.tables.exec = Jvm.exec) {x y : Int64} (hd : decode c.code pc = .ok (.lrem, 1)) (hq : pc + 1 = q) (hy : y ≠ 0) (K : Go p.tables e below P (T.setTop (mkF m q L (.long (x - (x / y) * y) :: S)))) : Go p.tables e below P (T.setTop (mkF m pc L (.long y :: .long x :: S))) := by subst hq; exact go (fun t k => XT.lrem X.here hx rfl hd rfl hy k) K
theorem gIstoreN (X : Stand p l e R s m args below meth c T locs cells slots) (hx : p.tables.exec = Jvm.exec) {k : Fin 4} {x : Int32} (hd : decode c.code pc = .ok (.istore_n k, 1)) (hq : pc + 1 = q) (hl : storeLocals L k.val (.int x) = some L') (K : Go p.tables e below P (T.setTop (mkF m q L' (S)))) : Go p.tables e below P (T.setTop (mkF m pc L (.int x :: S))) := by subst hq; exact go (fun t k => XS.istoreN X.here hx rfl hd rfl hl k) K
theorem gIstore (X : Stand p l e R s m args below meth c T locs cells slots) (hx : p.tables.exec = Jvm.exec) {k : Nat} {x : Int32} (hd : decode c.code pc = .ok (.istore k, 2)) (hq : pc + 2 = q) (hl : storeLocals L k (.int x) = some L') (K : Go p.tables e below P (T.setTop (mkF m q L' (S)))) : Go p.tables e below P (T.setTop (mkF m pc L (.int x :: S))) := by subst hq; exact go (fun t k => XS.istore X.here hx rfl hd rfl hl k) K
theorem gLstoreN (X : Stand p l e R s m args below meth c T locs cells slots) (hx : p.tables.exec = Jvm.exec) {k : Fin 4} {x : Int64} (hd : decode c.code pc = .ok (.lstore_n k, 1)) (hq : pc + 1 = q) (hl : storeLocals L k.val (.long x) = some L') (K : Go p.tables e below P (T.setTop (mkF m q L' (S)))) : Go p.tables e below P (T.setTop (mkF m pc L (.long x :: S))) := by subst hq; exact go (fun t k => XT.lstoreN X.here hx rfl hd rfl hl k) K
theorem gLstore (X : Stand p l e R s m args below meth c T locs cells slots) (hx : p.tables.exec = Jvm.exec) {k : Nat} {x : Int64} (hd : decode c.code pc = .ok (.lstore k, 2)) (hq : pc + 2 = q) (hl : storeLocals L k (.long x) = some L') (K : Go p.tables e below P (T.setTop (mkF m q L' (S)))) : Go p.tables e below P (T.setTop (mkF m pc L (.long x :: S))) := by subst hq; exact go (fun t k => XT.lstore X.here hx rfl hd rfl hl k) K
theorem gAstoreN (X : Stand p l e R s m args below meth c T locs cells slots) (hx : p.tables.exec = Jvm.exec) {k : Fin 4} {x : Value} (hd : decode c.code pc = .ok (.astore_n k, 1)) (hq : pc + 1 = q) (hv : x.isRef = true) (hl : storeLocals L k.val x = some L') (K : Go p.tables e below P (T.setTop (mkF m q L' (S)))) : Go p.tables e below P (T.setTop (mkF m pc L (x :: S))) := by subst hq; exact go (fun t k => XS.astoreN X.here hx rfl hd rfl hv hl k) K
theorem gAstore (X : Stand p l e R s m args below meth c T locs cells slots) (hx : p.tables.exec = Jvm.exec) {k : Nat} {x : Value} (hd : decode c.code pc = .ok (.astore k, 2)) (hq : pc + 2 = q) (hv : x.isRef = true) (hl : storeLocals L k x = some L') (K : Go p.tables e below P (T.setTop (mkF m q L' (S)))) : Go p.tables e below P (T.setTop (mkF m pc L (x :: S))) := by subst hq; exact go (fun t k => XS.astore X.here hx rfl hd rfl hv hl k) K
theorem gIinc (X : Stand p l e R s m args below meth c T locs cells slots) (hx : p.tables.exec = Jvm.exec) {k : Nat} {cst : Int} {x : Int32} (v : Int32) (hd : decode c.code pc = .ok (.iinc k cst, 3)) (hq : pc + 3 = q) (hv : Int32.ofInt cst = v) (hl : L[k]? = some (.val (.int x))) (hl' : storeLocals L k (.int (x + v)) = some L') (K : Go p.tables e below P (T.setTop (mkF m q L' (S)))) : Go p.tables e below P (T.setTop (mkF m pc L (S))) := by subst hq; exact go (fun t k => XT.iincV X.here hx rfl v hd hv hl hl' k) K
theorem gDup (X : Stand p l e R s m args below meth c T locs cells slots) (hx : p.tables.exec = Jvm.exec) {x : Value} (hd : decode c.code pc = .ok (.dup, 1)) (hq : pc + 1 = q) (hc : x.category = 1) (K : Go p.tables e below P (T.setTop (mkF m q L (x :: x :: S)))) : Go p.tables e below P (T.setTop (mkF m pc L (x :: S))) := by subst hq; exact go (fun t k => XS.dup X.here hx rfl hd rfl hc k) K
theorem gPop (X : Stand p l e R s m args below meth c T locs cells slots) (hx : p.tables.exec = Jvm.exec) {x : Value} (hd : decode c.code pc = .ok (.pop, 1)) (hq : pc + 1 = q) (hc : x.category = 1) (K : Go p.tables e below P (T.setTop (mkF m q L (S)))) : Go p.tables e below P (T.setTop (mkF m pc L (x :: S))) := by subst hq; exact go (fun t k => XT.pop X.here hx rfl hd rfl hc k) K
theorem gDupX1 (X : Stand p l e R s m args below meth c T locs cells slots) (hx : p.tables.exec = Jvm.exec) {x y : Value} (hd : decode c.code pc = .ok (.dup_x1, 1)) (hq : pc + 1 = q) (hc : x.category = 1) (hc' : y.category = 1) (K : Go p.tables e below P (T.setTop (mkF m q L (x :: y :: x :: S)))) : Go p.tables e below P (T.setTop (mkF m pc L (x :: y :: S))) := by subst hq; exact go (fun t k => XT.dupX1 X.here hx rfl hd rfl hc hc' k) K
theorem gDup2 (X : Stand p l e R s m args below meth c T locs cells slots) (hx : p.tables.exec = Jvm.exec) {x y : Value} (hd : decode c.code pc = .ok (.dup2, 1)) (hq : pc + 1 = q) (hc : x.category = 1) (hc' : y.category = 1) (K : Go p.tables e below P (T.setTop (mkF m q L (x :: y :: x :: y :: S)))) : Go p.tables e below P (T.setTop (mkF m pc L (x :: y :: S))) := by subst hq; exact go (fun t k => XT.dup2 X.here hx rfl hd rfl hc hc' k) K
theorem gDup2L (X : Stand p l e R s m args below meth c T locs cells slots) (hx : p.tables.exec = Jvm.exec) {x : Int64} (hd : decode c.code pc = .ok (.dup2, 1)) (hq : pc + 1 = q)  (K : Go p.tables e below P (T.setTop (mkF m q L (.long x :: .long x :: S)))) : Go p.tables e below P (T.setTop (mkF m pc L (.long x :: S))) := by subst hq; exact go (fun t k => XT.dup2L X.here hx rfl hd rfl  k) K
theorem gGoto (X : Stand p l e R s m args below meth c T locs cells slots) (hx : p.tables.exec = Jvm.exec) {o : Int} (hd : decode c.code pc = .ok (.goto o, 3)) (ho : 0 ≤ (pc : Int) + o) (hq : ((pc : Int) + o).toNat = q) (K : Go p.tables e below P (T.setTop (mkF m q L (S)))) : Go p.tables e below P (T.setTop (mkF m pc L (S))) := go (fun t k => XS.goto X.here hx rfl rfl hd ho hq k) K
theorem gIfY (X : Stand p l e R s m args below meth c T locs cells slots) (hx : p.tables.exec = Jvm.exec) {cd : ClassFile.Cond} {x : Int32} {o : Int} (hd : decode c.code pc = .ok (.ifCond cd o, 3)) (ho : 0 ≤ (pc : Int) + o) (hq : ((pc : Int) + o).toNat = q) (hc : ifCond.holds cd x = true) (K : Go p.tables e below P (T.setTop (mkF m q L (S)))) : Go p.tables e below P (T.setTop (mkF m pc L (.int x :: S))) := go (fun t k => XS.ifYes X.here hx rfl rfl hd rfl hc ho hq k) K
theorem gIfN (X : Stand p l e R s m args below meth c T locs cells slots) (hx : p.tables.exec = Jvm.exec) {cd : ClassFile.Cond} {x : Int32} {o : Int} (hd : decode c.code pc = .ok (.ifCond cd o, 3)) (hq : pc + 3 = q) (hc : ifCond.holds cd x = false) (K : Go p.tables e below P (T.setTop (mkF m q L (S)))) : Go p.tables e below P (T.setTop (mkF m pc L (.int x :: S))) := by subst hq; exact go (fun t k => XS.ifNo X.here hx rfl hd rfl hc k) K
theorem gIcmpY (X : Stand p l e R s m args below meth c T locs cells slots) (hx : p.tables.exec = Jvm.exec) {cd : ClassFile.Cond} {x y : Int32} {o : Int} (hd : decode c.code pc = .ok (.if_icmp cd o, 3)) (ho : 0 ≤ (pc : Int) + o) (hq : ((pc : Int) + o).toNat = q) (hc : if_icmp.holds cd x y = true) (K : Go p.tables e below P (T.setTop (mkF m q L (S)))) : Go p.tables e below P (T.setTop (mkF m pc L (.int y :: .int x :: S))) := go (fun t k => XS.icmpYes X.here hx rfl rfl hd rfl hc ho hq k) K
theorem gIcmpN (X : Stand p l e R s m args below meth c T locs cells slots) (hx : p.tables.exec = Jvm.exec) {cd : ClassFile.Cond} {x y : Int32} {o : Int} (hd : decode c.code pc = .ok (.if_icmp cd o, 3)) (hq : pc + 3 = q) (hc : if_icmp.holds cd x y = false) (K : Go p.tables e below P (T.setTop (mkF m q L (S)))) : Go p.tables e below P (T.setTop (mkF m pc L (.int y :: .int x :: S))) := by subst hq; exact go (fun t k => XS.icmpNo X.here hx rfl hd rfl hc k) K
theorem gAcmpY (X : Stand p l e R s m args below meth c T locs cells slots) (hx : p.tables.exec = Jvm.exec) {cd : ClassFile.ACond} {x y : Value} {o : Int} (hd : decode c.code pc = .ok (.if_acmp cd o, 3)) (ho : 0 ≤ (pc : Int) + o) (hq : ((pc : Int) + o).toNat = q) (h1 : x.isRef = true) (h2 : y.isRef = true) (hc : XT.acmp cd x y = true) (K : Go p.tables e below P (T.setTop (mkF m q L (S)))) : Go p.tables e below P (T.setTop (mkF m pc L (y :: x :: S))) := go (fun t k => XT.acmpYes X.here hx rfl rfl hd rfl h1 h2 hc ho hq k) K
theorem gAcmpN (X : Stand p l e R s m args below meth c T locs cells slots) (hx : p.tables.exec = Jvm.exec) {cd : ClassFile.ACond} {x y : Value} {o : Int} (hd : decode c.code pc = .ok (.if_acmp cd o, 3)) (hq : pc + 3 = q) (h1 : x.isRef = true) (h2 : y.isRef = true) (hc : XT.acmp cd x y = false) (K : Go p.tables e below P (T.setTop (mkF m q L (S)))) : Go p.tables e below P (T.setTop (mkF m pc L (y :: x :: S))) := by subst hq; exact go (fun t k => XT.acmpNo X.here hx rfl hd rfl h1 h2 hc k) K
theorem gNullY (X : Stand p l e R s m args below meth c T locs cells slots) (hx : p.tables.exec = Jvm.exec) {v : Value} {o : Int} (hd : decode c.code pc = .ok (.ifnull o, 3)) (ho : 0 ≤ (pc : Int) + o) (hq : ((pc : Int) + o).toNat = q) (hv : v = .null) (K : Go p.tables e below P (T.setTop (mkF m q L (S)))) : Go p.tables e below P (T.setTop (mkF m pc L (v :: S))) := go (fun t k => XT.nullYes X.here hx rfl rfl hd rfl hv ho hq k) K
theorem gNullN (X : Stand p l e R s m args below meth c T locs cells slots) (hx : p.tables.exec = Jvm.exec) {v : Value} {o : Int} (hd : decode c.code pc = .ok (.ifnull o, 3)) (hq : pc + 3 = q) (hr : v.isRef = true) (hv : ¬ v = .null) (K : Go p.tables e below P (T.setTop (mkF m q L (S)))) : Go p.tables e below P (T.setTop (mkF m pc L (v :: S))) := by subst hq; exact go (fun t k => XT.nullNo X.here hx rfl hd rfl hr hv k) K
theorem gNonY (X : Stand p l e R s m args below meth c T locs cells slots) (hx : p.tables.exec = Jvm.exec) {v : Value} {o : Int} (hd : decode c.code pc = .ok (.ifnonnull o, 3)) (ho : 0 ≤ (pc : Int) + o) (hq : ((pc : Int) + o).toNat = q) (hr : v.isRef = true) (hv : ¬ v = .null) (K : Go p.tables e below P (T.setTop (mkF m q L (S)))) : Go p.tables e below P (T.setTop (mkF m pc L (v :: S))) := go (fun t k => XT.nonnullYes X.here hx rfl rfl hd rfl hr hv ho hq k) K
theorem gNonN (X : Stand p l e R s m args below meth c T locs cells slots) (hx : p.tables.exec = Jvm.exec) {v : Value} {o : Int} (hd : decode c.code pc = .ok (.ifnonnull o, 3)) (hq : pc + 3 = q) (hv : v = .null) (K : Go p.tables e below P (T.setTop (mkF m q L (S)))) : Go p.tables e below P (T.setTop (mkF m pc L (v :: S))) := by subst hq; exact go (fun t k => XT.nonnullNo X.here hx rfl hd rfl hv k) K
theorem gRet (X : Stand p l e R s m args below meth c T locs cells slots) (hx : p.tables.exec = Jvm.exec) {Q : Option Value → Heap → List Loc → Prop} {k n : Nat} {w : Value} {t : FieldType} {i : Instr} (hlk : meth.locks = false) (hret : meth.sig.returnType = some t) (hn : narrow t w = w)
    (hi : (i = .ireturn ∧ (t = .int ∨ t = .boolean ∨ t = .byte ∨ t = .char ∨ t = .short) ∧ ∃ z, w = .int z) ∨ (i = .lreturn ∧ t = .long ∧ ∃ z, w = .long z) ∨ (i = .dreturn ∧ t = .double ∧ ∃ z, w = .double z) ∨ (i = .freturn ∧ t = .float ∧ ∃ z, w = .float z) ∨ (i = .areturn ∧ t.isReference = true ∧ w.isRef = true))
    (hd : decode c.code pc = .ok (i, 1)) (hk : cells ≤ k) (hs : slots ≤ n) (hQ : Q (some w) T.heap locs) : Go p.tables e below (Done s Q k n) (T.setTop (mkF m pc L (w :: S))) := by
  obtain ⟨fs, hr, hrun, hended, hW, hsame⟩ := X.leave (v := some w) (fun h => by rw [hret] at h; cases h) hlk
  exact ⟨_, _, retOut X hx hret hn hi hd hr, hrun, hended, _, _, rfl, hQ, ⟨_, rfl⟩, hW, hsame.mono hk hs⟩
theorem gRetI (X : Stand p l e R s m args below meth c T locs cells slots) (hx : p.tables.exec = Jvm.exec) {Q : Option Value → Heap → List Loc → Prop} {k n : Nat} {z : Int32} (hlk : meth.locks = false) (hret : meth.sig.returnType = some .int) (hd : decode c.code pc = .ok (.ireturn, 1)) (hk : cells ≤ k) (hs : slots ≤ n) (hQ : Q (some (.int z)) T.heap locs) : Go p.tables e below (Done s Q k n) (T.setTop (mkF m pc L (.int z :: S))) :=
  gRet X hx hlk hret rfl (Or.inl ⟨rfl, Or.inl rfl, _, rfl⟩) hd hk hs hQ
theorem gRetZ (X : Stand p l e R s m args below meth c T locs cells slots) (hx : p.tables.exec = Jvm.exec) {Q : Option Value → Heap → List Loc → Prop} {k n : Nat} {z : Int32} (hlk : meth.locks = false) (hret : meth.sig.returnType = some .boolean) (hd : decode c.code pc = .ok (.ireturn, 1)) (hk : cells ≤ k) (hs : slots ≤ n) (hz : z = 0 ∨ z = 1) (hQ : Q (some (.int z)) T.heap locs) : Go p.tables e below (Done s Q k n) (T.setTop (mkF m pc L (.int z :: S))) :=
  gRet X hx hlk hret (by rcases hz with rfl | rfl <;> rfl) (Or.inl ⟨rfl, Or.inr (Or.inl rfl), _, rfl⟩) hd hk hs hQ
theorem gRetJ (X : Stand p l e R s m args below meth c T locs cells slots) (hx : p.tables.exec = Jvm.exec) {Q : Option Value → Heap → List Loc → Prop} {k n : Nat} {z : Int64} (hlk : meth.locks = false) (hret : meth.sig.returnType = some .long) (hd : decode c.code pc = .ok (.lreturn, 1)) (hk : cells ≤ k) (hs : slots ≤ n) (hQ : Q (some (.long z)) T.heap locs) : Go p.tables e below (Done s Q k n) (T.setTop (mkF m pc L (.long z :: S))) :=
  gRet X hx hlk hret rfl (Or.inr (Or.inl ⟨rfl, rfl, _, rfl⟩)) hd hk hs hQ
theorem gRetA (X : Stand p l e R s m args below meth c T locs cells slots) (hx : p.tables.exec = Jvm.exec) {Q : Option Value → Heap → List Loc → Prop} {k n : Nat} {w : Value} {t : FieldType} (hlk : meth.locks = false) (hret : meth.sig.returnType = some t) (ht : t.isReference = true) (hw : w.isRef = true) (hd : decode c.code pc = .ok (.areturn, 1)) (hk : cells ≤ k) (hs : slots ≤ n) (hQ : Q (some w) T.heap locs) : Go p.tables e below (Done s Q k n) (T.setTop (mkF m pc L (w :: S))) :=
  gRet X hx hlk hret (by cases t <;> simp [FieldType.isReference] at ht <;> cases w <;> simp [Value.isRef] at hw <;> rfl) (Or.inr (Or.inr (Or.inr (Or.inr ⟨rfl, ht, hw⟩)))) hd hk hs hQ
theorem gRetV (X : Stand p l e R s m args below meth c T locs cells slots) (hx : p.tables.exec = Jvm.exec) {Q : Option Value → Heap → List Loc → Prop} {k n : Nat} (hlk : meth.locks = false) (hret : meth.sig.returnType = none) (hd : decode c.code pc = .ok (.return_, 1)) (hk : cells ≤ k) (hs : slots ≤ n) (hQ : Q none T.heap locs) : Go p.tables e below (Done s Q k n) (T.setTop (mkF m pc L [])) := by
  obtain ⟨fs, hr, hrun, hended, hW, hsame⟩ := X.leave (v := none) (fun _ => rfl) hlk
  exact ⟨_, _, X.returnOut hx hret hd hr, hrun, hended, _, _, rfl, hQ, ⟨_, rfl⟩, hW, hsame.mono hk hs⟩
end Steps1
section Steps2
variable {p : Program} {l : Launch} {e : Env} {R : Room} {s : State} {m : MethodId} {args : Array Value} {below : List Frame} {meth : Method} {c : Code} {T : State} {locs : List Loc} {cells slots : Nat} {P : State → Outcome → Prop} {pc q : Nat} {L L' : Array Slot} {S : List Value} {Z : State} {a0 : Array Value} {h : Heap}
theorem gGetF (X : Stand p l e R s m args below meth c T locs cells slots) (hx : p.tables.exec = Jvm.exec) (hZ : Z.Warmed39 s.vm) {own R0 O n d host : String} {i : Nat} (hown : s.vm.findClass own = some m.cls) (w : (Jvm.Cond.fieldLink own i R0 n d).before a0 Z = true ∨ (Jvm.Cond.fieldLinkNest own i R0 n d host).before a0 Z = true) (via : Via Z R0 O n d)
    (eT : T.heap = h) {a : Addr} {v : Value} (F : Fld Z h a O n d v) (hd : decode c.code pc = .ok (.getfield i, 3)) (hq : pc + 3 = q)
    (K : ∀ T', Stand p l e R s m args below meth c T' locs cells slots → T'.heap = h → Go p.tables e below P (T'.setTop (mkF m q L (v :: S)))) : Go p.tables e below P (T.setTop (mkF m pc L (.ref a :: S))) := by
  subst hq
  obtain ⟨T', X', e', st⟩ := getF X hx hZ hown w via eT F (g := mkF m pc L (.ref a :: S)) rfl rfl hd
  exact go st (K T' X' e')
theorem gGetS (X : Stand p l e R s m args below meth c T locs cells slots) (hx : p.tables.exec = Jvm.exec) (hZ : Z.Warmed39 s.vm) {own R0 O n d : String} {i : Nat} (hown : s.vm.findClass own = some m.cls) (w : (Jvm.Cond.fieldLink own i R0 n d).before a0 Z = true) (via : Via Z R0 O n d)
    (eT : T.heap = h) {v : Value} (F : Sta Z h O n d v) (hd : decode c.code pc = .ok (.getstatic i, 3)) (hq : pc + 3 = q)
    (K : ∀ T', Stand p l e R s m args below meth c T' locs cells slots → T'.heap = h → Go p.tables e below P (T'.setTop (mkF m q L (v :: S)))) : Go p.tables e below P (T.setTop (mkF m pc L S)) := by
  subst hq
  obtain ⟨T', X', e', st⟩ := getS X hx hZ (host := "") hown w via eT F (g := mkF m pc L S) rfl hd
  exact go st (K T' X' e')
theorem gPutF (X : Stand p l e R s m args below meth c T locs cells slots) (hx : p.tables.exec = Jvm.exec) (hZ : Z.Warmed39 s.vm) {own R0 O n d host C : String} {i kk : Nat} {ty : FieldType} (hown : s.vm.findClass own = some m.cls) (w : (Jvm.Cond.fieldLink own i R0 n d).before a0 Z = true ∨ (Jvm.Cond.fieldLinkNest own i R0 n d host).before a0 Z = true) (via : Via Z R0 O n d)
    (eT : T.heap = h) {a : Addr} {v old : Value} (F : Fld Z h a O n d old) (E : Exa Z h a C) (Ly : (Jvm.Cond.lays C O n d).before a0 Z = true ∨ ((Jvm.Cond.laysFinal C O n d).before a0 Z = true ∧ own = O ∧ meth.name = "<init>")) (wi : (Jvm.Cond.instantiable C kk).before a0 Z = true)
    (hty : parseFieldDescriptor d = some ty) (hn : narrow ty v = v) (hf : fits ty v = true) (hd : decode c.code pc = .ok (.putfield i, 3)) (hq : pc + 3 = q)
    (K : ∀ T' h', Stand p l e R s m args below meth c T' (locs ++ [⟨a, Jvm.RoadKit.slotOf Z O n d⟩]) cells slots → T'.heap = h' → Wr h h' a (Jvm.RoadKit.slotOf Z O n d) v → Go p.tables e below P (T'.setTop (mkF m q L S))) : Go p.tables e below P (T.setTop (mkF m pc L (v :: .ref a :: S))) := by
  subst hq
  obtain ⟨T', h', X', e', W', st⟩ := putF X hx hZ hown w via eT F E Ly wi hty hn hf (g := mkF m pc L (v :: .ref a :: S)) rfl rfl hd
  exact go st (K T' h' X' e' W')
theorem gNewO (X : Stand p l e R s m args below meth c T locs cells slots) (hx : p.tables.exec = Jvm.exec) (hZ : Z.Warmed39 s.vm) {own C : String} {i n : Nat} (hown : s.vm.findClass own = some m.cls) (w : (Jvm.Cond.classLink own i C).before a0 Z = true) (wi : (Jvm.Cond.instantiable C n).before a0 Z = true) (wz : (Jvm.Cond.initialized C).before a0 Z = true) (eT : T.heap = h)
    (hd : decode c.code pc = .ok (.new i, 3)) (hq : pc + 3 = q) (hc : cells + 1 ≤ R.cells) (hl : slots + n ≤ R.slots)
    (K : ∀ T' h' a, Stand p l e R s m args below meth c T' locs (cells + 1) (slots + n) → T'.heap = h' → a = h.size → Ext h h' → Exa Z h' a C → (∀ {O nm d : String} {ty : FieldType}, Laid Z a0 C O nm d → parseFieldDescriptor d = some ty → Fld Z h' a O nm d (defaultValue ty)) → Go p.tables e below P (T'.setTop (mkF m q L (.ref a :: S)))) : Go p.tables e below P (T.setTop (mkF m pc L S)) := by
  subst hq
  obtain ⟨T', h', X', e', E', A', D', -, st⟩ := newO X hx hZ hown w wi wz eT (g := mkF m pc L S) rfl hd hc hl
  exact go st (K T' h' _ X' e' rfl E' A' D')
theorem gInitO (X : Stand p l e R s m args below meth c T locs cells slots) (hx : p.tables.exec = Jvm.exec) (hZ : Z.Warmed39 s.vm) {own : String} {i : Nat} (hown : s.vm.findClass own = some m.cls) (w1 : (Jvm.Cond.methodLink own i Lib.objectInit).before a0 Z = true) (w2 : (Jvm.Cond.instanceMethod Lib.objectInit).before a0 Z = true) (w3 : (Jvm.Cond.code Lib.objectInit ⟨#[0xb1]⟩ 1 none).before a0 Z = true) (eT : T.heap = h)
    (hsize : L.size = c.maxLocals) {a : Addr} (hd : decode c.code pc = .ok (.invokespecial i, 3)) (hq : pc + 3 = q) (hf : 1 ≤ R.frames) {W : Nat} (hW : (S.map fun v => v.category).sum ≤ W) (hl : W + 12 ≤ R.locals)
    (K : ∀ T', Stand p l e R s m args below meth c T' locs cells slots → T'.heap = h → Go p.tables e below P (T'.setTop (mkF m q L S))) : Go p.tables e below P (T.setTop (mkF m pc L (.ref a :: S))) := by
  subst hq
  obtain ⟨T', X', e', st⟩ := initO X hx hZ hown w1 w2 w3 eT (g := mkF m pc L (.ref a :: S)) rfl hsize rfl hd hf (W := W) (by show 2 * 0 + _ ≤ _; rw [Nat.mul_zero, Nat.zero_add]; exact hW) hl
  exact go st (K T' X' e')
/-! calls by a contract -/
theorem gCallS (X : Stand p l e R s m args below meth c T locs cells slots) (hx : p.tables.exec = Jvm.exec) (hZ : Z.Warmed39 s.vm) {own : String} {i : Nat} {y : MethodName} {bytes : ByteArray} {maxL : Nat} {rt : Option FieldType} {rm : Room} {as' : Array Value} {Q : Option Value → Heap → List Loc → Prop} (hown : s.vm.findClass own = some m.cls)
    (w1 : (Jvm.Cond.methodLink own i y).before a0 Z = true) (w2 : (Jvm.Cond.static y).before a0 Z = true) (w3 : (Jvm.Cond.initialized y.cls).before a0 Z = true) (w4 : (Jvm.Cond.code y bytes maxL rt).before a0 Z = true) (hy : y.cls ≠ "java/lang/invoke/MethodHandle" ∧ y.cls ≠ "java/lang/invoke/VarHandle")
    (hM : Con l Z y bytes maxL rt [] rm as' h rm.cells rm.slots Q) {W : Nat} (hf : rm.frames + 1 ≤ R.frames) (hlo : W + (maxL + 11) + rm.locals ≤ R.locals) (eT : T.heap = h) (hsize : L.size = c.maxLocals)
    {S0 : List Value} (argsL : List Value) (hlen : ∀ sig, parseMethodDescriptor y.desc = some sig → argsL.length = sig.parameters.length) (has : argsL.toArray = as') (hst : S0 = argsL.reverse ++ S) (hW : (S.map fun v => v.category).sum ≤ W) (hd : decode c.code pc = .ok (.invokestatic i, 3)) (hq : pc + 3 = q)
    (hc : cells + rm.cells ≤ R.cells) (hs : slots + rm.slots ≤ R.slots)
    (K : ∀ v T' Lc, Stand p l e R s m args below meth c T' (locs ++ Lc) (cells + rm.cells) (slots + rm.slots) → Q v T'.heap Lc → Go p.tables e below P (T'.setTop (mkF m q L (v.toList ++ S)))) : Go p.tables e below P (T.setTop (mkF m pc L S0)) := by
  subst hq has hst
  obtain ⟨v, _, ⟨T', L1, k1, n1⟩, -, X', ⟨Lc, hQ, h1, h2, h3⟩, st⟩ := Jvm.LawKit.callS X hx hown (mvT hZ w1) (mvT hZ w2) (mvT hZ w3) (mvT hZ w4) hy (backOf (W := W) hM hZ w4 w3 hf hlo) (g := mkF m pc L (argsL.reverse ++ S)) rfl hsize (argsL := argsL) (rest := S) hlen rfl (by show 2 * 0 + _ ≤ _; rw [Nat.mul_zero, Nat.zero_add]; exact hW) hd (fun _ _ => ⟨rfl, eT, hc, hs⟩)
  dsimp only [Pt.U, Pt.locs, Pt.cells, Pt.slots] at X' h1 h2 h3 st hQ
  subst h1 h2 h3
  exact go st (K v T' Lc X' hQ)
theorem gCallSN (X : Stand p l e R s m args below meth c T locs cells slots) (hx : p.tables.exec = Jvm.exec) (hZ : Z.Warmed39 s.vm) {own host : String} {i : Nat} {y : MethodName} {bytes : ByteArray} {maxL : Nat} {rt : Option FieldType} {rm : Room} {as' : Array Value} {Q : Option Value → Heap → List Loc → Prop} (hown : s.vm.findClass own = some m.cls)
    (w1 : (Jvm.Cond.methodLinkNest own i y host).before a0 Z = true) (w2 : (Jvm.Cond.static y).before a0 Z = true) (w3 : (Jvm.Cond.initialized y.cls).before a0 Z = true) (w4 : (Jvm.Cond.code y bytes maxL rt).before a0 Z = true) (hy : y.cls ≠ "java/lang/invoke/MethodHandle" ∧ y.cls ≠ "java/lang/invoke/VarHandle")
    (hM : Con l Z y bytes maxL rt [] rm as' h rm.cells rm.slots Q) {W : Nat} (hf : rm.frames + 1 ≤ R.frames) (hlo : W + (maxL + 11) + rm.locals ≤ R.locals) (eT : T.heap = h) (hsize : L.size = c.maxLocals)
    {S0 : List Value} (argsL : List Value) (hlen : ∀ sig, parseMethodDescriptor y.desc = some sig → argsL.length = sig.parameters.length) (has : argsL.toArray = as') (hst : S0 = argsL.reverse ++ S) (hW : (S.map fun v => v.category).sum ≤ W) (hd : decode c.code pc = .ok (.invokestatic i, 3)) (hq : pc + 3 = q)
    (hc : cells + rm.cells ≤ R.cells) (hs : slots + rm.slots ≤ R.slots)
    (K : ∀ v T' Lc, Stand p l e R s m args below meth c T' (locs ++ Lc) (cells + rm.cells) (slots + rm.slots) → Q v T'.heap Lc → Go p.tables e below P (T'.setTop (mkF m q L (v.toList ++ S)))) : Go p.tables e below P (T.setTop (mkF m pc L S0)) := by
  subst hq has hst
  obtain ⟨v, _, ⟨T', L1, k1, n1⟩, -, X', ⟨Lc, hQ, h1, h2, h3⟩, st⟩ := callSN X hx hown (Cond.methodLinkNest_wide hZ w1 :) (mvT hZ w2) (mvT hZ w3) (mvT hZ w4) hy (backOf (W := W) hM hZ w4 w3 hf hlo) (g := mkF m pc L (argsL.reverse ++ S)) rfl hsize (argsL := argsL) (rest := S) hlen rfl (by show 2 * 0 + _ ≤ _; rw [Nat.mul_zero, Nat.zero_add]; exact hW) hd (fun _ _ => ⟨rfl, eT, hc, hs⟩)
  dsimp only [Pt.U, Pt.locs, Pt.cells, Pt.slots] at X' h1 h2 h3 st hQ
  subst h1 h2 h3
  exact goT st (K v T' Lc X' hQ)
theorem gCallN (X : Stand p l e R s m args below meth c T locs cells slots) (hx : p.tables.exec = Jvm.exec) (hZ : Z.Warmed39 s.vm) {own : String} {i : Nat} {y : MethodName} {bytes : ByteArray} {maxL : Nat} {rm : Room} {as' : Array Value} {Q : Option Value → Heap → List Loc → Prop} (hy1 : y.name = "<init>") (hown : s.vm.findClass own = some m.cls)
    (w1 : (Jvm.Cond.methodLink own i y).before a0 Z = true) (w2 : (Jvm.Cond.instanceMethod y).before a0 Z = true) (w3 : (Jvm.Cond.initialized y.cls).before a0 Z = true) (w4 : (Jvm.Cond.code y bytes maxL none).before a0 Z = true) (hy : y.cls ≠ "java/lang/invoke/MethodHandle" ∧ y.cls ≠ "java/lang/invoke/VarHandle")
    (hM : Con l Z y bytes maxL none [] rm as' h rm.cells rm.slots Q) {W : Nat} (hf : rm.frames + 1 ≤ R.frames) (hlo : W + (maxL + 11) + rm.locals ≤ R.locals) (eT : T.heap = h) (hsize : L.size = c.maxLocals)
    {S0 : List Value} {a : Addr} (argsL : List Value) (hlen : ∀ sig, parseMethodDescriptor y.desc = some sig → argsL.length = sig.parameters.length) (has : (.ref a :: argsL).toArray = as') (hst : S0 = argsL.reverse ++ .ref a :: S) (hW : (S.map fun v => v.category).sum ≤ W) (hd : decode c.code pc = .ok (.invokespecial i, 3)) (hq : pc + 3 = q)
    (hc : cells + rm.cells ≤ R.cells) (hs : slots + rm.slots ≤ R.slots)
    (K : ∀ v T' Lc, Stand p l e R s m args below meth c T' (locs ++ Lc) (cells + rm.cells) (slots + rm.slots) → Q v T'.heap Lc → Go p.tables e below P (T'.setTop (mkF m q L (v.toList ++ S)))) : Go p.tables e below P (T.setTop (mkF m pc L S0)) := by
  subst hq has hst
  obtain ⟨v, _, ⟨T', L1, k1, n1⟩, -, X', ⟨Lc, hQ, h1, h2, h3⟩, st⟩ := X.specialBack hx hy1 hown (mvT hZ w1) (mvT hZ w2) (mvT hZ w4) hy (backOf (W := W) hM hZ w4 w3 hf hlo) (g := mkF m pc L (argsL.reverse ++ .ref a :: S)) rfl hsize (Steps.refl _) (a := a) (argsL := argsL) (rest := S) hlen rfl (by show 2 * 0 + _ ≤ _; rw [Nat.mul_zero, Nat.zero_add]; exact hW) hd (fun _ _ => ⟨rfl, eT, hc, hs⟩)
  dsimp only [Pt.U, Pt.locs, Pt.cells, Pt.slots] at X' h1 h2 h3 st hQ
  subst h1 h2 h3
  exact goT st (K v T' Lc X' hQ)
theorem gCallV (X : Stand p l e R s m args below meth c T locs cells slots) (hx : p.tables.exec = Jvm.exec) (hZ : Z.Warmed39 s.vm) {own C : String} {i : Nat} {y z : MethodName} {bytes : ByteArray} {maxL : Nat} {rt : Option FieldType} {rm : Room} {as' : Array Value} {Q : Option Value → Heap → List Loc → Prop} (hown : s.vm.findClass own = some m.cls)
    (w1 : (Jvm.Cond.methodLink own i y).before a0 Z = true) (w2 : (Jvm.Cond.declares y).before a0 Z = true) (w5 : (Jvm.Cond.selects C y z).before a0 Z = true) (w6 : (Jvm.Cond.instanceMethod z).before a0 Z = true) (w3 : (Jvm.Cond.initialized z.cls).before a0 Z = true) (w4 : (Jvm.Cond.code z bytes maxL rt).before a0 Z = true) (hnf : NotFace s y) (hy : y.cls ≠ "java/lang/invoke/MethodHandle" ∧ y.cls ≠ "java/lang/invoke/VarHandle")
    (hM : Con l Z z bytes maxL rt [] rm as' h rm.cells rm.slots Q) {W : Nat} (hf : rm.frames + 1 ≤ R.frames) (hlo : W + (maxL + 11) + rm.locals ≤ R.locals) (eT : T.heap = h) (hsize : L.size = c.maxLocals)
    {S0 : List Value} {a : Addr} (E : Exa Z h a C) (argsL : List Value) (hlen : ∀ sig, parseMethodDescriptor y.desc = some sig → argsL.length = sig.parameters.length) (has : (.ref a :: argsL).toArray = as') (hst : S0 = argsL.reverse ++ .ref a :: S) (hW : (S.map fun v => v.category).sum ≤ W) (hd : decode c.code pc = .ok (.invokevirtual i, 3)) (hq : pc + 3 = q)
    (hc : cells + rm.cells ≤ R.cells) (hs : slots + rm.slots ≤ R.slots)
    (K : ∀ v T' Lc, Stand p l e R s m args below meth c T' (locs ++ Lc) (cells + rm.cells) (slots + rm.slots) → Q v T'.heap Lc → Go p.tables e below P (T'.setTop (mkF m q L (v.toList ++ S)))) : Go p.tables e below P (T.setTop (mkF m pc L S0)) := by
  subst hq has hst
  obtain ⟨cq, kq, q1, q2, q3⟩ := isOf hZ eT E
  obtain ⟨v, _, ⟨T', L1, k1, n1⟩, -, X', ⟨Lc, hQ, h1, h2, h3⟩, st⟩ := X.virtualBack hx hown (mvT hZ w1) (mvT hZ w2) hnf (mvT hZ w5) (mvT hZ w6) hy (backOf (W := W) hM hZ w4 w3 hf hlo) q1 q3 (g := mkF m pc L (argsL.reverse ++ .ref a :: S)) rfl hsize (Steps.refl _) (argsL := argsL) (rest := S) hlen rfl (by show 2 * 0 + _ ≤ _; rw [Nat.mul_zero, Nat.zero_add]; exact hW) hd (fun _ _ => ⟨rfl, eT, hc, hs⟩)
  dsimp only [Pt.U, Pt.locs, Pt.cells, Pt.slots] at X' h1 h2 h3 st hQ
  subst h1 h2 h3
  exact goT st (K v T' Lc X' hQ)
end Steps2
end Jvm.OwnKit
namespace Jvm.OwnKit
open Sem ClassFile Op Lib Jvm.Stand Jvm.Free Jvm.LawKit Jvm.RoadKit
/-- the array at a: its class, its element type, its values -/
def Ary (Z : State) (h : Heap) (a : Addr) (k : ClassId) (ty : FieldType) (vs : List Value) : Prop := ∃ c : Cell, Arr Z h a c ty ∧ c.cls = k ∧ c.slots.toList = vs
section Ary
variable {Z : State} {h h' : Heap} {a b : Addr} {k : ClassId} {ty : FieldType} {vs : List Value} {sl : Nat} {v : Value} {ws : List Addr}
theorem Ary.ext (E : Ext h h') (F : Ary Z h a k ty vs) : Ary Z h' a k ty vs := by obtain ⟨c, A, r⟩ := F; exact ⟨c, A.ext E, r⟩
theorem Ary.other (W : Wr h h' a sl v) (F : Ary Z h b k ty vs) (q : b ≠ a) : Ary Z h' b k ty vs := by obtain ⟨c, A, r⟩ := F; exact ⟨c, A.other W q, r⟩
theorem Ary.keep (F : Ary Z h a k ty vs) (K : Keep h h' ws) (q : a ∉ ws) : Ary Z h' a k ty vs := by obtain ⟨c, A, r⟩ := F; exact ⟨c, ⟨K.2.1 a c A.1 q, A.2⟩, r⟩
theorem Ary.lt (F : Ary Z h a k ty vs) : a < h.size := by obtain ⟨c, A, -⟩ := F; exact A.lt
theorem Ary.same (W : Wr h h' a sl v) (F : Ary Z h a k ty vs) : Ary Z h' a k ty (vs.set sl v) := by
  obtain ⟨c, A, r1, r2⟩ := F
  exact ⟨_, A.same W, r1, by subst r2; simp [Cell.setSlot]⟩
theorem Ary.new {n : Int32} (A : Arr Z h a (newA k ty n) ty) : Ary Z h a k ty (List.replicate n.toNatClampNeg (defaultValue ty)) := ⟨_, A, rfl, by simp [newA]⟩
theorem Ary.ne_exa {a0 : Array Value} {C : String} {n : Nat} (F : Ary Z h a k ty vs) (E : Exa Z h b C) (wi : (Jvm.Cond.instantiable C n).before a0 Z = true) : a ≠ b := by obtain ⟨c, A, -⟩ := F; exact (ne_arr E wi A).symm
end Ary
section Steps3
variable {p : Program} {l : Launch} {e : Env} {R : Room} {s : State} {m : MethodId} {args : Array Value} {below : List Frame} {meth : Method} {c : Code} {T : State} {locs : List Loc} {cells slots : Nat} {P : State → Outcome → Prop} {pc q : Nat} {L L' : Array Slot} {S : List Value} {Z : State} {a0 : Array Value} {h : Heap} {a : Addr} {k : ClassId} {vs : List Value}
theorem gIaload (X : Stand p l e R s m args below meth c T locs cells slots) (hx : p.tables.exec = Jvm.exec) (hZ : Z.Warmed39 s.vm) (eT : T.heap = h) (A : Ary Z h a k .int vs) {j : Int32} {v : Value} (hd : decode c.code pc = .ok (.iaload, 1)) (hq : pc + 1 = q) (hj : ¬ (j < 0 ∨ vs.length ≤ j.toNatClampNeg)) (hv : vs[j.toNatClampNeg]? = some v) (K : Go p.tables e below P (T.setTop (mkF m q L (v :: S)))) : Go p.tables e below P (T.setTop (mkF m pc L (.int j :: .ref a :: S))) := by
  subst hq eT
  obtain ⟨cl, A, -, rfl⟩ := A
  exact go (fun t k => X.iaload hx (j := j) (v := v) A.1 (State.isArrayOf_alike hZ.alike A.2.1) A.2.2 (by simpa using hj) (by simpa using hv) (g := mkF m pc L (.int j :: .ref a :: S)) rfl rfl hd _ k) K
theorem gLaload (X : Stand p l e R s m args below meth c T locs cells slots) (hx : p.tables.exec = Jvm.exec) (hZ : Z.Warmed39 s.vm) (eT : T.heap = h) (A : Ary Z h a k .long vs) {j : Int32} {v : Value} (hd : decode c.code pc = .ok (.laload, 1)) (hq : pc + 1 = q) (hj : ¬ (j < 0 ∨ vs.length ≤ j.toNatClampNeg)) (hv : vs[j.toNatClampNeg]? = some v) (K : Go p.tables e below P (T.setTop (mkF m q L (v :: S)))) : Go p.tables e below P (T.setTop (mkF m pc L (.int j :: .ref a :: S))) := by
  subst hq eT
  obtain ⟨cl, A, -, rfl⟩ := A
  exact go (fun t k => X.laload hx (j := j) (v := v) A.1 (State.isArrayOf_alike hZ.alike A.2.1) A.2.2 (by simpa using hj) (by simpa using hv) (g := mkF m pc L (.int j :: .ref a :: S)) rfl rfl hd _ k) K
theorem gCaload (X : Stand p l e R s m args below meth c T locs cells slots) (hx : p.tables.exec = Jvm.exec) (hZ : Z.Warmed39 s.vm) (eT : T.heap = h) (A : Ary Z h a k .char vs) {j : Int32} {v : Value} (hd : decode c.code pc = .ok (.caload, 1)) (hq : pc + 1 = q) (hj : ¬ (j < 0 ∨ vs.length ≤ j.toNatClampNeg)) (hv : vs[j.toNatClampNeg]? = some v) (K : Go p.tables e below P (T.setTop (mkF m q L (v :: S)))) : Go p.tables e below P (T.setTop (mkF m pc L (.int j :: .ref a :: S))) := by
  subst hq eT
  obtain ⟨cl, A, -, rfl⟩ := A
  exact go (fun t k => X.caload hx (j := j) (v := v) A.1 (State.isArrayOf_alike hZ.alike A.2.1) A.2.2 (by simpa using hj) (by simpa using hv) (g := mkF m pc L (.int j :: .ref a :: S)) rfl rfl hd _ k) K
theorem gAaload (X : Stand p l e R s m args below meth c T locs cells slots) (hx : p.tables.exec = Jvm.exec) (hZ : Z.Warmed39 s.vm) (eT : T.heap = h) {ty : FieldType} (A : Ary Z h a k ty vs) (ht : ty.isReference = true) {j : Int32} {v : Value} (hd : decode c.code pc = .ok (.aaload, 1)) (hq : pc + 1 = q) (hj : ¬ (j < 0 ∨ vs.length ≤ j.toNatClampNeg)) (hv : vs[j.toNatClampNeg]? = some v) (K : Go p.tables e below P (T.setTop (mkF m q L (v :: S)))) : Go p.tables e below P (T.setTop (mkF m pc L (.int j :: .ref a :: S))) := by
  subst hq eT
  obtain ⟨cl, A, -, rfl⟩ := A
  exact go (fun t k => X.aaload hx (j := j) (v := v) A.1 (State.isArrayOf_alike hZ.alike A.2.1) ht A.2.2 (by simpa using hj) (by simpa using hv) (g := mkF m pc L (.int j :: .ref a :: S)) rfl rfl hd _ k) K
theorem gLen (X : Stand p l e R s m args below meth c T locs cells slots) (hx : p.tables.exec = Jvm.exec) (hZ : Z.Warmed39 s.vm) (eT : T.heap = h) {ty : FieldType} (A : Ary Z h a k ty vs) {n : Int32} (hn : vs.length.toInt32 = n) (hd : decode c.code pc = .ok (.arraylength, 1)) (hq : pc + 1 = q) (K : Go p.tables e below P (T.setTop (mkF m q L (.int n :: S)))) : Go p.tables e below P (T.setTop (mkF m pc L (.ref a :: S))) := by
  subst hq eT hn
  obtain ⟨cl, A, -, rfl⟩ := A
  exact go (fun t k => X.arraylength hx A.1 (State.isArrayOf_alike hZ.alike A.2.1) (g := mkF m pc L (.ref a :: S)) rfl rfl hd _ (by simpa using k)) K
theorem gIastore (X : Stand p l e R s m args below meth c T locs cells slots) (hx : p.tables.exec = Jvm.exec) (hZ : Z.Warmed39 s.vm) (eT : T.heap = h) (A : Ary Z h a k .int vs) {j : Int32} {x : Int32} (hd : decode c.code pc = .ok (.iastore, 1)) (hq : pc + 1 = q) (hj : ¬ (j < 0 ∨ vs.length ≤ j.toNatClampNeg))
    (K : ∀ T' h', Stand p l e R s m args below meth c T' (locs ++ [⟨a, j.toNatClampNeg⟩]) cells slots → T'.heap = h' → Wr h h' a j.toNatClampNeg (.int x) → Ary Z h' a k .int (vs.set j.toNatClampNeg (.int x)) → Go p.tables e below P (T'.setTop (mkF m q L (S)))) : Go p.tables e below P (T.setTop (mkF m pc L (.int x :: .int j :: .ref a :: S))) := by
  subst hq
  have A' := A
  obtain ⟨cl, Ac, r1, r2⟩ := A'
  obtain ⟨T', h', X', e', W', st⟩ := stI X hx hZ eT Ac (j := j) (x := x) (by subst r2; simpa using hj) (g := mkF m pc L (.int x :: .int j :: .ref a :: S)) rfl rfl hd
  exact go st (K T' h' X' e' W' (Ary.same W' A))
theorem gLastore (X : Stand p l e R s m args below meth c T locs cells slots) (hx : p.tables.exec = Jvm.exec) (hZ : Z.Warmed39 s.vm) (eT : T.heap = h) (A : Ary Z h a k .long vs) {j : Int32} {x : Int64} (hd : decode c.code pc = .ok (.lastore, 1)) (hq : pc + 1 = q) (hj : ¬ (j < 0 ∨ vs.length ≤ j.toNatClampNeg))
    (K : ∀ T' h', Stand p l e R s m args below meth c T' (locs ++ [⟨a, j.toNatClampNeg⟩]) cells slots → T'.heap = h' → Wr h h' a j.toNatClampNeg (.long x) → Ary Z h' a k .long (vs.set j.toNatClampNeg (.long x)) → Go p.tables e below P (T'.setTop (mkF m q L (S)))) : Go p.tables e below P (T.setTop (mkF m pc L (.long x :: .int j :: .ref a :: S))) := by
  subst hq
  have A' := A
  obtain ⟨cl, Ac, r1, r2⟩ := A'
  obtain ⟨T', h', X', e', W', st⟩ := stJ X hx hZ eT Ac (j := j) (x := x) (by subst r2; simpa using hj) (g := mkF m pc L (.long x :: .int j :: .ref a :: S)) rfl rfl hd
  exact go st (K T' h' X' e' W' (Ary.same W' A))
theorem gCastore (X : Stand p l e R s m args below meth c T locs cells slots) (hx : p.tables.exec = Jvm.exec) (hZ : Z.Warmed39 s.vm) (eT : T.heap = h) (A : Ary Z h a k .char vs) {j x : Int32} (hd : decode c.code pc = .ok (.castore, 1)) (hq : pc + 1 = q) (hj : ¬ (j < 0 ∨ vs.length ≤ j.toNatClampNeg))
    (K : ∀ T' h', Stand p l e R s m args below meth c T' (locs ++ [⟨a, j.toNatClampNeg⟩]) cells slots → T'.heap = h' → Wr h h' a j.toNatClampNeg (.int (nar .char x)) → Ary Z h' a k .char (vs.set j.toNatClampNeg (.int (nar .char x))) → Go p.tables e below P (T'.setTop (mkF m q L (S)))) : Go p.tables e below P (T.setTop (mkF m pc L (.int x :: .int j :: .ref a :: S))) := by
  subst hq
  have A' := A
  obtain ⟨cl, Ac, r1, r2⟩ := A'
  obtain ⟨T', h', X', e', W', st⟩ := stC X hx hZ eT Ac (j := j) (x := x) (by subst r2; simpa using hj) (g := mkF m pc L (.int x :: .int j :: .ref a :: S)) rfl rfl hd
  exact go st (K T' h' X' e' W' (Ary.same W' A))
theorem gAastore (X : Stand p l e R s m args below meth c T locs cells slots) (hx : p.tables.exec = Jvm.exec) (hZ : Z.Warmed39 s.vm) (eT : T.heap = h) {ty : FieldType} (A : Ary Z h a k ty vs) (ht : ty.isReference = true) {j : Int32} {v : Value} (F : Sto Z h a v) (hd : decode c.code pc = .ok (.aastore, 1)) (hq : pc + 1 = q) (hj : ¬ (j < 0 ∨ vs.length ≤ j.toNatClampNeg))
    (K : ∀ T' h', Stand p l e R s m args below meth c T' (locs ++ [⟨a, j.toNatClampNeg⟩]) cells slots → T'.heap = h' → Wr h h' a j.toNatClampNeg v → Ary Z h' a k ty (vs.set j.toNatClampNeg v) → Go p.tables e below P (T'.setTop (mkF m q L (S)))) : Go p.tables e below P (T.setTop (mkF m pc L (v :: .int j :: .ref a :: S))) := by
  subst hq
  have A' := A
  obtain ⟨cl, Ac, r1, r2⟩ := A'
  obtain ⟨T', h', X', e', W', st⟩ := stR X hx hZ eT Ac (j := j) (by subst r2; simpa using hj) ht F (g := mkF m pc L (v :: .int j :: .ref a :: S)) rfl rfl hd
  exact go st (K T' h' X' e' W' (Ary.same W' A))
theorem Sto.ofA {Z : State} {h : Heap} {a y : Addr} {k : ClassId} {ty : FieldType} {vs : List Value} {C : String} (A : Ary Z h a k ty vs) (O : Ovr Z k C) (I : Ins Z h y C true) : Sto Z h a (.ref y) := by obtain ⟨c, Ac, r, -⟩ := A; exact Sto.ofV Ac r O I
theorem gNewP (X : Stand p l e R s m args below meth c T locs cells slots) (hx : p.tables.exec = Jvm.exec) (hZ : Z.Warmed39 s.vm) {aty : ArrayType} (w : (Jvm.Cond.arrayClass (newarray.typeOf aty)).before a0 Z = true) (eT : T.heap = h) (hd : decode c.code pc = .ok (.newarray aty, 2)) (hq : pc + 2 = q) {n : Int32} (hn : ¬ n < 0) {cap : Nat} (hcap : n.toNatClampNeg ≤ cap) (hb : cap * 8 ≤ 536870912) (hc : cells + 1 ≤ R.cells) (hl : slots + cap ≤ R.slots)
    (K : ∀ T' h' a cA, Stand p l e R s m args below meth c T' locs (cells + 1) (slots + cap) → T'.heap = h' → a = h.size → Ext h h' → Ary Z h' a cA (newarray.typeOf aty) (List.replicate n.toNatClampNeg (defaultValue (newarray.typeOf aty))) → Go p.tables e below P (T'.setTop (mkF m q L (.ref a :: S)))) : Go p.tables e below P (T.setTop (mkF m pc L (.int n :: S))) := by
  subst hq
  obtain ⟨T', h', cA, X', e', E', A', st⟩ := newP X hx hZ w eT (g := mkF m pc L (.int n :: S)) rfl hd rfl hn hcap hb hc hl
  exact go st (K T' h' _ cA X' e' rfl E' (Ary.new A'))
theorem gNewR (X : Stand p l e R s m args below meth c T locs cells slots) (hx : p.tables.exec = Jvm.exec) (hZ : Z.Warmed39 s.vm) {own C : String} {i : Nat} (hown : s.vm.findClass own = some m.cls) (w1 : (Jvm.Cond.classLink own i C).before a0 Z = true) (w2 : (Jvm.Cond.arrayOver (.object C)).before a0 Z = true) (eT : T.heap = h) (hd : decode c.code pc = .ok (.anewarray i, 3)) (hq : pc + 3 = q) {n : Int32} (hn : ¬ n < 0) {cap : Nat} (hcap : n.toNatClampNeg ≤ cap) (hb : cap * 8 ≤ 536870912) (hc : cells + 1 ≤ R.cells) (hl : slots + cap ≤ R.slots)
    (K : ∀ T' h' a cA, Stand p l e R s m args below meth c T' locs (cells + 1) (slots + cap) → T'.heap = h' → a = h.size → Ext h h' → Ary Z h' a cA (.object C) (List.replicate n.toNatClampNeg .null) → Ovr Z cA C → Go p.tables e below P (T'.setTop (mkF m q L (.ref a :: S)))) : Go p.tables e below P (T.setTop (mkF m pc L (.int n :: S))) := by
  subst hq
  obtain ⟨T', h', cA, X', e', E', A', O', st⟩ := newR X hx hZ hown w1 w2 eT (g := mkF m pc L (.int n :: S)) rfl hd rfl hn hcap hb hc hl
  exact go st (K T' h' _ cA X' e' rfl E' (Ary.new A') O')
end Steps3
end Jvm.OwnKit
namespace Jvm.OwnKit
open Sem ClassFile Op Lib Jvm.Stand Jvm.Free Jvm.LawKit Jvm.RoadKit
theorem own_inst {Z : State} {a0 : Array Value} {K : String} {n : Nat} (w : (Jvm.Cond.instantiable K n).before a0 Z = true) : ∃ t k, Z.vm.findClass K = some t ∧ Z.vm.classes[t]? = some k ∧ k.kind = .ordinary ∧ k.isInterface = false := by
  obtain ⟨t, k, h1, h2, h3, h4, -⟩ := Cond.instantiable_spec w
  exact ⟨t, k, h1, h2, h3, by simp only [Bool.or_eq_false_iff] at h4; exact h4.1⟩
theorem own_nsRoot {Z : State} {a0 : Array Value} {O K : String} {n : Nat} (w : (Jvm.Cond.noSuperclass O).before a0 Z = true) (wk : (Jvm.Cond.instantiable K n).before a0 Z = true) (hn : O ≠ K) : NS Z O K := by
  obtain ⟨c, k, h1, h2, h3, -, -⟩ := Cond.noSuperclass_spec w
  obtain ⟨t, k', g1, -⟩ := own_inst wk
  have ne := ids_ne h1 g1 hn
  refine ⟨c, t, h1, g1, fun fuel => ?_⟩
  cases fuel with
  | zero => rfl
  | succ f => simp [Vm.isSubclassAux, ne, h2, h3]
theorem own_nsNo {Z : State} {a0 : Array Value} {C S K : String} {n : Nat} (w : (Jvm.Cond.superclass C S).before a0 Z = true) (wk : (Jvm.Cond.instantiable K n).before a0 Z = true) (m : NS Z C K) (hn : C ≠ K) : ∃ c t, Z.vm.findClass C = some c ∧ Z.vm.findClass K = some t ∧ Z.vm.assignable c t = false := by
  obtain ⟨c, t, h0, g0, n3⟩ := m
  obtain ⟨p, k, kp, h1, h2, h3, h4, h5, -, h7⟩ := Cond.superclass_spec h0 w
  obtain ⟨t', k', g1, g2, g3, g4⟩ := own_inst wk
  cases g0.symm.trans g1
  have ne := ids_ne h0 g0 hn
  refine ⟨c, t, h0, g0, ?_⟩
  show Z.vm.assignableAux (255 + 1) c t = false
  simp [Vm.assignableAux, ne, h2, g2, h5, g3, g4, Vm.isSubclass, n3]
section Steps4
variable {p : Program} {l : Launch} {e : Env} {R : Room} {s : State} {m : MethodId} {args : Array Value} {below : List Frame} {meth : Method} {c : Code} {T : State} {locs : List Loc} {cells slots : Nat} {P : State → Outcome → Prop} {pc q : Nat} {L L' : Array Slot} {S : List Value} {Z : State} {a0 : Array Value} {h : Heap} {a : Addr}
theorem gInstY (X : Stand p l e R s m args below meth c T locs cells slots) (hx : p.tables.exec = Jvm.exec) (hZ : Z.Warmed39 s.vm) {own K : String} {i : Nat} (hown : s.vm.findClass own = some m.cls) (w : (Jvm.Cond.classLink own i K).before a0 Z = true) (eT : T.heap = h) (F : Ins Z h a K true) (hd : decode c.code pc = .ok (.instanceof i, 3)) (hq : pc + 3 = q)
    (K1 : ∀ T', Stand p l e R s m args below meth c T' locs cells slots → T'.heap = h → Go p.tables e below P (T'.setTop (mkF m q L (.int 1 :: S)))) : Go p.tables e below P (T.setTop (mkF m pc L (.ref a :: S))) := by
  subst hq
  obtain ⟨T', X', e', st⟩ := instY X hx hZ hown w eT F (g := mkF m pc L (.ref a :: S)) rfl rfl hd
  exact go st (K1 T' X' e')
theorem gInstNo (X : Stand p l e R s m args below meth c T locs cells slots) (hx : p.tables.exec = Jvm.exec) (hZ : Z.Warmed39 s.vm) {own K C : String} {i : Nat} (hown : s.vm.findClass own = some m.cls) (w : (Jvm.Cond.classLink own i K).before a0 Z = true) (eT : T.heap = h) (E : Exa Z h a C) (F : ∃ c t, Z.vm.findClass C = some c ∧ Z.vm.findClass K = some t ∧ Z.vm.assignable c t = false) (hd : decode c.code pc = .ok (.instanceof i, 3)) (hq : pc + 3 = q)
    (K1 : ∀ T', Stand p l e R s m args below meth c T' locs cells slots → T'.heap = h → Go p.tables e below P (T'.setTop (mkF m q L (.int 0 :: S)))) : Go p.tables e below P (T.setTop (mkF m pc L (.ref a :: S))) := by
  subst hq
  obtain ⟨T', X', e', st⟩ := instNo X hx hZ hown w eT E F (g := mkF m pc L (.ref a :: S)) rfl rfl hd
  exact go st (K1 T' X' e')
theorem gInstNull (X : Stand p l e R s m args below meth c T locs cells slots) (hx : p.tables.exec = Jvm.exec) {i : Nat} (hd : decode c.code pc = .ok (.instanceof i, 3)) (hq : pc + 3 = q) (K1 : Go p.tables e below P (T.setTop (mkF m q L (.int 0 :: S)))) : Go p.tables e below P (T.setTop (mkF m pc L (.null :: S))) := by
  subst hq
  exact go (fun t k => X.instanceofNull hx (g := mkF m pc L (.null :: S)) rfl rfl hd _ k) K1
theorem gCastY (X : Stand p l e R s m args below meth c T locs cells slots) (hx : p.tables.exec = Jvm.exec) (hZ : Z.Warmed39 s.vm) {own K : String} {i : Nat} (hown : s.vm.findClass own = some m.cls) (w : (Jvm.Cond.classLink own i K).before a0 Z = true) (eT : T.heap = h) (F : Ins Z h a K true) (hd : decode c.code pc = .ok (.checkcast i, 3)) (hq : pc + 3 = q)
    (K1 : ∀ T', Stand p l e R s m args below meth c T' locs cells slots → T'.heap = h → Go p.tables e below P (T'.setTop (mkF m q L (.ref a :: S)))) : Go p.tables e below P (T.setTop (mkF m pc L (.ref a :: S))) := by
  subst hq
  obtain ⟨T', X', e', st⟩ := castY X hx hZ hown w eT F (g := mkF m pc L (.ref a :: S)) rfl rfl hd
  exact go st (K1 T' X' e')
end Steps4
end Jvm.OwnKit
namespace Jvm.OwnKit
open Sem ClassFile Op Lib Jvm.Stand Jvm.Free Jvm.LawKit Jvm.RoadKit
theorem own_lenlt {args : Array Value} {first s : State} {o : Option Outcome} {idx : List Nat} {t : Term} {a : Addr} {cl : Cell} {v : Value} (ev : t.eval args first o idx s = some (.ref a)) (hat : s.arrayAt? a = some cl) (h : (Term.length t).eval args first o idx s = some v) : cl.slots.size < 2 ^ 31 := by
  simp [Term.eval, ev, hat] at h
  exact h.1
theorem own_cache {s : State} {args : Array Value} (hf : Fit s) (w1 : (Jvm.Cond.initializedFor "java/lang/Integer$IntegerCache" "high" "I").before args s = true) (w2 : (Jvm.Cond.eq (Term.static "java/lang/Integer$IntegerCache" "high" "I") (Term.int 127)).before args s = true)
    (w3 : (Jvm.Cond.initialized "java/lang/Integer$IntegerCache").before args s = true) (w4 : (Jvm.Cond.laysStatic "java/lang/Integer$IntegerCache" "cache" "[Ljava/lang/Integer;").before args s = true) (w5 : (Jvm.Cond.arrayOf (Term.static "java/lang/Integer$IntegerCache" "cache" "[Ljava/lang/Integer;") (.object "java/lang/Integer")).before args s = true)
    (w6 : (Jvm.Cond.eq (Term.length (Term.static "java/lang/Integer$IntegerCache" "cache" "[Ljava/lang/Integer;")) (Term.int 256)).before args s = true)
    (w7 : (Jvm.Cond.all (Term.static "java/lang/Integer$IntegerCache" "cache" "[Ljava/lang/Integer;") (Jvm.Cond.and (Jvm.Cond.exactly (Term.elem (Term.static "java/lang/Integer$IntegerCache" "cache" "[Ljava/lang/Integer;") (Term.index 0)) "java/lang/Integer") (Jvm.Cond.eq (Term.field (Term.elem (Term.static "java/lang/Integer$IntegerCache" "cache" "[Ljava/lang/Integer;") (Term.index 0)) "java/lang/Integer" "value" "I") (Term.sub (Term.index 0) (Term.int 128))))).before args s = true) :
    Sta s s.heap "java/lang/Integer$IntegerCache" "high" "I" (.int 127) ∧ ∃ (rc : Addr) (kc : ClassId) (vc : List Value), Sta s s.heap "java/lang/Integer$IntegerCache" "cache" "[Ljava/lang/Integer;" (.ref rc) ∧ Ary s s.heap rc kc (.object "java/lang/Integer") vc ∧ vc.length = 256 ∧ ∀ j : Nat, j < 256 → ∃ r, vc[j]? = some (.ref r) ∧ Exa s s.heap r "java/lang/Integer" := by
  have w2' := Cond.before_iff.mp w2
  obtain ⟨u, w, h1, h2, h3, h4⟩ := cmp_v (Or.inl w2')
  obtain rfl : w = .int 127 := Option.some.inj (h2.symm.trans (Term.int_eval 127))
  obtain ⟨z, rfl⟩ := h4
  have hz : z = 127 := gotT (Cond.eq_ints h1 h2) w2'
  subst hz
  have SH := Sta.start h1 (Or.inl w1)
  have w5' := Cond.before_iff.mp w5
  obtain ⟨rc, ev⟩ := arr_v w5'
  obtain ⟨cl, A⟩ := Arr.start ev w5'
  have SC := Sta.start ev (Or.inr ⟨w3, w4⟩)
  have hal : s.vm.Alike s.vm := Vm.Alike.refl _
  have hat := Arr.fin hal A
  have w6' := Cond.before_iff.mp w6
  obtain ⟨u, w, g1, g2, g3, g4⟩ := cmp_v (Or.inl w6')
  obtain rfl : w = .int 256 := Option.some.inj (g2.symm.trans (Term.int_eval 256))
  obtain ⟨z, rfl⟩ := g4
  have hz : z = 256 := gotT (Cond.eq_ints g1 g2) w6'
  subst hz
  obtain ⟨b, cell, e1, e2, e3⟩ := Term.length_spec g1
  obtain rfl : rc = b := by have := ev.symm.trans e1; exact Value.ref.inj (Option.some.inj this)
  obtain rfl : cl = cell := Option.some.inj (hat.symm.trans e2)
  have hlt : cl.slots.size < 2 ^ 31 := own_lenlt ev hat g1
  have hsz : cl.slots.size = 256 := by
    have e4 := congrArg Int32.toInt (Value.int.inj e3)
    rw [len_toInt hlt] at e4
    have e5 : (256 : Int32).toInt = 256 := rfl
    omega
  have w7' := Cond.before_iff.mp w7
  refine ⟨SH, rc, cl.cls, cl.slots.toList, SC, ⟨cl, A, rfl, rfl⟩, by simpa using hsz, fun j hj => ?_⟩
  have hall := Cond.all_elim ev hat w7' j (by rw [hsz]; exact hj)
  obtain ⟨k1, -⟩ := and_e hall
  obtain ⟨r, er⟩ := exa_v k1
  have E := exa_at er k1
  have evj : (Term.static "java/lang/Integer$IntegerCache" "cache" "[Ljava/lang/Integer;").eval args s none [j] s = some (.ref rc) := ev
  have hi : (Term.index 0).eval args s none [j] s = some (.int j.toInt32) := Term.index_eval j
  refine ⟨r, ?_, E⟩
  have q := elem_in er evj hi A.1
  have hjn : j.toInt32.toNatClampNeg = j := by
    have := len_toInt (n := j) (by omega)
    show j.toInt32.toInt.toNat = j
    rw [this]; rfl
  rw [hjn] at q
  rw [Array.getElem?_toList]
  exact q.2
end Jvm.OwnKit
namespace Jvm.Pilot.@@N@@
open Jvm Jvm.ClassFile Sem Op Lib Jvm.Free Jvm.Stand Jvm.LawKit Jvm.RoadKit Bundle Jvm.OwnKit Jvm.Pilot.@@N@@.Jvm.D
theorem d6_0 : decode jdk_18_method_1_code 0 = .ok (.aload_n 0, 1) := by decide +kernel
theorem d6_1 : decode jdk_18_method_1_code 1 = .ok (.invokespecial 1, 3) := by decide +kernel
theorem d6_4 : decode jdk_18_method_1_code 4 = .ok (.return_, 1) := by decide +kernel
theorem pn0 : plainName "java/lang/Number" = true := by first | (simp [plainName, overriddenIn]; done) | decide +kernel
theorem ef0 (m : MethodId) (x0 : Addr) : entryFrame m #[(.ref x0)] 1 = mkF m 0 #[.val (.ref x0)] [] := by first | (simp [entryFrame, mkF, argsToLocals, Value.category]; done) | rfl
def Q_rmNum (Z : State) (a : Addr) (h0 : Heap) (n0 : Nat) (v : Option Value) (h : Heap) (L : List Loc) : Prop := v = none ∧ Fr n0 L ∧ h = h0
set_option maxRecDepth 65536 in
set_option maxHeartbeats 40000000 in
theorem rmNum (l : Launch) (Z : State) (a0 : Array Value) (hw : ∀ d ∈ tables_1, d.before a0 Z = true) (ws : List Jvm.Cond) (a : Addr) (h0 : Heap) (n0 : Nat) (Z0 : n0 ≤ h0.size)  :
    Con l Z (⟨"java/lang/Number", "<init>", "()V"⟩ : MethodName) jdk_18_method_1_code 1 none ws ({ frames := 1, cells := 0, slots := 0, locals := 12 } : Room) #[(.ref a)] h0 (({ frames := 1, cells := 0, slots := 0, locals := 12 } : Room).cells) (({ frames := 1, cells := 0, slots := 0, locals := 12 } : Room).slots) (Q_rmNum Z a h0 n0) := by
  refine Con.of (plainFor_of_name pn0) ?_
  intro p e s m below meth c s₁ hx hby hml hown hnm hret hlk hZ X0 e0
  have N0 := Fr.nil n0
  refine goE (L := #[.val (.ref a)]) (ef0 m a) ?_
  refine gAloadN X0 hx (hb hby d6_0) (q := 1) rfl rfl rfl ?_
  refine gInitO X0 hx hZ hown (hw _ (List.mem_of_getElem? (i := 40) rfl)) (hw _ (List.mem_of_getElem? (i := 7) rfl)) (hw _ (List.mem_of_getElem? (i := 8) rfl)) e0 (by rw [hml]; rfl) (hb hby d6_1) (q := 4) rfl (by decide) (W := 0) (Nat.le_of_eq rfl) (by decide) (fun T1 X1 e1 => ?_)
  exact gRetV X1 hx hlk hret (hb hby d6_4) (by decide) (by decide) ⟨rfl, N0, e1⟩
theorem d5_0 : decode jdk_33_method_23_code 0 = .ok (.aload_n 0, 1) := by decide +kernel
theorem d5_1 : decode jdk_33_method_23_code 1 = .ok (.invokespecial 202, 3) := by decide +kernel
theorem d5_4 : decode jdk_33_method_23_code 4 = .ok (.aload_n 0, 1) := by decide +kernel
theorem d5_5 : decode jdk_33_method_23_code 5 = .ok (.iload_n 1, 1) := by decide +kernel
theorem d5_6 : decode jdk_33_method_23_code 6 = .ok (.putfield 205, 3) := by decide +kernel
theorem d5_9 : decode jdk_33_method_23_code 9 = .ok (.return_, 1) := by decide +kernel
theorem pn1 : plainName "java/lang/Integer" = true := by first | (simp [plainName, overriddenIn]; done) | decide +kernel
theorem ef1 (m : MethodId) (x0 : Addr) (x1 : Int32) : entryFrame m #[(.ref x0), (.int x1)] 2 = mkF m 0 #[.val (.ref x0), .val (.int x1)] [] := by first | (simp [entryFrame, mkF, argsToLocals, Value.category]; done) | rfl
def Q_rmInt (Z : State) (a : Addr) (x1 : Int32) (h0 : Heap) (n0 : Nat) (v : Option Value) (h : Heap) (L : List Loc) : Prop := v = none ∧ Fr n0 L ∧ Keep h0 h [a] ∧ Exa Z h a "java/lang/Integer" ∧ Fld Z h a "java/lang/Integer" "value" "I" (.int x1)
theorem pd0 : parseMethodDescriptor "()V" = some ⟨[], none⟩ := by decide +kernel
set_option maxRecDepth 65536 in
set_option maxHeartbeats 40000000 in
theorem rmInt (l : Launch) (Z : State) (a0 : Array Value) (hw : ∀ d ∈ tables_1, d.before a0 Z = true) (ws : List Jvm.Cond) (a : Addr) (x1 : Int32) (h0 : Heap) (n0 : Nat) (Z0 : n0 ≤ h0.size) (F1 : Fld Z h0 a "java/lang/Integer" "value" "I" (.int (0 : Int32))) (E1 : Exa Z h0 a "java/lang/Integer") (la : n0 ≤ a) :
    Con l Z (⟨"java/lang/Integer", "<init>", "(I)V"⟩ : MethodName) jdk_33_method_23_code 2 none ws ({ frames := 2, cells := 0, slots := 0, locals := 24 } : Room) #[(.ref a), (.int x1)] h0 (({ frames := 2, cells := 0, slots := 0, locals := 24 } : Room).cells) (({ frames := 2, cells := 0, slots := 0, locals := 24 } : Room).slots) (Q_rmInt Z a x1 h0 n0) := by
  refine Con.of (plainFor_of_name pn1) ?_
  intro p e s m below meth c s₁ hx hby hml hown hnm hret hlk hZ X0 e0
  have N0 := Fr.nil n0
  refine goE (L := #[.val (.ref a), .val (.int x1)]) (ef1 m a x1) ?_
  refine gAloadN X0 hx (hb hby d5_0) (q := 1) rfl rfl rfl ?_
  refine gCallN X0 hx hZ rfl hown (hw _ (List.mem_of_getElem? (i := 34) rfl)) (hw _ (List.mem_of_getElem? (i := 35) rfl)) (hw _ (List.mem_of_getElem? (i := 38) rfl)) (hw _ (List.mem_of_getElem? (i := 39) rfl)) (by decide) (rmNum l Z a0 hw [] a h0 n0 Z0) (W := 0) (by decide) (by decide) e0 (by rw [hml]; rfl) [] (lenOf pd0 rfl) rfl (S := []) rfl (Nat.le_of_eq rfl) (hb hby d5_1) (q := 4) rfl (by decide) (by decide) (fun r1 T1 M1 X1 q1 => ?_)
  obtain ⟨rfl, M1n, e1⟩ := q1
  have N2 := Fr.app N0 M1n
  dsimp only [Option.toList, List.cons_append, List.nil_append]
  refine gAloadN X1 hx (hb hby d5_4) (q := 5) rfl rfl rfl ?_
  refine gIloadN X1 hx (hb hby d5_5) (q := 6) rfl rfl ?_
  refine gPutF X1 hx hZ (host := "") hown (Or.inl (hw _ (List.mem_of_getElem? (i := 41) rfl))) Via.refl e1 F1 E1 (Or.inr ⟨(hw _ (List.mem_of_getElem? (i := 42) rfl)), rfl, hnm⟩) (hw _ (List.mem_of_getElem? (i := 29) rfl)) (ty := .int) (by decide) rfl rfl (hb hby d5_6) (q := 9) rfl (fun T3 h3 X3 e3 W3 => ?_)
  have N4 := Fr.snoc X3 N2 la
  have K5 := (Keep.refl h0 [a]).wr W3 (Or.inl (List.mem_of_getElem? (i := 0) rfl))
  have F6 := Fld.same W3 F1
  have E7 := Exa.wr W3 E1
  have Z8 : n0 ≤ h3.size := by rw [W3.size]; exact Z0
  exact gRetV X3 hx hlk hret (hb hby d5_9) (by decide) (by decide) (by rw [e3]; exact ⟨rfl, N4, K5, E7, F6⟩)
theorem own_cacheIdx {x : Int32} {vs : List Value} (h1 : ¬ x < (-128 : Int32)) (h2 : ¬ (127 : Int32) < x) (hl : vs.length = 256) : ¬ ((x + (128 : Int32)) < 0 ∨ vs.length ≤ (x + (128 : Int32)).toNatClampNeg) := by
  rw [Int32.lt_iff_toInt_lt] at h1 h2
  have e1 : (-128 : Int32).toInt = -128 := rfl
  have e2 : (127 : Int32).toInt = 127 := rfl
  have e3 := c_iadd x 128
  have e4 : (128 : Int32).toInt = 128 := rfl
  have r1 := rng32 x
  have r2 := rng32 (x + 128)
  have e5 : (x + 128).toInt = x.toInt + 128 := by omega
  have e6 : (0 : Int32).toInt = 0 := rfl
  have hnn : ¬ (x + 128) < 0 := by rw [Int32.lt_iff_toInt_lt]; omega
  have e7 := nat_of hnn
  rintro (h | h)
  · exact hnn h
  · omega
theorem d4_0 : decode jdk_33_method_22_code 0 = .ok (.iload_n 0, 1) := by decide +kernel
theorem d4_1 : decode jdk_33_method_22_code 1 = .ok (.bipush (-128), 2) := by decide +kernel
theorem d4_3 : decode jdk_33_method_22_code 3 = .ok (.if_icmp .lt 20, 3) := by decide +kernel
theorem d4_6 : decode jdk_33_method_22_code 6 = .ok (.iload_n 0, 1) := by decide +kernel
theorem d4_7 : decode jdk_33_method_22_code 7 = .ok (.getstatic 191, 3) := by decide +kernel
theorem d4_10 : decode jdk_33_method_22_code 10 = .ok (.if_icmp .gt 13, 3) := by decide +kernel
theorem d4_13 : decode jdk_33_method_22_code 13 = .ok (.getstatic 195, 3) := by decide +kernel
theorem d4_16 : decode jdk_33_method_22_code 16 = .ok (.iload_n 0, 1) := by decide +kernel
theorem d4_17 : decode jdk_33_method_22_code 17 = .ok (.sipush 128, 3) := by decide +kernel
theorem d4_20 : decode jdk_33_method_22_code 20 = .ok (.iadd, 1) := by decide +kernel
theorem d4_21 : decode jdk_33_method_22_code 21 = .ok (.aaload, 1) := by decide +kernel
theorem d4_22 : decode jdk_33_method_22_code 22 = .ok (.areturn, 1) := by decide +kernel
theorem d4_23 : decode jdk_33_method_22_code 23 = .ok (.new 1, 3) := by decide +kernel
theorem d4_26 : decode jdk_33_method_22_code 26 = .ok (.dup, 1) := by decide +kernel
theorem d4_27 : decode jdk_33_method_22_code 27 = .ok (.iload_n 0, 1) := by decide +kernel
theorem d4_28 : decode jdk_33_method_22_code 28 = .ok (.invokespecial 199, 3) := by decide +kernel
theorem d4_31 : decode jdk_33_method_22_code 31 = .ok (.areturn, 1) := by decide +kernel
theorem ef2 (m : MethodId) (x0 : Int32) : entryFrame m #[(.int x0)] 1 = mkF m 0 #[.val (.int x0)] [] := by first | (simp [entryFrame, mkF, argsToLocals, Value.category]; done) | rfl
def Q_rmVal (Z : State) (x0 : Int32) (rc : Addr) (kc : ClassId) (vc : List Value) (h0 : Heap) (n0 : Nat) (v : Option Value) (h : Heap) (L : List Loc) : Prop := ∃ r, v = some (.ref r) ∧ Fr n0 L ∧ Keep h0 h [] ∧ Exa Z h r "java/lang/Integer"
theorem pd1 : parseMethodDescriptor "(I)V" = some ⟨[.int], none⟩ := by decide +kernel
set_option maxRecDepth 65536 in
set_option maxHeartbeats 40000000 in
theorem rmVal (l : Launch) (Z : State) (a0 : Array Value) (hw : ∀ d ∈ tables_1, d.before a0 Z = true) (ws : List Jvm.Cond) (x0 : Int32) (rc : Addr) (kc : ClassId) (vc : List Value) (h0 : Heap) (n0 : Nat) (Z0 : n0 ≤ h0.size) (SH : Sta Z h0 "java/lang/Integer$IntegerCache" "high" "I" (.int 127)) (SC : Sta Z h0 "java/lang/Integer$IntegerCache" "cache" "[Ljava/lang/Integer;" (.ref rc)) (AC : Ary Z h0 rc kc (.object "java/lang/Integer") vc) (hlen : vc.length = 256) (HC : ∀ j : Nat, j < 256 → ∃ r, vc[j]? = some (.ref r) ∧ Exa Z h0 r "java/lang/Integer") :
    Con l Z (⟨"java/lang/Integer", "valueOf", "(I)Ljava/lang/Integer;"⟩ : MethodName) jdk_33_method_22_code 1 (some (.object "java/lang/Integer")) ws ({ frames := 3, cells := 1, slots := 1, locals := 38 } : Room) #[(.int x0)] h0 (({ frames := 3, cells := 1, slots := 1, locals := 38 } : Room).cells) (({ frames := 3, cells := 1, slots := 1, locals := 38 } : Room).slots) (Q_rmVal Z x0 rc kc vc h0 n0) := by
  refine Con.of (plainFor_of_name pn1) ?_
  intro p e s m below meth c s₁ hx hby hml hown hnm hret hlk hZ X0 e0
  have N0 := Fr.nil n0
  refine goE (L := #[.val (.int x0)]) (ef2 m x0) ?_
  refine gIloadN X0 hx (hb hby d4_0) (q := 1) rfl rfl ?_
  refine gBipush X0 hx (-128 : Int32) (hb hby d4_1) (q := 3) rfl (by decide) ?_
  by_cases c1 : x0 < (-128 : Int32)
  · refine gIcmpY X0 hx (hb hby d4_3) (q := 23) (by decide) (by decide) (XT.ii_lt_t c1) ?_
    refine gNewO X0 hx hZ hown (hw _ (List.mem_of_getElem? (i := 28) rfl)) (hw _ (List.mem_of_getElem? (i := 29) rfl)) (hw _ (List.mem_of_getElem? (i := 20) rfl)) e0 (hb hby d4_23) (q := 26) rfl (by decide) (by decide) (fun T2 h2 a2 X2 e2 g2 E2 A2 D2 => ?_)
    have S3 := Sta.ext E2 SH
    have S4 := Sta.ext E2 SC
    have le_a2 : n0 ≤ a2 := by rw [g2]; exact Z0
    have Z5 := Nat.le_trans Z0 E2.1
    have F6 : Fld Z h2 a2 "java/lang/Integer" "value" "I" (.int (0 : Int32)) := D2 (Or.inr (hw _ (List.mem_of_getElem? (i := 42) rfl))) (ty := .int) (by decide)
    clear D2
    have KI := (Keep.refl h0 []).ext E2
    refine gDup X2 hx (hb hby d4_26) (q := 27) rfl rfl ?_
    refine gIloadN X2 hx (hb hby d4_27) (q := 28) rfl rfl ?_
    refine gCallN X2 hx hZ rfl hown (hw _ (List.mem_of_getElem? (i := 30) rfl)) (hw _ (List.mem_of_getElem? (i := 31) rfl)) (hw _ (List.mem_of_getElem? (i := 20) rfl)) (hw _ (List.mem_of_getElem? (i := 33) rfl)) (by decide) (rmInt l Z a0 hw [] a2 x0 h2 n0 Z5 F6 A2 le_a2) (W := 1) (by decide) (by decide) e2 (by rw [hml]; rfl) [(.int x0)] (lenOf pd1 rfl) rfl (S := [(.ref a2)]) rfl (Nat.le_of_eq rfl) (hb hby d4_28) (q := 31) rfl (by decide) (by decide) (fun r7 T7 M7 X7 q7 => ?_)
    obtain ⟨rfl, M7n, K7, P7e, P7m⟩ := q7
    have N8 := Fr.app N0 M7n
    have Z9 := Nat.le_trans Z5 K7.1
    have KK10 := KI.trans K7 (allS (Or.inr (Nat.le_of_eq g2.symm)) all0)
    dsimp only [Option.toList, List.cons_append, List.nil_append]
    exact gRetA X7 hx hlk hret rfl rfl (hb hby d4_31) (by decide) (by decide) (by exact ⟨_, rfl, N8, KK10, P7e⟩)
  · refine gIcmpN X0 hx (hb hby d4_3) (q := 6) rfl (XT.ii_lt_f c1) ?_
    refine gIloadN X0 hx (hb hby d4_6) (q := 7) rfl rfl ?_
    refine gGetS X0 hx hZ hown (hw _ (List.mem_of_getElem? (i := 22) rfl)) Via.refl e0 SH (hb hby d4_7) (q := 10) rfl (fun T11 X11 e11 => ?_)
    by_cases c12 : (127 : Int32) < x0
    · refine gIcmpY X11 hx (hb hby d4_10) (q := 23) (by decide) (by decide) (XT.ii_gt_t c12) ?_
      refine gNewO X11 hx hZ hown (hw _ (List.mem_of_getElem? (i := 28) rfl)) (hw _ (List.mem_of_getElem? (i := 29) rfl)) (hw _ (List.mem_of_getElem? (i := 20) rfl)) e11 (hb hby d4_23) (q := 26) rfl (by decide) (by decide) (fun T13 h13 a13 X13 e13 g13 E13 A13 D13 => ?_)
      have S14 := Sta.ext E13 SH
      have S15 := Sta.ext E13 SC
      have le_a13 : n0 ≤ a13 := by rw [g13]; exact Z0
      have Z16 := Nat.le_trans Z0 E13.1
      have F17 : Fld Z h13 a13 "java/lang/Integer" "value" "I" (.int (0 : Int32)) := D13 (Or.inr (hw _ (List.mem_of_getElem? (i := 42) rfl))) (ty := .int) (by decide)
      clear D13
      have KI := (Keep.refl h0 []).ext E13
      refine gDup X13 hx (hb hby d4_26) (q := 27) rfl rfl ?_
      refine gIloadN X13 hx (hb hby d4_27) (q := 28) rfl rfl ?_
      refine gCallN X13 hx hZ rfl hown (hw _ (List.mem_of_getElem? (i := 30) rfl)) (hw _ (List.mem_of_getElem? (i := 31) rfl)) (hw _ (List.mem_of_getElem? (i := 20) rfl)) (hw _ (List.mem_of_getElem? (i := 33) rfl)) (by decide) (rmInt l Z a0 hw [] a13 x0 h13 n0 Z16 F17 A13 le_a13) (W := 1) (by decide) (by decide) e13 (by rw [hml]; rfl) [(.int x0)] (lenOf pd1 rfl) rfl (S := [(.ref a13)]) rfl (Nat.le_of_eq rfl) (hb hby d4_28) (q := 31) rfl (by decide) (by decide) (fun r18 T18 M18 X18 q18 => ?_)
      obtain ⟨rfl, M18n, K18, P18e, P18m⟩ := q18
      have N19 := Fr.app N0 M18n
      have Z20 := Nat.le_trans Z16 K18.1
      have KK21 := KI.trans K18 (allS (Or.inr (Nat.le_of_eq g13.symm)) all0)
      dsimp only [Option.toList, List.cons_append, List.nil_append]
      exact gRetA X18 hx hlk hret rfl rfl (hb hby d4_31) (by decide) (by decide) (by exact ⟨_, rfl, N19, KK21, P18e⟩)
    · refine gIcmpN X11 hx (hb hby d4_10) (q := 13) rfl (XT.ii_gt_f c12) ?_
      refine gGetS X11 hx hZ hown (hw _ (List.mem_of_getElem? (i := 24) rfl)) Via.refl e11 SC (hb hby d4_13) (q := 16) rfl (fun T22 X22 e22 => ?_)
      refine gIloadN X22 hx (hb hby d4_16) (q := 17) rfl rfl ?_
      refine gSipush X22 hx (128 : Int32) (hb hby d4_17) (q := 20) rfl (by decide) ?_
      refine gIadd X22 hx (hb hby d4_20) (q := 21) rfl ?_
      have hjr : ¬ ((x0 + (128 : Int32)) < 0 ∨ vc.length ≤ (x0 + (128 : Int32)).toNatClampNeg) := own_cacheIdx c1 c12 hlen
      obtain ⟨rr, hrr, ER⟩ := HC (x0 + (128 : Int32)).toNatClampNeg (by rw [← hlen]; exact Nat.lt_of_not_le fun z => hjr (Or.inr z))
      refine gAaload X22 hx hZ e22 AC rfl (hb hby d4_21) (q := 22) rfl hjr hrr ?_
      exact gRetA X22 hx hlk hret rfl rfl (hb hby d4_22) (by decide) (by decide) (by rw [e22]; exact ⟨_, rfl, N0, (Keep.refl _ _), ER⟩)
theorem d1_0 : decode prog_24_method_1_code 0 = .ok (.aload_n 0, 1) := by decide +kernel
theorem d1_1 : decode prog_24_method_1_code 1 = .ok (.invokespecial 1, 3) := by decide +kernel
theorem d1_4 : decode prog_24_method_1_code 4 = .ok (.aload_n 0, 1) := by decide +kernel
theorem d1_5 : decode prog_24_method_1_code 5 = .ok (.iload_n 1, 1) := by decide +kernel
theorem d1_6 : decode prog_24_method_1_code 6 = .ok (.putfield 7, 3) := by decide +kernel
theorem d1_9 : decode prog_24_method_1_code 9 = .ok (.return_, 1) := by decide +kernel
theorem pn2 : plainName "com/example/tintfold/tintfold/Colour" = true := by first | (simp [plainName, overriddenIn]; done) | decide +kernel
theorem ef3 (m : MethodId) (x0 : Addr) (x1 : Int32) : entryFrame m #[(.ref x0), (.int x1)] 2 = mkF m 0 #[.val (.ref x0), .val (.int x1)] [] := by first | (simp [entryFrame, mkF, argsToLocals, Value.category]; done) | rfl
def Q_rmCol (Z : State) (a : Addr) (x1 : Int32) (h0 : Heap) (n0 : Nat) (v : Option Value) (h : Heap) (L : List Loc) : Prop := v = none ∧ Fr n0 L ∧ Keep h0 h [a] ∧ Exa Z h a "com/example/tintfold/tintfold/Colour" ∧ Fld Z h a "com/example/tintfold/tintfold/Colour" "argb" "I" (.int x1)
set_option maxRecDepth 65536 in
set_option maxHeartbeats 40000000 in
theorem rmCol (l : Launch) (Z : State) (a0 : Array Value) (hw : ∀ d ∈ tables_1, d.before a0 Z = true) (ws : List Jvm.Cond) (a : Addr) (x1 : Int32) (h0 : Heap) (n0 : Nat) (Z0 : n0 ≤ h0.size) (F1 : Fld Z h0 a "com/example/tintfold/tintfold/Colour" "argb" "I" (.int (0 : Int32))) (E1 : Exa Z h0 a "com/example/tintfold/tintfold/Colour") (la : n0 ≤ a) :
    Con l Z (⟨"com/example/tintfold/tintfold/Colour", "<init>", "(I)V"⟩ : MethodName) prog_24_method_1_code 2 none ws ({ frames := 1, cells := 0, slots := 0, locals := 12 } : Room) #[(.ref a), (.int x1)] h0 (({ frames := 1, cells := 0, slots := 0, locals := 12 } : Room).cells) (({ frames := 1, cells := 0, slots := 0, locals := 12 } : Room).slots) (Q_rmCol Z a x1 h0 n0) := by
  refine Con.of (plainFor_of_name pn2) ?_
  intro p e s m below meth c s₁ hx hby hml hown hnm hret hlk hZ X0 e0
  have N0 := Fr.nil n0
  refine goE (L := #[.val (.ref a), .val (.int x1)]) (ef3 m a x1) ?_
  refine gAloadN X0 hx (hb hby d1_0) (q := 1) rfl rfl rfl ?_
  refine gInitO X0 hx hZ hown (hw _ (List.mem_of_getElem? (i := 6) rfl)) (hw _ (List.mem_of_getElem? (i := 7) rfl)) (hw _ (List.mem_of_getElem? (i := 8) rfl)) e0 (by rw [hml]; rfl) (hb hby d1_1) (q := 4) rfl (by decide) (W := 0) (Nat.le_of_eq rfl) (by decide) (fun T1 X1 e1 => ?_)
  refine gAloadN X1 hx (hb hby d1_4) (q := 5) rfl rfl rfl ?_
  refine gIloadN X1 hx (hb hby d1_5) (q := 6) rfl rfl ?_
  refine gPutF X1 hx hZ (host := "") hown (Or.inl (hw _ (List.mem_of_getElem? (i := 9) rfl))) Via.refl e1 F1 E1 (Or.inr ⟨(hw _ (List.mem_of_getElem? (i := 10) rfl)), rfl, hnm⟩) (hw _ (List.mem_of_getElem? (i := 1) rfl)) (ty := .int) (by decide) rfl rfl (hb hby d1_6) (q := 9) rfl (fun T2 h2 X2 e2 W2 => ?_)
  have N3 := Fr.snoc X2 N0 la
  have K4 := (Keep.refl h0 [a]).wr W2 (Or.inl (List.mem_of_getElem? (i := 0) rfl))
  have F5 := Fld.same W2 F1
  have E6 := Exa.wr W2 E1
  have Z7 : n0 ≤ h2.size := by rw [W2.size]; exact Z0
  exact gRetV X2 hx hlk hret (hb hby d1_9) (by decide) (by decide) (by rw [e2]; exact ⟨rfl, N3, K4, E6, F5⟩)
theorem d3_0 : decode prog_24_method_6_code 0 = .ok (.aload_n 1, 1) := by decide +kernel
theorem d3_1 : decode prog_24_method_6_code 1 = .ok (.instanceof 8, 3) := by decide +kernel
theorem d3_4 : decode prog_24_method_6_code 4 = .ok (.ifCond .eq 21, 3) := by decide +kernel
theorem d3_7 : decode prog_24_method_6_code 7 = .ok (.aload_n 1, 1) := by decide +kernel
theorem d3_8 : decode prog_24_method_6_code 8 = .ok (.checkcast 8, 3) := by decide +kernel
theorem d3_11 : decode prog_24_method_6_code 11 = .ok (.getfield 7, 3) := by decide +kernel
theorem d3_14 : decode prog_24_method_6_code 14 = .ok (.aload_n 0, 1) := by decide +kernel
theorem d3_15 : decode prog_24_method_6_code 15 = .ok (.getfield 7, 3) := by decide +kernel
theorem d3_18 : decode prog_24_method_6_code 18 = .ok (.if_icmp .ne 7, 3) := by decide +kernel
theorem d3_21 : decode prog_24_method_6_code 21 = .ok (.iconst 1, 1) := by decide +kernel
theorem d3_22 : decode prog_24_method_6_code 22 = .ok (.goto 4, 3) := by decide +kernel
theorem d3_25 : decode prog_24_method_6_code 25 = .ok (.iconst 0, 1) := by decide +kernel
theorem d3_26 : decode prog_24_method_6_code 26 = .ok (.ireturn, 1) := by decide +kernel
theorem ef4 (m : MethodId) (x0 : Addr) (x1 : Addr) : entryFrame m #[(.ref x0), (.ref x1)] 2 = mkF m 0 #[.val (.ref x0), .val (.ref x1)] [] := by first | (simp [entryFrame, mkF, argsToLocals, Value.category]; done) | rfl
def Q_rmEqC (Z : State) (a : Addr) (b : Addr) (x1 : Int32) (x2 : Int32) (h0 : Heap) (n0 : Nat) (v : Option Value) (h : Heap) (L : List Loc) : Prop := v = some (.int (if x2 = x1 then (1 : Int32) else (0 : Int32))) ∧ Fr n0 L ∧ h = h0
set_option maxRecDepth 65536 in
set_option maxHeartbeats 40000000 in
theorem rmEqC (l : Launch) (Z : State) (a0 : Array Value) (hw : ∀ d ∈ tables_1, d.before a0 Z = true) (ws : List Jvm.Cond) (a : Addr) (b : Addr) (x1 : Int32) (x2 : Int32) (h0 : Heap) (n0 : Nat) (Z0 : n0 ≤ h0.size) (F1 : Fld Z h0 a "com/example/tintfold/tintfold/Colour" "argb" "I" (.int x1)) (F2 : Fld Z h0 b "com/example/tintfold/tintfold/Colour" "argb" "I" (.int x2)) (E2 : Exa Z h0 b "com/example/tintfold/tintfold/Colour") :
    Con l Z (⟨"com/example/tintfold/tintfold/Colour", "equals", "(Ljava/lang/Object;)Z"⟩ : MethodName) prog_24_method_6_code 2 (some (.boolean)) ws ({ frames := 0, cells := 0, slots := 0, locals := 0 } : Room) #[(.ref a), (.ref b)] h0 (({ frames := 0, cells := 0, slots := 0, locals := 0 } : Room).cells) (({ frames := 0, cells := 0, slots := 0, locals := 0 } : Room).slots) (Q_rmEqC Z a b x1 x2 h0 n0) := by
  refine Con.of (plainFor_of_name pn2) ?_
  intro p e s m below meth c s₁ hx hby hml hown hnm hret hlk hZ X0 e0
  have N0 := Fr.nil n0
  refine goE (L := #[.val (.ref a), .val (.ref b)]) (ef4 m a b) ?_
  refine gAloadN X0 hx (hb hby d3_0) (q := 1) rfl rfl rfl ?_
  refine gInstY X0 hx hZ hown (hw _ (List.mem_of_getElem? (i := 16) rfl)) e0 (Ins.self E2) (hb hby d3_1) (q := 4) rfl (fun T1 X1 e1 => ?_)
  refine gIfN X1 hx (hb hby d3_4) (q := 7) rfl (XT.i0_eq_f (by decide)) ?_
  refine gAloadN X1 hx (hb hby d3_7) (q := 8) rfl rfl rfl ?_
  refine gCastY X1 hx hZ hown (hw _ (List.mem_of_getElem? (i := 16) rfl)) e1 (Ins.self E2) (hb hby d3_8) (q := 11) rfl (fun T2 X2 e2 => ?_)
  refine gGetF X2 hx hZ (host := "") hown (Or.inl (hw _ (List.mem_of_getElem? (i := 9) rfl))) Via.refl e2 F2 (hb hby d3_11) (q := 14) rfl (fun T3 X3 e3 => ?_)
  refine gAloadN X3 hx (hb hby d3_14) (q := 15) rfl rfl rfl ?_
  refine gGetF X3 hx hZ (host := "") hown (Or.inl (hw _ (List.mem_of_getElem? (i := 9) rfl))) Via.refl e3 F1 (hb hby d3_15) (q := 18) rfl (fun T4 X4 e4 => ?_)
  have J18_7 : ∀ v6 : Int32, v6 = (if x2 = x1 then (1 : Int32) else (0 : Int32)) → Go p.tables e below (Done s (Q_rmEqC Z a b x1 x2 h0 n0) (({ frames := 0, cells := 0, slots := 0, locals := 0 } : Room).cells) (({ frames := 0, cells := 0, slots := 0, locals := 0 } : Room).slots)) (T4.setTop (mkF m 26 #[.val (.ref a), .val (.ref b)] [(.int v6)])) := by
    intro v6 hv6
    exact gRetZ X4 hx hlk hret (hb hby d3_26) (by decide) (by decide) (by rw [hv6]; (repeat' split) <;> first | exact Or.inl rfl | exact Or.inr rfl) ⟨by rw [hv6], N0, e4⟩
  by_cases c5 : x2 = x1
  · refine gIcmpN X4 hx (hb hby d3_18) (q := 21) rfl (XT.ii_ne_f c5) ?_
    refine gIconst X4 hx (1 : Int32) (hb hby d3_21) (q := 22) rfl (by decide) ?_
    refine gGoto X4 hx (hb hby d3_22) (q := 26) (by decide) (by decide) ?_
    exact J18_7 _ (by first | rfl | (simp only [if_pos c5]; done) | (simp only [if_pos c5]; done) | (simp only [if_pos c5, if_true, if_false]; done) | (exfalso; simp at c5; done))
  · refine gIcmpY X4 hx (hb hby d3_18) (q := 25) (by decide) (by decide) (XT.ii_ne_t c5) ?_
    refine gIconst X4 hx (0 : Int32) (hb hby d3_25) (q := 26) rfl (by decide) ?_
    exact J18_7 _ (by first | rfl | (simp only [if_neg c5]; done) | (simp only [if_neg c5]; done) | (simp only [if_neg c5, if_true, if_false]; done) | (exfalso; simp at c5; done))
theorem ef5 (m : MethodId) (x0 : Addr) : entryFrame m #[(.ref x0), (.null)] 2 = mkF m 0 #[.val (.ref x0), .val (.null)] [] := by first | (simp [entryFrame, mkF, argsToLocals, Value.category]; done) | rfl
def Q_rmEqN (Z : State) (a : Addr) (h0 : Heap) (n0 : Nat) (v : Option Value) (h : Heap) (L : List Loc) : Prop := v = some (.int (0 : Int32)) ∧ Fr n0 L ∧ h = h0
set_option maxRecDepth 65536 in
set_option maxHeartbeats 40000000 in
theorem rmEqN (l : Launch) (Z : State) (a0 : Array Value) (hw : ∀ d ∈ tables_1, d.before a0 Z = true) (ws : List Jvm.Cond) (a : Addr) (h0 : Heap) (n0 : Nat) (Z0 : n0 ≤ h0.size)  :
    Con l Z (⟨"com/example/tintfold/tintfold/Colour", "equals", "(Ljava/lang/Object;)Z"⟩ : MethodName) prog_24_method_6_code 2 (some (.boolean)) ws ({ frames := 0, cells := 0, slots := 0, locals := 0 } : Room) #[(.ref a), (.null)] h0 (({ frames := 0, cells := 0, slots := 0, locals := 0 } : Room).cells) (({ frames := 0, cells := 0, slots := 0, locals := 0 } : Room).slots) (Q_rmEqN Z a h0 n0) := by
  refine Con.of (plainFor_of_name pn2) ?_
  intro p e s m below meth c s₁ hx hby hml hown hnm hret hlk hZ X0 e0
  have N0 := Fr.nil n0
  refine goE (L := #[.val (.ref a), .val (.null)]) (ef5 m a) ?_
  refine gAloadN X0 hx (hb hby d3_0) (q := 1) rfl rfl rfl ?_
  refine gInstNull X0 hx (hb hby d3_1) (q := 4) rfl ?_
  refine gIfY X0 hx (hb hby d3_4) (q := 25) (by decide) (by decide) (XT.i0_eq_t (by decide)) ?_
  refine gIconst X0 hx (0 : Int32) (hb hby d3_25) (q := 26) rfl (by decide) ?_
  exact gRetZ X0 hx hlk hret (hb hby d3_26) (by decide) (by decide) (by simp) ⟨rfl, N0, e0⟩
theorem ef6 (m : MethodId) (x0 : Addr) (x1 : Addr) : entryFrame m #[(.ref x0), (.ref x1)] 2 = mkF m 0 #[.val (.ref x0), .val (.ref x1)] [] := by first | (simp [entryFrame, mkF, argsToLocals, Value.category]; done) | rfl
def Q_rmEqI (Z : State) (a : Addr) (b : Addr) (h0 : Heap) (n0 : Nat) (v : Option Value) (h : Heap) (L : List Loc) : Prop := v = some (.int (0 : Int32)) ∧ Fr n0 L ∧ h = h0
set_option maxRecDepth 65536 in
set_option maxHeartbeats 40000000 in
theorem rmEqI (l : Launch) (Z : State) (a0 : Array Value) (hw : ∀ d ∈ tables_1, d.before a0 Z = true) (ws : List Jvm.Cond) (a : Addr) (b : Addr) (h0 : Heap) (n0 : Nat) (Z0 : n0 ≤ h0.size) (E2 : Exa Z h0 b "java/lang/Integer") :
    Con l Z (⟨"com/example/tintfold/tintfold/Colour", "equals", "(Ljava/lang/Object;)Z"⟩ : MethodName) prog_24_method_6_code 2 (some (.boolean)) ws ({ frames := 0, cells := 0, slots := 0, locals := 0 } : Room) #[(.ref a), (.ref b)] h0 (({ frames := 0, cells := 0, slots := 0, locals := 0 } : Room).cells) (({ frames := 0, cells := 0, slots := 0, locals := 0 } : Room).slots) (Q_rmEqI Z a b h0 n0) := by
  refine Con.of (plainFor_of_name pn2) ?_
  intro p e s m below meth c s₁ hx hby hml hown hnm hret hlk hZ X0 e0
  have N0 := Fr.nil n0
  refine goE (L := #[.val (.ref a), .val (.ref b)]) (ef6 m a b) ?_
  refine gAloadN X0 hx (hb hby d3_0) (q := 1) rfl rfl rfl ?_
  refine gInstNo X0 hx hZ hown (hw _ (List.mem_of_getElem? (i := 16) rfl)) e0 E2 (own_nsNo (hw _ (List.mem_of_getElem? (i := 25) rfl)) (hw _ (List.mem_of_getElem? (i := 1) rfl)) (NS.step (hw _ (List.mem_of_getElem? (i := 25) rfl)) (NS.step (hw _ (List.mem_of_getElem? (i := 26) rfl)) (own_nsRoot (hw _ (List.mem_of_getElem? (i := 27) rfl)) (hw _ (List.mem_of_getElem? (i := 1) rfl)) (by decide)) (by decide)) (by decide)) (by decide)) (hb hby d3_1) (q := 4) rfl (fun T1 X1 e1 => ?_)
  refine gIfY X1 hx (hb hby d3_4) (q := 25) (by decide) (by decide) (XT.i0_eq_t (by decide)) ?_
  refine gIconst X1 hx (0 : Int32) (hb hby d3_25) (q := 26) rfl (by decide) ?_
  exact gRetZ X1 hx hlk hret (hb hby d3_26) (by decide) (by decide) (by simp) ⟨rfl, N0, e1⟩
theorem own_bit (a b : Int32) : ¬ (a ^^^ ((1 : Int32) <<< ((b &&& (31 : Int32)) &&& 31))) = a := by
  have key : ∀ k : Fin 32, ((1 : Int32) <<< ((Int32.ofNat k.val) &&& 31)) ≠ 0 := by decide +kernel
  have hm := c_mask b 31 5 (by decide) (by decide)
  have hb : (b &&& 31) = Int32.ofNat (b.toInt % 32).toNat := by
    apply Int32.toInt_inj.mp
    rw [hm, Int32.toInt_ofNat_of_lt (by omega)]
    omega
  have hk := key ⟨(b.toInt % 32).toNat, by omega⟩
  rw [hb]
  intro h
  apply hk
  have h2 : a ^^^ (a ^^^ ((1 : Int32) <<< (Int32.ofNat (b.toInt % 32).toNat &&& 31))) = a ^^^ a := by rw [h]
  rwa [← Int32.xor_assoc, Int32.xor_self, Int32.zero_xor] at h2

theorem pn3 : plainName "com/example/tintfold/tintfold/ColourEqualsPinLaw" = true := by first | (simp [plainName, overriddenIn]; done) | decide +kernel
theorem ef7 (m : MethodId) (x0 : Int32) (x1 : Int32) (x2 : Int32) : entryFrame m #[(.int x0), (.int x1), (.int x2)] maxLocals = mkF m 0 #[.val (.int x0), .val (.int x1), .val (.int x2), .unset, .unset, .unset, .unset, .unset, .unset] [] := by first | (simp [entryFrame, mkF, argsToLocals, Value.category, maxLocals]; done) | rfl
def Q_rm0 (Z : State) (x0 : Int32) (x1 : Int32) (x2 : Int32) (rc : Addr) (kc : ClassId) (vc : List Value) (h0 : Heap) (n0 : Nat) (v : Option Value) (h : Heap) (L : List Loc) : Prop := v = some (.int 1) ∧ Fr n0 L
theorem pd2 : parseMethodDescriptor "(Ljava/lang/Object;)Z" = some ⟨[.object "java/lang/Object"], some (.boolean)⟩ := by decide +kernel
set_option maxRecDepth 65536 in
set_option maxHeartbeats 40000000 in
theorem own_law (x0 : Int32) (x1 : Int32) (x2 : Int32) (u1 : Int32) (hu1 : (x2 &&& (7 : Int32)) = u1) (v24 : Int32) (hv24 : v24 = (if x0 = x1 then (1 : Int32) else (0 : Int32))) (g28 : Int32) (hg28 : (if x1 = x0 then (1 : Int32) else (0 : Int32)) = g28) (v30 : Int32) (hv30 : v30 = (if g28 = v24 then (1 : Int32) else (0 : Int32))) (v33 : Int32) (hv33 : v33 = (if v30 = (0 : Int32) then (0 : Int32) else (if (if x0 = x1 then (1 : Int32) else (0 : Int32)) = v24 then (1 : Int32) else (0 : Int32)))) (c10 : u1 = (0 : Int32)) : v33 = 1 := by
  have hbit := own_bit x0 x1
  have hbit2 : ¬ x0 = _ := fun z => hbit z.symm
  by_cases h01 : x1 = x0
  · subst h01; simp_all
  · have h10 : ¬ x0 = x1 := fun z => h01 z.symm
    simp_all
set_option maxRecDepth 65536 in
set_option maxHeartbeats 40000000 in
theorem own_law2 (x0 : Int32) (x1 : Int32) (x2 : Int32) (u1 : Int32) (hu1 : (x2 &&& (7 : Int32)) = u1) (v54 : Int32) (hv54 : v54 = (if x0 = x1 then (1 : Int32) else (0 : Int32))) (g58 : Int32) (hg58 : (if x1 = x0 then (1 : Int32) else (0 : Int32)) = g58) (v60 : Int32) (hv60 : v60 = (if g58 = v54 then (1 : Int32) else (0 : Int32))) (v63 : Int32) (hv63 : v63 = (if v60 = (0 : Int32) then (0 : Int32) else (if (if x0 = x1 then (1 : Int32) else (0 : Int32)) = v54 then (1 : Int32) else (0 : Int32)))) (c10 : ¬ (u1 = (0 : Int32))) (c40 : u1 = (6 : Int32)) : v63 = 1 := by
  have hbit := own_bit x0 x1
  have hbit2 : ¬ x0 = _ := fun z => hbit z.symm
  by_cases h01 : x1 = x0
  · subst h01; simp_all
  · have h10 : ¬ x0 = x1 := fun z => h01 z.symm
    simp_all
set_option maxRecDepth 65536 in
set_option maxHeartbeats 40000000 in
theorem own_law3 (x0 : Int32) (x1 : Int32) (x2 : Int32) (u1 : Int32) (hu1 : (x2 &&& (7 : Int32)) = u1) (v84 : Int32) (hv84 : v84 = (if x0 = x1 then (1 : Int32) else (0 : Int32))) (g88 : Int32) (hg88 : (if x1 = x0 then (1 : Int32) else (0 : Int32)) = g88) (v90 : Int32) (hv90 : v90 = (if g88 = v84 then (1 : Int32) else (0 : Int32))) (v93 : Int32) (hv93 : v93 = (if v90 = (0 : Int32) then (0 : Int32) else (if (if x0 = x1 then (1 : Int32) else (0 : Int32)) = v84 then (1 : Int32) else (0 : Int32)))) (c10 : ¬ (u1 = (0 : Int32))) (c40 : ¬ (u1 = (6 : Int32))) (c70 : u1 = (7 : Int32)) : v93 = 1 := by
  have hbit := own_bit x0 x1
  have hbit2 : ¬ x0 = _ := fun z => hbit z.symm
  by_cases h01 : x1 = x0
  · subst h01; simp_all
  · have h10 : ¬ x0 = x1 := fun z => h01 z.symm
    simp_all
set_option maxRecDepth 65536 in
set_option maxHeartbeats 40000000 in
theorem own_law4 (x0 : Int32) (x1 : Int32) (x2 : Int32) (u1 : Int32) (hu1 : (x2 &&& (7 : Int32)) = u1) (g115 : Int32) (hg115 : (if x0 = x0 then (1 : Int32) else (0 : Int32)) = g115) (v117 : Int32) (hv117 : v117 = (if g115 = (1 : Int32) then (1 : Int32) else (0 : Int32))) (v120 : Int32) (hv120 : v120 = (if v117 = (0 : Int32) then (0 : Int32) else (if (if x0 = x0 then (1 : Int32) else (0 : Int32)) = (1 : Int32) then (1 : Int32) else (0 : Int32)))) (c10 : ¬ (u1 = (0 : Int32))) (c40 : ¬ (u1 = (6 : Int32))) (c70 : ¬ (u1 = (7 : Int32))) (c100 : u1 = (1 : Int32)) : v120 = 1 := by
  have hbit := own_bit x0 x1
  have hbit2 : ¬ x0 = _ := fun z => hbit z.symm
  by_cases h01 : x1 = x0
  · subst h01; simp_all
  · have h10 : ¬ x0 = x1 := fun z => h01 z.symm
    simp_all
set_option maxRecDepth 65536 in
set_option maxHeartbeats 40000000 in
theorem own_law5 (x0 : Int32) (x1 : Int32) (x2 : Int32) (u1 : Int32) (hu1 : (x2 &&& (7 : Int32)) = u1) (g142 : Int32) (hg142 : (if (x0 ^^^ ((1 : Int32) <<< ((x1 &&& (31 : Int32)) &&& 31))) = x0 then (1 : Int32) else (0 : Int32)) = g142) (v144 : Int32) (hv144 : v144 = (if g142 = (0 : Int32) then (1 : Int32) else (0 : Int32))) (v147 : Int32) (hv147 : v147 = (if v144 = (0 : Int32) then (0 : Int32) else (if (if x0 = (x0 ^^^ ((1 : Int32) <<< ((x1 &&& (31 : Int32)) &&& 31))) then (1 : Int32) else (0 : Int32)) = (0 : Int32) then (1 : Int32) else (0 : Int32)))) (c10 : ¬ (u1 = (0 : Int32))) (c40 : ¬ (u1 = (6 : Int32))) (c70 : ¬ (u1 = (7 : Int32))) (c100 : ¬ (u1 = (1 : Int32))) (c127 : u1 = (2 : Int32)) : v147 = 1 := by
  have hbit := own_bit x0 x1
  have hbit2 : ¬ x0 = _ := fun z => hbit z.symm
  by_cases h01 : x1 = x0
  · subst h01; simp_all
  · have h10 : ¬ x0 = x1 := fun z => h01 z.symm
    simp_all
set_option maxRecDepth 65536 in
set_option maxHeartbeats 40000000 in
theorem own_law6 (x0 : Int32) (x1 : Int32) (x2 : Int32) (u1 : Int32) (hu1 : (x2 &&& (7 : Int32)) = u1) (c10 : ¬ (u1 = (0 : Int32))) (c40 : ¬ (u1 = (6 : Int32))) (c70 : ¬ (u1 = (7 : Int32))) (c100 : ¬ (u1 = (1 : Int32))) (c127 : ¬ (u1 = (2 : Int32))) (c154 : u1 = (3 : Int32)) : (1 : Int32) = 1 := by
  have hbit := own_bit x0 x1
  have hbit2 : ¬ x0 = _ := fun z => hbit z.symm
  by_cases h01 : x1 = x0
  · subst h01; simp_all
  · have h10 : ¬ x0 = x1 := fun z => h01 z.symm
    simp_all
theorem pd3 : parseMethodDescriptor "(I)Ljava/lang/Integer;" = some ⟨[.int], some (.object "java/lang/Integer")⟩ := by decide +kernel
set_option maxRecDepth 65536 in
set_option maxHeartbeats 40000000 in
theorem own_law7 (x0 : Int32) (x1 : Int32) (x2 : Int32) (u1 : Int32) (hu1 : (x2 &&& (7 : Int32)) = u1) (c10 : ¬ (u1 = (0 : Int32))) (c40 : ¬ (u1 = (6 : Int32))) (c70 : ¬ (u1 = (7 : Int32))) (c100 : ¬ (u1 = (1 : Int32))) (c127 : ¬ (u1 = (2 : Int32))) (c154 : ¬ (u1 = (3 : Int32))) (c157 : u1 = (4 : Int32)) : (1 : Int32) = 1 := by
  have hbit := own_bit x0 x1
  have hbit2 : ¬ x0 = _ := fun z => hbit z.symm
  by_cases h01 : x1 = x0
  · subst h01; simp_all
  · have h10 : ¬ x0 = x1 := fun z => h01 z.symm
    simp_all
set_option maxRecDepth 65536 in
set_option maxHeartbeats 40000000 in
theorem own_law8 (x0 : Int32) (x1 : Int32) (x2 : Int32) (u1 : Int32) (hu1 : (x2 &&& (7 : Int32)) = u1) (g169 : Int32) (hg169 : (if x0 = x0 then (1 : Int32) else (0 : Int32)) = g169) (v171 : Int32) (hv171 : v171 = (if g169 = (1 : Int32) then (1 : Int32) else (0 : Int32))) (v174 : Int32) (hv174 : v174 = (if v171 = (0 : Int32) then (0 : Int32) else (if (if x0 = x0 then (1 : Int32) else (0 : Int32)) = (1 : Int32) then (1 : Int32) else (0 : Int32)))) (c10 : ¬ (u1 = (0 : Int32))) (c40 : ¬ (u1 = (6 : Int32))) (c70 : ¬ (u1 = (7 : Int32))) (c100 : ¬ (u1 = (1 : Int32))) (c127 : ¬ (u1 = (2 : Int32))) (c154 : ¬ (u1 = (3 : Int32))) (c157 : ¬ (u1 = (4 : Int32))) : v174 = 1 := by
  have hbit := own_bit x0 x1
  have hbit2 : ¬ x0 = _ := fun z => hbit z.symm
  by_cases h01 : x1 = x0
  · subst h01; simp_all
  · have h10 : ¬ x0 = x1 := fun z => h01 z.symm
    simp_all
set_option maxRecDepth 65536 in
set_option maxHeartbeats 40000000 in
theorem rm0 (l : Launch) (Z : State) (a0 : Array Value) (hw : ∀ d ∈ tables_1, d.before a0 Z = true) (ws : List Jvm.Cond) (x0 : Int32) (x1 : Int32) (x2 : Int32) (rc : Addr) (kc : ClassId) (vc : List Value) (h0 : Heap) (n0 : Nat) (Z0 : n0 ≤ h0.size) (O0 : Old Z n0 h0) (SH : Sta Z Z.heap "java/lang/Integer$IntegerCache" "high" "I" (.int 127)) (SC : Sta Z Z.heap "java/lang/Integer$IntegerCache" "cache" "[Ljava/lang/Integer;" (.ref rc)) (AC : Ary Z Z.heap rc kc (.object "java/lang/Integer") vc) (hlen : vc.length = 256) (HC : ∀ j : Nat, j < 256 → ∃ r, vc[j]? = some (.ref r) ∧ Exa Z Z.heap r "java/lang/Integer") :
    Con l Z x code maxLocals ret ws room_1 #[(.int x0), (.int x1), (.int x2)] h0 (room_1.cells) (room_1.slots) (Q_rm0 Z x0 x1 x2 rc kc vc h0 n0) := by
  refine Con.of (plainFor_of_name pn3) ?_
  intro p e s m below meth c s₁ hx hby hml hown hnm hret hlk hZ X0 e0
  have N0 := Fr.nil n0
  refine goE (L := #[.val (.int x0), .val (.int x1), .val (.int x2), .unset, .unset, .unset, .unset, .unset, .unset]) (ef7 m x0 x1 x2) ?_
  refine gIloadN X0 hx (hb hby at_0) (q := 1) rfl rfl ?_
  refine gBipush X0 hx (7 : Int32) (hb hby at_1) (q := 3) rfl (by decide) ?_
  refine gIand X0 hx (hb hby at_3) (q := 4) rfl ?_
  generalize hu1 : (x2 &&& (7 : Int32)) = u1
  refine gIstoreN X0 hx (hb hby at_4) (q := 5) rfl (L' := #[.val (.int x0), .val (.int x1), .val (.int x2), .val (.int u1), .unset, .unset, .unset, .unset, .unset]) rfl ?_
  refine gNewO X0 hx hZ hown (hw _ (List.mem_of_getElem? (i := 0) rfl)) (hw _ (List.mem_of_getElem? (i := 1) rfl)) (hw _ (List.mem_of_getElem? (i := 2) rfl)) e0 (hb hby at_5) (q := 8) rfl (by decide) (by decide) (fun T2 h2 a2 X2 e2 g2 E2 A2 D2 => ?_)
  have O3 := O0.ext E2
  have le_a2 : n0 ≤ a2 := by rw [g2]; exact Z0
  have Z4 := Nat.le_trans Z0 E2.1
  have F5 : Fld Z h2 a2 "com/example/tintfold/tintfold/Colour" "argb" "I" (.int (0 : Int32)) := D2 (Or.inr (hw _ (List.mem_of_getElem? (i := 10) rfl))) (ty := .int) (by decide)
  clear D2
  refine gDup X2 hx (hb hby at_8) (q := 9) rfl rfl ?_
  refine gIloadN X2 hx (hb hby at_9) (q := 10) rfl rfl ?_
  refine gCallN X2 hx hZ rfl hown (hw _ (List.mem_of_getElem? (i := 3) rfl)) (hw _ (List.mem_of_getElem? (i := 4) rfl)) (hw _ (List.mem_of_getElem? (i := 2) rfl)) (hw _ (List.mem_of_getElem? (i := 5) rfl)) (by decide) (rmCol l Z a0 hw [] a2 x0 h2 n0 Z4 F5 A2 le_a2) (W := 1) (by decide) (by decide) e2 (by rw [hml]; rfl) [(.int x0)] (lenOf pd1 rfl) rfl (S := [(.ref a2)]) rfl (Nat.le_of_eq rfl) (hb hby at_10) (q := 13) rfl (by decide) (by decide) (fun r6 T6 M6 X6 q6 => ?_)
  obtain ⟨rfl, M6n, K6, P6e, P6m⟩ := q6
  have N7 := Fr.app N0 M6n
  have O8 := O3.keep K6 (allS le_a2 all0)
  have Z9 := Nat.le_trans Z4 K6.1
  dsimp only [Option.toList, List.cons_append, List.nil_append]
  refine gAstore X6 hx (hb hby at_13) (q := 15) rfl rfl (L' := #[.val (.int x0), .val (.int x1), .val (.int x2), .val (.int u1), .val (.ref a2), .unset, .unset, .unset, .unset]) rfl ?_
  refine gNull X6 hx (hb hby at_15) (q := 16) rfl ?_
  refine gAstore X6 hx (hb hby at_16) (q := 18) rfl rfl (L' := #[.val (.int x0), .val (.int x1), .val (.int x2), .val (.int u1), .val (.ref a2), .unset, .val (.null), .unset, .unset]) rfl ?_
  refine gIloadN X6 hx (hb hby at_18) (q := 19) rfl rfl ?_
  by_cases c10 : u1 = (0 : Int32)
  · refine gIfY X6 hx (hb hby at_19) (q := 34) (by decide) (by decide) (XT.i0_eq_t c10) ?_
    refine gNewO X6 hx hZ hown (hw _ (List.mem_of_getElem? (i := 0) rfl)) (hw _ (List.mem_of_getElem? (i := 1) rfl)) (hw _ (List.mem_of_getElem? (i := 2) rfl)) rfl (hb hby at_34) (q := 37) rfl (by decide) (by decide) (fun T11 h11 a11 X11 e11 g11 E11 A11 D11 => ?_)
    have E12 := Exa.ext E11 P6e
    have F13 := Fld.ext E11 P6m
    have O14 := O8.ext E11
    have le_a11 : n0 ≤ a11 := by rw [g11]; exact Z9
    have ne_a2_a11 : a2 ≠ a11 := by rw [g11]; exact Nat.ne_of_lt P6e.lt
    have Z15 := Nat.le_trans Z9 E11.1
    have F16 : Fld Z h11 a11 "com/example/tintfold/tintfold/Colour" "argb" "I" (.int (0 : Int32)) := D11 (Or.inr (hw _ (List.mem_of_getElem? (i := 10) rfl))) (ty := .int) (by decide)
    clear D11
    refine gDup X11 hx (hb hby at_37) (q := 38) rfl rfl ?_
    refine gIloadN X11 hx (hb hby at_38) (q := 39) rfl rfl ?_
    refine gCallN X11 hx hZ rfl hown (hw _ (List.mem_of_getElem? (i := 3) rfl)) (hw _ (List.mem_of_getElem? (i := 4) rfl)) (hw _ (List.mem_of_getElem? (i := 2) rfl)) (hw _ (List.mem_of_getElem? (i := 5) rfl)) (by decide) (rmCol l Z a0 hw [] a11 x1 h11 n0 Z15 F16 A11 le_a11) (W := 1) (by decide) (by decide) e11 (by rw [hml]; rfl) [(.int x1)] (lenOf pd1 rfl) rfl (S := [(.ref a11)]) rfl (Nat.le_of_eq rfl) (hb hby at_39) (q := 42) rfl (by decide) (by decide) (fun r17 T17 M17 X17 q17 => ?_)
    obtain ⟨rfl, M17n, K17, P17e, P17m⟩ := q17
    have N18 := Fr.app N7 M17n
    have E19 := Exa.keep E12 K17
    have F20 := Fld.keep F13 K17 (ninS ne_a2_a11 nin0)
    have O21 := O14.keep K17 (allS le_a11 all0)
    have Z22 := Nat.le_trans Z15 K17.1
    dsimp only [Option.toList, List.cons_append, List.nil_append]
    refine gAstore X17 hx (hb hby at_42) (q := 44) rfl rfl (L' := #[.val (.int x0), .val (.int x1), .val (.int x2), .val (.int u1), .val (.ref a2), .unset, .val (.ref a11), .unset, .unset]) rfl ?_
    refine gAload X17 hx (hb hby at_44) (q := 46) rfl rfl rfl ?_
    refine gAstore X17 hx (hb hby at_46) (q := 48) rfl rfl (L' := #[.val (.int x0), .val (.int x1), .val (.int x2), .val (.int u1), .val (.ref a2), .val (.ref a11), .val (.ref a11), .unset, .unset]) rfl ?_
    refine gIloadN X17 hx (hb hby at_48) (q := 49) rfl rfl ?_
    refine gIloadN X17 hx (hb hby at_49) (q := 50) rfl rfl ?_
    have J50_25 : ∀ v24 : Int32, v24 = (if x0 = x1 then (1 : Int32) else (0 : Int32)) → Go p.tables e below (Done s (Q_rm0 Z x0 x1 x2 rc kc vc h0 n0) (room_1.cells) (room_1.slots)) (T17.setTop (mkF m 58 #[.val (.int x0), .val (.int x1), .val (.int x2), .val (.int u1), .val (.ref a2), .val (.ref a11), .val (.ref a11), .unset, .unset] [(.int v24)])) := by
      intro v24 hv24
      refine gIstore X17 hx (hb hby at_58) (q := 60) rfl (L' := #[.val (.int x0), .val (.int x1), .val (.int x2), .val (.int u1), .val (.ref a2), .val (.ref a11), .val (.ref a11), .val (.int v24), .unset]) rfl ?_
      refine gGoto X17 hx (hb hby at_60) (q := 162) (by decide) (by decide) ?_
      refine gAload X17 hx (hb hby at_162) (q := 164) rfl rfl rfl ?_
      refine gAload X17 hx (hb hby at_164) (q := 166) rfl rfl rfl ?_
      refine gCallV X17 hx hZ hown (hw _ (List.mem_of_getElem? (i := 11) rfl)) (hw _ (List.mem_of_getElem? (i := 12) rfl)) (hw _ (List.mem_of_getElem? (i := 14) rfl)) (hw _ (List.mem_of_getElem? (i := 13) rfl)) (hw _ (List.mem_of_getElem? (i := 2) rfl)) (hw _ (List.mem_of_getElem? (i := 15) rfl)) (notFace_of_selects (args := #[]) (mvT hZ (hw _ (List.mem_of_getElem? (i := 14) rfl)))) (by decide) (rmEqC l Z a0 hw [] a2 a11 x0 x1 T17.heap n0 Z22 F20 P17m P17e) (W := 0) (by decide) (by decide) rfl (by rw [hml]; rfl) E19 [(.ref a11)] (lenOf pd2 rfl) rfl (S := []) rfl (Nat.le_of_eq rfl) (hb hby at_166) (q := 169) rfl (by decide) (by decide) (fun r26 T26 M26 X26 q26 => ?_)
      obtain ⟨rfl, M26n, e26⟩ := q26
      have N27 := Fr.app N18 M26n
      dsimp only [Option.toList, List.cons_append, List.nil_append]
      generalize hg28 : (if x1 = x0 then (1 : Int32) else (0 : Int32)) = g28
      refine gIload X26 hx (hb hby at_169) (q := 171) rfl rfl ?_
      have J171_31 : ∀ v30 : Int32, v30 = (if g28 = v24 then (1 : Int32) else (0 : Int32)) → Go p.tables e below (Done s (Q_rm0 Z x0 x1 x2 rc kc vc h0 n0) (room_1.cells) (room_1.slots)) (T26.setTop (mkF m 179 #[.val (.int x0), .val (.int x1), .val (.int x2), .val (.int u1), .val (.ref a2), .val (.ref a11), .val (.ref a11), .val (.int v24), .unset] [(.int v30)])) := by
        intro v30 hv30
        refine gIstore X26 hx (hb hby at_179) (q := 181) rfl (L' := #[.val (.int x0), .val (.int x1), .val (.int x2), .val (.int u1), .val (.ref a2), .val (.ref a11), .val (.ref a11), .val (.int v24), .val (.int v30)]) rfl ?_
        refine gAload X26 hx (hb hby at_181) (q := 183) rfl rfl rfl ?_
        refine gNullN X26 hx (hb hby at_183) (q := 186) rfl rfl Value.noConfusion ?_
        refine gIload X26 hx (hb hby at_186) (q := 188) rfl rfl ?_
        have J188_34 : ∀ (T35 : State) (L35 : List Loc), Stand p l e room_1 s m #[(.int x0), (.int x1), (.int x2)] below meth c T35 L35 2 2 → T35.heap = T17.heap → Fr n0 L35 → ∀ v33 : Int32, v33 = (if v30 = (0 : Int32) then (0 : Int32) else (if (if x0 = x1 then (1 : Int32) else (0 : Int32)) = v24 then (1 : Int32) else (0 : Int32))) → Go p.tables e below (Done s (Q_rm0 Z x0 x1 x2 rc kc vc h0 n0) (room_1.cells) (room_1.slots)) (T35.setTop (mkF m 208 #[.val (.int x0), .val (.int x1), .val (.int x2), .val (.int u1), .val (.ref a2), .val (.ref a11), .val (.ref a11), .val (.int v24), .val (.int v30)] [(.int v33)])) := by
          intro T35 L35 X35 e35 N35 v33 hv33
          refine gIstore X35 hx (hb hby at_208) (q := 210) rfl (L' := #[.val (.int x0), .val (.int x1), .val (.int x2), .val (.int u1), .val (.ref a2), .val (.ref a11), .val (.ref a11), .val (.int v24), .val (.int v33)]) rfl ?_
          refine gIload X35 hx (hb hby at_210) (q := 212) rfl rfl ?_
          have hone : v33 = 1 := own_law x0 x1 x2 u1 hu1 v24 hv24 g28 hg28 v30 hv30 v33 hv33 c10
          exact gRetZ X35 hx hlk hret (hb hby at_212) (by decide) (by decide) (Or.inr hone) ⟨by rw [hone], N35⟩
        by_cases c32 : v30 = (0 : Int32)
        · refine gIfY X26 hx (hb hby at_188) (q := 207) (by decide) (by decide) (XT.i0_eq_t c32) ?_
          refine gIconst X26 hx (0 : Int32) (hb hby at_207) (q := 208) rfl (by decide) ?_
          exact J188_34 T26 _ X26 e26 N27 _ (by first | rfl | (simp only [if_pos c10, if_pos c32]; done) | (simp only [if_pos c10, if_pos c32]; done) | (simp only [if_pos c10, if_pos c32, if_true, if_false]; done) | (exfalso; simp at c32; done))
        · refine gIfN X26 hx (hb hby at_188) (q := 191) rfl (XT.i0_eq_f c32) ?_
          refine gAload X26 hx (hb hby at_191) (q := 193) rfl rfl rfl ?_
          refine gAload X26 hx (hb hby at_193) (q := 195) rfl rfl rfl ?_
          refine gCallV X26 hx hZ hown (hw _ (List.mem_of_getElem? (i := 11) rfl)) (hw _ (List.mem_of_getElem? (i := 12) rfl)) (hw _ (List.mem_of_getElem? (i := 14) rfl)) (hw _ (List.mem_of_getElem? (i := 13) rfl)) (hw _ (List.mem_of_getElem? (i := 2) rfl)) (hw _ (List.mem_of_getElem? (i := 15) rfl)) (notFace_of_selects (args := #[]) (mvT hZ (hw _ (List.mem_of_getElem? (i := 14) rfl)))) (by decide) (rmEqC l Z a0 hw [] a11 a2 x1 x0 T17.heap n0 Z22 P17m F20 E19) (W := 0) (by decide) (by decide) e26 (by rw [hml]; rfl) P17e [(.ref a2)] (lenOf pd2 rfl) rfl (S := []) rfl (Nat.le_of_eq rfl) (hb hby at_195) (q := 198) rfl (by decide) (by decide) (fun r36 T36 M36 X36 q36 => ?_)
          obtain ⟨rfl, M36n, e36⟩ := q36
          have N37 := Fr.app N27 M36n
          dsimp only [Option.toList, List.cons_append, List.nil_append]
          refine gIload X36 hx (hb hby at_198) (q := 200) rfl rfl ?_
          by_cases c39 : (if x0 = x1 then (1 : Int32) else (0 : Int32)) = v24
          · refine gIcmpN X36 hx (hb hby at_200) (q := 203) rfl (XT.ii_ne_f c39) ?_
            refine gIconst X36 hx (1 : Int32) (hb hby at_203) (q := 204) rfl (by decide) ?_
            refine gGoto X36 hx (hb hby at_204) (q := 208) (by decide) (by decide) ?_
            exact J188_34 T36 _ X36 e36 N37 _ (by first | rfl | (simp only [if_pos c10, if_neg c32, if_pos c39]; done) | (simp only [if_pos c10, if_neg c32, if_pos c39]; done) | (simp only [if_pos c10, if_neg c32, if_pos c39, if_true, if_false]; done) | (exfalso; simp at c39; done))
          · refine gIcmpY X36 hx (hb hby at_200) (q := 207) (by decide) (by decide) (XT.ii_ne_t c39) ?_
            refine gIconst X36 hx (0 : Int32) (hb hby at_207) (q := 208) rfl (by decide) ?_
            exact J188_34 T36 _ X36 e36 N37 _ (by first | rfl | (simp only [if_pos c10, if_neg c32, if_neg c39]; done) | (simp only [if_pos c10, if_neg c32, if_neg c39]; done) | (simp only [if_pos c10, if_neg c32, if_neg c39, if_true, if_false]; done) | (exfalso; simp at c39; done))
      by_cases c29 : g28 = v24
      · refine gIcmpN X26 hx (hb hby at_171) (q := 174) rfl (XT.ii_ne_f c29) ?_
        refine gIconst X26 hx (1 : Int32) (hb hby at_174) (q := 175) rfl (by decide) ?_
        refine gGoto X26 hx (hb hby at_175) (q := 179) (by decide) (by decide) ?_
        exact J171_31 _ (by first | rfl | (simp only [if_pos c10, if_pos c29]; done) | (simp only [if_pos c10, if_pos c29]; done) | (simp only [if_pos c10, if_pos c29, if_true, if_false]; done) | (exfalso; simp at c29; done))
      · refine gIcmpY X26 hx (hb hby at_171) (q := 178) (by decide) (by decide) (XT.ii_ne_t c29) ?_
        refine gIconst X26 hx (0 : Int32) (hb hby at_178) (q := 179) rfl (by decide) ?_
        exact J171_31 _ (by first | rfl | (simp only [if_pos c10, if_neg c29]; done) | (simp only [if_pos c10, if_neg c29]; done) | (simp only [if_pos c10, if_neg c29, if_true, if_false]; done) | (exfalso; simp at c29; done))
    by_cases c23 : x0 = x1
    · refine gIcmpN X17 hx (hb hby at_50) (q := 53) rfl (XT.ii_ne_f c23) ?_
      refine gIconst X17 hx (1 : Int32) (hb hby at_53) (q := 54) rfl (by decide) ?_
      refine gGoto X17 hx (hb hby at_54) (q := 58) (by decide) (by decide) ?_
      exact J50_25 _ (by first | rfl | (simp only [if_pos c10, if_pos c23]; done) | (simp only [if_pos c10, if_pos c23]; done) | (simp only [if_pos c10, if_pos c23, if_true, if_false]; done) | (exfalso; simp at c23; done))
    · refine gIcmpY X17 hx (hb hby at_50) (q := 57) (by decide) (by decide) (XT.ii_ne_t c23) ?_
      refine gIconst X17 hx (0 : Int32) (hb hby at_57) (q := 58) rfl (by decide) ?_
      exact J50_25 _ (by first | rfl | (simp only [if_pos c10, if_neg c23]; done) | (simp only [if_pos c10, if_neg c23]; done) | (simp only [if_pos c10, if_neg c23, if_true, if_false]; done) | (exfalso; simp at c23; done))
  · refine gIfN X6 hx (hb hby at_19) (q := 22) rfl (XT.i0_eq_f c10) ?_
    refine gIloadN X6 hx (hb hby at_22) (q := 23) rfl rfl ?_
    refine gBipush X6 hx (6 : Int32) (hb hby at_23) (q := 25) rfl (by decide) ?_
    by_cases c40 : u1 = (6 : Int32)
    · refine gIcmpY X6 hx (hb hby at_25) (q := 34) (by decide) (by decide) (XT.ii_eq_t c40) ?_
      refine gNewO X6 hx hZ hown (hw _ (List.mem_of_getElem? (i := 0) rfl)) (hw _ (List.mem_of_getElem? (i := 1) rfl)) (hw _ (List.mem_of_getElem? (i := 2) rfl)) rfl (hb hby at_34) (q := 37) rfl (by decide) (by decide) (fun T41 h41 a41 X41 e41 g41 E41 A41 D41 => ?_)
      have E42 := Exa.ext E41 P6e
      have F43 := Fld.ext E41 P6m
      have O44 := O8.ext E41
      have le_a41 : n0 ≤ a41 := by rw [g41]; exact Z9
      have ne_a2_a41 : a2 ≠ a41 := by rw [g41]; exact Nat.ne_of_lt P6e.lt
      have Z45 := Nat.le_trans Z9 E41.1
      have F46 : Fld Z h41 a41 "com/example/tintfold/tintfold/Colour" "argb" "I" (.int (0 : Int32)) := D41 (Or.inr (hw _ (List.mem_of_getElem? (i := 10) rfl))) (ty := .int) (by decide)
      clear D41
      refine gDup X41 hx (hb hby at_37) (q := 38) rfl rfl ?_
      refine gIloadN X41 hx (hb hby at_38) (q := 39) rfl rfl ?_
      refine gCallN X41 hx hZ rfl hown (hw _ (List.mem_of_getElem? (i := 3) rfl)) (hw _ (List.mem_of_getElem? (i := 4) rfl)) (hw _ (List.mem_of_getElem? (i := 2) rfl)) (hw _ (List.mem_of_getElem? (i := 5) rfl)) (by decide) (rmCol l Z a0 hw [] a41 x1 h41 n0 Z45 F46 A41 le_a41) (W := 1) (by decide) (by decide) e41 (by rw [hml]; rfl) [(.int x1)] (lenOf pd1 rfl) rfl (S := [(.ref a41)]) rfl (Nat.le_of_eq rfl) (hb hby at_39) (q := 42) rfl (by decide) (by decide) (fun r47 T47 M47 X47 q47 => ?_)
      obtain ⟨rfl, M47n, K47, P47e, P47m⟩ := q47
      have N48 := Fr.app N7 M47n
      have E49 := Exa.keep E42 K47
      have F50 := Fld.keep F43 K47 (ninS ne_a2_a41 nin0)
      have O51 := O44.keep K47 (allS le_a41 all0)
      have Z52 := Nat.le_trans Z45 K47.1
      dsimp only [Option.toList, List.cons_append, List.nil_append]
      refine gAstore X47 hx (hb hby at_42) (q := 44) rfl rfl (L' := #[.val (.int x0), .val (.int x1), .val (.int x2), .val (.int u1), .val (.ref a2), .unset, .val (.ref a41), .unset, .unset]) rfl ?_
      refine gAload X47 hx (hb hby at_44) (q := 46) rfl rfl rfl ?_
      refine gAstore X47 hx (hb hby at_46) (q := 48) rfl rfl (L' := #[.val (.int x0), .val (.int x1), .val (.int x2), .val (.int u1), .val (.ref a2), .val (.ref a41), .val (.ref a41), .unset, .unset]) rfl ?_
      refine gIloadN X47 hx (hb hby at_48) (q := 49) rfl rfl ?_
      refine gIloadN X47 hx (hb hby at_49) (q := 50) rfl rfl ?_
      have J50_55 : ∀ v54 : Int32, v54 = (if x0 = x1 then (1 : Int32) else (0 : Int32)) → Go p.tables e below (Done s (Q_rm0 Z x0 x1 x2 rc kc vc h0 n0) (room_1.cells) (room_1.slots)) (T47.setTop (mkF m 58 #[.val (.int x0), .val (.int x1), .val (.int x2), .val (.int u1), .val (.ref a2), .val (.ref a41), .val (.ref a41), .unset, .unset] [(.int v54)])) := by
        intro v54 hv54
        refine gIstore X47 hx (hb hby at_58) (q := 60) rfl (L' := #[.val (.int x0), .val (.int x1), .val (.int x2), .val (.int u1), .val (.ref a2), .val (.ref a41), .val (.ref a41), .val (.int v54), .unset]) rfl ?_
        refine gGoto X47 hx (hb hby at_60) (q := 162) (by decide) (by decide) ?_
        refine gAload X47 hx (hb hby at_162) (q := 164) rfl rfl rfl ?_
        refine gAload X47 hx (hb hby at_164) (q := 166) rfl rfl rfl ?_
        refine gCallV X47 hx hZ hown (hw _ (List.mem_of_getElem? (i := 11) rfl)) (hw _ (List.mem_of_getElem? (i := 12) rfl)) (hw _ (List.mem_of_getElem? (i := 14) rfl)) (hw _ (List.mem_of_getElem? (i := 13) rfl)) (hw _ (List.mem_of_getElem? (i := 2) rfl)) (hw _ (List.mem_of_getElem? (i := 15) rfl)) (notFace_of_selects (args := #[]) (mvT hZ (hw _ (List.mem_of_getElem? (i := 14) rfl)))) (by decide) (rmEqC l Z a0 hw [] a2 a41 x0 x1 T47.heap n0 Z52 F50 P47m P47e) (W := 0) (by decide) (by decide) rfl (by rw [hml]; rfl) E49 [(.ref a41)] (lenOf pd2 rfl) rfl (S := []) rfl (Nat.le_of_eq rfl) (hb hby at_166) (q := 169) rfl (by decide) (by decide) (fun r56 T56 M56 X56 q56 => ?_)
        obtain ⟨rfl, M56n, e56⟩ := q56
        have N57 := Fr.app N48 M56n
        dsimp only [Option.toList, List.cons_append, List.nil_append]
        generalize hg58 : (if x1 = x0 then (1 : Int32) else (0 : Int32)) = g58
        refine gIload X56 hx (hb hby at_169) (q := 171) rfl rfl ?_
        have J171_61 : ∀ v60 : Int32, v60 = (if g58 = v54 then (1 : Int32) else (0 : Int32)) → Go p.tables e below (Done s (Q_rm0 Z x0 x1 x2 rc kc vc h0 n0) (room_1.cells) (room_1.slots)) (T56.setTop (mkF m 179 #[.val (.int x0), .val (.int x1), .val (.int x2), .val (.int u1), .val (.ref a2), .val (.ref a41), .val (.ref a41), .val (.int v54), .unset] [(.int v60)])) := by
          intro v60 hv60
          refine gIstore X56 hx (hb hby at_179) (q := 181) rfl (L' := #[.val (.int x0), .val (.int x1), .val (.int x2), .val (.int u1), .val (.ref a2), .val (.ref a41), .val (.ref a41), .val (.int v54), .val (.int v60)]) rfl ?_
          refine gAload X56 hx (hb hby at_181) (q := 183) rfl rfl rfl ?_
          refine gNullN X56 hx (hb hby at_183) (q := 186) rfl rfl Value.noConfusion ?_
          refine gIload X56 hx (hb hby at_186) (q := 188) rfl rfl ?_
          have J188_64 : ∀ (T65 : State) (L65 : List Loc), Stand p l e room_1 s m #[(.int x0), (.int x1), (.int x2)] below meth c T65 L65 2 2 → T65.heap = T47.heap → Fr n0 L65 → ∀ v63 : Int32, v63 = (if v60 = (0 : Int32) then (0 : Int32) else (if (if x0 = x1 then (1 : Int32) else (0 : Int32)) = v54 then (1 : Int32) else (0 : Int32))) → Go p.tables e below (Done s (Q_rm0 Z x0 x1 x2 rc kc vc h0 n0) (room_1.cells) (room_1.slots)) (T65.setTop (mkF m 208 #[.val (.int x0), .val (.int x1), .val (.int x2), .val (.int u1), .val (.ref a2), .val (.ref a41), .val (.ref a41), .val (.int v54), .val (.int v60)] [(.int v63)])) := by
            intro T65 L65 X65 e65 N65 v63 hv63
            refine gIstore X65 hx (hb hby at_208) (q := 210) rfl (L' := #[.val (.int x0), .val (.int x1), .val (.int x2), .val (.int u1), .val (.ref a2), .val (.ref a41), .val (.ref a41), .val (.int v54), .val (.int v63)]) rfl ?_
            refine gIload X65 hx (hb hby at_210) (q := 212) rfl rfl ?_
            have hone : v63 = 1 := own_law2 x0 x1 x2 u1 hu1 v54 hv54 g58 hg58 v60 hv60 v63 hv63 c10 c40
            exact gRetZ X65 hx hlk hret (hb hby at_212) (by decide) (by decide) (Or.inr hone) ⟨by rw [hone], N65⟩
          by_cases c62 : v60 = (0 : Int32)
          · refine gIfY X56 hx (hb hby at_188) (q := 207) (by decide) (by decide) (XT.i0_eq_t c62) ?_
            refine gIconst X56 hx (0 : Int32) (hb hby at_207) (q := 208) rfl (by decide) ?_
            exact J188_64 T56 _ X56 e56 N57 _ (by first | rfl | (simp only [if_neg c10, if_pos c40, if_pos c62]; done) | (simp only [if_neg c10, if_pos c40, if_pos c62]; done) | (simp only [if_neg c10, if_pos c40, if_pos c62, if_true, if_false]; done) | (exfalso; simp at c62; done))
          · refine gIfN X56 hx (hb hby at_188) (q := 191) rfl (XT.i0_eq_f c62) ?_
            refine gAload X56 hx (hb hby at_191) (q := 193) rfl rfl rfl ?_
            refine gAload X56 hx (hb hby at_193) (q := 195) rfl rfl rfl ?_
            refine gCallV X56 hx hZ hown (hw _ (List.mem_of_getElem? (i := 11) rfl)) (hw _ (List.mem_of_getElem? (i := 12) rfl)) (hw _ (List.mem_of_getElem? (i := 14) rfl)) (hw _ (List.mem_of_getElem? (i := 13) rfl)) (hw _ (List.mem_of_getElem? (i := 2) rfl)) (hw _ (List.mem_of_getElem? (i := 15) rfl)) (notFace_of_selects (args := #[]) (mvT hZ (hw _ (List.mem_of_getElem? (i := 14) rfl)))) (by decide) (rmEqC l Z a0 hw [] a41 a2 x1 x0 T47.heap n0 Z52 P47m F50 E49) (W := 0) (by decide) (by decide) e56 (by rw [hml]; rfl) P47e [(.ref a2)] (lenOf pd2 rfl) rfl (S := []) rfl (Nat.le_of_eq rfl) (hb hby at_195) (q := 198) rfl (by decide) (by decide) (fun r66 T66 M66 X66 q66 => ?_)
            obtain ⟨rfl, M66n, e66⟩ := q66
            have N67 := Fr.app N57 M66n
            dsimp only [Option.toList, List.cons_append, List.nil_append]
            refine gIload X66 hx (hb hby at_198) (q := 200) rfl rfl ?_
            by_cases c69 : (if x0 = x1 then (1 : Int32) else (0 : Int32)) = v54
            · refine gIcmpN X66 hx (hb hby at_200) (q := 203) rfl (XT.ii_ne_f c69) ?_
              refine gIconst X66 hx (1 : Int32) (hb hby at_203) (q := 204) rfl (by decide) ?_
              refine gGoto X66 hx (hb hby at_204) (q := 208) (by decide) (by decide) ?_
              exact J188_64 T66 _ X66 e66 N67 _ (by first | rfl | (simp only [if_neg c10, if_pos c40, if_neg c62, if_pos c69]; done) | (simp only [if_neg c10, if_pos c40, if_neg c62, if_pos c69]; done) | (simp only [if_neg c10, if_pos c40, if_neg c62, if_pos c69, if_true, if_false]; done) | (exfalso; simp at c69; done))
            · refine gIcmpY X66 hx (hb hby at_200) (q := 207) (by decide) (by decide) (XT.ii_ne_t c69) ?_
              refine gIconst X66 hx (0 : Int32) (hb hby at_207) (q := 208) rfl (by decide) ?_
              exact J188_64 T66 _ X66 e66 N67 _ (by first | rfl | (simp only [if_neg c10, if_pos c40, if_neg c62, if_neg c69]; done) | (simp only [if_neg c10, if_pos c40, if_neg c62, if_neg c69]; done) | (simp only [if_neg c10, if_pos c40, if_neg c62, if_neg c69, if_true, if_false]; done) | (exfalso; simp at c69; done))
        by_cases c59 : g58 = v54
        · refine gIcmpN X56 hx (hb hby at_171) (q := 174) rfl (XT.ii_ne_f c59) ?_
          refine gIconst X56 hx (1 : Int32) (hb hby at_174) (q := 175) rfl (by decide) ?_
          refine gGoto X56 hx (hb hby at_175) (q := 179) (by decide) (by decide) ?_
          exact J171_61 _ (by first | rfl | (simp only [if_neg c10, if_pos c40, if_pos c59]; done) | (simp only [if_neg c10, if_pos c40, if_pos c59]; done) | (simp only [if_neg c10, if_pos c40, if_pos c59, if_true, if_false]; done) | (exfalso; simp at c59; done))
        · refine gIcmpY X56 hx (hb hby at_171) (q := 178) (by decide) (by decide) (XT.ii_ne_t c59) ?_
          refine gIconst X56 hx (0 : Int32) (hb hby at_178) (q := 179) rfl (by decide) ?_
          exact J171_61 _ (by first | rfl | (simp only [if_neg c10, if_pos c40, if_neg c59]; done) | (simp only [if_neg c10, if_pos c40, if_neg c59]; done) | (simp only [if_neg c10, if_pos c40, if_neg c59, if_true, if_false]; done) | (exfalso; simp at c59; done))
      by_cases c53 : x0 = x1
      · refine gIcmpN X47 hx (hb hby at_50) (q := 53) rfl (XT.ii_ne_f c53) ?_
        refine gIconst X47 hx (1 : Int32) (hb hby at_53) (q := 54) rfl (by decide) ?_
        refine gGoto X47 hx (hb hby at_54) (q := 58) (by decide) (by decide) ?_
        exact J50_55 _ (by first | rfl | (simp only [if_neg c10, if_pos c40, if_pos c53]; done) | (simp only [if_neg c10, if_pos c40, if_pos c53]; done) | (simp only [if_neg c10, if_pos c40, if_pos c53, if_true, if_false]; done) | (exfalso; simp at c53; done))
      · refine gIcmpY X47 hx (hb hby at_50) (q := 57) (by decide) (by decide) (XT.ii_ne_t c53) ?_
        refine gIconst X47 hx (0 : Int32) (hb hby at_57) (q := 58) rfl (by decide) ?_
        exact J50_55 _ (by first | rfl | (simp only [if_neg c10, if_pos c40, if_neg c53]; done) | (simp only [if_neg c10, if_pos c40, if_neg c53]; done) | (simp only [if_neg c10, if_pos c40, if_neg c53, if_true, if_false]; done) | (exfalso; simp at c53; done))
    · refine gIcmpN X6 hx (hb hby at_25) (q := 28) rfl (XT.ii_eq_f c40) ?_
      refine gIloadN X6 hx (hb hby at_28) (q := 29) rfl rfl ?_
      refine gBipush X6 hx (7 : Int32) (hb hby at_29) (q := 31) rfl (by decide) ?_
      by_cases c70 : u1 = (7 : Int32)
      · refine gIcmpN X6 hx (hb hby at_31) (q := 34) rfl (XT.ii_ne_f c70) ?_
        refine gNewO X6 hx hZ hown (hw _ (List.mem_of_getElem? (i := 0) rfl)) (hw _ (List.mem_of_getElem? (i := 1) rfl)) (hw _ (List.mem_of_getElem? (i := 2) rfl)) rfl (hb hby at_34) (q := 37) rfl (by decide) (by decide) (fun T71 h71 a71 X71 e71 g71 E71 A71 D71 => ?_)
        have E72 := Exa.ext E71 P6e
        have F73 := Fld.ext E71 P6m
        have O74 := O8.ext E71
        have le_a71 : n0 ≤ a71 := by rw [g71]; exact Z9
        have ne_a2_a71 : a2 ≠ a71 := by rw [g71]; exact Nat.ne_of_lt P6e.lt
        have Z75 := Nat.le_trans Z9 E71.1
        have F76 : Fld Z h71 a71 "com/example/tintfold/tintfold/Colour" "argb" "I" (.int (0 : Int32)) := D71 (Or.inr (hw _ (List.mem_of_getElem? (i := 10) rfl))) (ty := .int) (by decide)
        clear D71
        refine gDup X71 hx (hb hby at_37) (q := 38) rfl rfl ?_
        refine gIloadN X71 hx (hb hby at_38) (q := 39) rfl rfl ?_
        refine gCallN X71 hx hZ rfl hown (hw _ (List.mem_of_getElem? (i := 3) rfl)) (hw _ (List.mem_of_getElem? (i := 4) rfl)) (hw _ (List.mem_of_getElem? (i := 2) rfl)) (hw _ (List.mem_of_getElem? (i := 5) rfl)) (by decide) (rmCol l Z a0 hw [] a71 x1 h71 n0 Z75 F76 A71 le_a71) (W := 1) (by decide) (by decide) e71 (by rw [hml]; rfl) [(.int x1)] (lenOf pd1 rfl) rfl (S := [(.ref a71)]) rfl (Nat.le_of_eq rfl) (hb hby at_39) (q := 42) rfl (by decide) (by decide) (fun r77 T77 M77 X77 q77 => ?_)
        obtain ⟨rfl, M77n, K77, P77e, P77m⟩ := q77
        have N78 := Fr.app N7 M77n
        have E79 := Exa.keep E72 K77
        have F80 := Fld.keep F73 K77 (ninS ne_a2_a71 nin0)
        have O81 := O74.keep K77 (allS le_a71 all0)
        have Z82 := Nat.le_trans Z75 K77.1
        dsimp only [Option.toList, List.cons_append, List.nil_append]
        refine gAstore X77 hx (hb hby at_42) (q := 44) rfl rfl (L' := #[.val (.int x0), .val (.int x1), .val (.int x2), .val (.int u1), .val (.ref a2), .unset, .val (.ref a71), .unset, .unset]) rfl ?_
        refine gAload X77 hx (hb hby at_44) (q := 46) rfl rfl rfl ?_
        refine gAstore X77 hx (hb hby at_46) (q := 48) rfl rfl (L' := #[.val (.int x0), .val (.int x1), .val (.int x2), .val (.int u1), .val (.ref a2), .val (.ref a71), .val (.ref a71), .unset, .unset]) rfl ?_
        refine gIloadN X77 hx (hb hby at_48) (q := 49) rfl rfl ?_
        refine gIloadN X77 hx (hb hby at_49) (q := 50) rfl rfl ?_
        have J50_85 : ∀ v84 : Int32, v84 = (if x0 = x1 then (1 : Int32) else (0 : Int32)) → Go p.tables e below (Done s (Q_rm0 Z x0 x1 x2 rc kc vc h0 n0) (room_1.cells) (room_1.slots)) (T77.setTop (mkF m 58 #[.val (.int x0), .val (.int x1), .val (.int x2), .val (.int u1), .val (.ref a2), .val (.ref a71), .val (.ref a71), .unset, .unset] [(.int v84)])) := by
          intro v84 hv84
          refine gIstore X77 hx (hb hby at_58) (q := 60) rfl (L' := #[.val (.int x0), .val (.int x1), .val (.int x2), .val (.int u1), .val (.ref a2), .val (.ref a71), .val (.ref a71), .val (.int v84), .unset]) rfl ?_
          refine gGoto X77 hx (hb hby at_60) (q := 162) (by decide) (by decide) ?_
          refine gAload X77 hx (hb hby at_162) (q := 164) rfl rfl rfl ?_
          refine gAload X77 hx (hb hby at_164) (q := 166) rfl rfl rfl ?_
          refine gCallV X77 hx hZ hown (hw _ (List.mem_of_getElem? (i := 11) rfl)) (hw _ (List.mem_of_getElem? (i := 12) rfl)) (hw _ (List.mem_of_getElem? (i := 14) rfl)) (hw _ (List.mem_of_getElem? (i := 13) rfl)) (hw _ (List.mem_of_getElem? (i := 2) rfl)) (hw _ (List.mem_of_getElem? (i := 15) rfl)) (notFace_of_selects (args := #[]) (mvT hZ (hw _ (List.mem_of_getElem? (i := 14) rfl)))) (by decide) (rmEqC l Z a0 hw [] a2 a71 x0 x1 T77.heap n0 Z82 F80 P77m P77e) (W := 0) (by decide) (by decide) rfl (by rw [hml]; rfl) E79 [(.ref a71)] (lenOf pd2 rfl) rfl (S := []) rfl (Nat.le_of_eq rfl) (hb hby at_166) (q := 169) rfl (by decide) (by decide) (fun r86 T86 M86 X86 q86 => ?_)
          obtain ⟨rfl, M86n, e86⟩ := q86
          have N87 := Fr.app N78 M86n
          dsimp only [Option.toList, List.cons_append, List.nil_append]
          generalize hg88 : (if x1 = x0 then (1 : Int32) else (0 : Int32)) = g88
          refine gIload X86 hx (hb hby at_169) (q := 171) rfl rfl ?_
          have J171_91 : ∀ v90 : Int32, v90 = (if g88 = v84 then (1 : Int32) else (0 : Int32)) → Go p.tables e below (Done s (Q_rm0 Z x0 x1 x2 rc kc vc h0 n0) (room_1.cells) (room_1.slots)) (T86.setTop (mkF m 179 #[.val (.int x0), .val (.int x1), .val (.int x2), .val (.int u1), .val (.ref a2), .val (.ref a71), .val (.ref a71), .val (.int v84), .unset] [(.int v90)])) := by
            intro v90 hv90
            refine gIstore X86 hx (hb hby at_179) (q := 181) rfl (L' := #[.val (.int x0), .val (.int x1), .val (.int x2), .val (.int u1), .val (.ref a2), .val (.ref a71), .val (.ref a71), .val (.int v84), .val (.int v90)]) rfl ?_
            refine gAload X86 hx (hb hby at_181) (q := 183) rfl rfl rfl ?_
            refine gNullN X86 hx (hb hby at_183) (q := 186) rfl rfl Value.noConfusion ?_
            refine gIload X86 hx (hb hby at_186) (q := 188) rfl rfl ?_
            have J188_94 : ∀ (T95 : State) (L95 : List Loc), Stand p l e room_1 s m #[(.int x0), (.int x1), (.int x2)] below meth c T95 L95 2 2 → T95.heap = T77.heap → Fr n0 L95 → ∀ v93 : Int32, v93 = (if v90 = (0 : Int32) then (0 : Int32) else (if (if x0 = x1 then (1 : Int32) else (0 : Int32)) = v84 then (1 : Int32) else (0 : Int32))) → Go p.tables e below (Done s (Q_rm0 Z x0 x1 x2 rc kc vc h0 n0) (room_1.cells) (room_1.slots)) (T95.setTop (mkF m 208 #[.val (.int x0), .val (.int x1), .val (.int x2), .val (.int u1), .val (.ref a2), .val (.ref a71), .val (.ref a71), .val (.int v84), .val (.int v90)] [(.int v93)])) := by
              intro T95 L95 X95 e95 N95 v93 hv93
              refine gIstore X95 hx (hb hby at_208) (q := 210) rfl (L' := #[.val (.int x0), .val (.int x1), .val (.int x2), .val (.int u1), .val (.ref a2), .val (.ref a71), .val (.ref a71), .val (.int v84), .val (.int v93)]) rfl ?_
              refine gIload X95 hx (hb hby at_210) (q := 212) rfl rfl ?_
              have hone : v93 = 1 := own_law3 x0 x1 x2 u1 hu1 v84 hv84 g88 hg88 v90 hv90 v93 hv93 c10 c40 c70
              exact gRetZ X95 hx hlk hret (hb hby at_212) (by decide) (by decide) (Or.inr hone) ⟨by rw [hone], N95⟩
            by_cases c92 : v90 = (0 : Int32)
            · refine gIfY X86 hx (hb hby at_188) (q := 207) (by decide) (by decide) (XT.i0_eq_t c92) ?_
              refine gIconst X86 hx (0 : Int32) (hb hby at_207) (q := 208) rfl (by decide) ?_
              exact J188_94 T86 _ X86 e86 N87 _ (by first | rfl | (simp only [if_neg c10, if_neg c40, if_pos c70, if_pos c92]; done) | (simp only [if_neg c10, if_neg c40, if_pos c70, if_pos c92]; done) | (simp only [if_neg c10, if_neg c40, if_pos c70, if_pos c92, if_true, if_false]; done) | (exfalso; simp at c92; done))
            · refine gIfN X86 hx (hb hby at_188) (q := 191) rfl (XT.i0_eq_f c92) ?_
              refine gAload X86 hx (hb hby at_191) (q := 193) rfl rfl rfl ?_
              refine gAload X86 hx (hb hby at_193) (q := 195) rfl rfl rfl ?_
              refine gCallV X86 hx hZ hown (hw _ (List.mem_of_getElem? (i := 11) rfl)) (hw _ (List.mem_of_getElem? (i := 12) rfl)) (hw _ (List.mem_of_getElem? (i := 14) rfl)) (hw _ (List.mem_of_getElem? (i := 13) rfl)) (hw _ (List.mem_of_getElem? (i := 2) rfl)) (hw _ (List.mem_of_getElem? (i := 15) rfl)) (notFace_of_selects (args := #[]) (mvT hZ (hw _ (List.mem_of_getElem? (i := 14) rfl)))) (by decide) (rmEqC l Z a0 hw [] a71 a2 x1 x0 T77.heap n0 Z82 P77m F80 E79) (W := 0) (by decide) (by decide) e86 (by rw [hml]; rfl) P77e [(.ref a2)] (lenOf pd2 rfl) rfl (S := []) rfl (Nat.le_of_eq rfl) (hb hby at_195) (q := 198) rfl (by decide) (by decide) (fun r96 T96 M96 X96 q96 => ?_)
              obtain ⟨rfl, M96n, e96⟩ := q96
              have N97 := Fr.app N87 M96n
              dsimp only [Option.toList, List.cons_append, List.nil_append]
              refine gIload X96 hx (hb hby at_198) (q := 200) rfl rfl ?_
              by_cases c99 : (if x0 = x1 then (1 : Int32) else (0 : Int32)) = v84
              · refine gIcmpN X96 hx (hb hby at_200) (q := 203) rfl (XT.ii_ne_f c99) ?_
                refine gIconst X96 hx (1 : Int32) (hb hby at_203) (q := 204) rfl (by decide) ?_
                refine gGoto X96 hx (hb hby at_204) (q := 208) (by decide) (by decide) ?_
                exact J188_94 T96 _ X96 e96 N97 _ (by first | rfl | (simp only [if_neg c10, if_neg c40, if_pos c70, if_neg c92, if_pos c99]; done) | (simp only [if_neg c10, if_neg c40, if_pos c70, if_neg c92, if_pos c99]; done) | (simp only [if_neg c10, if_neg c40, if_pos c70, if_neg c92, if_pos c99, if_true, if_false]; done) | (exfalso; simp at c99; done))
              · refine gIcmpY X96 hx (hb hby at_200) (q := 207) (by decide) (by decide) (XT.ii_ne_t c99) ?_
                refine gIconst X96 hx (0 : Int32) (hb hby at_207) (q := 208) rfl (by decide) ?_
                exact J188_94 T96 _ X96 e96 N97 _ (by first | rfl | (simp only [if_neg c10, if_neg c40, if_pos c70, if_neg c92, if_neg c99]; done) | (simp only [if_neg c10, if_neg c40, if_pos c70, if_neg c92, if_neg c99]; done) | (simp only [if_neg c10, if_neg c40, if_pos c70, if_neg c92, if_neg c99, if_true, if_false]; done) | (exfalso; simp at c99; done))
          by_cases c89 : g88 = v84
          · refine gIcmpN X86 hx (hb hby at_171) (q := 174) rfl (XT.ii_ne_f c89) ?_
            refine gIconst X86 hx (1 : Int32) (hb hby at_174) (q := 175) rfl (by decide) ?_
            refine gGoto X86 hx (hb hby at_175) (q := 179) (by decide) (by decide) ?_
            exact J171_91 _ (by first | rfl | (simp only [if_neg c10, if_neg c40, if_pos c70, if_pos c89]; done) | (simp only [if_neg c10, if_neg c40, if_pos c70, if_pos c89]; done) | (simp only [if_neg c10, if_neg c40, if_pos c70, if_pos c89, if_true, if_false]; done) | (exfalso; simp at c89; done))
          · refine gIcmpY X86 hx (hb hby at_171) (q := 178) (by decide) (by decide) (XT.ii_ne_t c89) ?_
            refine gIconst X86 hx (0 : Int32) (hb hby at_178) (q := 179) rfl (by decide) ?_
            exact J171_91 _ (by first | rfl | (simp only [if_neg c10, if_neg c40, if_pos c70, if_neg c89]; done) | (simp only [if_neg c10, if_neg c40, if_pos c70, if_neg c89]; done) | (simp only [if_neg c10, if_neg c40, if_pos c70, if_neg c89, if_true, if_false]; done) | (exfalso; simp at c89; done))
        by_cases c83 : x0 = x1
        · refine gIcmpN X77 hx (hb hby at_50) (q := 53) rfl (XT.ii_ne_f c83) ?_
          refine gIconst X77 hx (1 : Int32) (hb hby at_53) (q := 54) rfl (by decide) ?_
          refine gGoto X77 hx (hb hby at_54) (q := 58) (by decide) (by decide) ?_
          exact J50_85 _ (by first | rfl | (simp only [if_neg c10, if_neg c40, if_pos c70, if_pos c83]; done) | (simp only [if_neg c10, if_neg c40, if_pos c70, if_pos c83]; done) | (simp only [if_neg c10, if_neg c40, if_pos c70, if_pos c83, if_true, if_false]; done) | (exfalso; simp at c83; done))
        · refine gIcmpY X77 hx (hb hby at_50) (q := 57) (by decide) (by decide) (XT.ii_ne_t c83) ?_
          refine gIconst X77 hx (0 : Int32) (hb hby at_57) (q := 58) rfl (by decide) ?_
          exact J50_85 _ (by first | rfl | (simp only [if_neg c10, if_neg c40, if_pos c70, if_neg c83]; done) | (simp only [if_neg c10, if_neg c40, if_pos c70, if_neg c83]; done) | (simp only [if_neg c10, if_neg c40, if_pos c70, if_neg c83, if_true, if_false]; done) | (exfalso; simp at c83; done))
      · refine gIcmpY X6 hx (hb hby at_31) (q := 63) (by decide) (by decide) (XT.ii_ne_t c70) ?_
        refine gIloadN X6 hx (hb hby at_63) (q := 64) rfl rfl ?_
        refine gIconst X6 hx (1 : Int32) (hb hby at_64) (q := 65) rfl (by decide) ?_
        by_cases c100 : u1 = (1 : Int32)
        · refine gIcmpN X6 hx (hb hby at_65) (q := 68) rfl (XT.ii_ne_f c100) ?_
          refine gNewO X6 hx hZ hown (hw _ (List.mem_of_getElem? (i := 0) rfl)) (hw _ (List.mem_of_getElem? (i := 1) rfl)) (hw _ (List.mem_of_getElem? (i := 2) rfl)) rfl (hb hby at_68) (q := 71) rfl (by decide) (by decide) (fun T101 h101 a101 X101 e101 g101 E101 A101 D101 => ?_)
          have E102 := Exa.ext E101 P6e
          have F103 := Fld.ext E101 P6m
          have O104 := O8.ext E101
          have le_a101 : n0 ≤ a101 := by rw [g101]; exact Z9
          have ne_a2_a101 : a2 ≠ a101 := by rw [g101]; exact Nat.ne_of_lt P6e.lt
          have Z105 := Nat.le_trans Z9 E101.1
          have F106 : Fld Z h101 a101 "com/example/tintfold/tintfold/Colour" "argb" "I" (.int (0 : Int32)) := D101 (Or.inr (hw _ (List.mem_of_getElem? (i := 10) rfl))) (ty := .int) (by decide)
          clear D101
          refine gDup X101 hx (hb hby at_71) (q := 72) rfl rfl ?_
          refine gIloadN X101 hx (hb hby at_72) (q := 73) rfl rfl ?_
          refine gCallN X101 hx hZ rfl hown (hw _ (List.mem_of_getElem? (i := 3) rfl)) (hw _ (List.mem_of_getElem? (i := 4) rfl)) (hw _ (List.mem_of_getElem? (i := 2) rfl)) (hw _ (List.mem_of_getElem? (i := 5) rfl)) (by decide) (rmCol l Z a0 hw [] a101 x0 h101 n0 Z105 F106 A101 le_a101) (W := 1) (by decide) (by decide) e101 (by rw [hml]; rfl) [(.int x0)] (lenOf pd1 rfl) rfl (S := [(.ref a101)]) rfl (Nat.le_of_eq rfl) (hb hby at_73) (q := 76) rfl (by decide) (by decide) (fun r107 T107 M107 X107 q107 => ?_)
          obtain ⟨rfl, M107n, K107, P107e, P107m⟩ := q107
          have N108 := Fr.app N7 M107n
          have E109 := Exa.keep E102 K107
          have F110 := Fld.keep F103 K107 (ninS ne_a2_a101 nin0)
          have O111 := O104.keep K107 (allS le_a101 all0)
          have Z112 := Nat.le_trans Z105 K107.1
          dsimp only [Option.toList, List.cons_append, List.nil_append]
          refine gAstore X107 hx (hb hby at_76) (q := 78) rfl rfl (L' := #[.val (.int x0), .val (.int x1), .val (.int x2), .val (.int u1), .val (.ref a2), .unset, .val (.ref a101), .unset, .unset]) rfl ?_
          refine gAload X107 hx (hb hby at_78) (q := 80) rfl rfl rfl ?_
          refine gAstore X107 hx (hb hby at_80) (q := 82) rfl rfl (L' := #[.val (.int x0), .val (.int x1), .val (.int x2), .val (.int u1), .val (.ref a2), .val (.ref a101), .val (.ref a101), .unset, .unset]) rfl ?_
          refine gIconst X107 hx (1 : Int32) (hb hby at_82) (q := 83) rfl (by decide) ?_
          refine gIstore X107 hx (hb hby at_83) (q := 85) rfl (L' := #[.val (.int x0), .val (.int x1), .val (.int x2), .val (.int u1), .val (.ref a2), .val (.ref a101), .val (.ref a101), .val (.int (1 : Int32)), .unset]) rfl ?_
          refine gGoto X107 hx (hb hby at_85) (q := 162) (by decide) (by decide) ?_
          refine gAload X107 hx (hb hby at_162) (q := 164) rfl rfl rfl ?_
          refine gAload X107 hx (hb hby at_164) (q := 166) rfl rfl rfl ?_
          refine gCallV X107 hx hZ hown (hw _ (List.mem_of_getElem? (i := 11) rfl)) (hw _ (List.mem_of_getElem? (i := 12) rfl)) (hw _ (List.mem_of_getElem? (i := 14) rfl)) (hw _ (List.mem_of_getElem? (i := 13) rfl)) (hw _ (List.mem_of_getElem? (i := 2) rfl)) (hw _ (List.mem_of_getElem? (i := 15) rfl)) (notFace_of_selects (args := #[]) (mvT hZ (hw _ (List.mem_of_getElem? (i := 14) rfl)))) (by decide) (rmEqC l Z a0 hw [] a2 a101 x0 x0 T107.heap n0 Z112 F110 P107m P107e) (W := 0) (by decide) (by decide) rfl (by rw [hml]; rfl) E109 [(.ref a101)] (lenOf pd2 rfl) rfl (S := []) rfl (Nat.le_of_eq rfl) (hb hby at_166) (q := 169) rfl (by decide) (by decide) (fun r113 T113 M113 X113 q113 => ?_)
          obtain ⟨rfl, M113n, e113⟩ := q113
          have N114 := Fr.app N108 M113n
          dsimp only [Option.toList, List.cons_append, List.nil_append]
          generalize hg115 : (if x0 = x0 then (1 : Int32) else (0 : Int32)) = g115
          refine gIload X113 hx (hb hby at_169) (q := 171) rfl rfl ?_
          have J171_118 : ∀ v117 : Int32, v117 = (if g115 = (1 : Int32) then (1 : Int32) else (0 : Int32)) → Go p.tables e below (Done s (Q_rm0 Z x0 x1 x2 rc kc vc h0 n0) (room_1.cells) (room_1.slots)) (T113.setTop (mkF m 179 #[.val (.int x0), .val (.int x1), .val (.int x2), .val (.int u1), .val (.ref a2), .val (.ref a101), .val (.ref a101), .val (.int (1 : Int32)), .unset] [(.int v117)])) := by
            intro v117 hv117
            refine gIstore X113 hx (hb hby at_179) (q := 181) rfl (L' := #[.val (.int x0), .val (.int x1), .val (.int x2), .val (.int u1), .val (.ref a2), .val (.ref a101), .val (.ref a101), .val (.int (1 : Int32)), .val (.int v117)]) rfl ?_
            refine gAload X113 hx (hb hby at_181) (q := 183) rfl rfl rfl ?_
            refine gNullN X113 hx (hb hby at_183) (q := 186) rfl rfl Value.noConfusion ?_
            refine gIload X113 hx (hb hby at_186) (q := 188) rfl rfl ?_
            have J188_121 : ∀ (T122 : State) (L122 : List Loc), Stand p l e room_1 s m #[(.int x0), (.int x1), (.int x2)] below meth c T122 L122 2 2 → T122.heap = T107.heap → Fr n0 L122 → ∀ v120 : Int32, v120 = (if v117 = (0 : Int32) then (0 : Int32) else (if (if x0 = x0 then (1 : Int32) else (0 : Int32)) = (1 : Int32) then (1 : Int32) else (0 : Int32))) → Go p.tables e below (Done s (Q_rm0 Z x0 x1 x2 rc kc vc h0 n0) (room_1.cells) (room_1.slots)) (T122.setTop (mkF m 208 #[.val (.int x0), .val (.int x1), .val (.int x2), .val (.int u1), .val (.ref a2), .val (.ref a101), .val (.ref a101), .val (.int (1 : Int32)), .val (.int v117)] [(.int v120)])) := by
              intro T122 L122 X122 e122 N122 v120 hv120
              refine gIstore X122 hx (hb hby at_208) (q := 210) rfl (L' := #[.val (.int x0), .val (.int x1), .val (.int x2), .val (.int u1), .val (.ref a2), .val (.ref a101), .val (.ref a101), .val (.int (1 : Int32)), .val (.int v120)]) rfl ?_
              refine gIload X122 hx (hb hby at_210) (q := 212) rfl rfl ?_
              have hone : v120 = 1 := own_law4 x0 x1 x2 u1 hu1 g115 hg115 v117 hv117 v120 hv120 c10 c40 c70 c100
              exact gRetZ X122 hx hlk hret (hb hby at_212) (by decide) (by decide) (Or.inr hone) ⟨by rw [hone], N122⟩
            by_cases c119 : v117 = (0 : Int32)
            · refine gIfY X113 hx (hb hby at_188) (q := 207) (by decide) (by decide) (XT.i0_eq_t c119) ?_
              refine gIconst X113 hx (0 : Int32) (hb hby at_207) (q := 208) rfl (by decide) ?_
              exact J188_121 T113 _ X113 e113 N114 _ (by first | rfl | (simp only [if_neg c10, if_neg c40, if_neg c70, if_pos c100, if_pos c119]; done) | (simp only [if_neg c10, if_neg c40, if_neg c70, if_pos c100, if_pos c119]; done) | (simp only [if_neg c10, if_neg c40, if_neg c70, if_pos c100, if_pos c119, if_true, if_false]; done) | (exfalso; simp at c119; done))
            · refine gIfN X113 hx (hb hby at_188) (q := 191) rfl (XT.i0_eq_f c119) ?_
              refine gAload X113 hx (hb hby at_191) (q := 193) rfl rfl rfl ?_
              refine gAload X113 hx (hb hby at_193) (q := 195) rfl rfl rfl ?_
              refine gCallV X113 hx hZ hown (hw _ (List.mem_of_getElem? (i := 11) rfl)) (hw _ (List.mem_of_getElem? (i := 12) rfl)) (hw _ (List.mem_of_getElem? (i := 14) rfl)) (hw _ (List.mem_of_getElem? (i := 13) rfl)) (hw _ (List.mem_of_getElem? (i := 2) rfl)) (hw _ (List.mem_of_getElem? (i := 15) rfl)) (notFace_of_selects (args := #[]) (mvT hZ (hw _ (List.mem_of_getElem? (i := 14) rfl)))) (by decide) (rmEqC l Z a0 hw [] a101 a2 x0 x0 T107.heap n0 Z112 P107m F110 E109) (W := 0) (by decide) (by decide) e113 (by rw [hml]; rfl) P107e [(.ref a2)] (lenOf pd2 rfl) rfl (S := []) rfl (Nat.le_of_eq rfl) (hb hby at_195) (q := 198) rfl (by decide) (by decide) (fun r123 T123 M123 X123 q123 => ?_)
              obtain ⟨rfl, M123n, e123⟩ := q123
              have N124 := Fr.app N114 M123n
              dsimp only [Option.toList, List.cons_append, List.nil_append]
              refine gIload X123 hx (hb hby at_198) (q := 200) rfl rfl ?_
              by_cases c126 : (if x0 = x0 then (1 : Int32) else (0 : Int32)) = (1 : Int32)
              · refine gIcmpN X123 hx (hb hby at_200) (q := 203) rfl (XT.ii_ne_f c126) ?_
                refine gIconst X123 hx (1 : Int32) (hb hby at_203) (q := 204) rfl (by decide) ?_
                refine gGoto X123 hx (hb hby at_204) (q := 208) (by decide) (by decide) ?_
                exact J188_121 T123 _ X123 e123 N124 _ (by first | rfl | (simp only [if_neg c10, if_neg c40, if_neg c70, if_pos c100, if_neg c119, if_pos c126]; done) | (simp only [if_neg c10, if_neg c40, if_neg c70, if_pos c100, if_neg c119, if_pos c126]; done) | (simp only [if_neg c10, if_neg c40, if_neg c70, if_pos c100, if_neg c119, if_pos c126, if_true, if_false]; done) | (exfalso; simp at c126; done))
              · refine gIcmpY X123 hx (hb hby at_200) (q := 207) (by decide) (by decide) (XT.ii_ne_t c126) ?_
                refine gIconst X123 hx (0 : Int32) (hb hby at_207) (q := 208) rfl (by decide) ?_
                exact J188_121 T123 _ X123 e123 N124 _ (by first | rfl | (simp only [if_neg c10, if_neg c40, if_neg c70, if_pos c100, if_neg c119, if_neg c126]; done) | (simp only [if_neg c10, if_neg c40, if_neg c70, if_pos c100, if_neg c119, if_neg c126]; done) | (simp only [if_neg c10, if_neg c40, if_neg c70, if_pos c100, if_neg c119, if_neg c126, if_true, if_false]; done) | (exfalso; simp at c126; done))
          by_cases c116 : g115 = (1 : Int32)
          · refine gIcmpN X113 hx (hb hby at_171) (q := 174) rfl (XT.ii_ne_f c116) ?_
            refine gIconst X113 hx (1 : Int32) (hb hby at_174) (q := 175) rfl (by decide) ?_
            refine gGoto X113 hx (hb hby at_175) (q := 179) (by decide) (by decide) ?_
            exact J171_118 _ (by first | rfl | (simp only [if_neg c10, if_neg c40, if_neg c70, if_pos c100, if_pos c116]; done) | (simp only [if_neg c10, if_neg c40, if_neg c70, if_pos c100, if_pos c116]; done) | (simp only [if_neg c10, if_neg c40, if_neg c70, if_pos c100, if_pos c116, if_true, if_false]; done) | (exfalso; simp at c116; done))
          · refine gIcmpY X113 hx (hb hby at_171) (q := 178) (by decide) (by decide) (XT.ii_ne_t c116) ?_
            refine gIconst X113 hx (0 : Int32) (hb hby at_178) (q := 179) rfl (by decide) ?_
            exact J171_118 _ (by first | rfl | (simp only [if_neg c10, if_neg c40, if_neg c70, if_pos c100, if_neg c116]; done) | (simp only [if_neg c10, if_neg c40, if_neg c70, if_pos c100, if_neg c116]; done) | (simp only [if_neg c10, if_neg c40, if_neg c70, if_pos c100, if_neg c116, if_true, if_false]; done) | (exfalso; simp at c116; done))
        · refine gIcmpY X6 hx (hb hby at_65) (q := 88) (by decide) (by decide) (XT.ii_ne_t c100) ?_
          refine gIloadN X6 hx (hb hby at_88) (q := 89) rfl rfl ?_
          refine gIconst X6 hx (2 : Int32) (hb hby at_89) (q := 90) rfl (by decide) ?_
          by_cases c127 : u1 = (2 : Int32)
          · refine gIcmpN X6 hx (hb hby at_90) (q := 93) rfl (XT.ii_ne_f c127) ?_
            refine gNewO X6 hx hZ hown (hw _ (List.mem_of_getElem? (i := 0) rfl)) (hw _ (List.mem_of_getElem? (i := 1) rfl)) (hw _ (List.mem_of_getElem? (i := 2) rfl)) rfl (hb hby at_93) (q := 96) rfl (by decide) (by decide) (fun T128 h128 a128 X128 e128 g128 E128 A128 D128 => ?_)
            have E129 := Exa.ext E128 P6e
            have F130 := Fld.ext E128 P6m
            have O131 := O8.ext E128
            have le_a128 : n0 ≤ a128 := by rw [g128]; exact Z9
            have ne_a2_a128 : a2 ≠ a128 := by rw [g128]; exact Nat.ne_of_lt P6e.lt
            have Z132 := Nat.le_trans Z9 E128.1
            have F133 : Fld Z h128 a128 "com/example/tintfold/tintfold/Colour" "argb" "I" (.int (0 : Int32)) := D128 (Or.inr (hw _ (List.mem_of_getElem? (i := 10) rfl))) (ty := .int) (by decide)
            clear D128
            refine gDup X128 hx (hb hby at_96) (q := 97) rfl rfl ?_
            refine gIloadN X128 hx (hb hby at_97) (q := 98) rfl rfl ?_
            refine gIconst X128 hx (1 : Int32) (hb hby at_98) (q := 99) rfl (by decide) ?_
            refine gIloadN X128 hx (hb hby at_99) (q := 100) rfl rfl ?_
            refine gBipush X128 hx (31 : Int32) (hb hby at_100) (q := 102) rfl (by decide) ?_
            refine gIand X128 hx (hb hby at_102) (q := 103) rfl ?_
            refine gIshl X128 hx (hb hby at_103) (q := 104) rfl ?_
            refine gIxor X128 hx (hb hby at_104) (q := 105) rfl ?_
            refine gCallN X128 hx hZ rfl hown (hw _ (List.mem_of_getElem? (i := 3) rfl)) (hw _ (List.mem_of_getElem? (i := 4) rfl)) (hw _ (List.mem_of_getElem? (i := 2) rfl)) (hw _ (List.mem_of_getElem? (i := 5) rfl)) (by decide) (rmCol l Z a0 hw [] a128 (x0 ^^^ ((1 : Int32) <<< ((x1 &&& (31 : Int32)) &&& 31))) h128 n0 Z132 F133 A128 le_a128) (W := 1) (by decide) (by decide) e128 (by rw [hml]; rfl) [(.int (x0 ^^^ ((1 : Int32) <<< ((x1 &&& (31 : Int32)) &&& 31))))] (lenOf pd1 rfl) rfl (S := [(.ref a128)]) rfl (Nat.le_of_eq rfl) (hb hby at_105) (q := 108) rfl (by decide) (by decide) (fun r134 T134 M134 X134 q134 => ?_)
            obtain ⟨rfl, M134n, K134, P134e, P134m⟩ := q134
            have N135 := Fr.app N7 M134n
            have E136 := Exa.keep E129 K134
            have F137 := Fld.keep F130 K134 (ninS ne_a2_a128 nin0)
            have O138 := O131.keep K134 (allS le_a128 all0)
            have Z139 := Nat.le_trans Z132 K134.1
            dsimp only [Option.toList, List.cons_append, List.nil_append]
            refine gAstore X134 hx (hb hby at_108) (q := 110) rfl rfl (L' := #[.val (.int x0), .val (.int x1), .val (.int x2), .val (.int u1), .val (.ref a2), .unset, .val (.ref a128), .unset, .unset]) rfl ?_
            refine gAload X134 hx (hb hby at_110) (q := 112) rfl rfl rfl ?_
            refine gAstore X134 hx (hb hby at_112) (q := 114) rfl rfl (L' := #[.val (.int x0), .val (.int x1), .val (.int x2), .val (.int u1), .val (.ref a2), .val (.ref a128), .val (.ref a128), .unset, .unset]) rfl ?_
            refine gIconst X134 hx (0 : Int32) (hb hby at_114) (q := 115) rfl (by decide) ?_
            refine gIstore X134 hx (hb hby at_115) (q := 117) rfl (L' := #[.val (.int x0), .val (.int x1), .val (.int x2), .val (.int u1), .val (.ref a2), .val (.ref a128), .val (.ref a128), .val (.int (0 : Int32)), .unset]) rfl ?_
            refine gGoto X134 hx (hb hby at_117) (q := 162) (by decide) (by decide) ?_
            refine gAload X134 hx (hb hby at_162) (q := 164) rfl rfl rfl ?_
            refine gAload X134 hx (hb hby at_164) (q := 166) rfl rfl rfl ?_
            refine gCallV X134 hx hZ hown (hw _ (List.mem_of_getElem? (i := 11) rfl)) (hw _ (List.mem_of_getElem? (i := 12) rfl)) (hw _ (List.mem_of_getElem? (i := 14) rfl)) (hw _ (List.mem_of_getElem? (i := 13) rfl)) (hw _ (List.mem_of_getElem? (i := 2) rfl)) (hw _ (List.mem_of_getElem? (i := 15) rfl)) (notFace_of_selects (args := #[]) (mvT hZ (hw _ (List.mem_of_getElem? (i := 14) rfl)))) (by decide) (rmEqC l Z a0 hw [] a2 a128 x0 (x0 ^^^ ((1 : Int32) <<< ((x1 &&& (31 : Int32)) &&& 31))) T134.heap n0 Z139 F137 P134m P134e) (W := 0) (by decide) (by decide) rfl (by rw [hml]; rfl) E136 [(.ref a128)] (lenOf pd2 rfl) rfl (S := []) rfl (Nat.le_of_eq rfl) (hb hby at_166) (q := 169) rfl (by decide) (by decide) (fun r140 T140 M140 X140 q140 => ?_)
            obtain ⟨rfl, M140n, e140⟩ := q140
            have N141 := Fr.app N135 M140n
            dsimp only [Option.toList, List.cons_append, List.nil_append]
            generalize hg142 : (if (x0 ^^^ ((1 : Int32) <<< ((x1 &&& (31 : Int32)) &&& 31))) = x0 then (1 : Int32) else (0 : Int32)) = g142
            refine gIload X140 hx (hb hby at_169) (q := 171) rfl rfl ?_
            have J171_145 : ∀ v144 : Int32, v144 = (if g142 = (0 : Int32) then (1 : Int32) else (0 : Int32)) → Go p.tables e below (Done s (Q_rm0 Z x0 x1 x2 rc kc vc h0 n0) (room_1.cells) (room_1.slots)) (T140.setTop (mkF m 179 #[.val (.int x0), .val (.int x1), .val (.int x2), .val (.int u1), .val (.ref a2), .val (.ref a128), .val (.ref a128), .val (.int (0 : Int32)), .unset] [(.int v144)])) := by
              intro v144 hv144
              refine gIstore X140 hx (hb hby at_179) (q := 181) rfl (L' := #[.val (.int x0), .val (.int x1), .val (.int x2), .val (.int u1), .val (.ref a2), .val (.ref a128), .val (.ref a128), .val (.int (0 : Int32)), .val (.int v144)]) rfl ?_
              refine gAload X140 hx (hb hby at_181) (q := 183) rfl rfl rfl ?_
              refine gNullN X140 hx (hb hby at_183) (q := 186) rfl rfl Value.noConfusion ?_
              refine gIload X140 hx (hb hby at_186) (q := 188) rfl rfl ?_
              have J188_148 : ∀ (T149 : State) (L149 : List Loc), Stand p l e room_1 s m #[(.int x0), (.int x1), (.int x2)] below meth c T149 L149 2 2 → T149.heap = T134.heap → Fr n0 L149 → ∀ v147 : Int32, v147 = (if v144 = (0 : Int32) then (0 : Int32) else (if (if x0 = (x0 ^^^ ((1 : Int32) <<< ((x1 &&& (31 : Int32)) &&& 31))) then (1 : Int32) else (0 : Int32)) = (0 : Int32) then (1 : Int32) else (0 : Int32))) → Go p.tables e below (Done s (Q_rm0 Z x0 x1 x2 rc kc vc h0 n0) (room_1.cells) (room_1.slots)) (T149.setTop (mkF m 208 #[.val (.int x0), .val (.int x1), .val (.int x2), .val (.int u1), .val (.ref a2), .val (.ref a128), .val (.ref a128), .val (.int (0 : Int32)), .val (.int v144)] [(.int v147)])) := by
                intro T149 L149 X149 e149 N149 v147 hv147
                refine gIstore X149 hx (hb hby at_208) (q := 210) rfl (L' := #[.val (.int x0), .val (.int x1), .val (.int x2), .val (.int u1), .val (.ref a2), .val (.ref a128), .val (.ref a128), .val (.int (0 : Int32)), .val (.int v147)]) rfl ?_
                refine gIload X149 hx (hb hby at_210) (q := 212) rfl rfl ?_
                have hone : v147 = 1 := own_law5 x0 x1 x2 u1 hu1 g142 hg142 v144 hv144 v147 hv147 c10 c40 c70 c100 c127
                exact gRetZ X149 hx hlk hret (hb hby at_212) (by decide) (by decide) (Or.inr hone) ⟨by rw [hone], N149⟩
              by_cases c146 : v144 = (0 : Int32)
              · refine gIfY X140 hx (hb hby at_188) (q := 207) (by decide) (by decide) (XT.i0_eq_t c146) ?_
                refine gIconst X140 hx (0 : Int32) (hb hby at_207) (q := 208) rfl (by decide) ?_
                exact J188_148 T140 _ X140 e140 N141 _ (by first | rfl | (simp only [if_neg c10, if_neg c40, if_neg c70, if_neg c100, if_pos c127, if_pos c146]; done) | (simp only [if_neg c10, if_neg c40, if_neg c70, if_neg c100, if_pos c127, if_pos c146]; done) | (simp only [if_neg c10, if_neg c40, if_neg c70, if_neg c100, if_pos c127, if_pos c146, if_true, if_false]; done) | (exfalso; simp at c146; done))
              · refine gIfN X140 hx (hb hby at_188) (q := 191) rfl (XT.i0_eq_f c146) ?_
                refine gAload X140 hx (hb hby at_191) (q := 193) rfl rfl rfl ?_
                refine gAload X140 hx (hb hby at_193) (q := 195) rfl rfl rfl ?_
                refine gCallV X140 hx hZ hown (hw _ (List.mem_of_getElem? (i := 11) rfl)) (hw _ (List.mem_of_getElem? (i := 12) rfl)) (hw _ (List.mem_of_getElem? (i := 14) rfl)) (hw _ (List.mem_of_getElem? (i := 13) rfl)) (hw _ (List.mem_of_getElem? (i := 2) rfl)) (hw _ (List.mem_of_getElem? (i := 15) rfl)) (notFace_of_selects (args := #[]) (mvT hZ (hw _ (List.mem_of_getElem? (i := 14) rfl)))) (by decide) (rmEqC l Z a0 hw [] a128 a2 (x0 ^^^ ((1 : Int32) <<< ((x1 &&& (31 : Int32)) &&& 31))) x0 T134.heap n0 Z139 P134m F137 E136) (W := 0) (by decide) (by decide) e140 (by rw [hml]; rfl) P134e [(.ref a2)] (lenOf pd2 rfl) rfl (S := []) rfl (Nat.le_of_eq rfl) (hb hby at_195) (q := 198) rfl (by decide) (by decide) (fun r150 T150 M150 X150 q150 => ?_)
                obtain ⟨rfl, M150n, e150⟩ := q150
                have N151 := Fr.app N141 M150n
                dsimp only [Option.toList, List.cons_append, List.nil_append]
                refine gIload X150 hx (hb hby at_198) (q := 200) rfl rfl ?_
                by_cases c153 : (if x0 = (x0 ^^^ ((1 : Int32) <<< ((x1 &&& (31 : Int32)) &&& 31))) then (1 : Int32) else (0 : Int32)) = (0 : Int32)
                · refine gIcmpN X150 hx (hb hby at_200) (q := 203) rfl (XT.ii_ne_f c153) ?_
                  refine gIconst X150 hx (1 : Int32) (hb hby at_203) (q := 204) rfl (by decide) ?_
                  refine gGoto X150 hx (hb hby at_204) (q := 208) (by decide) (by decide) ?_
                  exact J188_148 T150 _ X150 e150 N151 _ (by first | rfl | (simp only [if_neg c10, if_neg c40, if_neg c70, if_neg c100, if_pos c127, if_neg c146, if_pos c153]; done) | (simp only [if_neg c10, if_neg c40, if_neg c70, if_neg c100, if_pos c127, if_neg c146, if_pos c153]; done) | (simp only [if_neg c10, if_neg c40, if_neg c70, if_neg c100, if_pos c127, if_neg c146, if_pos c153, if_true, if_false]; done) | (exfalso; simp at c153; done))
                · refine gIcmpY X150 hx (hb hby at_200) (q := 207) (by decide) (by decide) (XT.ii_ne_t c153) ?_
                  refine gIconst X150 hx (0 : Int32) (hb hby at_207) (q := 208) rfl (by decide) ?_
                  exact J188_148 T150 _ X150 e150 N151 _ (by first | rfl | (simp only [if_neg c10, if_neg c40, if_neg c70, if_neg c100, if_pos c127, if_neg c146, if_neg c153]; done) | (simp only [if_neg c10, if_neg c40, if_neg c70, if_neg c100, if_pos c127, if_neg c146, if_neg c153]; done) | (simp only [if_neg c10, if_neg c40, if_neg c70, if_neg c100, if_pos c127, if_neg c146, if_neg c153, if_true, if_false]; done) | (exfalso; simp at c153; done))
            by_cases c143 : g142 = (0 : Int32)
            · refine gIcmpN X140 hx (hb hby at_171) (q := 174) rfl (XT.ii_ne_f c143) ?_
              refine gIconst X140 hx (1 : Int32) (hb hby at_174) (q := 175) rfl (by decide) ?_
              refine gGoto X140 hx (hb hby at_175) (q := 179) (by decide) (by decide) ?_
              exact J171_145 _ (by first | rfl | (simp only [if_neg c10, if_neg c40, if_neg c70, if_neg c100, if_pos c127, if_pos c143]; done) | (simp only [if_neg c10, if_neg c40, if_neg c70, if_neg c100, if_pos c127, if_pos c143]; done) | (simp only [if_neg c10, if_neg c40, if_neg c70, if_neg c100, if_pos c127, if_pos c143, if_true, if_false]; done) | (exfalso; simp at c143; done))
            · refine gIcmpY X140 hx (hb hby at_171) (q := 178) (by decide) (by decide) (XT.ii_ne_t c143) ?_
              refine gIconst X140 hx (0 : Int32) (hb hby at_178) (q := 179) rfl (by decide) ?_
              exact J171_145 _ (by first | rfl | (simp only [if_neg c10, if_neg c40, if_neg c70, if_neg c100, if_pos c127, if_neg c143]; done) | (simp only [if_neg c10, if_neg c40, if_neg c70, if_neg c100, if_pos c127, if_neg c143]; done) | (simp only [if_neg c10, if_neg c40, if_neg c70, if_neg c100, if_pos c127, if_neg c143, if_true, if_false]; done) | (exfalso; simp at c143; done))
          · refine gIcmpY X6 hx (hb hby at_90) (q := 120) (by decide) (by decide) (XT.ii_ne_t c127) ?_
            refine gIloadN X6 hx (hb hby at_120) (q := 121) rfl rfl ?_
            refine gIconst X6 hx (3 : Int32) (hb hby at_121) (q := 122) rfl (by decide) ?_
            by_cases c154 : u1 = (3 : Int32)
            · refine gIcmpN X6 hx (hb hby at_122) (q := 125) rfl (XT.ii_ne_f c154) ?_
              refine gNull X6 hx (hb hby at_125) (q := 126) rfl ?_
              refine gAstore X6 hx (hb hby at_126) (q := 128) rfl rfl (L' := #[.val (.int x0), .val (.int x1), .val (.int x2), .val (.int u1), .val (.ref a2), .val (.null), .val (.null), .unset, .unset]) rfl ?_
              refine gIconst X6 hx (0 : Int32) (hb hby at_128) (q := 129) rfl (by decide) ?_
              refine gIstore X6 hx (hb hby at_129) (q := 131) rfl (L' := #[.val (.int x0), .val (.int x1), .val (.int x2), .val (.int u1), .val (.ref a2), .val (.null), .val (.null), .val (.int (0 : Int32)), .unset]) rfl ?_
              refine gGoto X6 hx (hb hby at_131) (q := 162) (by decide) (by decide) ?_
              refine gAload X6 hx (hb hby at_162) (q := 164) rfl rfl rfl ?_
              refine gAload X6 hx (hb hby at_164) (q := 166) rfl rfl rfl ?_
              refine gCallV X6 hx hZ hown (hw _ (List.mem_of_getElem? (i := 11) rfl)) (hw _ (List.mem_of_getElem? (i := 12) rfl)) (hw _ (List.mem_of_getElem? (i := 14) rfl)) (hw _ (List.mem_of_getElem? (i := 13) rfl)) (hw _ (List.mem_of_getElem? (i := 2) rfl)) (hw _ (List.mem_of_getElem? (i := 15) rfl)) (notFace_of_selects (args := #[]) (mvT hZ (hw _ (List.mem_of_getElem? (i := 14) rfl)))) (by decide) (rmEqN l Z a0 hw [] a2 T6.heap n0 Z9) (W := 0) (by decide) (by decide) rfl (by rw [hml]; rfl) P6e [(.null)] (lenOf pd2 rfl) rfl (S := []) rfl (Nat.le_of_eq rfl) (hb hby at_166) (q := 169) rfl (by decide) (by decide) (fun r155 T155 M155 X155 q155 => ?_)
              obtain ⟨rfl, M155n, e155⟩ := q155
              have N156 := Fr.app N7 M155n
              dsimp only [Option.toList, List.cons_append, List.nil_append]
              refine gIload X155 hx (hb hby at_169) (q := 171) rfl rfl ?_
              refine gIcmpN X155 hx (hb hby at_171) (q := 174) rfl (XT.ii_ne_f (by decide)) ?_
              refine gIconst X155 hx (1 : Int32) (hb hby at_174) (q := 175) rfl (by decide) ?_
              refine gGoto X155 hx (hb hby at_175) (q := 179) (by decide) (by decide) ?_
              refine gIstore X155 hx (hb hby at_179) (q := 181) rfl (L' := #[.val (.int x0), .val (.int x1), .val (.int x2), .val (.int u1), .val (.ref a2), .val (.null), .val (.null), .val (.int (0 : Int32)), .val (.int (1 : Int32))]) rfl ?_
              refine gAload X155 hx (hb hby at_181) (q := 183) rfl rfl rfl ?_
              refine gNullY X155 hx (hb hby at_183) (q := 210) (by decide) (by decide) rfl ?_
              refine gIload X155 hx (hb hby at_210) (q := 212) rfl rfl ?_
              have hone : (1 : Int32) = 1 := own_law6 x0 x1 x2 u1 hu1 c10 c40 c70 c100 c127 c154
              exact gRetZ X155 hx hlk hret (hb hby at_212) (by decide) (by decide) (Or.inr hone) ⟨by rw [hone], N156⟩
            · refine gIcmpY X6 hx (hb hby at_122) (q := 134) (by decide) (by decide) (XT.ii_ne_t c154) ?_
              refine gIloadN X6 hx (hb hby at_134) (q := 135) rfl rfl ?_
              refine gIconst X6 hx (4 : Int32) (hb hby at_135) (q := 136) rfl (by decide) ?_
              by_cases c157 : u1 = (4 : Int32)
              · refine gIcmpN X6 hx (hb hby at_136) (q := 139) rfl (XT.ii_ne_f c157) ?_
                refine gIloadN X6 hx (hb hby at_139) (q := 140) rfl rfl ?_
                refine gCallS X6 hx hZ hown (hw _ (List.mem_of_getElem? (i := 18) rfl)) (hw _ (List.mem_of_getElem? (i := 19) rfl)) (hw _ (List.mem_of_getElem? (i := 20) rfl)) (hw _ (List.mem_of_getElem? (i := 21) rfl)) (by decide) (rmVal l Z a0 hw [] x0 rc kc vc T6.heap n0 Z9 (Sta.ext O8.2 SH) (Sta.ext O8.2 SC) (Ary.ext O8.2 AC) hlen (fun j hj => (HC j hj).elim fun r hr => ⟨r, hr.1, Exa.ext O8.2 hr.2⟩)) (W := 0) (by decide) (by decide) rfl (by rw [hml]; rfl) [(.int x0)] (lenOf pd3 rfl) rfl (S := []) rfl (Nat.le_of_eq rfl) (hb hby at_140) (q := 143) rfl (by decide) (by decide) (fun r159 T159 M159 X159 q159 => ?_)
                obtain ⟨rI158, rfl, M159n, K159, ErI158⟩ := q159
                have N160 := Fr.app N7 M159n
                have E161 := Exa.keep P6e K159
                have F162 := Fld.keep P6m K159 nin0
                have O163 := O8.keep K159 all0
                have Z164 := Nat.le_trans Z9 K159.1
                dsimp only [Option.toList, List.cons_append, List.nil_append]
                refine gAstore X159 hx (hb hby at_143) (q := 145) rfl rfl (L' := #[.val (.int x0), .val (.int x1), .val (.int x2), .val (.int u1), .val (.ref a2), .val (.ref rI158), .val (.null), .unset, .unset]) rfl ?_
                refine gIconst X159 hx (0 : Int32) (hb hby at_145) (q := 146) rfl (by decide) ?_
                refine gIstore X159 hx (hb hby at_146) (q := 148) rfl (L' := #[.val (.int x0), .val (.int x1), .val (.int x2), .val (.int u1), .val (.ref a2), .val (.ref rI158), .val (.null), .val (.int (0 : Int32)), .unset]) rfl ?_
                refine gGoto X159 hx (hb hby at_148) (q := 162) (by decide) (by decide) ?_
                refine gAload X159 hx (hb hby at_162) (q := 164) rfl rfl rfl ?_
                refine gAload X159 hx (hb hby at_164) (q := 166) rfl rfl rfl ?_
                refine gCallV X159 hx hZ hown (hw _ (List.mem_of_getElem? (i := 11) rfl)) (hw _ (List.mem_of_getElem? (i := 12) rfl)) (hw _ (List.mem_of_getElem? (i := 14) rfl)) (hw _ (List.mem_of_getElem? (i := 13) rfl)) (hw _ (List.mem_of_getElem? (i := 2) rfl)) (hw _ (List.mem_of_getElem? (i := 15) rfl)) (notFace_of_selects (args := #[]) (mvT hZ (hw _ (List.mem_of_getElem? (i := 14) rfl)))) (by decide) (rmEqI l Z a0 hw [] a2 rI158 T159.heap n0 Z164 ErI158) (W := 0) (by decide) (by decide) rfl (by rw [hml]; rfl) E161 [(.ref rI158)] (lenOf pd2 rfl) rfl (S := []) rfl (Nat.le_of_eq rfl) (hb hby at_166) (q := 169) rfl (by decide) (by decide) (fun r165 T165 M165 X165 q165 => ?_)
                obtain ⟨rfl, M165n, e165⟩ := q165
                have N166 := Fr.app N160 M165n
                dsimp only [Option.toList, List.cons_append, List.nil_append]
                refine gIload X165 hx (hb hby at_169) (q := 171) rfl rfl ?_
                refine gIcmpN X165 hx (hb hby at_171) (q := 174) rfl (XT.ii_ne_f (by decide)) ?_
                refine gIconst X165 hx (1 : Int32) (hb hby at_174) (q := 175) rfl (by decide) ?_
                refine gGoto X165 hx (hb hby at_175) (q := 179) (by decide) (by decide) ?_
                refine gIstore X165 hx (hb hby at_179) (q := 181) rfl (L' := #[.val (.int x0), .val (.int x1), .val (.int x2), .val (.int u1), .val (.ref a2), .val (.ref rI158), .val (.null), .val (.int (0 : Int32)), .val (.int (1 : Int32))]) rfl ?_
                refine gAload X165 hx (hb hby at_181) (q := 183) rfl rfl rfl ?_
                refine gNullY X165 hx (hb hby at_183) (q := 210) (by decide) (by decide) rfl ?_
                refine gIload X165 hx (hb hby at_210) (q := 212) rfl rfl ?_
                have hone : (1 : Int32) = 1 := own_law7 x0 x1 x2 u1 hu1 c10 c40 c70 c100 c127 c154 c157
                exact gRetZ X165 hx hlk hret (hb hby at_212) (by decide) (by decide) (Or.inr hone) ⟨by rw [hone], N166⟩
              · refine gIcmpY X6 hx (hb hby at_136) (q := 151) (by decide) (by decide) (XT.ii_ne_t c157) ?_
                refine gAload X6 hx (hb hby at_151) (q := 153) rfl rfl rfl ?_
                refine gAstore X6 hx (hb hby at_153) (q := 155) rfl rfl (L' := #[.val (.int x0), .val (.int x1), .val (.int x2), .val (.int u1), .val (.ref a2), .unset, .val (.ref a2), .unset, .unset]) rfl ?_
                refine gAload X6 hx (hb hby at_155) (q := 157) rfl rfl rfl ?_
                refine gAstore X6 hx (hb hby at_157) (q := 159) rfl rfl (L' := #[.val (.int x0), .val (.int x1), .val (.int x2), .val (.int u1), .val (.ref a2), .val (.ref a2), .val (.ref a2), .unset, .unset]) rfl ?_
                refine gIconst X6 hx (1 : Int32) (hb hby at_159) (q := 160) rfl (by decide) ?_
                refine gIstore X6 hx (hb hby at_160) (q := 162) rfl (L' := #[.val (.int x0), .val (.int x1), .val (.int x2), .val (.int u1), .val (.ref a2), .val (.ref a2), .val (.ref a2), .val (.int (1 : Int32)), .unset]) rfl ?_
                refine gAload X6 hx (hb hby at_162) (q := 164) rfl rfl rfl ?_
                refine gAload X6 hx (hb hby at_164) (q := 166) rfl rfl rfl ?_
                refine gCallV X6 hx hZ hown (hw _ (List.mem_of_getElem? (i := 11) rfl)) (hw _ (List.mem_of_getElem? (i := 12) rfl)) (hw _ (List.mem_of_getElem? (i := 14) rfl)) (hw _ (List.mem_of_getElem? (i := 13) rfl)) (hw _ (List.mem_of_getElem? (i := 2) rfl)) (hw _ (List.mem_of_getElem? (i := 15) rfl)) (notFace_of_selects (args := #[]) (mvT hZ (hw _ (List.mem_of_getElem? (i := 14) rfl)))) (by decide) (rmEqC l Z a0 hw [] a2 a2 x0 x0 T6.heap n0 Z9 P6m P6m P6e) (W := 0) (by decide) (by decide) rfl (by rw [hml]; rfl) P6e [(.ref a2)] (lenOf pd2 rfl) rfl (S := []) rfl (Nat.le_of_eq rfl) (hb hby at_166) (q := 169) rfl (by decide) (by decide) (fun r167 T167 M167 X167 q167 => ?_)
                obtain ⟨rfl, M167n, e167⟩ := q167
                have N168 := Fr.app N7 M167n
                dsimp only [Option.toList, List.cons_append, List.nil_append]
                generalize hg169 : (if x0 = x0 then (1 : Int32) else (0 : Int32)) = g169
                refine gIload X167 hx (hb hby at_169) (q := 171) rfl rfl ?_
                have J171_172 : ∀ v171 : Int32, v171 = (if g169 = (1 : Int32) then (1 : Int32) else (0 : Int32)) → Go p.tables e below (Done s (Q_rm0 Z x0 x1 x2 rc kc vc h0 n0) (room_1.cells) (room_1.slots)) (T167.setTop (mkF m 179 #[.val (.int x0), .val (.int x1), .val (.int x2), .val (.int u1), .val (.ref a2), .val (.ref a2), .val (.ref a2), .val (.int (1 : Int32)), .unset] [(.int v171)])) := by
                  intro v171 hv171
                  refine gIstore X167 hx (hb hby at_179) (q := 181) rfl (L' := #[.val (.int x0), .val (.int x1), .val (.int x2), .val (.int u1), .val (.ref a2), .val (.ref a2), .val (.ref a2), .val (.int (1 : Int32)), .val (.int v171)]) rfl ?_
                  refine gAload X167 hx (hb hby at_181) (q := 183) rfl rfl rfl ?_
                  refine gNullN X167 hx (hb hby at_183) (q := 186) rfl rfl Value.noConfusion ?_
                  refine gIload X167 hx (hb hby at_186) (q := 188) rfl rfl ?_
                  have J188_175 : ∀ (T176 : State) (L176 : List Loc), Stand p l e room_1 s m #[(.int x0), (.int x1), (.int x2)] below meth c T176 L176 1 1 → T176.heap = T6.heap → Fr n0 L176 → ∀ v174 : Int32, v174 = (if v171 = (0 : Int32) then (0 : Int32) else (if (if x0 = x0 then (1 : Int32) else (0 : Int32)) = (1 : Int32) then (1 : Int32) else (0 : Int32))) → Go p.tables e below (Done s (Q_rm0 Z x0 x1 x2 rc kc vc h0 n0) (room_1.cells) (room_1.slots)) (T176.setTop (mkF m 208 #[.val (.int x0), .val (.int x1), .val (.int x2), .val (.int u1), .val (.ref a2), .val (.ref a2), .val (.ref a2), .val (.int (1 : Int32)), .val (.int v171)] [(.int v174)])) := by
                    intro T176 L176 X176 e176 N176 v174 hv174
                    refine gIstore X176 hx (hb hby at_208) (q := 210) rfl (L' := #[.val (.int x0), .val (.int x1), .val (.int x2), .val (.int u1), .val (.ref a2), .val (.ref a2), .val (.ref a2), .val (.int (1 : Int32)), .val (.int v174)]) rfl ?_
                    refine gIload X176 hx (hb hby at_210) (q := 212) rfl rfl ?_
                    have hone : v174 = 1 := own_law8 x0 x1 x2 u1 hu1 g169 hg169 v171 hv171 v174 hv174 c10 c40 c70 c100 c127 c154 c157
                    exact gRetZ X176 hx hlk hret (hb hby at_212) (by decide) (by decide) (Or.inr hone) ⟨by rw [hone], N176⟩
                  by_cases c173 : v171 = (0 : Int32)
                  · refine gIfY X167 hx (hb hby at_188) (q := 207) (by decide) (by decide) (XT.i0_eq_t c173) ?_
                    refine gIconst X167 hx (0 : Int32) (hb hby at_207) (q := 208) rfl (by decide) ?_
                    exact J188_175 T167 _ X167 e167 N168 _ (by first | rfl | (simp only [if_neg c10, if_neg c40, if_neg c70, if_neg c100, if_neg c127, if_neg c154, if_neg c157, if_pos c173]; done) | (simp only [if_neg c10, if_neg c40, if_neg c70, if_neg c100, if_neg c127, if_neg c154, if_neg c157, if_pos c173]; done) | (simp only [if_neg c10, if_neg c40, if_neg c70, if_neg c100, if_neg c127, if_neg c154, if_neg c157, if_pos c173, if_true, if_false]; done) | (exfalso; simp at c173; done))
                  · refine gIfN X167 hx (hb hby at_188) (q := 191) rfl (XT.i0_eq_f c173) ?_
                    refine gAload X167 hx (hb hby at_191) (q := 193) rfl rfl rfl ?_
                    refine gAload X167 hx (hb hby at_193) (q := 195) rfl rfl rfl ?_
                    refine gCallV X167 hx hZ hown (hw _ (List.mem_of_getElem? (i := 11) rfl)) (hw _ (List.mem_of_getElem? (i := 12) rfl)) (hw _ (List.mem_of_getElem? (i := 14) rfl)) (hw _ (List.mem_of_getElem? (i := 13) rfl)) (hw _ (List.mem_of_getElem? (i := 2) rfl)) (hw _ (List.mem_of_getElem? (i := 15) rfl)) (notFace_of_selects (args := #[]) (mvT hZ (hw _ (List.mem_of_getElem? (i := 14) rfl)))) (by decide) (rmEqC l Z a0 hw [] a2 a2 x0 x0 T6.heap n0 Z9 P6m P6m P6e) (W := 0) (by decide) (by decide) e167 (by rw [hml]; rfl) P6e [(.ref a2)] (lenOf pd2 rfl) rfl (S := []) rfl (Nat.le_of_eq rfl) (hb hby at_195) (q := 198) rfl (by decide) (by decide) (fun r177 T177 M177 X177 q177 => ?_)
                    obtain ⟨rfl, M177n, e177⟩ := q177
                    have N178 := Fr.app N168 M177n
                    dsimp only [Option.toList, List.cons_append, List.nil_append]
                    refine gIload X177 hx (hb hby at_198) (q := 200) rfl rfl ?_
                    by_cases c180 : (if x0 = x0 then (1 : Int32) else (0 : Int32)) = (1 : Int32)
                    · refine gIcmpN X177 hx (hb hby at_200) (q := 203) rfl (XT.ii_ne_f c180) ?_
                      refine gIconst X177 hx (1 : Int32) (hb hby at_203) (q := 204) rfl (by decide) ?_
                      refine gGoto X177 hx (hb hby at_204) (q := 208) (by decide) (by decide) ?_
                      exact J188_175 T177 _ X177 e177 N178 _ (by first | rfl | (simp only [if_neg c10, if_neg c40, if_neg c70, if_neg c100, if_neg c127, if_neg c154, if_neg c157, if_neg c173, if_pos c180]; done) | (simp only [if_neg c10, if_neg c40, if_neg c70, if_neg c100, if_neg c127, if_neg c154, if_neg c157, if_neg c173, if_pos c180]; done) | (simp only [if_neg c10, if_neg c40, if_neg c70, if_neg c100, if_neg c127, if_neg c154, if_neg c157, if_neg c173, if_pos c180, if_true, if_false]; done) | (exfalso; simp at c180; done))
                    · refine gIcmpY X177 hx (hb hby at_200) (q := 207) (by decide) (by decide) (XT.ii_ne_t c180) ?_
                      refine gIconst X177 hx (0 : Int32) (hb hby at_207) (q := 208) rfl (by decide) ?_
                      exact J188_175 T177 _ X177 e177 N178 _ (by first | rfl | (simp only [if_neg c10, if_neg c40, if_neg c70, if_neg c100, if_neg c127, if_neg c154, if_neg c157, if_neg c173, if_neg c180]; done) | (simp only [if_neg c10, if_neg c40, if_neg c70, if_neg c100, if_neg c127, if_neg c154, if_neg c157, if_neg c173, if_neg c180]; done) | (simp only [if_neg c10, if_neg c40, if_neg c70, if_neg c100, if_neg c127, if_neg c154, if_neg c157, if_neg c173, if_neg c180, if_true, if_false]; done) | (exfalso; simp at c180; done))
                by_cases c170 : g169 = (1 : Int32)
                · refine gIcmpN X167 hx (hb hby at_171) (q := 174) rfl (XT.ii_ne_f c170) ?_
                  refine gIconst X167 hx (1 : Int32) (hb hby at_174) (q := 175) rfl (by decide) ?_
                  refine gGoto X167 hx (hb hby at_175) (q := 179) (by decide) (by decide) ?_
                  exact J171_172 _ (by first | rfl | (simp only [if_neg c10, if_neg c40, if_neg c70, if_neg c100, if_neg c127, if_neg c154, if_neg c157, if_pos c170]; done) | (simp only [if_neg c10, if_neg c40, if_neg c70, if_neg c100, if_neg c127, if_neg c154, if_neg c157, if_pos c170]; done) | (simp only [if_neg c10, if_neg c40, if_neg c70, if_neg c100, if_neg c127, if_neg c154, if_neg c157, if_pos c170, if_true, if_false]; done) | (exfalso; simp at c170; done))
                · refine gIcmpY X167 hx (hb hby at_171) (q := 178) (by decide) (by decide) (XT.ii_ne_t c170) ?_
                  refine gIconst X167 hx (0 : Int32) (hb hby at_178) (q := 179) rfl (by decide) ?_
                  exact J171_172 _ (by first | rfl | (simp only [if_neg c10, if_neg c40, if_neg c70, if_neg c100, if_neg c127, if_neg c154, if_neg c157, if_neg c170]; done) | (simp only [if_neg c10, if_neg c40, if_neg c70, if_neg c100, if_neg c127, if_neg c154, if_neg c157, if_neg c170]; done) | (simp only [if_neg c10, if_neg c40, if_neg c70, if_neg c100, if_neg c127, if_neg c154, if_neg c157, if_neg c170, if_true, if_false]; done) | (exfalso; simp at c170; done))
set_option maxRecDepth 65536 in
set_option maxHeartbeats 40000000 in
theorem comes_1 {Post : Tables → Env → Array Value → State → Outcome → State → Prop} (hpost : ∀ tb e args s v u, (limb_1_1.after args s (.returned v) u = true ∧ limb_1_2.after args s (.returned v) u = true ∧ True) → FrameEnd s (.returned v) u (Jvm.fieldLocs frame_1_writes args s ++ Jvm.arrayLocs frame_1_arrays args s ++ Jvm.staticLocs frame_1_statics s) 16 128 → Post tb e args s (.returned v) u) :
    ArmFor flags0 classFile x code maxLocals ret World_1 tables_1 room_1 Calls_1 rest_1 Pre_1 Post := by
  intro l hfl _ _ p e ha hc hk s m args below hf hA hF happ hP
  obtain ⟨hcalls, hrest, hpre⟩ := hP
  obtain ⟨-, -, -, hnamed, -, -, -, hat⟩ := (Spec.applies_iff hf).mp happ
  obtain ⟨hg, hn⟩ := and_e (Cond.before_iff.mp (show (Jvm.Cond.and given_1 narrow_1).before args s = true from hpre))
  obtain ⟨hcount, hg⟩ := and_e hg
  obtain ⟨hk0, hg⟩ := and_e hg
  obtain ⟨hk1, hg⟩ := and_e hg
  have hk2 := hg
  obtain ⟨w0, w1, w2, rfl⟩ : ∃ w0 w1 w2 : Value, args = #[w0, w1, w2] := by
    have hs : args.size = 3 := by simpa [Cond.value, given_1] using hcount
    obtain ⟨L⟩ := args
    match L, hs with
    | [w0, w1, w2], _ => exact ⟨w0, w1, w2, rfl⟩
  have hw := fun d (hd : d ∈ tables_1) => atoms_spec (ws := Jvm.Cond.code x code maxLocals ret :: tables_1) hat d (List.mem_cons_of_mem _ hd)
  have hfit : Fit s := fun {y c} hc i hi => by
    obtain ⟨ha, rfl⟩ := Array.getElem?_eq_some_iff.mp hc
    have q := List.all_eq_true.mp ((Array.all_eq_true_iff_forall_mem.mp hF) _ (Array.getElem_mem ha)) i (List.mem_range.mpr hi)
    simpa [Array.getElem?_eq_getElem hi] using q
  obtain ⟨i0, hi0⟩ := is_v hk0
  obtain rfl : w0 = (.int i0) := Option.some.inj hi0
  obtain ⟨i1, hi1⟩ := is_v hk1
  obtain rfl : w1 = (.int i1) := Option.some.inj hi1
  obtain ⟨i2, hi2⟩ := is_v hk2
  obtain rfl : w2 = (.int i2) := Option.some.inj hi2
  obtain ⟨hsets, hown0⟩ := atoms_of _ (rest_1_c_eq ▸ (show rest_1_c.before _ s = true from hrest))
  obtain ⟨SH, rc, kc, vc, SC, AC, hlen, HC⟩ := own_cache hfit (hsets _ (List.mem_of_getElem? (i := 1) rfl)) (hsets _ (List.mem_of_getElem? (i := 3) rfl)) (hw _ (List.mem_of_getElem? (i := 23) rfl)) (hsets _ (List.mem_of_getElem? (i := 2) rfl)) (hsets _ (List.mem_of_getElem? (i := 4) rfl)) (hsets _ (List.mem_of_getElem? (i := 6) rfl)) (hsets _ (List.mem_of_getElem? (i := 7) rfl))
  obtain ⟨n, o, h1, h2, h3, _, L, rfl, ⟨rfl, N⟩, hq⟩ := rm0 l s _ hw tables_1 i0 i1 i2 rc kc vc s.heap s.heap.size (Nat.le_refl _) (Old.start s) SH SC AC hlen HC p e ha hc hk s m _ below hf ((Spec.applies_iff_loose hf).mp happ).1 ⟨rfl, State.Warmed39.refl s, rfl⟩ trivial
  refine ⟨n, _, h1, h2, h3, hpost _ _ _ _ _ _ ⟨Cond.after_iff.mpr rfl, Cond.after_iff.mpr (eq_i res_at (Term.int_eval (1)) rfl), trivial⟩ ⟨hq.1, hq.2.1, (hq.2.2.sift fun y hy => Or.inr (N y hy)).mono (by decide) (by decide)⟩⟩
theorem main_1_1 : Claimed_1_1 := comes_1 fun _ _ _ _ _ _ h hF => ⟨h.1, hF⟩
theorem main_1_2 : Claimed_1_2 := comes_1 fun _ _ _ _ _ _ h hF => ⟨h.2.1, hF⟩
end Jvm.Pilot.@@N@@
namespace Jvm.Pilot.@@N@@
open Jvm Jvm.ClassFile Sem Op Lib Jvm.Free Jvm.Stand Jvm.Pilot.@@N@@.Jvm.D
/-! MADE BY PROGRAM (witnessworld.py) out of the Statement's table words and the real class files: 16 classes; the members and pool entries that the words name. The judged class is class 1, her method 1. -/
namespace start1
open Jvm.ClassFile
def u (s : String) : CpInfo := .utf8 (stringToUtf16 s)
/-- a pool by its gaps: so many unusable entries, then the entry; so many at the end -/
def gap : Nat → List CpInfo → List CpInfo
  | 0, r => r
  | n + 1, r => .unusable :: gap n r
def poolList (es : List (Nat × CpInfo)) (last : Nat) : List CpInfo := es.foldr (fun e r => gap e.1 (e.2 :: r)) (gap last [])
def pool (es : List (Nat × CpInfo)) (last : Nat) : Array CpInfo := ⟨poolList es last⟩
def fileOf (pool : Array CpInfo) (this : Nat) (attrs : Array Attribute := #[]) (ms : Array MethodInfo := #[]) (fl : Nat := 33) (sup : Nat := 0) (ifs : Array Nat := #[]) (fds : Array FieldInfo := #[]) : ClassFile where
  minorVersion := 0
  majorVersion := 65
  constantPool := pool
  accessFlags := fl
  thisClass := this
  superClass := sup
  interfaces := ifs
  fields := fds
  methods := ms
  attributes := attrs
def plain (name : String) (sup : Option ClassId) : Class where
  name := name
  kind := .ordinary
  loader := none
  accessFlags := 33
  super := sup
  interfaces := #[]
  cf := none
  fields := #[]
  methods := #[]
  instanceTypes := #[]
  staticTypes := #[]
  resolved := #[]
  callSites := []
  init := .initialized
  statics := none
  mirror := none

def pool0 : Array CpInfo := pool [(5, u "<init>"), (0, u "()V"), (1, .class_ 10), (1, u "java/lang/Object")] 113

def k0c0 : Code := { maxStack := 0, maxLocals := 1, code := object_method_1_code, exceptionTable := #[], attributes := #[] }
def k0m0 : Method := { name := "<init>", desc := "()V", sig := { parameters := [], returnType := none }, accessFlags := 1, code := some k0c0 }
/-- java/lang/Object -/
def k0 : Class := { plain "java/lang/Object" none with
  accessFlags := 33
  interfaces := #[]
  cf := some (fileOf pool0 8 #[] #[{ accessFlags := 1, nameIndex := 5, descriptorIndex := 6, attributes := #[] }] 33 0 #[] #[])
  fields := #[]
  methods := #[k0m0]
  instanceTypes := #[]
  staticTypes := #[]
  resolved := Array.replicate 124 none
  statics := none }

def pool1 : Array CpInfo := pool [(2, .class_ 4), (1, u "java/lang/Object"), (0, u "<init>"), (0, u "()V"), (0, .class_ 8), (0, u "com/example/tintfold/tintfold/Colour"), (0, .methodref 7 10), (0, .nameAndType 5 11), (0, u "(I)V"), (0, .methodref 13 14), (0, .class_ 15), (0, .nameAndType 16 17), (0, u "java/lang/Integer"), (0, u "valueOf"), (0, u "(I)Ljava/lang/Integer;"), (0, .methodref 7 19), (0, .nameAndType 20 21), (0, u "equals"), (0, u "(Ljava/lang/Object;)Z"), (0, .class_ 23), (0, u "com/example/tintfold/tintfold/ColourEqualsPinLaw"), (2, u "law"), (0, u "(III)Z")] 3

def k1m0 : Method := { name := "<init>", desc := "()V", sig := { parameters := [], returnType := none }, accessFlags := 1, code := none }
def k1c1 : Code := { maxStack := 6, maxLocals := 9, code := code, exceptionTable := #[], attributes := #[] }
def k1m1 : Method := { name := "law", desc := "(III)Z", sig := { parameters := [.int, .int, .int], returnType := some .boolean }, accessFlags := 9, code := some k1c1 }
/-- com/example/tintfold/tintfold/ColourEqualsPinLaw -/
def k1 : Class := { plain "com/example/tintfold/tintfold/ColourEqualsPinLaw" (some 0) with
  accessFlags := 49
  interfaces := #[]
  cf := some (fileOf pool1 22 #[] #[{ accessFlags := 1, nameIndex := 5, descriptorIndex := 6, attributes := #[] }, { accessFlags := 9, nameIndex := 26, descriptorIndex := 27, attributes := #[] }] 49 2 #[] #[])
  fields := #[]
  methods := #[k1m0, k1m1]
  instanceTypes := #[]
  staticTypes := #[]
  resolved := Array.replicate 31 none
  statics := none }

def pool2 : Array CpInfo := pool [(1, .methodref 2 3), (0, .class_ 4), (0, .nameAndType 5 6), (0, u "java/lang/Object"), (0, u "<init>"), (0, u "()V"), (0, .fieldref 8 9), (0, .class_ 10), (0, .nameAndType 11 12), (0, u "com/example/tintfold/tintfold/Colour"), (0, u "argb"), (0, u "I"), (35, u "(I)V"), (13, u "UNIT"), (0, u "[D"), (50, u "TRANSPARENT"), (0, u "Lcom/example/tintfold/tintfold/Colour;"), (2, u "BLACK"), (2, u "QUOTED_LENGTH"), (11, u "equals"), (0, u "(Ljava/lang/Object;)Z")] 20

def k2c0 : Code := { maxStack := 2, maxLocals := 2, code := prog_24_method_1_code, exceptionTable := #[], attributes := #[] }
def k2m0 : Method := { name := "<init>", desc := "(I)V", sig := { parameters := [.int], returnType := none }, accessFlags := 1, code := some k2c0 }
def k2c1 : Code := { maxStack := 2, maxLocals := 2, code := prog_24_method_6_code, exceptionTable := #[], attributes := #[] }
def k2m1 : Method := { name := "equals", desc := "(Ljava/lang/Object;)Z", sig := { parameters := [(.object "java/lang/Object")], returnType := some .boolean }, accessFlags := 1, code := some k2c1 }
/-- com/example/tintfold/tintfold/Colour -/
def k2 : Class := { plain "com/example/tintfold/tintfold/Colour" (some 0) with
  accessFlags := 49
  interfaces := #[]
  cf := some (fileOf pool2 8 #[] #[{ accessFlags := 1, nameIndex := 5, descriptorIndex := 48, attributes := #[] }, { accessFlags := 1, nameIndex := 133, descriptorIndex := 134, attributes := #[] }] 49 2 #[] #[{ accessFlags := 24, nameIndex := 114, descriptorIndex := 115, attributes := #[] }, { accessFlags := 24, nameIndex := 118, descriptorIndex := 115, attributes := #[] }, { accessFlags := 26, nameIndex := 121, descriptorIndex := 12, attributes := #[] }, { accessFlags := 26, nameIndex := 62, descriptorIndex := 63, attributes := #[] }, { accessFlags := 18, nameIndex := 11, descriptorIndex := 12, attributes := #[] }])
  fields := #[{ name := "TRANSPARENT", type := (.object "com/example/tintfold/tintfold/Colour"), accessFlags := 24, slot := 0, constantValue := 0 }, { name := "BLACK", type := (.object "com/example/tintfold/tintfold/Colour"), accessFlags := 24, slot := 1, constantValue := 0 }, { name := "QUOTED_LENGTH", type := .int, accessFlags := 26, slot := 2, constantValue := 0 }, { name := "UNIT", type := (.array .double), accessFlags := 26, slot := 3, constantValue := 0 }, { name := "argb", type := .int, accessFlags := 18, slot := 0, constantValue := 0 }]
  methods := #[k2m0, k2m1]
  instanceTypes := #[.int]
  staticTypes := #[(.object "com/example/tintfold/tintfold/Colour"), (.object "com/example/tintfold/tintfold/Colour"), .int, (.array .double)]
  resolved := Array.replicate 155 none
  statics := none }

def pool3 : Array CpInfo := pool [(1, .class_ 2), (0, u "java/io/Serializable"), (0, .class_ 4), (0, u "java/lang/Object")] 2

/-- java/io/Serializable -/
def k3 : Class := { plain "java/io/Serializable" (some 0) with
  accessFlags := 1537
  interfaces := #[]
  cf := some (fileOf pool3 1 #[] #[] 1537 3 #[] #[])
  fields := #[]
  methods := #[]
  instanceTypes := #[]
  staticTypes := #[]
  resolved := Array.replicate 7 none
  statics := none }

def pool4 : Array CpInfo := pool [(1, .methodref 2 3), (0, .class_ 4), (0, .nameAndType 5 6), (0, u "java/lang/Object"), (0, u "<init>"), (0, u "()V"), (1, .class_ 10), (1, u "java/lang/Number"), (2, .class_ 14), (0, u "java/io/Serializable"), (0, u "serialVersionUID"), (0, u "J")] 20

def k4c0 : Code := { maxStack := 1, maxLocals := 1, code := jdk_18_method_1_code, exceptionTable := #[], attributes := #[] }
def k4m0 : Method := { name := "<init>", desc := "()V", sig := { parameters := [], returnType := none }, accessFlags := 1, code := some k4c0 }
/-- java/lang/Number -/
def k4 : Class := { plain "java/lang/Number" (some 0) with
  accessFlags := 1057
  interfaces := #[3]
  cf := some (fileOf pool4 8 #[] #[{ accessFlags := 1, nameIndex := 5, descriptorIndex := 6, attributes := #[] }] 1057 2 #[13] #[{ accessFlags := 26, nameIndex := 15, descriptorIndex := 16, attributes := #[] }])
  fields := #[{ name := "serialVersionUID", type := .long, accessFlags := 26, slot := 0, constantValue := 0 }]
  methods := #[k4m0]
  instanceTypes := #[]
  staticTypes := #[.long]
  resolved := Array.replicate 37 none
  statics := none }

def pool5 : Array CpInfo := pool [(1, .class_ 2), (0, u "java/lang/Comparable"), (0, .class_ 4), (0, u "java/lang/Object")] 7

/-- java/lang/Comparable -/
def k5 : Class := { plain "java/lang/Comparable" (some 0) with
  accessFlags := 1537
  interfaces := #[]
  cf := some (fileOf pool5 1 #[] #[] 1537 3 #[] #[])
  fields := #[]
  methods := #[]
  instanceTypes := #[]
  staticTypes := #[]
  resolved := Array.replicate 12 none
  statics := none }

def pool6 : Array CpInfo := pool [(1, .class_ 2), (0, u "java/lang/constant/Constable"), (0, .class_ 4), (0, u "java/lang/Object")] 6

/-- java/lang/constant/Constable -/
def k6 : Class := { plain "java/lang/constant/Constable" (some 0) with
  accessFlags := 1537
  interfaces := #[]
  cf := some (fileOf pool6 1 #[] #[] 1537 3 #[] #[])
  fields := #[]
  methods := #[]
  instanceTypes := #[]
  staticTypes := #[]
  resolved := Array.replicate 11 none
  statics := none }

def pool7 : Array CpInfo := pool [(1, .class_ 2), (0, u "java/lang/constant/ConstantDesc"), (0, .class_ 4), (0, u "java/lang/Object")] 32

/-- java/lang/constant/ConstantDesc -/
def k7 : Class := { plain "java/lang/constant/ConstantDesc" (some 0) with
  accessFlags := 1537
  interfaces := #[]
  cf := some (fileOf pool7 1 #[] #[] 1537 3 #[] #[])
  fields := #[]
  methods := #[]
  instanceTypes := #[]
  staticTypes := #[]
  resolved := Array.replicate 37 none
  statics := none }

def pool8 : Array CpInfo := pool [(1, .class_ 2), (0, u "java/lang/Integer"), (16, u "digits"), (0, u "[C"), (46, u "<init>"), (17, u "DigitOnes"), (0, u "[B"), (2, u "DigitTens"), (10, .nameAndType 67 101), (0, u "()V"), (85, u "valueOf"), (0, u "(I)Ljava/lang/Integer;"), (0, .class_ 190), (0, u "java/lang/Integer$IntegerCache"), (0, .fieldref 189 192), (0, .nameAndType 193 194), (0, u "high"), (0, u "I"), (0, .fieldref 189 196), (0, .nameAndType 197 198), (0, u "cache"), (0, u "[Ljava/lang/Integer;"), (0, .methodref 1 200), (0, .nameAndType 67 201), (0, u "(I)V"), (0, .methodref 203 100), (0, .class_ 204), (0, u "java/lang/Number"), (0, .fieldref 1 206), (0, .nameAndType 207 194), (0, u "value"), (94, u "TYPE"), (0, u "Ljava/lang/Class;"), (0, .class_ 305), (0, u "java/lang/Comparable"), (0, .class_ 307), (0, u "java/lang/constant/Constable"), (0, .class_ 309), (0, u "java/lang/constant/ConstantDesc"), (0, u "MIN_VALUE"), (1, u "MAX_VALUE"), (3, u "SIZE"), (1, u "BYTES"), (1, u "serialVersionUID"), (0, u "J")] 131

def k8c0 : Code := { maxStack := 3, maxLocals := 1, code := jdk_33_method_22_code, exceptionTable := #[], attributes := #[] }
def k8m0 : Method := { name := "valueOf", desc := "(I)Ljava/lang/Integer;", sig := { parameters := [.int], returnType := some (.object "java/lang/Integer") }, accessFlags := 9, code := some k8c0 }
def k8c1 : Code := { maxStack := 2, maxLocals := 2, code := jdk_33_method_23_code, exceptionTable := #[], attributes := #[] }
def k8m1 : Method := { name := "<init>", desc := "(I)V", sig := { parameters := [.int], returnType := none }, accessFlags := 1, code := some k8c1 }
/-- java/lang/Integer -/
def k8 : Class := { plain "java/lang/Integer" (some 4) with
  accessFlags := 49
  interfaces := #[5, 6, 7]
  cf := some (fileOf pool8 1 #[.nestMembers #[189]] #[{ accessFlags := 9, nameIndex := 187, descriptorIndex := 188, attributes := #[] }, { accessFlags := 1, nameIndex := 67, descriptorIndex := 201, attributes := #[] }] 49 203 #[304, 306, 308] #[{ accessFlags := 25, nameIndex := 310, descriptorIndex := 194, attributes := #[] }, { accessFlags := 25, nameIndex := 312, descriptorIndex := 194, attributes := #[] }, { accessFlags := 25, nameIndex := 302, descriptorIndex := 303, attributes := #[] }, { accessFlags := 24, nameIndex := 19, descriptorIndex := 20, attributes := #[] }, { accessFlags := 24, nameIndex := 89, descriptorIndex := 86, attributes := #[] }, { accessFlags := 24, nameIndex := 85, descriptorIndex := 86, attributes := #[] }, { accessFlags := 18, nameIndex := 207, descriptorIndex := 194, attributes := #[] }, { accessFlags := 25, nameIndex := 316, descriptorIndex := 194, attributes := #[] }, { accessFlags := 25, nameIndex := 318, descriptorIndex := 194, attributes := #[] }, { accessFlags := 26, nameIndex := 320, descriptorIndex := 321, attributes := #[] }])
  fields := #[{ name := "MIN_VALUE", type := .int, accessFlags := 25, slot := 0, constantValue := 0 }, { name := "MAX_VALUE", type := .int, accessFlags := 25, slot := 1, constantValue := 0 }, { name := "TYPE", type := (.object "java/lang/Class"), accessFlags := 25, slot := 2, constantValue := 0 }, { name := "digits", type := (.array .char), accessFlags := 24, slot := 3, constantValue := 0 }, { name := "DigitTens", type := (.array .byte), accessFlags := 24, slot := 4, constantValue := 0 }, { name := "DigitOnes", type := (.array .byte), accessFlags := 24, slot := 5, constantValue := 0 }, { name := "value", type := .int, accessFlags := 18, slot := 0, constantValue := 0 }, { name := "SIZE", type := .int, accessFlags := 25, slot := 6, constantValue := 0 }, { name := "BYTES", type := .int, accessFlags := 25, slot := 7, constantValue := 0 }, { name := "serialVersionUID", type := .long, accessFlags := 26, slot := 8, constantValue := 0 }]
  methods := #[k8m0, k8m1]
  instanceTypes := #[.int]
  staticTypes := #[.int, .int, (.object "java/lang/Class"), (.array .char), (.array .byte), (.array .byte), .int, .int, .long]
  resolved := Array.replicate 453 none
  statics := none }

def pool9 : Array CpInfo := pool [(2, .class_ 4), (1, u "java/lang/Object"), (0, u "<init>"), (0, u "()V"), (0, .class_ 8), (0, u "java/lang/Integer"), (7, .class_ 18), (1, u "java/lang/Integer$IntegerCache"), (0, u "$assertionsDisabled"), (0, u "Z"), (26, u "high"), (0, u "I"), (8, u "archivedCache"), (0, u "[Ljava/lang/Integer;"), (12, u "cache"), (0, u "low")] 27

def k9m0 : Method := { name := "<init>", desc := "()V", sig := { parameters := [], returnType := none }, accessFlags := 2, code := none }
/-- java/lang/Integer$IntegerCache -/
def k9 : Class := { plain "java/lang/Integer$IntegerCache" (some 0) with
  accessFlags := 48
  interfaces := #[]
  cf := some (fileOf pool9 16 #[.nestHost 7] #[{ accessFlags := 2, nameIndex := 5, descriptorIndex := 6, attributes := #[] }] 48 2 #[] #[{ accessFlags := 24, nameIndex := 72, descriptorIndex := 48, attributes := #[] }, { accessFlags := 24, nameIndex := 47, descriptorIndex := 48, attributes := #[] }, { accessFlags := 24, nameIndex := 71, descriptorIndex := 58, attributes := #[] }, { accessFlags := 8, nameIndex := 57, descriptorIndex := 58, attributes := #[] }, { accessFlags := 4120, nameIndex := 19, descriptorIndex := 20, attributes := #[] }])
  fields := #[{ name := "low", type := .int, accessFlags := 24, slot := 0, constantValue := 0 }, { name := "high", type := .int, accessFlags := 24, slot := 1, constantValue := 0 }, { name := "cache", type := (.array (.object "java/lang/Integer")), accessFlags := 24, slot := 2, constantValue := 0 }, { name := "archivedCache", type := (.array (.object "java/lang/Integer")), accessFlags := 8, slot := 3, constantValue := 0 }, { name := "$assertionsDisabled", type := .boolean, accessFlags := 4120, slot := 4, constantValue := 0 }]
  methods := #[k9m0]
  instanceTypes := #[]
  staticTypes := #[.int, .int, (.array (.object "java/lang/Integer")), (.array (.object "java/lang/Integer")), .boolean]
  resolved := Array.replicate 100 none
  statics := some 0 }

def pool10 : Array CpInfo := pool [(1, u "java/lang/Cloneable"), (0, .class_ 1), (0, u "java/lang/Object"), (0, .class_ 3)] 3

/-- java/lang/Cloneable -/
def k10 : Class := { plain "java/lang/Cloneable" (some 0) with
  accessFlags := 1537
  interfaces := #[]
  cf := some (fileOf pool10 2 #[] #[] 1537 4 #[] #[])
  fields := #[]
  methods := #[]
  instanceTypes := #[]
  staticTypes := #[]
  resolved := Array.replicate 8 none
  statics := none }

/-- the primitive byte -/
def k11 : Class := { plain "byte" none with kind := .primitive 'B', accessFlags := 0x411 }
/-- [B -/
def k12 : Class := { plain "[B" (some 0) with kind := .array 11 .byte, interfaces := #[10, 3], accessFlags := 1041 }

/-- the primitive int -/
def k13 : Class := { plain "int" none with kind := .primitive 'I', accessFlags := 0x411 }
/-- [I -/
def k14 : Class := { plain "[I" (some 0) with kind := .array 13 .int, interfaces := #[10, 3], accessFlags := 1041 }

/-- [Ljava/lang/Integer; -/
def k15 : Class := { plain "[Ljava/lang/Integer;" (some 0) with kind := .array 8 (.object "java/lang/Integer"), interfaces := #[10, 3], accessFlags := 1041 }

def heap : Heap := #[{ cls := 9, slots := #[.int 0, .int 127, .ref 1, .null, .int 0], vm := .statics 9 },
  { cls := 15, slots := #[.ref 2, .ref 3, .ref 4, .ref 5, .ref 6, .ref 7, .ref 8, .ref 9, .ref 10, .ref 11, .ref 12, .ref 13, .ref 14, .ref 15, .ref 16, .ref 17, .ref 18, .ref 19, .ref 20, .ref 21, .ref 22, .ref 23, .ref 24, .ref 25, .ref 26, .ref 27, .ref 28, .ref 29, .ref 30, .ref 31, .ref 32, .ref 33, .ref 34, .ref 35, .ref 36, .ref 37, .ref 38, .ref 39, .ref 40, .ref 41, .ref 42, .ref 43, .ref 44, .ref 45, .ref 46, .ref 47, .ref 48, .ref 49, .ref 50, .ref 51, .ref 52, .ref 53, .ref 54, .ref 55, .ref 56, .ref 57, .ref 58, .ref 59, .ref 60, .ref 61, .ref 62, .ref 63, .ref 64, .ref 65, .ref 66, .ref 67, .ref 68, .ref 69, .ref 70, .ref 71, .ref 72, .ref 73, .ref 74, .ref 75, .ref 76, .ref 77, .ref 78, .ref 79, .ref 80, .ref 81, .ref 82, .ref 83, .ref 84, .ref 85, .ref 86, .ref 87, .ref 88, .ref 89, .ref 90, .ref 91, .ref 92, .ref 93, .ref 94, .ref 95, .ref 96, .ref 97, .ref 98, .ref 99, .ref 100, .ref 101, .ref 102, .ref 103, .ref 104, .ref 105, .ref 106, .ref 107, .ref 108, .ref 109, .ref 110, .ref 111, .ref 112, .ref 113, .ref 114, .ref 115, .ref 116, .ref 117, .ref 118, .ref 119, .ref 120, .ref 121, .ref 122, .ref 123, .ref 124, .ref 125, .ref 126, .ref 127, .ref 128, .ref 129, .ref 130, .ref 131, .ref 132, .ref 133, .ref 134, .ref 135, .ref 136, .ref 137, .ref 138, .ref 139, .ref 140, .ref 141, .ref 142, .ref 143, .ref 144, .ref 145, .ref 146, .ref 147, .ref 148, .ref 149, .ref 150, .ref 151, .ref 152, .ref 153, .ref 154, .ref 155, .ref 156, .ref 157, .ref 158, .ref 159, .ref 160, .ref 161, .ref 162, .ref 163, .ref 164, .ref 165, .ref 166, .ref 167, .ref 168, .ref 169, .ref 170, .ref 171, .ref 172, .ref 173, .ref 174, .ref 175, .ref 176, .ref 177, .ref 178, .ref 179, .ref 180, .ref 181, .ref 182, .ref 183, .ref 184, .ref 185, .ref 186, .ref 187, .ref 188, .ref 189, .ref 190, .ref 191, .ref 192, .ref 193, .ref 194, .ref 195, .ref 196, .ref 197, .ref 198, .ref 199, .ref 200, .ref 201, .ref 202, .ref 203, .ref 204, .ref 205, .ref 206, .ref 207, .ref 208, .ref 209, .ref 210, .ref 211, .ref 212, .ref 213, .ref 214, .ref 215, .ref 216, .ref 217, .ref 218, .ref 219, .ref 220, .ref 221, .ref 222, .ref 223, .ref 224, .ref 225, .ref 226, .ref 227, .ref 228, .ref 229, .ref 230, .ref 231, .ref 232, .ref 233, .ref 234, .ref 235, .ref 236, .ref 237, .ref 238, .ref 239, .ref 240, .ref 241, .ref 242, .ref 243, .ref 244, .ref 245, .ref 246, .ref 247, .ref 248, .ref 249, .ref 250, .ref 251, .ref 252, .ref 253, .ref 254, .ref 255, .ref 256, .ref 257], vm := .none },
  { cls := 8, slots := #[.int (-128)], vm := .none },
  { cls := 8, slots := #[.int (-127)], vm := .none },
  { cls := 8, slots := #[.int (-126)], vm := .none },
  { cls := 8, slots := #[.int (-125)], vm := .none },
  { cls := 8, slots := #[.int (-124)], vm := .none },
  { cls := 8, slots := #[.int (-123)], vm := .none },
  { cls := 8, slots := #[.int (-122)], vm := .none },
  { cls := 8, slots := #[.int (-121)], vm := .none },
  { cls := 8, slots := #[.int (-120)], vm := .none },
  { cls := 8, slots := #[.int (-119)], vm := .none },
  { cls := 8, slots := #[.int (-118)], vm := .none },
  { cls := 8, slots := #[.int (-117)], vm := .none },
  { cls := 8, slots := #[.int (-116)], vm := .none },
  { cls := 8, slots := #[.int (-115)], vm := .none },
  { cls := 8, slots := #[.int (-114)], vm := .none },
  { cls := 8, slots := #[.int (-113)], vm := .none },
  { cls := 8, slots := #[.int (-112)], vm := .none },
  { cls := 8, slots := #[.int (-111)], vm := .none },
  { cls := 8, slots := #[.int (-110)], vm := .none },
  { cls := 8, slots := #[.int (-109)], vm := .none },
  { cls := 8, slots := #[.int (-108)], vm := .none },
  { cls := 8, slots := #[.int (-107)], vm := .none },
  { cls := 8, slots := #[.int (-106)], vm := .none },
  { cls := 8, slots := #[.int (-105)], vm := .none },
  { cls := 8, slots := #[.int (-104)], vm := .none },
  { cls := 8, slots := #[.int (-103)], vm := .none },
  { cls := 8, slots := #[.int (-102)], vm := .none },
  { cls := 8, slots := #[.int (-101)], vm := .none },
  { cls := 8, slots := #[.int (-100)], vm := .none },
  { cls := 8, slots := #[.int (-99)], vm := .none },
  { cls := 8, slots := #[.int (-98)], vm := .none },
  { cls := 8, slots := #[.int (-97)], vm := .none },
  { cls := 8, slots := #[.int (-96)], vm := .none },
  { cls := 8, slots := #[.int (-95)], vm := .none },
  { cls := 8, slots := #[.int (-94)], vm := .none },
  { cls := 8, slots := #[.int (-93)], vm := .none },
  { cls := 8, slots := #[.int (-92)], vm := .none },
  { cls := 8, slots := #[.int (-91)], vm := .none },
  { cls := 8, slots := #[.int (-90)], vm := .none },
  { cls := 8, slots := #[.int (-89)], vm := .none },
  { cls := 8, slots := #[.int (-88)], vm := .none },
  { cls := 8, slots := #[.int (-87)], vm := .none },
  { cls := 8, slots := #[.int (-86)], vm := .none },
  { cls := 8, slots := #[.int (-85)], vm := .none },
  { cls := 8, slots := #[.int (-84)], vm := .none },
  { cls := 8, slots := #[.int (-83)], vm := .none },
  { cls := 8, slots := #[.int (-82)], vm := .none },
  { cls := 8, slots := #[.int (-81)], vm := .none },
  { cls := 8, slots := #[.int (-80)], vm := .none },
  { cls := 8, slots := #[.int (-79)], vm := .none },
  { cls := 8, slots := #[.int (-78)], vm := .none },
  { cls := 8, slots := #[.int (-77)], vm := .none },
  { cls := 8, slots := #[.int (-76)], vm := .none },
  { cls := 8, slots := #[.int (-75)], vm := .none },
  { cls := 8, slots := #[.int (-74)], vm := .none },
  { cls := 8, slots := #[.int (-73)], vm := .none },
  { cls := 8, slots := #[.int (-72)], vm := .none },
  { cls := 8, slots := #[.int (-71)], vm := .none },
  { cls := 8, slots := #[.int (-70)], vm := .none },
  { cls := 8, slots := #[.int (-69)], vm := .none },
  { cls := 8, slots := #[.int (-68)], vm := .none },
  { cls := 8, slots := #[.int (-67)], vm := .none },
  { cls := 8, slots := #[.int (-66)], vm := .none },
  { cls := 8, slots := #[.int (-65)], vm := .none },
  { cls := 8, slots := #[.int (-64)], vm := .none },
  { cls := 8, slots := #[.int (-63)], vm := .none },
  { cls := 8, slots := #[.int (-62)], vm := .none },
  { cls := 8, slots := #[.int (-61)], vm := .none },
  { cls := 8, slots := #[.int (-60)], vm := .none },
  { cls := 8, slots := #[.int (-59)], vm := .none },
  { cls := 8, slots := #[.int (-58)], vm := .none },
  { cls := 8, slots := #[.int (-57)], vm := .none },
  { cls := 8, slots := #[.int (-56)], vm := .none },
  { cls := 8, slots := #[.int (-55)], vm := .none },
  { cls := 8, slots := #[.int (-54)], vm := .none },
  { cls := 8, slots := #[.int (-53)], vm := .none },
  { cls := 8, slots := #[.int (-52)], vm := .none },
  { cls := 8, slots := #[.int (-51)], vm := .none },
  { cls := 8, slots := #[.int (-50)], vm := .none },
  { cls := 8, slots := #[.int (-49)], vm := .none },
  { cls := 8, slots := #[.int (-48)], vm := .none },
  { cls := 8, slots := #[.int (-47)], vm := .none },
  { cls := 8, slots := #[.int (-46)], vm := .none },
  { cls := 8, slots := #[.int (-45)], vm := .none },
  { cls := 8, slots := #[.int (-44)], vm := .none },
  { cls := 8, slots := #[.int (-43)], vm := .none },
  { cls := 8, slots := #[.int (-42)], vm := .none },
  { cls := 8, slots := #[.int (-41)], vm := .none },
  { cls := 8, slots := #[.int (-40)], vm := .none },
  { cls := 8, slots := #[.int (-39)], vm := .none },
  { cls := 8, slots := #[.int (-38)], vm := .none },
  { cls := 8, slots := #[.int (-37)], vm := .none },
  { cls := 8, slots := #[.int (-36)], vm := .none },
  { cls := 8, slots := #[.int (-35)], vm := .none },
  { cls := 8, slots := #[.int (-34)], vm := .none },
  { cls := 8, slots := #[.int (-33)], vm := .none },
  { cls := 8, slots := #[.int (-32)], vm := .none },
  { cls := 8, slots := #[.int (-31)], vm := .none },
  { cls := 8, slots := #[.int (-30)], vm := .none },
  { cls := 8, slots := #[.int (-29)], vm := .none },
  { cls := 8, slots := #[.int (-28)], vm := .none },
  { cls := 8, slots := #[.int (-27)], vm := .none },
  { cls := 8, slots := #[.int (-26)], vm := .none },
  { cls := 8, slots := #[.int (-25)], vm := .none },
  { cls := 8, slots := #[.int (-24)], vm := .none },
  { cls := 8, slots := #[.int (-23)], vm := .none },
  { cls := 8, slots := #[.int (-22)], vm := .none },
  { cls := 8, slots := #[.int (-21)], vm := .none },
  { cls := 8, slots := #[.int (-20)], vm := .none },
  { cls := 8, slots := #[.int (-19)], vm := .none },
  { cls := 8, slots := #[.int (-18)], vm := .none },
  { cls := 8, slots := #[.int (-17)], vm := .none },
  { cls := 8, slots := #[.int (-16)], vm := .none },
  { cls := 8, slots := #[.int (-15)], vm := .none },
  { cls := 8, slots := #[.int (-14)], vm := .none },
  { cls := 8, slots := #[.int (-13)], vm := .none },
  { cls := 8, slots := #[.int (-12)], vm := .none },
  { cls := 8, slots := #[.int (-11)], vm := .none },
  { cls := 8, slots := #[.int (-10)], vm := .none },
  { cls := 8, slots := #[.int (-9)], vm := .none },
  { cls := 8, slots := #[.int (-8)], vm := .none },
  { cls := 8, slots := #[.int (-7)], vm := .none },
  { cls := 8, slots := #[.int (-6)], vm := .none },
  { cls := 8, slots := #[.int (-5)], vm := .none },
  { cls := 8, slots := #[.int (-4)], vm := .none },
  { cls := 8, slots := #[.int (-3)], vm := .none },
  { cls := 8, slots := #[.int (-2)], vm := .none },
  { cls := 8, slots := #[.int (-1)], vm := .none },
  { cls := 8, slots := #[.int 0], vm := .none },
  { cls := 8, slots := #[.int 1], vm := .none },
  { cls := 8, slots := #[.int 2], vm := .none },
  { cls := 8, slots := #[.int 3], vm := .none },
  { cls := 8, slots := #[.int 4], vm := .none },
  { cls := 8, slots := #[.int 5], vm := .none },
  { cls := 8, slots := #[.int 6], vm := .none },
  { cls := 8, slots := #[.int 7], vm := .none },
  { cls := 8, slots := #[.int 8], vm := .none },
  { cls := 8, slots := #[.int 9], vm := .none },
  { cls := 8, slots := #[.int 10], vm := .none },
  { cls := 8, slots := #[.int 11], vm := .none },
  { cls := 8, slots := #[.int 12], vm := .none },
  { cls := 8, slots := #[.int 13], vm := .none },
  { cls := 8, slots := #[.int 14], vm := .none },
  { cls := 8, slots := #[.int 15], vm := .none },
  { cls := 8, slots := #[.int 16], vm := .none },
  { cls := 8, slots := #[.int 17], vm := .none },
  { cls := 8, slots := #[.int 18], vm := .none },
  { cls := 8, slots := #[.int 19], vm := .none },
  { cls := 8, slots := #[.int 20], vm := .none },
  { cls := 8, slots := #[.int 21], vm := .none },
  { cls := 8, slots := #[.int 22], vm := .none },
  { cls := 8, slots := #[.int 23], vm := .none },
  { cls := 8, slots := #[.int 24], vm := .none },
  { cls := 8, slots := #[.int 25], vm := .none },
  { cls := 8, slots := #[.int 26], vm := .none },
  { cls := 8, slots := #[.int 27], vm := .none },
  { cls := 8, slots := #[.int 28], vm := .none },
  { cls := 8, slots := #[.int 29], vm := .none },
  { cls := 8, slots := #[.int 30], vm := .none },
  { cls := 8, slots := #[.int 31], vm := .none },
  { cls := 8, slots := #[.int 32], vm := .none },
  { cls := 8, slots := #[.int 33], vm := .none },
  { cls := 8, slots := #[.int 34], vm := .none },
  { cls := 8, slots := #[.int 35], vm := .none },
  { cls := 8, slots := #[.int 36], vm := .none },
  { cls := 8, slots := #[.int 37], vm := .none },
  { cls := 8, slots := #[.int 38], vm := .none },
  { cls := 8, slots := #[.int 39], vm := .none },
  { cls := 8, slots := #[.int 40], vm := .none },
  { cls := 8, slots := #[.int 41], vm := .none },
  { cls := 8, slots := #[.int 42], vm := .none },
  { cls := 8, slots := #[.int 43], vm := .none },
  { cls := 8, slots := #[.int 44], vm := .none },
  { cls := 8, slots := #[.int 45], vm := .none },
  { cls := 8, slots := #[.int 46], vm := .none },
  { cls := 8, slots := #[.int 47], vm := .none },
  { cls := 8, slots := #[.int 48], vm := .none },
  { cls := 8, slots := #[.int 49], vm := .none },
  { cls := 8, slots := #[.int 50], vm := .none },
  { cls := 8, slots := #[.int 51], vm := .none },
  { cls := 8, slots := #[.int 52], vm := .none },
  { cls := 8, slots := #[.int 53], vm := .none },
  { cls := 8, slots := #[.int 54], vm := .none },
  { cls := 8, slots := #[.int 55], vm := .none },
  { cls := 8, slots := #[.int 56], vm := .none },
  { cls := 8, slots := #[.int 57], vm := .none },
  { cls := 8, slots := #[.int 58], vm := .none },
  { cls := 8, slots := #[.int 59], vm := .none },
  { cls := 8, slots := #[.int 60], vm := .none },
  { cls := 8, slots := #[.int 61], vm := .none },
  { cls := 8, slots := #[.int 62], vm := .none },
  { cls := 8, slots := #[.int 63], vm := .none },
  { cls := 8, slots := #[.int 64], vm := .none },
  { cls := 8, slots := #[.int 65], vm := .none },
  { cls := 8, slots := #[.int 66], vm := .none },
  { cls := 8, slots := #[.int 67], vm := .none },
  { cls := 8, slots := #[.int 68], vm := .none },
  { cls := 8, slots := #[.int 69], vm := .none },
  { cls := 8, slots := #[.int 70], vm := .none },
  { cls := 8, slots := #[.int 71], vm := .none },
  { cls := 8, slots := #[.int 72], vm := .none },
  { cls := 8, slots := #[.int 73], vm := .none },
  { cls := 8, slots := #[.int 74], vm := .none },
  { cls := 8, slots := #[.int 75], vm := .none },
  { cls := 8, slots := #[.int 76], vm := .none },
  { cls := 8, slots := #[.int 77], vm := .none },
  { cls := 8, slots := #[.int 78], vm := .none },
  { cls := 8, slots := #[.int 79], vm := .none },
  { cls := 8, slots := #[.int 80], vm := .none },
  { cls := 8, slots := #[.int 81], vm := .none },
  { cls := 8, slots := #[.int 82], vm := .none },
  { cls := 8, slots := #[.int 83], vm := .none },
  { cls := 8, slots := #[.int 84], vm := .none },
  { cls := 8, slots := #[.int 85], vm := .none },
  { cls := 8, slots := #[.int 86], vm := .none },
  { cls := 8, slots := #[.int 87], vm := .none },
  { cls := 8, slots := #[.int 88], vm := .none },
  { cls := 8, slots := #[.int 89], vm := .none },
  { cls := 8, slots := #[.int 90], vm := .none },
  { cls := 8, slots := #[.int 91], vm := .none },
  { cls := 8, slots := #[.int 92], vm := .none },
  { cls := 8, slots := #[.int 93], vm := .none },
  { cls := 8, slots := #[.int 94], vm := .none },
  { cls := 8, slots := #[.int 95], vm := .none },
  { cls := 8, slots := #[.int 96], vm := .none },
  { cls := 8, slots := #[.int 97], vm := .none },
  { cls := 8, slots := #[.int 98], vm := .none },
  { cls := 8, slots := #[.int 99], vm := .none },
  { cls := 8, slots := #[.int 100], vm := .none },
  { cls := 8, slots := #[.int 101], vm := .none },
  { cls := 8, slots := #[.int 102], vm := .none },
  { cls := 8, slots := #[.int 103], vm := .none },
  { cls := 8, slots := #[.int 104], vm := .none },
  { cls := 8, slots := #[.int 105], vm := .none },
  { cls := 8, slots := #[.int 106], vm := .none },
  { cls := 8, slots := #[.int 107], vm := .none },
  { cls := 8, slots := #[.int 108], vm := .none },
  { cls := 8, slots := #[.int 109], vm := .none },
  { cls := 8, slots := #[.int 110], vm := .none },
  { cls := 8, slots := #[.int 111], vm := .none },
  { cls := 8, slots := #[.int 112], vm := .none },
  { cls := 8, slots := #[.int 113], vm := .none },
  { cls := 8, slots := #[.int 114], vm := .none },
  { cls := 8, slots := #[.int 115], vm := .none },
  { cls := 8, slots := #[.int 116], vm := .none },
  { cls := 8, slots := #[.int 117], vm := .none },
  { cls := 8, slots := #[.int 118], vm := .none },
  { cls := 8, slots := #[.int 119], vm := .none },
  { cls := 8, slots := #[.int 120], vm := .none },
  { cls := 8, slots := #[.int 121], vm := .none },
  { cls := 8, slots := #[.int 122], vm := .none },
  { cls := 8, slots := #[.int 123], vm := .none },
  { cls := 8, slots := #[.int 124], vm := .none },
  { cls := 8, slots := #[.int 125], vm := .none },
  { cls := 8, slots := #[.int 126], vm := .none },
  { cls := 8, slots := #[.int 127], vm := .none }]
def classes : Array Class := #[k0, k1, k2, k3, k4, k5, k6, k7, k8, k9, k10, k11, k12, k13, k14, k15]
def interned : List (Array UInt16 × Addr) := []
def slotsUsed : Nat := 517
def theMethod : MethodId := ⟨1, 1⟩
def args0 : Array Value := #[.int 5, .int 3, .int 7]
def aboutOver (below : List Frame) : State where
  vm := { classes := classes, interned := interned.toArray }
  heap := heap
  slotsUsed := slotsUsed
  threads := #[{ frames := .invoking theMethod args0 :: below }]
def below0 : List Frame := [.native { method := ⟨0, 0⟩, args := #[] }]
def about1 : State := aboutOver below0
def p0 : Program := .bare "" "" ""
def e0 : Env := launch0.env 0 0 0
theorem w_frames : about1.frames = Frame.invoking theMethod args0 :: below0 := rfl
set_option maxRecDepth 65536 in
theorem w_args : argsFit about1.vm theMethod args0 = true := by decide +kernel
set_option maxRecDepth 65536 in
theorem w_heap : heapFits about1 = true := by decide +kernel
set_option maxRecDepth 65536 in
theorem w_runnable : about1.curStatus? = some .runnable := by decide +kernel
set_option maxRecDepth 65536 in
theorem w_alone : about1.alone = true := by decide +kernel
set_option maxRecDepth 65536 in
theorem w_named : about1.methodNamed? x = some theMethod := by decide +kernel
set_option maxRecDepth 65536 in
theorem w_hears : about1.hears theMethod below0 = true := by decide +kernel
set_option maxRecDepth 65536 in
theorem w_ripe : about1.ripe theMethod args0 below0 = true := by decide +kernel
theorem w_running : about1.status = .running := rfl
set_option maxRecDepth 65536 in
theorem w_room : about1.hasRoom e0.platform room_1 = true :=
  launch0.hasRoom_least _ room_1 (by decide +kernel) (by decide +kernel) (by decide +kernel) (by decide +kernel) (by decide +kernel) (by decide +kernel)
theorem allAtoms_all (ts : List Jvm.Cond) (a : Array Jvm.Value) (st : Jvm.State) : (allAtoms ts).before a st = ts.all (fun c => c.before a st) := by
  induction ts with
  | nil => rfl
  | cons c t ih =>
    show (Jvm.Cond.and c (allAtoms t)).before a st = _
    rw [Jvm.Cond.before_and, ih, List.all_cons]
def words1 : List Jvm.Cond := Jvm.Cond.code x code maxLocals ret :: tables_1
/-- a 'code' word, met by the world's own term for the bytes: nothing is compared byte by byte -/
theorem code_word {y : MethodName} {bytes : ByteArray} {mx : Nat} {rt : Option FieldType} {a : Array Value} {s : State} {m : MethodId} {meth : Method} {c : Code} (h1 : s.methodNamed? y = some m) (h2 : s.vm.method? m = some meth) (h3 : meth.code = some c) (h4 : c.code = bytes)
    (h5 : (c.maxLocals == mx && c.exceptionTable.isEmpty && decide (c.maxStack ≤ mostOperands) && decide (meth.sig.returnType = rt) && !meth.locks && decide (parseMethodDescriptor y.desc = some meth.sig)) = true) : (Jvm.Cond.code y bytes mx rt).before a s = true := by
  simp only [Bool.and_eq_true, beq_iff_eq, Bool.not_eq_true', decide_eq_true_eq] at h5
  obtain ⟨⟨⟨⟨⟨g1, g2⟩, g3⟩, g4⟩, g5⟩, g6⟩ := h5
  simp [Cond.before, Cond.holds, Cond.value, h1, h2, h3, h4, g1, g2, g3, g4, g5, g6]
def isCode : Jvm.Cond → Bool
  | .code _ _ _ _ => true
  | _ => false
theorem all_split {L : List Jvm.Cond} {P : Jvm.Cond → Bool} (h1 : L.all (fun c => isCode c || P c) = true) (h2 : ∀ c ∈ L.filter isCode, P c = true) : L.all P = true := by
  refine List.all_eq_true.mpr fun c hc => ?_
  have h := List.all_eq_true.mp h1 c hc
  rcases Bool.eq_false_or_eq_true (isCode c) with hi | hi
  · exact h2 c (List.mem_filter.mpr ⟨hc, hi⟩)
  · simpa [hi] using h
set_option maxRecDepth 65536 in
theorem w_c0 : (Jvm.Cond.code x code maxLocals ret).before args0 about1 = true := code_word (m := ⟨1, 1⟩) (meth := k1m1) (c := k1c1) (by decide +kernel) rfl rfl rfl (by decide +kernel)
set_option maxRecDepth 65536 in
theorem w_c1 : (Jvm.Cond.code ({ cls := "com/example/tintfold/tintfold/Colour", name := "<init>", desc := "(I)V" } : Jvm.MethodName) prog_24_method_1_code (2 : Nat) (Option.none : Option Jvm.ClassFile.FieldType)).before args0 about1 = true := code_word (m := ⟨2, 0⟩) (meth := k2m0) (c := k2c0) (by decide +kernel) rfl rfl rfl (by decide +kernel)
set_option maxRecDepth 65536 in
theorem w_c2 : (Jvm.Cond.code ({ cls := "java/lang/Object", name := "<init>", desc := "()V" } : Jvm.MethodName) object_method_1_code (1 : Nat) (Option.none : Option Jvm.ClassFile.FieldType)).before args0 about1 = true := code_word (m := ⟨0, 0⟩) (meth := k0m0) (c := k0c0) (by decide +kernel) rfl rfl rfl (by decide +kernel)
set_option maxRecDepth 65536 in
theorem w_c3 : (Jvm.Cond.code ({ cls := "com/example/tintfold/tintfold/Colour", name := "equals", desc := "(Ljava/lang/Object;)Z" } : Jvm.MethodName) prog_24_method_6_code (2 : Nat) (Option.some Jvm.ClassFile.FieldType.boolean)).before args0 about1 = true := code_word (m := ⟨2, 1⟩) (meth := k2m1) (c := k2c1) (by decide +kernel) rfl rfl rfl (by decide +kernel)
set_option maxRecDepth 65536 in
theorem w_c4 : (Jvm.Cond.code ({ cls := "java/lang/Integer", name := "valueOf", desc := "(I)Ljava/lang/Integer;" } : Jvm.MethodName) jdk_33_method_22_code (1 : Nat) (Option.some (Jvm.ClassFile.FieldType.object "java/lang/Integer"))).before args0 about1 = true := code_word (m := ⟨8, 0⟩) (meth := k8m0) (c := k8c0) (by decide +kernel) rfl rfl rfl (by decide +kernel)
set_option maxRecDepth 65536 in
theorem w_c5 : (Jvm.Cond.code ({ cls := "java/lang/Integer", name := "<init>", desc := "(I)V" } : Jvm.MethodName) jdk_33_method_23_code (2 : Nat) (Option.none : Option Jvm.ClassFile.FieldType)).before args0 about1 = true := code_word (m := ⟨8, 1⟩) (meth := k8m1) (c := k8c1) (by decide +kernel) rfl rfl rfl (by decide +kernel)
set_option maxRecDepth 65536 in
theorem w_c6 : (Jvm.Cond.code ({ cls := "java/lang/Number", name := "<init>", desc := "()V" } : Jvm.MethodName) jdk_18_method_1_code (1 : Nat) (Option.none : Option Jvm.ClassFile.FieldType)).before args0 about1 = true := code_word (m := ⟨4, 0⟩) (meth := k4m0) (c := k4c0) (by decide +kernel) rfl rfl rfl (by decide +kernel)
def codes1 : List Jvm.Cond := [Jvm.Cond.code x code maxLocals ret, Jvm.Cond.code ({ cls := "com/example/tintfold/tintfold/Colour", name := "<init>", desc := "(I)V" } : Jvm.MethodName) prog_24_method_1_code (2 : Nat) (Option.none : Option Jvm.ClassFile.FieldType), Jvm.Cond.code ({ cls := "java/lang/Object", name := "<init>", desc := "()V" } : Jvm.MethodName) object_method_1_code (1 : Nat) (Option.none : Option Jvm.ClassFile.FieldType), Jvm.Cond.code ({ cls := "com/example/tintfold/tintfold/Colour", name := "equals", desc := "(Ljava/lang/Object;)Z" } : Jvm.MethodName) prog_24_method_6_code (2 : Nat) (Option.some Jvm.ClassFile.FieldType.boolean), Jvm.Cond.code ({ cls := "java/lang/Integer", name := "valueOf", desc := "(I)Ljava/lang/Integer;" } : Jvm.MethodName) jdk_33_method_22_code (1 : Nat) (Option.some (Jvm.ClassFile.FieldType.object "java/lang/Integer")), Jvm.Cond.code ({ cls := "java/lang/Integer", name := "<init>", desc := "(I)V" } : Jvm.MethodName) jdk_33_method_23_code (2 : Nat) (Option.none : Option Jvm.ClassFile.FieldType), Jvm.Cond.code ({ cls := "java/lang/Number", name := "<init>", desc := "()V" } : Jvm.MethodName) jdk_18_method_1_code (1 : Nat) (Option.none : Option Jvm.ClassFile.FieldType)]
set_option maxRecDepth 65536 in
theorem codes_eq : words1.filter isCode = codes1 := rfl
theorem w_codes : ∀ c ∈ words1.filter isCode, c.before args0 about1 = true := by
  rw [codes_eq]
  intro c hc
  simp only [codes1, List.mem_cons, List.not_mem_nil, or_false] at hc
  rcases hc with rfl | rfl | rfl | rfl | rfl | rfl | rfl
  · exact w_c0
  · exact w_c1
  · exact w_c2
  · exact w_c3
  · exact w_c4
  · exact w_c5
  · exact w_c6
set_option maxRecDepth 65536 in
theorem w_t1 : (words1.take 24).all (fun c => isCode c || c.before args0 about1) = true := by decide +kernel
set_option maxRecDepth 65536 in
theorem w_t2 : (words1.drop 24).all (fun c => isCode c || c.before args0 about1) = true := by decide +kernel
theorem w_tables : (allAtoms (Jvm.Cond.code x code maxLocals ret :: tables_1)).before args0 about1 = true := by
  rw [allAtoms_all]
  show words1.all (fun c => c.before args0 about1) = true
  refine all_split ?_ w_codes
  rw [← List.take_append_drop 24 words1, List.all_append, w_t1, w_t2]
  rfl
set_option maxRecDepth 65536 in
theorem w_rest : rest_1_c.before args0 about1 = true := by decide +kernel
set_option maxRecDepth 65536 in
theorem w_case : (Jvm.Cond.and given_1 narrow_1).before args0 about1 = true := by decide +kernel
theorem w_applies : (headSpec (Jvm.Cond.code x code maxLocals ret :: tables_1) room_1).applies x e0.platform about1 = true :=
  (Spec.applies_iff w_frames).mpr ⟨w_running, w_runnable, w_alone, w_named, w_hears, w_ripe, w_room, w_tables⟩
theorem atStart : AtStart classFile x code maxLocals ret World_1 tables_1 room_1 Calls_1 rest_1 Pre_1 launch0 p0 e0 about1 theMethod args0 below0 :=
  ⟨lists_1, trivial, launch0.admits_env _ _ _, launch0.least_env, fairChoices_fair.cas, fairChoices_fair.clock, w_frames, w_args, w_heap, w_applies, trivial, w_rest, w_case⟩
end start1
theorem witness_1 : WitnessClaimed_1 := ⟨start1.p0, start1.e0, start1.about1, start1.theMethod, start1.args0, start1.below0, start1.atStart⟩
end Jvm.Pilot.@@N@@
