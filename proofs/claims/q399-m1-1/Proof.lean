import JvmDerived
import JvmDerived.Pilot.@@N@@Statement
import JvmDerived.Pilot.@@N@@Code
set_option linter.unusedVariables false
set_option linter.unusedSimpArgs false
namespace Jvm.OwnKit
open Sem ClassFile Op Lib Jvm.Stand Jvm.Free Jvm.LawKit Jvm.RoadKit
def Go (tb : Tables) (e : Env) (below : List Frame) (P : State → Outcome → Prop) (S : State) : Prop :=
  ∃ s₂ o, Steps tb e below S s₂ ∧ s₂.status = .running ∧ Ended s₂ below o ∧ P s₂ o
theorem go {tb : Tables} {e : Env} {below : List Frame} {P : State → Outcome → Prop} {S S' : State} (h : ∀ t, Steps tb e below S' t → Steps tb e below S t) (k : Go tb e below P S') : Go tb e below P S := by
  obtain ⟨s₂, o, h1, h2⟩ := k
  exact ⟨s₂, o, h _ h1, h2⟩
theorem goT {tb : Tables} {e : Env} {below : List Frame} {P : State → Outcome → Prop} {S S' : State} (h : Steps tb e below S S') (k : Go tb e below P S') : Go tb e below P S := go (fun _ q => h.trans q) k
def Done (s : State) (Q : Option Value → Heap → List Loc → Prop) (k n : Nat) (t : State) (o : Outcome) : Prop := ∃ v L, o = .returned v ∧ Q v t.heap L ∧ FrameEnd s o t L k n
/-- a body's contract: called with just these arguments, over this heap -/
def Con (l : Launch) (Z : State) (y : MethodName) (bytes : ByteArray) (maxL : Nat) (rt : Option FieldType) (ws : List Jvm.Cond) (rm : Room) (as' : Array Value) (h : Heap) (k n : Nat) (Q : Option Value → Heap → List Loc → Prop) : Prop :=
  MetFree l y (head1 (Jvm.Cond.code y bytes maxL rt :: ws) rm) (fun a U => a = as' ∧ Z.Warmed39 U.vm ∧ U.heap = h) (fun _ _ _ _ _ => True) (fun _ U o U' => ∃ v L, o = .returned v ∧ Q v U'.heap L ∧ FrameEnd U o U' L k n)
theorem Con.of {l : Launch} {Z : State} {y : MethodName} {bytes : ByteArray} {maxL : Nat} {rt : Option FieldType} {ws : List Jvm.Cond} {rm : Room} {as' : Array Value} {h : Heap} {k n : Nat} {Q : Option Value → Heap → List Loc → Prop} (hp : plainFor y = true)
    (body : ∀ (p : Program) (e : Env) (s : State) (m : MethodId) (below : List Frame) (meth : Method) (c : Code) (s₁ : State), p.tables.exec = Jvm.exec → c.code = bytes → c.maxLocals = maxL → s.vm.findClass y.cls = some m.cls → meth.name = y.name → meth.sig.returnType = rt → meth.locks = false → Z.Warmed39 s.vm →
      Stand p l e rm s m as' below meth c s₁ [] 0 0 → s₁.heap = h → Go p.tables e below (Done s Q k n) (s₁.setTop (entryFrame m as' maxL))) : Con l Z y bytes maxL rt ws rm as' h k n Q := by
  refine MetFree.of_bodySF hp hisR ?_
  intro p e s m args below meth c s₁ Bd hml0 hP hK
  obtain ⟨rfl, hZ, hh⟩ := hP
  exact body p e s m below meth c s₁ Bd.exec Bd.bytes hml0 (findClass_of_methodNamed Bd.named) (name_of_methodNamed Bd.named Bd.method).1 Bd.returns Bd.notSynchronized hZ (Stand.of_body Bd) (by rw [← hh, Bd.state]; rfl)
section Steps1
variable {p : Program} {l : Launch} {e : Env} {R : Room} {s : State} {m : MethodId} {args : Array Value} {below : List Frame} {meth : Method} {c : Code} {T : State} {locs : List Loc} {cells slots : Nat} {P : State → Outcome → Prop} {pc q : Nat} {L L' : Array Slot} {S : List Value}
theorem goE {args' : Array Value} {n : Nat} (hq : entryFrame m args' n = mkF m 0 L []) (K : Go p.tables e below P (T.setTop (mkF m 0 L []))) : Go p.tables e below P (T.setTop (entryFrame m args' n)) := go (fun _ k => castTop hq k) K
theorem gIloadN (X : Stand p l e R s m args below meth c T locs cells slots) (hx : p.tables.exec = Jvm.exec) {k : Fin 4} {v : Int32} (hd : decode c.code pc = .ok (.iload_n k, 1)) (hq : pc + 1 = q) (hl : L[k.val]? = some (.val (.int v))) (K : Go p.tables e below P (T.setTop (mkF m q L (.int v :: S)))) : Go p.tables e below P (T.setTop (mkF m pc L (S))) := by subst hq; exact go (fun t k => XS.iloadN X.here hx rfl hd hl k) K
theorem gIload (X : Stand p l e R s m args below meth c T locs cells slots) (hx : p.tables.exec = Jvm.exec) {k : Nat} {v : Int32} (hd : decode c.code pc = .ok (.iload k, 2)) (hq : pc + 2 = q) (hl : L[k]? = some (.val (.int v))) (K : Go p.tables e below P (T.setTop (mkF m q L (.int v :: S)))) : Go p.tables e below P (T.setTop (mkF m pc L (S))) := by subst hq; exact go (fun t k => XS.iload X.here hx rfl hd hl k) K
theorem gLloadN (X : Stand p l e R s m args below meth c T locs cells slots) (hx : p.tables.exec = Jvm.exec) {k : Fin 4} {v : Int64} (hd : decode c.code pc = .ok (.lload_n k, 1)) (hq : pc + 1 = q) (hl : L[k.val]? = some (.val (.long v))) (K : Go p.tables e below P (T.setTop (mkF m q L (.long v :: S)))) : Go p.tables e below P (T.setTop (mkF m pc L (S))) := by subst hq; exact go (fun t k => XT.lloadN X.here hx rfl hd hl k) K
theorem gLload (X : Stand p l e R s m args below meth c T locs cells slots) (hx : p.tables.exec = Jvm.exec) {k : Nat} {v : Int64} (hd : decode c.code pc = .ok (.lload k, 2)) (hq : pc + 2 = q) (hl : L[k]? = some (.val (.long v))) (K : Go p.tables e below P (T.setTop (mkF m q L (.long v :: S)))) : Go p.tables e below P (T.setTop (mkF m pc L (S))) := by subst hq; exact go (fun t k => XT.lload X.here hx rfl hd hl k) K
theorem gAloadN (X : Stand p l e R s m args below meth c T locs cells slots) (hx : p.tables.exec = Jvm.exec) {k : Fin 4} {v : Value} (hd : decode c.code pc = .ok (.aload_n k, 1)) (hq : pc + 1 = q) (hl : L[k.val]? = some (.val v)) (hv : v.isRef = true) (K : Go p.tables e below P (T.setTop (mkF m q L (v :: S)))) : Go p.tables e below P (T.setTop (mkF m pc L (S))) := by subst hq; exact go (fun t k => XS.aloadN X.here hx rfl hd hl hv k) K
theorem gAload (X : Stand p l e R s m args below meth c T locs cells slots) (hx : p.tables.exec = Jvm.exec) {k : Nat} {v : Value} (hd : decode c.code pc = .ok (.aload k, 2)) (hq : pc + 2 = q) (hl : L[k]? = some (.val v)) (hv : v.isRef = true) (K : Go p.tables e below P (T.setTop (mkF m q L (v :: S)))) : Go p.tables e below P (T.setTop (mkF m pc L (S))) := by subst hq; exact go (fun t k => XS.aload X.here hx rfl hd hl hv k) K
theorem gIconst (X : Stand p l e R s m args below meth c T locs cells slots) (hx : p.tables.exec = Jvm.exec) {i : Int} (v : Int32) (hd : decode c.code pc = .ok (.iconst i, 1)) (hq : pc + 1 = q) (hv : Int32.ofInt i = v) (K : Go p.tables e below P (T.setTop (mkF m q L (.int v :: S)))) : Go p.tables e below P (T.setTop (mkF m pc L (S))) := by subst hq; exact go (fun t k => XT.iconstV X.here hx rfl v hd hv k) K
theorem gBipush (X : Stand p l e R s m args below meth c T locs cells slots) (hx : p.tables.exec = Jvm.exec) {i : Int} (v : Int32) (hd : decode c.code pc = .ok (.bipush i, 2)) (hq : pc + 2 = q) (hv : (Int8.ofInt i).toInt32 = v) (K : Go p.tables e below P (T.setTop (mkF m q L (.int v :: S)))) : Go p.tables e below P (T.setTop (mkF m pc L (S))) := by subst hq; exact go (fun t k => XT.bipushV X.here hx rfl v hd hv k) K
theorem gSipush (X : Stand p l e R s m args below meth c T locs cells slots) (hx : p.tables.exec = Jvm.exec) {i : Int} (v : Int32) (hd : decode c.code pc = .ok (.sipush i, 3)) (hq : pc + 3 = q) (hv : (Int16.ofInt i).toInt32 = v) (K : Go p.tables e below P (T.setTop (mkF m q L (.int v :: S)))) : Go p.tables e below P (T.setTop (mkF m pc L (S))) := by subst hq; exact go (fun t k => XT.sipushV X.here hx rfl v hd hv k) K
theorem gLconst (X : Stand p l e R s m args below meth c T locs cells slots) (hx : p.tables.exec = Jvm.exec) {k : Fin 2} (v : Int64) (hd : decode c.code pc = .ok (.lconst k, 1)) (hq : pc + 1 = q) (hv : Int64.ofNat k = v) (K : Go p.tables e below P (T.setTop (mkF m q L (.long v :: S)))) : Go p.tables e below P (T.setTop (mkF m pc L (S))) := by subst hq; exact go (fun t k => XT.lconstV X.here hx rfl v hd hv k) K
theorem gNull (X : Stand p l e R s m args below meth c T locs cells slots) (hx : p.tables.exec = Jvm.exec)  (hd : decode c.code pc = .ok (.aconst_null, 1)) (hq : pc + 1 = q)  (K : Go p.tables e below P (T.setTop (mkF m q L (.null :: S)))) : Go p.tables e below P (T.setTop (mkF m pc L (S))) := by subst hq; exact go (fun t k => XS.aconstNull X.here hx rfl hd  k) K
theorem gLdc (X : Stand p l e R s m args below meth c T locs cells slots) (hx : p.tables.exec = Jvm.exec) {Z : State} {a0 : Array Value} (hZ : Z.Warmed39 s.vm) {own : String} {i : Nat} {v : Int32} (hown : s.vm.findClass own = some m.cls) (w : (Jvm.Cond.constant own i v).before a0 Z = true) (hd : decode c.code pc = .ok (.ldc i, 2)) (hq : pc + 2 = q) (K : Go p.tables e below P (T.setTop (mkF m q L (.int v :: S)))) : Go p.tables e below P (T.setTop (mkF m pc L (S))) := by subst hq; exact go (fun t k => Stand.ldcI X hx hown (mvT hZ w) rfl hd k) K
theorem gLdcW (X : Stand p l e R s m args below meth c T locs cells slots) (hx : p.tables.exec = Jvm.exec) {Z : State} {a0 : Array Value} (hZ : Z.Warmed39 s.vm) {own : String} {i : Nat} {v : Int32} (hown : s.vm.findClass own = some m.cls) (w : (Jvm.Cond.constant own i v).before a0 Z = true) (hd : decode c.code pc = .ok (.ldc_w i, 3)) (hq : pc + 3 = q) (K : Go p.tables e below P (T.setTop (mkF m q L (.int v :: S)))) : Go p.tables e below P (T.setTop (mkF m pc L (S))) := by subst hq; exact go (fun t k => Stand.ldcWI X hx hown (mvT hZ w) rfl hd k) K
theorem gLdc2 (X : Stand p l e R s m args below meth c T locs cells slots) (hx : p.tables.exec = Jvm.exec) {Z : State} {a0 : Array Value} (hZ : Z.Warmed39 s.vm) {own : String} {i : Nat} {v : Int64} (hown : s.vm.findClass own = some m.cls) (w : (Jvm.Cond.constantLong own i v).before a0 Z = true) (hd : decode c.code pc = .ok (.ldc2_w i, 3)) (hq : pc + 3 = q) (K : Go p.tables e below P (T.setTop (mkF m q L (.long v :: S)))) : Go p.tables e below P (T.setTop (mkF m pc L (S))) := by subst hq; exact go (fun t k => Stand.ldc2J X hx hown (mvT hZ w) rfl hd k) K
theorem gIadd (X : Stand p l e R s m args below meth c T locs cells slots) (hx : p.tables.exec = Jvm.exec) {x y : Int32} (hd : decode c.code pc = .ok (.iadd, 1)) (hq : pc + 1 = q)  (K : Go p.tables e below P (T.setTop (mkF m q L (.int (x + y) :: S)))) : Go p.tables e below P (T.setTop (mkF m pc L (.int y :: .int x :: S))) := by subst hq; exact go (fun t k => XS.iadd X.here hx rfl hd rfl  k) K
theorem gIsub (X : Stand p l e R s m args below meth c T locs cells slots) (hx : p.tables.exec = Jvm.exec) {x y : Int32} (hd : decode c.code pc = .ok (.isub, 1)) (hq : pc + 1 = q)  (K : Go p.tables e below P (T.setTop (mkF m q L (.int (x - y) :: S)))) : Go p.tables e below P (T.setTop (mkF m pc L (.int y :: .int x :: S))) := by subst hq; exact go (fun t k => XS.isub X.here hx rfl hd rfl  k) K
theorem gIand (X : Stand p l e R s m args below meth c T locs cells slots) (hx : p.tables.exec = Jvm.exec) {x y : Int32} (hd : decode c.code pc = .ok (.iand, 1)) (hq : pc + 1 = q)  (K : Go p.tables e below P (T.setTop (mkF m q L (.int (x &&& y) :: S)))) : Go p.tables e below P (T.setTop (mkF m pc L (.int y :: .int x :: S))) := by subst hq; exact go (fun t k => XS.iand X.here hx rfl hd rfl  k) K
theorem gImul (X : Stand p l e R s m args below meth c T locs cells slots) (hx : p.tables.exec = Jvm.exec) {x y : Int32} (hd : decode c.code pc = .ok (.imul, 1)) (hq : pc + 1 = q)  (K : Go p.tables e below P (T.setTop (mkF m q L (.int (x * y) :: S)))) : Go p.tables e below P (T.setTop (mkF m pc L (.int y :: .int x :: S))) := by subst hq; exact go (fun t k => XS.imul X.here hx rfl hd rfl  k) K
theorem gIxor (X : Stand p l e R s m args below meth c T locs cells slots) (hx : p.tables.exec = Jvm.exec) {x y : Int32} (hd : decode c.code pc = .ok (.ixor, 1)) (hq : pc + 1 = q)  (K : Go p.tables e below P (T.setTop (mkF m q L (.int (x ^^^ y) :: S)))) : Go p.tables e below P (T.setTop (mkF m pc L (.int y :: .int x :: S))) := by subst hq; exact go (fun t k => XT.ixor X.here hx rfl hd rfl  k) K
theorem gIor (X : Stand p l e R s m args below meth c T locs cells slots) (hx : p.tables.exec = Jvm.exec) {x y : Int32} (hd : decode c.code pc = .ok (.ior, 1)) (hq : pc + 1 = q)  (K : Go p.tables e below P (T.setTop (mkF m q L (.int (x ||| y) :: S)))) : Go p.tables e below P (T.setTop (mkF m pc L (.int y :: .int x :: S))) := by subst hq; exact go (fun t k => XT.ior X.here hx rfl hd rfl  k) K
theorem gIshl (X : Stand p l e R s m args below meth c T locs cells slots) (hx : p.tables.exec = Jvm.exec) {x y : Int32} (hd : decode c.code pc = .ok (.ishl, 1)) (hq : pc + 1 = q)  (K : Go p.tables e below P (T.setTop (mkF m q L (.int (x <<< (y &&& 31)) :: S)))) : Go p.tables e below P (T.setTop (mkF m pc L (.int y :: .int x :: S))) := by subst hq; exact go (fun t k => XT.ishl X.here hx rfl hd rfl  k) K
theorem gIshr (X : Stand p l e R s m args below meth c T locs cells slots) (hx : p.tables.exec = Jvm.exec) {x y : Int32} (hd : decode c.code pc = .ok (.ishr, 1)) (hq : pc + 1 = q)  (K : Go p.tables e below P (T.setTop (mkF m q L (.int (x >>> (y &&& 31)) :: S)))) : Go p.tables e below P (T.setTop (mkF m pc L (.int y :: .int x :: S))) := by subst hq; exact go (fun t k => XT.ishr X.here hx rfl hd rfl  k) K
theorem gIushr (X : Stand p l e R s m args below meth c T locs cells slots) (hx : p.tables.exec = Jvm.exec) {x y : Int32} (hd : decode c.code pc = .ok (.iushr, 1)) (hq : pc + 1 = q)  (K : Go p.tables e below P (T.setTop (mkF m q L (.int (XT.ushr x y) :: S)))) : Go p.tables e below P (T.setTop (mkF m pc L (.int y :: .int x :: S))) := by subst hq; exact go (fun t k => XT.iushr X.here hx rfl hd rfl  k) K
theorem gIdiv (X : Stand p l e R s m args below meth c T locs cells slots) (hx : p.tables.exec = Jvm.exec) {x y : Int32} (hd : decode c.code pc = .ok (.idiv, 1)) (hq : pc + 1 = q) (hy : y ≠ 0) (K : Go p.tables e below P (T.setTop (mkF m q L (.int (x / y) :: S)))) : Go p.tables e below P (T.setTop (mkF m pc L (.int y :: .int x :: S))) := by subst hq; exact go (fun t k => XS.idiv X.here hx rfl hd rfl hy k) K
theorem gIrem (X : Stand p l e R s m args below meth c T locs cells slots) (hx : p.tables.exec = Jvm.exec) {x y : Int32} (hd : decode c.code pc = .ok (.irem, 1)) (hq : pc + 1 = q) (hy : y ≠ 0) (K : Go p.tables e below P (T.setTop (mkF m q L (.int (x % y) :: S)))) : Go p.tables e below P (T.setTop (mkF m pc L (.int y :: .int x :: S))) := by subst hq; exact go (fun t k => iremM X hx rfl hd rfl hy k) K
theorem gIneg (X : Stand p l e R s m args below meth c T locs cells slots) (hx : p.tables.exec = Jvm.exec) {x : Int32} (hd : decode c.code pc = .ok (.ineg, 1)) (hq : pc + 1 = q)  (K : Go p.tables e below P (T.setTop (mkF m q L (.int (-x) :: S)))) : Go p.tables e below P (T.setTop (mkF m pc L (.int x :: S))) := by subst hq; exact go (fun t k => XS.ineg X.here hx rfl hd rfl  k) K
theorem gLadd (X : Stand p l e R s m args below meth c T locs cells slots) (hx : p.tables.exec = Jvm.exec) {x y : Int64} (hd : decode c.code pc = .ok (.ladd, 1)) (hq : pc + 1 = q)  (K : Go p.tables e below P (T.setTop (mkF m q L (.long (x + y) :: S)))) : Go p.tables e below P (T.setTop (mkF m pc L (.long y :: .long x :: S))) := by subst hq; exact go (fun t k => XT.ladd X.here hx rfl hd rfl  k) K
theorem gLsub (X : Stand p l e R s m args below meth c T locs cells slots) (hx : p.tables.exec = Jvm.exec) {x y : Int64} (hd : decode c.code pc = .ok (.lsub, 1)) (hq : pc + 1 = q)  (K : Go p.tables e below P (T.setTop (mkF m q L (.long (x - y) :: S)))) : Go p.tables e below P (T.setTop (mkF m pc L (.long y :: .long x :: S))) := by subst hq; exact go (fun t k => XT.lsub X.here hx rfl hd rfl  k) K
theorem gLmul (X : Stand p l e R s m args below meth c T locs cells slots) (hx : p.tables.exec = Jvm.exec) {x y : Int64} (hd : decode c.code pc = .ok (.lmul, 1)) (hq : pc + 1 = q)  (K : Go p.tables e below P (T.setTop (mkF m q L (.long (x * y) :: S)))) : Go p.tables e below P (T.setTop (mkF m pc L (.long y :: .long x :: S))) := by subst hq; exact go (fun t k => XT.lmul X.here hx rfl hd rfl  k) K
theorem gLand (X : Stand p l e R s m args below meth c T locs cells slots) (hx : p.tables.exec = Jvm.exec) {x y : Int64} (hd : decode c.code pc = .ok (.land, 1)) (hq : pc + 1 = q)  (K : Go p.tables e below P (T.setTop (mkF m q L (.long (x &&& y) :: S)))) : Go p.tables e below P (T.setTop (mkF m pc L (.long y :: .long x :: S))) := by subst hq; exact go (fun t k => XT.land X.here hx rfl hd rfl  k) K
theorem gLor (X : Stand p l e R s m args below meth c T locs cells slots) (hx : p.tables.exec = Jvm.exec) {x y : Int64} (hd : decode c.code pc = .ok (.lor, 1)) (hq : pc + 1 = q)  (K : Go p.tables e below P (T.setTop (mkF m q L (.long (x ||| y) :: S)))) : Go p.tables e below P (T.setTop (mkF m pc L (.long y :: .long x :: S))) := by subst hq; exact go (fun t k => XT.lor X.here hx rfl hd rfl  k) K
theorem gLxor (X : Stand p l e R s m args below meth c T locs cells slots) (hx : p.tables.exec = Jvm.exec) {x y : Int64} (hd : decode c.code pc = .ok (.lxor, 1)) (hq : pc + 1 = q)  (K : Go p.tables e below P (T.setTop (mkF m q L (.long (x ^^^ y) :: S)))) : Go p.tables e below P (T.setTop (mkF m pc L (.long y :: .long x :: S))) := by subst hq; exact go (fun t k => XT.lxor X.here hx rfl hd rfl  k) K
theorem gLcmp (X : Stand p l e R s m args below meth c T locs cells slots) (hx : p.tables.exec = Jvm.exec) {x y : Int64} (hd : decode c.code pc = .ok (.lcmp, 1)) (hq : pc + 1 = q)  (K : Go p.tables e below P (T.setTop (mkF m q L (.int (XT.cmpL x y) :: S)))) : Go p.tables e below P (T.setTop (mkF m pc L (.long y :: .long x :: S))) := by subst hq; exact go (fun t k => XT.lcmp X.here hx rfl hd rfl  k) K
theorem gLneg (X : Stand p l e R s m args below meth c T locs cells slots) (hx : p.tables.exec = Jvm.exec) {x : Int64} (hd : decode c.code pc = .ok (.lneg, 1)) (hq : pc + 1 = q)  (K : Go p.tables e below P (T.setTop (mkF m q L (.long (-x) :: S)))) : Go p.tables e below P (T.setTop (mkF m pc L (.long x :: S))) := by subst hq; exact go (fun t k => XT.lneg X.here hx rfl hd rfl  k) K
theorem gI2l (X : Stand p l e R s m args below meth c T locs cells slots) (hx : p.tables.exec = Jvm.exec) {x : Int32} (hd : decode c.code pc = .ok (.i2l, 1)) (hq : pc + 1 = q)  (K : Go p.tables e below P (T.setTop (mkF m q L (.long x.toInt64 :: S)))) : Go p.tables e below P (T.setTop (mkF m pc L (.int x :: S))) := by subst hq; exact go (fun t k => XT.i2l X.here hx rfl hd rfl  k) K
theorem gL2i (X : Stand p l e R s m args below meth c T locs cells slots) (hx : p.tables.exec = Jvm.exec) {x : Int64} (hd : decode c.code pc = .ok (.l2i, 1)) (hq : pc + 1 = q)  (K : Go p.tables e below P (T.setTop (mkF m q L (.int x.toInt32 :: S)))) : Go p.tables e below P (T.setTop (mkF m pc L (.long x :: S))) := by subst hq; exact go (fun t k => XT.l2i X.here hx rfl hd rfl  k) K
theorem gI2c (X : Stand p l e R s m args below meth c T locs cells slots) (hx : p.tables.exec = Jvm.exec) {x : Int32} (hd : decode c.code pc = .ok (.i2c, 1)) (hq : pc + 1 = q)  (K : Go p.tables e below P (T.setTop (mkF m q L (.int x.toUInt32.toUInt16.toUInt32.toInt32 :: S)))) : Go p.tables e below P (T.setTop (mkF m pc L (.int x :: S))) := by subst hq; exact go (fun t k => XT.i2c X.here hx rfl hd rfl  k) K
theorem gI2b (X : Stand p l e R s m args below meth c T locs cells slots) (hx : p.tables.exec = Jvm.exec) {x : Int32} (hd : decode c.code pc = .ok (.i2b, 1)) (hq : pc + 1 = q)  (K : Go p.tables e below P (T.setTop (mkF m q L (.int x.toInt8.toInt32 :: S)))) : Go p.tables e below P (T.setTop (mkF m pc L (.int x :: S))) := by subst hq; exact go (fun t k => XT.i2b X.here hx rfl hd rfl  k) K
theorem gLdiv (X : Stand p l e R s m args below meth c T locs cells slots) (hx : p.tables.exec = Jvm.exec) {x y : Int64} (hd : decode c.code pc = .ok (.ldiv, 1)) (hq : pc + 1 = q) (hy : y ≠ 0) (K : Go p.tables e below P (T.setTop (mkF m q L (.long (x / y) :: S)))) : Go p.tables e below P (T.setTop (mkF m pc L (.long y :: .long x :: S))) := by subst hq; exact go (fun t k => XT.ldiv X.here hx rfl hd rfl hy k) K
theorem gLshl (X : Stand p l e R s m args below meth c T locs cells slots) (hx : p.tables.exec = Jvm.exec) {x : Int64} {y : Int32} (hd : decode c.code pc = .ok (.lshl, 1)) (hq : pc + 1 = q)  (K : Go p.tables e below P (T.setTop (mkF m q L (.long (x <<< (y.toInt64 &&& 63)) :: S)))) : Go p.tables e below P (T.setTop (mkF m pc L (.int y :: .long x :: S))) := by subst hq; exact go (fun t k => XT.lshl X.here hx rfl hd rfl  k) K
theorem gLshr (X : Stand p l e R s m args below meth c T locs cells slots) (hx : p.tables.exec = Jvm.exec) {x : Int64} {y : Int32} (hd : decode c.code pc = .ok (.lshr, 1)) (hq : pc + 1 = q)  (K : Go p.tables e below P (T.setTop (mkF m q L (.long (x >>> (y.toInt64 &&& 63)) :: S)))) : Go p.tables e below P (T.setTop (mkF m pc L (.int y :: .long x :: S))) := by subst hq; exact go (fun t k => XT.lshr X.here hx rfl hd rfl  k) K
theorem gLushr (X : Stand p l e R s m args below meth c T locs cells slots) (hx : p.tables.exec = Jvm.exec) {x : Int64} {y : Int32} (hd : decode c.code pc = .ok (.lushr, 1)) (hq : pc + 1 = q)  (K : Go p.tables e below P (T.setTop (mkF m q L (.long (XT.ushrL x y) :: S)))) : Go p.tables e below P (T.setTop (mkF m pc L (.int y :: .long x :: S))) := by subst hq; exact go (fun t k => XT.lushr X.here hx rfl hd rfl  k) K
theorem gLrem (X : Stand p l e R s m args below meth c T locs cells slots) (hx : p.tables.exec = Jvm.exec) {x y : Int64} (hd : decode c.code pc = .ok (.lrem, 1)) (hq : pc + 1 = q) (hy : y ≠ 0) (K : Go p.tables e below P (T.setTop (mkF m q L (.long (x - (x / y) * y) :: S)))) : Go p.tables e below P (T.setTop (mkF m pc L (.long y :: .long x :: S))) := by subst hq; exact go (fun t k => XT.lrem X.here hx rfl hd rfl hy k) K
theorem gIstoreN (X : Stand p l e R s m args below meth c T locs cells slots) (hx : p.tables.exec = Jvm.exec) {k : Fin 4} {x : Int32} (hd : decode c.code pc = .ok (.istore_n k, 1)) (hq : pc + 1 = q) (hl : storeLocals L k.val (.int x) = some L') (K : Go p.tables e below P (T.setTop (mkF m q L' (S)))) : Go p.tables e below P (T.setTop (mkF m pc L (.int x :: S))) := by subst hq; exact go (fun t k => XS.istoreN X.here hx rfl hd rfl hl k) K
theorem gIstore (X : Stand p l e R s m args below meth c T locs cells slots) (hx : p.tables.exec = Jvm.exec) {k : Nat} {x : Int32} (hd : decode c.code pc = .ok (.istore k, 2)) (hq : pc + 2 = q) (hl : storeLocals L k (.int x) = some L') (K : Go p.tables e below P (T.setTop (mkF m q L' (S)))) : Go p.tables e below P (T.setTop (mkF m pc L (.int x :: S))) := by subst hq; exact go (fun t k => XS.istore X.here hx rfl hd rfl hl k) K
theorem gLstoreN (X : Stand p l e R s m args below meth c T locs cells slots) (hx : p.tables.exec = Jvm.exec) {k : Fin 4} {x : Int64} (hd : decode c.code pc = .ok (.lstore_n k, 1)) (hq : pc + 1 = q) (hl : storeLocals L k.val (.long x) = some L') (K : Go p.tables e below P (T.setTop (mkF m q L' (S)))) : Go p.tables e below P (T.setTop (mkF m pc L (.long x :: S))) := by subst hq; exact go (fun t k => XT.lstoreN X.here hx rfl hd rfl hl k) K
theorem gLstore (X : Stand p l e R s m args below meth c T locs cells slots) (hx : p.tables.exec = Jvm.exec) {k : Nat} {x : Int64} (hd : decode c.code pc = .ok (.lstore k, 2)) (hq : pc + 2 = q) (hl : storeLocals L k (.long x) = some L') (K : Go p.tables e below P (T.setTop (mkF m q L' (S)))) : Go p.tables e below P (T.setTop (mkF m pc L (.long x :: S))) := by subst hq; exact go (fun t k => XT.lstore X.here hx rfl hd rfl hl k) K
theorem gAstoreN (X : Stand p l e R s m args below meth c T locs cells slots) (hx : p.tables.exec = Jvm.exec) {k : Fin 4} {x : Value} (hd : decode c.code pc = .ok (.astore_n k, 1)) (hq : pc + 1 = q) (hv : x.isRef = true) (hl : storeLocals L k.val x = some L') (K : Go p.tables e below P (T.setTop (mkF m q L' (S)))) : Go p.tables e below P (T.setTop (mkF m pc L (x :: S))) := by subst hq; exact go (fun t k => XS.astoreN X.here hx rfl hd rfl hv hl k) K
theorem gAstore (X : Stand p l e R s m args below meth c T locs cells slots) (hx : p.tables.exec = Jvm.exec) {k : Nat} {x : Value} (hd : decode c.code pc = .ok (.astore k, 2)) (hq : pc + 2 = q) (hv : x.isRef = true) (hl : storeLocals L k x = some L') (K : Go p.tables e below P (T.setTop (mkF m q L' (S)))) : Go p.tables e below P (T.setTop (mkF m pc L (x :: S))) := by subst hq; exact go (fun t k => XS.astore X.here hx rfl hd rfl hv hl k) K
theorem gIinc (X : Stand p l e R s m args below meth c T locs cells slots) (hx : p.tables.exec = Jvm.exec) {k : Nat} {cst : Int} {x : Int32} (v : Int32) (hd : decode c.code pc = .ok (.iinc k cst, 3)) (hq : pc + 3 = q) (hv : Int32.ofInt cst = v) (hl : L[k]? = some (.val (.int x))) (hl' : storeLocals L k (.int (x + v)) = some L') (K : Go p.tables e below P (T.setTop (mkF m q L' (S)))) : Go p.tables e below P (T.setTop (mkF m pc L (S))) := by subst hq; exact go (fun t k => XT.iincV X.here hx rfl v hd hv hl hl' k) K
theorem gDup (X : Stand p l e R s m args below meth c T locs cells slots) (hx : p.tables.exec = Jvm.exec) {x : Value} (hd : decode c.code pc = .ok (.dup, 1)) (hq : pc + 1 = q) (hc : x.category = 1) (K : Go p.tables e below P (T.setTop (mkF m q L (x :: x :: S)))) : Go p.tables e below P (T.setTop (mkF m pc L (x :: S))) := by subst hq; exact go (fun t k => XS.dup X.here hx rfl hd rfl hc k) K
theorem gPop (X : Stand p l e R s m args below meth c T locs cells slots) (hx : p.tables.exec = Jvm.exec) {x : Value} (hd : decode c.code pc = .ok (.pop, 1)) (hq : pc + 1 = q) (hc : x.category = 1) (K : Go p.tables e below P (T.setTop (mkF m q L (S)))) : Go p.tables e below P (T.setTop (mkF m pc L (x :: S))) := by subst hq; exact go (fun t k => XT.pop X.here hx rfl hd rfl hc k) K
theorem gDupX1 (X : Stand p l e R s m args below meth c T locs cells slots) (hx : p.tables.exec = Jvm.exec) {x y : Value} (hd : decode c.code pc = .ok (.dup_x1, 1)) (hq : pc + 1 = q) (hc : x.category = 1) (hc' : y.category = 1) (K : Go p.tables e below P (T.setTop (mkF m q L (x :: y :: x :: S)))) : Go p.tables e below P (T.setTop (mkF m pc L (x :: y :: S))) := by subst hq; exact go (fun t k => XT.dupX1 X.here hx rfl hd rfl hc hc' k) K
theorem gDup2 (X : Stand p l e R s m args below meth c T locs cells slots) (hx : p.tables.exec = Jvm.exec) {x y : Value} (hd : decode c.code pc = .ok (.dup2, 1)) (hq : pc + 1 = q) (hc : x.category = 1) (hc' : y.category = 1) (K : Go p.tables e below P (T.setTop (mkF m q L (x :: y :: x :: y :: S)))) : Go p.tables e below P (T.setTop (mkF m pc L (x :: y :: S))) := by subst hq; exact go (fun t k => XT.dup2 X.here hx rfl hd rfl hc hc' k) K
theorem gDup2L (X : Stand p l e R s m args below meth c T locs cells slots) (hx : p.tables.exec = Jvm.exec) {x : Int64} (hd : decode c.code pc = .ok (.dup2, 1)) (hq : pc + 1 = q)  (K : Go p.tables e below P (T.setTop (mkF m q L (.long x :: .long x :: S)))) : Go p.tables e below P (T.setTop (mkF m pc L (.long x :: S))) := by subst hq; exact go (fun t k => XT.dup2L X.here hx rfl hd rfl  k) K
theorem gGoto (X : Stand p l e R s m args below meth c T locs cells slots) (hx : p.tables.exec = Jvm.exec) {o : Int} (hd : decode c.code pc = .ok (.goto o, 3)) (ho : 0 ≤ (pc : Int) + o) (hq : ((pc : Int) + o).toNat = q) (K : Go p.tables e below P (T.setTop (mkF m q L (S)))) : Go p.tables e below P (T.setTop (mkF m pc L (S))) := go (fun t k => XS.goto X.here hx rfl rfl hd ho hq k) K
theorem gIfY (X : Stand p l e R s m args below meth c T locs cells slots) (hx : p.tables.exec = Jvm.exec) {cd : ClassFile.Cond} {x : Int32} {o : Int} (hd : decode c.code pc = .ok (.ifCond cd o, 3)) (ho : 0 ≤ (pc : Int) + o) (hq : ((pc : Int) + o).toNat = q) (hc : ifCond.holds cd x = true) (K : Go p.tables e below P (T.setTop (mkF m q L (S)))) : Go p.tables e below P (T.setTop (mkF m pc L (.int x :: S))) := go (fun t k => XS.ifYes X.here hx rfl rfl hd rfl hc ho hq k) K
theorem gIfN (X : Stand p l e R s m args below meth c T locs cells slots) (hx : p.tables.exec = Jvm.exec) {cd : ClassFile.Cond} {x : Int32} {o : Int} (hd : decode c.code pc = .ok (.ifCond cd o, 3)) (hq : pc + 3 = q) (hc : ifCond.holds cd x = false) (K : Go p.tables e below P (T.setTop (mkF m q L (S)))) : Go p.tables e below P (T.setTop (mkF m pc L (.int x :: S))) := by subst hq; exact go (fun t k => XS.ifNo X.here hx rfl hd rfl hc k) K
theorem gIcmpY (X : Stand p l e R s m args below meth c T locs cells slots) (hx : p.tables.exec = Jvm.exec) {cd : ClassFile.Cond} {x y : Int32} {o : Int} (hd : decode c.code pc = .ok (.if_icmp cd o, 3)) (ho : 0 ≤ (pc : Int) + o) (hq : ((pc : Int) + o).toNat = q) (hc : if_icmp.holds cd x y = true) (K : Go p.tables e below P (T.setTop (mkF m q L (S)))) : Go p.tables e below P (T.setTop (mkF m pc L (.int y :: .int x :: S))) := go (fun t k => XS.icmpYes X.here hx rfl rfl hd rfl hc ho hq k) K
theorem gIcmpN (X : Stand p l e R s m args below meth c T locs cells slots) (hx : p.tables.exec = Jvm.exec) {cd : ClassFile.Cond} {x y : Int32} {o : Int} (hd : decode c.code pc = .ok (.if_icmp cd o, 3)) (hq : pc + 3 = q) (hc : if_icmp.holds cd x y = false) (K : Go p.tables e below P (T.setTop (mkF m q L (S)))) : Go p.tables e below P (T.setTop (mkF m pc L (.int y :: .int x :: S))) := by subst hq; exact go (fun t k => XS.icmpNo X.here hx rfl hd rfl hc k) K
theorem gAcmpY (X : Stand p l e R s m args below meth c T locs cells slots) (hx : p.tables.exec = Jvm.exec) {cd : ClassFile.ACond} {x y : Value} {o : Int} (hd : decode c.code pc = .ok (.if_acmp cd o, 3)) (ho : 0 ≤ (pc : Int) + o) (hq : ((pc : Int) + o).toNat = q) (h1 : x.isRef = true) (h2 : y.isRef = true) (hc : XT.acmp cd x y = true) (K : Go p.tables e below P (T.setTop (mkF m q L (S)))) : Go p.tables e below P (T.setTop (mkF m pc L (y :: x :: S))) := go (fun t k => XT.acmpYes X.here hx rfl rfl hd rfl h1 h2 hc ho hq k) K
theorem gAcmpN (X : Stand p l e R s m args below meth c T locs cells slots) (hx : p.tables.exec = Jvm.exec) {cd : ClassFile.ACond} {x y : Value} {o : Int} (hd : decode c.code pc = .ok (.if_acmp cd o, 3)) (hq : pc + 3 = q) (h1 : x.isRef = true) (h2 : y.isRef = true) (hc : XT.acmp cd x y = false) (K : Go p.tables e below P (T.setTop (mkF m q L (S)))) : Go p.tables e below P (T.setTop (mkF m pc L (y :: x :: S))) := by subst hq; exact go (fun t k => XT.acmpNo X.here hx rfl hd rfl h1 h2 hc k) K
theorem gNullY (X : Stand p l e R s m args below meth c T locs cells slots) (hx : p.tables.exec = Jvm.exec) {v : Value} {o : Int} (hd : decode c.code pc = .ok (.ifnull o, 3)) (ho : 0 ≤ (pc : Int) + o) (hq : ((pc : Int) + o).toNat = q) (hv : v = .null) (K : Go p.tables e below P (T.setTop (mkF m q L (S)))) : Go p.tables e below P (T.setTop (mkF m pc L (v :: S))) := go (fun t k => XT.nullYes X.here hx rfl rfl hd rfl hv ho hq k) K
theorem gNullN (X : Stand p l e R s m args below meth c T locs cells slots) (hx : p.tables.exec = Jvm.exec) {v : Value} {o : Int} (hd : decode c.code pc = .ok (.ifnull o, 3)) (hq : pc + 3 = q) (hr : v.isRef = true) (hv : ¬ v = .null) (K : Go p.tables e below P (T.setTop (mkF m q L (S)))) : Go p.tables e below P (T.setTop (mkF m pc L (v :: S))) := by subst hq; exact go (fun t k => XT.nullNo X.here hx rfl hd rfl hr hv k) K
theorem gNonY (X : Stand p l e R s m args below meth c T locs cells slots) (hx : p.tables.exec = Jvm.exec) {v : Value} {o : Int} (hd : decode c.code pc = .ok (.ifnonnull o, 3)) (ho : 0 ≤ (pc : Int) + o) (hq : ((pc : Int) + o).toNat = q) (hr : v.isRef = true) (hv : ¬ v = .null) (K : Go p.tables e below P (T.setTop (mkF m q L (S)))) : Go p.tables e below P (T.setTop (mkF m pc L (v :: S))) := go (fun t k => XT.nonnullYes X.here hx rfl rfl hd rfl hr hv ho hq k) K
theorem gNonN (X : Stand p l e R s m args below meth c T locs cells slots) (hx : p.tables.exec = Jvm.exec) {v : Value} {o : Int} (hd : decode c.code pc = .ok (.ifnonnull o, 3)) (hq : pc + 3 = q) (hv : v = .null) (K : Go p.tables e below P (T.setTop (mkF m q L (S)))) : Go p.tables e below P (T.setTop (mkF m pc L (v :: S))) := by subst hq; exact go (fun t k => XT.nonnullNo X.here hx rfl hd rfl hv k) K
theorem gRet (X : Stand p l e R s m args below meth c T locs cells slots) (hx : p.tables.exec = Jvm.exec) {Q : Option Value → Heap → List Loc → Prop} {k n : Nat} {w : Value} {t : FieldType} {i : Instr} (hlk : meth.locks = false) (hret : meth.sig.returnType = some t) (hn : narrow t w = w)
    (hi : (i = .ireturn ∧ (t = .int ∨ t = .boolean ∨ t = .byte ∨ t = .char ∨ t = .short) ∧ ∃ z, w = .int z) ∨ (i = .lreturn ∧ t = .long ∧ ∃ z, w = .long z) ∨ (i = .dreturn ∧ t = .double ∧ ∃ z, w = .double z) ∨ (i = .freturn ∧ t = .float ∧ ∃ z, w = .float z) ∨ (i = .areturn ∧ t.isReference = true ∧ w.isRef = true))
    (hd : decode c.code pc = .ok (i, 1)) (hk : cells ≤ k) (hs : slots ≤ n) (hQ : Q (some w) T.heap locs) : Go p.tables e below (Done s Q k n) (T.setTop (mkF m pc L (w :: S))) := by
  obtain ⟨fs, hr, hrun, hended, hW, hsame⟩ := X.leave (v := some w) (fun h => by rw [hret] at h; cases h) hlk
  exact ⟨_, _, retOut X hx hret hn hi hd hr, hrun, hended, _, _, rfl, hQ, ⟨_, rfl⟩, hW, hsame.mono hk hs⟩
theorem gRetI (X : Stand p l e R s m args below meth c T locs cells slots) (hx : p.tables.exec = Jvm.exec) {Q : Option Value → Heap → List Loc → Prop} {k n : Nat} {z : Int32} (hlk : meth.locks = false) (hret : meth.sig.returnType = some .int) (hd : decode c.code pc = .ok (.ireturn, 1)) (hk : cells ≤ k) (hs : slots ≤ n) (hQ : Q (some (.int z)) T.heap locs) : Go p.tables e below (Done s Q k n) (T.setTop (mkF m pc L (.int z :: S))) :=
  gRet X hx hlk hret rfl (Or.inl ⟨rfl, Or.inl rfl, _, rfl⟩) hd hk hs hQ
theorem gRetZ (X : Stand p l e R s m args below meth c T locs cells slots) (hx : p.tables.exec = Jvm.exec) {Q : Option Value → Heap → List Loc → Prop} {k n : Nat} {z : Int32} (hlk : meth.locks = false) (hret : meth.sig.returnType = some .boolean) (hd : decode c.code pc = .ok (.ireturn, 1)) (hk : cells ≤ k) (hs : slots ≤ n) (hz : z = 0 ∨ z = 1) (hQ : Q (some (.int z)) T.heap locs) : Go p.tables e below (Done s Q k n) (T.setTop (mkF m pc L (.int z :: S))) :=
  gRet X hx hlk hret (by rcases hz with rfl | rfl <;> rfl) (Or.inl ⟨rfl, Or.inr (Or.inl rfl), _, rfl⟩) hd hk hs hQ
theorem gRetJ (X : Stand p l e R s m args below meth c T locs cells slots) (hx : p.tables.exec = Jvm.exec) {Q : Option Value → Heap → List Loc → Prop} {k n : Nat} {z : Int64} (hlk : meth.locks = false) (hret : meth.sig.returnType = some .long) (hd : decode c.code pc = .ok (.lreturn, 1)) (hk : cells ≤ k) (hs : slots ≤ n) (hQ : Q (some (.long z)) T.heap locs) : Go p.tables e below (Done s Q k n) (T.setTop (mkF m pc L (.long z :: S))) :=
  gRet X hx hlk hret rfl (Or.inr (Or.inl ⟨rfl, rfl, _, rfl⟩)) hd hk hs hQ
theorem gRetA (X : Stand p l e R s m args below meth c T locs cells slots) (hx : p.tables.exec = Jvm.exec) {Q : Option Value → Heap → List Loc → Prop} {k n : Nat} {w : Value} {t : FieldType} (hlk : meth.locks = false) (hret : meth.sig.returnType = some t) (ht : t.isReference = true) (hw : w.isRef = true) (hd : decode c.code pc = .ok (.areturn, 1)) (hk : cells ≤ k) (hs : slots ≤ n) (hQ : Q (some w) T.heap locs) : Go p.tables e below (Done s Q k n) (T.setTop (mkF m pc L (w :: S))) :=
  gRet X hx hlk hret (by cases t <;> simp [FieldType.isReference] at ht <;> cases w <;> simp [Value.isRef] at hw <;> rfl) (Or.inr (Or.inr (Or.inr (Or.inr ⟨rfl, ht, hw⟩)))) hd hk hs hQ
theorem gRetV (X : Stand p l e R s m args below meth c T locs cells slots) (hx : p.tables.exec = Jvm.exec) {Q : Option Value → Heap → List Loc → Prop} {k n : Nat} (hlk : meth.locks = false) (hret : meth.sig.returnType = none) (hd : decode c.code pc = .ok (.return_, 1)) (hk : cells ≤ k) (hs : slots ≤ n) (hQ : Q none T.heap locs) : Go p.tables e below (Done s Q k n) (T.setTop (mkF m pc L [])) := by
  obtain ⟨fs, hr, hrun, hended, hW, hsame⟩ := X.leave (v := none) (fun _ => rfl) hlk
  exact ⟨_, _, X.returnOut hx hret hd hr, hrun, hended, _, _, rfl, hQ, ⟨_, rfl⟩, hW, hsame.mono hk hs⟩
end Steps1
section Steps2
variable {p : Program} {l : Launch} {e : Env} {R : Room} {s : State} {m : MethodId} {args : Array Value} {below : List Frame} {meth : Method} {c : Code} {T : State} {locs : List Loc} {cells slots : Nat} {P : State → Outcome → Prop} {pc q : Nat} {L L' : Array Slot} {S : List Value} {Z : State} {a0 : Array Value} {h : Heap}
theorem gGetF (X : Stand p l e R s m args below meth c T locs cells slots) (hx : p.tables.exec = Jvm.exec) (hZ : Z.Warmed39 s.vm) {own R0 O n d host : String} {i : Nat} (hown : s.vm.findClass own = some m.cls) (w : (Jvm.Cond.fieldLink own i R0 n d).before a0 Z = true ∨ (Jvm.Cond.fieldLinkNest own i R0 n d host).before a0 Z = true) (via : Via Z R0 O n d)
    (eT : T.heap = h) {a : Addr} {v : Value} (F : Fld Z h a O n d v) (hd : decode c.code pc = .ok (.getfield i, 3)) (hq : pc + 3 = q)
    (K : ∀ T', Stand p l e R s m args below meth c T' locs cells slots → T'.heap = h → Go p.tables e below P (T'.setTop (mkF m q L (v :: S)))) : Go p.tables e below P (T.setTop (mkF m pc L (.ref a :: S))) := by
  subst hq
  obtain ⟨T', X', e', st⟩ := getF X hx hZ hown w via eT F (g := mkF m pc L (.ref a :: S)) rfl rfl hd
  exact go st (K T' X' e')
theorem gGetS (X : Stand p l e R s m args below meth c T locs cells slots) (hx : p.tables.exec = Jvm.exec) (hZ : Z.Warmed39 s.vm) {own R0 O n d : String} {i : Nat} (hown : s.vm.findClass own = some m.cls) (w : (Jvm.Cond.fieldLink own i R0 n d).before a0 Z = true) (via : Via Z R0 O n d)
    (eT : T.heap = h) {v : Value} (F : Sta Z h O n d v) (hd : decode c.code pc = .ok (.getstatic i, 3)) (hq : pc + 3 = q)
    (K : ∀ T', Stand p l e R s m args below meth c T' locs cells slots → T'.heap = h → Go p.tables e below P (T'.setTop (mkF m q L (v :: S)))) : Go p.tables e below P (T.setTop (mkF m pc L S)) := by
  subst hq
  obtain ⟨T', X', e', st⟩ := getS X hx hZ (host := "") hown w via eT F (g := mkF m pc L S) rfl hd
  exact go st (K T' X' e')
theorem gPutF (X : Stand p l e R s m args below meth c T locs cells slots) (hx : p.tables.exec = Jvm.exec) (hZ : Z.Warmed39 s.vm) {own R0 O n d host C : String} {i kk : Nat} {ty : FieldType} (hown : s.vm.findClass own = some m.cls) (w : (Jvm.Cond.fieldLink own i R0 n d).before a0 Z = true ∨ (Jvm.Cond.fieldLinkNest own i R0 n d host).before a0 Z = true) (via : Via Z R0 O n d)
    (eT : T.heap = h) {a : Addr} {v old : Value} (F : Fld Z h a O n d old) (E : Exa Z h a C) (Ly : (Jvm.Cond.lays C O n d).before a0 Z = true ∨ ((Jvm.Cond.laysFinal C O n d).before a0 Z = true ∧ own = O ∧ meth.name = "<init>")) (wi : (Jvm.Cond.instantiable C kk).before a0 Z = true)
    (hty : parseFieldDescriptor d = some ty) (hn : narrow ty v = v) (hf : fits ty v = true) (hd : decode c.code pc = .ok (.putfield i, 3)) (hq : pc + 3 = q)
    (K : ∀ T' h', Stand p l e R s m args below meth c T' (locs ++ [⟨a, Jvm.RoadKit.slotOf Z O n d⟩]) cells slots → T'.heap = h' → Wr h h' a (Jvm.RoadKit.slotOf Z O n d) v → Go p.tables e below P (T'.setTop (mkF m q L S))) : Go p.tables e below P (T.setTop (mkF m pc L (v :: .ref a :: S))) := by
  subst hq
  obtain ⟨T', h', X', e', W', st⟩ := putF X hx hZ hown w via eT F E Ly wi hty hn hf (g := mkF m pc L (v :: .ref a :: S)) rfl rfl hd
  exact go st (K T' h' X' e' W')
theorem gNewO (X : Stand p l e R s m args below meth c T locs cells slots) (hx : p.tables.exec = Jvm.exec) (hZ : Z.Warmed39 s.vm) {own C : String} {i n : Nat} (hown : s.vm.findClass own = some m.cls) (w : (Jvm.Cond.classLink own i C).before a0 Z = true) (wi : (Jvm.Cond.instantiable C n).before a0 Z = true) (wz : (Jvm.Cond.initialized C).before a0 Z = true) (eT : T.heap = h)
    (hd : decode c.code pc = .ok (.new i, 3)) (hq : pc + 3 = q) (hc : cells + 1 ≤ R.cells) (hl : slots + n ≤ R.slots)
    (K : ∀ T' h' a, Stand p l e R s m args below meth c T' locs (cells + 1) (slots + n) → T'.heap = h' → a = h.size → Ext h h' → Exa Z h' a C → (∀ {O nm d : String} {ty : FieldType}, Laid Z a0 C O nm d → parseFieldDescriptor d = some ty → Fld Z h' a O nm d (defaultValue ty)) → Go p.tables e below P (T'.setTop (mkF m q L (.ref a :: S)))) : Go p.tables e below P (T.setTop (mkF m pc L S)) := by
  subst hq
  obtain ⟨T', h', X', e', E', A', D', -, st⟩ := newO X hx hZ hown w wi wz eT (g := mkF m pc L S) rfl hd hc hl
  exact go st (K T' h' _ X' e' rfl E' A' D')
theorem gInitO (X : Stand p l e R s m args below meth c T locs cells slots) (hx : p.tables.exec = Jvm.exec) (hZ : Z.Warmed39 s.vm) {own : String} {i : Nat} (hown : s.vm.findClass own = some m.cls) (w1 : (Jvm.Cond.methodLink own i Lib.objectInit).before a0 Z = true) (w2 : (Jvm.Cond.instanceMethod Lib.objectInit).before a0 Z = true) (w3 : (Jvm.Cond.code Lib.objectInit ⟨#[0xb1]⟩ 1 none).before a0 Z = true) (eT : T.heap = h)
    (hsize : L.size = c.maxLocals) {a : Addr} (hd : decode c.code pc = .ok (.invokespecial i, 3)) (hq : pc + 3 = q) (hf : 1 ≤ R.frames) {W : Nat} (hW : (S.map fun v => v.category).sum ≤ W) (hl : W + 12 ≤ R.locals)
    (K : ∀ T', Stand p l e R s m args below meth c T' locs cells slots → T'.heap = h → Go p.tables e below P (T'.setTop (mkF m q L S))) : Go p.tables e below P (T.setTop (mkF m pc L (.ref a :: S))) := by
  subst hq
  obtain ⟨T', X', e', st⟩ := initO X hx hZ hown w1 w2 w3 eT (g := mkF m pc L (.ref a :: S)) rfl hsize rfl hd hf (W := W) (by show 2 * 0 + _ ≤ _; rw [Nat.mul_zero, Nat.zero_add]; exact hW) hl
  exact go st (K T' X' e')
/-! calls by a contract -/
theorem gCallS (X : Stand p l e R s m args below meth c T locs cells slots) (hx : p.tables.exec = Jvm.exec) (hZ : Z.Warmed39 s.vm) {own : String} {i : Nat} {y : MethodName} {bytes : ByteArray} {maxL : Nat} {rt : Option FieldType} {rm : Room} {as' : Array Value} {Q : Option Value → Heap → List Loc → Prop} (hown : s.vm.findClass own = some m.cls)
    (w1 : (Jvm.Cond.methodLink own i y).before a0 Z = true) (w2 : (Jvm.Cond.static y).before a0 Z = true) (w3 : (Jvm.Cond.initialized y.cls).before a0 Z = true) (w4 : (Jvm.Cond.code y bytes maxL rt).before a0 Z = true) (hy : y.cls ≠ "java/lang/invoke/MethodHandle" ∧ y.cls ≠ "java/lang/invoke/VarHandle")
    (hM : Con l Z y bytes maxL rt [] rm as' h rm.cells rm.slots Q) {W : Nat} (hf : rm.frames + 1 ≤ R.frames) (hlo : W + (maxL + 11) + rm.locals ≤ R.locals) (eT : T.heap = h) (hsize : L.size = c.maxLocals)
    {S0 : List Value} (argsL : List Value) (hlen : ∀ sig, parseMethodDescriptor y.desc = some sig → argsL.length = sig.parameters.length) (has : argsL.toArray = as') (hst : S0 = argsL.reverse ++ S) (hW : (S.map fun v => v.category).sum ≤ W) (hd : decode c.code pc = .ok (.invokestatic i, 3)) (hq : pc + 3 = q)
    (hc : cells + rm.cells ≤ R.cells) (hs : slots + rm.slots ≤ R.slots)
    (K : ∀ v T' Lc, Stand p l e R s m args below meth c T' (locs ++ Lc) (cells + rm.cells) (slots + rm.slots) → Q v T'.heap Lc → Go p.tables e below P (T'.setTop (mkF m q L (v.toList ++ S)))) : Go p.tables e below P (T.setTop (mkF m pc L S0)) := by
  subst hq has hst
  obtain ⟨v, _, ⟨T', L1, k1, n1⟩, -, X', ⟨Lc, hQ, h1, h2, h3⟩, st⟩ := Jvm.LawKit.callS X hx hown (mvT hZ w1) (mvT hZ w2) (mvT hZ w3) (mvT hZ w4) hy (backOf (W := W) hM hZ w4 w3 hf hlo) (g := mkF m pc L (argsL.reverse ++ S)) rfl hsize (argsL := argsL) (rest := S) hlen rfl (by show 2 * 0 + _ ≤ _; rw [Nat.mul_zero, Nat.zero_add]; exact hW) hd (fun _ _ => ⟨rfl, eT, hc, hs⟩)
  dsimp only [Pt.U, Pt.locs, Pt.cells, Pt.slots] at X' h1 h2 h3 st hQ
  subst h1 h2 h3
  exact go st (K v T' Lc X' hQ)
theorem gCallSN (X : Stand p l e R s m args below meth c T locs cells slots) (hx : p.tables.exec = Jvm.exec) (hZ : Z.Warmed39 s.vm) {own host : String} {i : Nat} {y : MethodName} {bytes : ByteArray} {maxL : Nat} {rt : Option FieldType} {rm : Room} {as' : Array Value} {Q : Option Value → Heap → List Loc → Prop} (hown : s.vm.findClass own = some m.cls)
    (w1 : (Jvm.Cond.methodLinkNest own i y host).before a0 Z = true) (w2 : (Jvm.Cond.static y).before a0 Z = true) (w3 : (Jvm.Cond.initialized y.cls).before a0 Z = true) (w4 : (Jvm.Cond.code y bytes maxL rt).before a0 Z = true) (hy : y.cls ≠ "java/lang/invoke/MethodHandle" ∧ y.cls ≠ "java/lang/invoke/VarHandle")
    (hM : Con l Z y bytes maxL rt [] rm as' h rm.cells rm.slots Q) {W : Nat} (hf : rm.frames + 1 ≤ R.frames) (hlo : W + (maxL + 11) + rm.locals ≤ R.locals) (eT : T.heap = h) (hsize : L.size = c.maxLocals)
    {S0 : List Value} (argsL : List Value) (hlen : ∀ sig, parseMethodDescriptor y.desc = some sig → argsL.length = sig.parameters.length) (has : argsL.toArray = as') (hst : S0 = argsL.reverse ++ S) (hW : (S.map fun v => v.category).sum ≤ W) (hd : decode c.code pc = .ok (.invokestatic i, 3)) (hq : pc + 3 = q)
    (hc : cells + rm.cells ≤ R.cells) (hs : slots + rm.slots ≤ R.slots)
    (K : ∀ v T' Lc, Stand p l e R s m args below meth c T' (locs ++ Lc) (cells + rm.cells) (slots + rm.slots) → Q v T'.heap Lc → Go p.tables e below P (T'.setTop (mkF m q L (v.toList ++ S)))) : Go p.tables e below P (T.setTop (mkF m pc L S0)) := by
  subst hq has hst
  obtain ⟨v, _, ⟨T', L1, k1, n1⟩, -, X', ⟨Lc, hQ, h1, h2, h3⟩, st⟩ := callSN X hx hown (Cond.methodLinkNest_wide hZ w1 :) (mvT hZ w2) (mvT hZ w3) (mvT hZ w4) hy (backOf (W := W) hM hZ w4 w3 hf hlo) (g := mkF m pc L (argsL.reverse ++ S)) rfl hsize (argsL := argsL) (rest := S) hlen rfl (by show 2 * 0 + _ ≤ _; rw [Nat.mul_zero, Nat.zero_add]; exact hW) hd (fun _ _ => ⟨rfl, eT, hc, hs⟩)
  dsimp only [Pt.U, Pt.locs, Pt.cells, Pt.slots] at X' h1 h2 h3 st hQ
  subst h1 h2 h3
  exact goT st (K v T' Lc X' hQ)
theorem gCallN (X : Stand p l e R s m args below meth c T locs cells slots) (hx : p.tables.exec = Jvm.exec) (hZ : Z.Warmed39 s.vm) {own : String} {i : Nat} {y : MethodName} {bytes : ByteArray} {maxL : Nat} {rm : Room} {as' : Array Value} {Q : Option Value → Heap → List Loc → Prop} (hy1 : y.name = "<init>") (hown : s.vm.findClass own = some m.cls)
    (w1 : (Jvm.Cond.methodLink own i y).before a0 Z = true) (w2 : (Jvm.Cond.instanceMethod y).before a0 Z = true) (w3 : (Jvm.Cond.initialized y.cls).before a0 Z = true) (w4 : (Jvm.Cond.code y bytes maxL none).before a0 Z = true) (hy : y.cls ≠ "java/lang/invoke/MethodHandle" ∧ y.cls ≠ "java/lang/invoke/VarHandle")
    (hM : Con l Z y bytes maxL none [] rm as' h rm.cells rm.slots Q) {W : Nat} (hf : rm.frames + 1 ≤ R.frames) (hlo : W + (maxL + 11) + rm.locals ≤ R.locals) (eT : T.heap = h) (hsize : L.size = c.maxLocals)
    {S0 : List Value} {a : Addr} (argsL : List Value) (hlen : ∀ sig, parseMethodDescriptor y.desc = some sig → argsL.length = sig.parameters.length) (has : (.ref a :: argsL).toArray = as') (hst : S0 = argsL.reverse ++ .ref a :: S) (hW : (S.map fun v => v.category).sum ≤ W) (hd : decode c.code pc = .ok (.invokespecial i, 3)) (hq : pc + 3 = q)
    (hc : cells + rm.cells ≤ R.cells) (hs : slots + rm.slots ≤ R.slots)
    (K : ∀ v T' Lc, Stand p l e R s m args below meth c T' (locs ++ Lc) (cells + rm.cells) (slots + rm.slots) → Q v T'.heap Lc → Go p.tables e below P (T'.setTop (mkF m q L (v.toList ++ S)))) : Go p.tables e below P (T.setTop (mkF m pc L S0)) := by
  subst hq has hst
  obtain ⟨v, _, ⟨T', L1, k1, n1⟩, -, X', ⟨Lc, hQ, h1, h2, h3⟩, st⟩ := X.specialBack hx hy1 hown (mvT hZ w1) (mvT hZ w2) (mvT hZ w4) hy (backOf (W := W) hM hZ w4 w3 hf hlo) (g := mkF m pc L (argsL.reverse ++ .ref a :: S)) rfl hsize (Steps.refl _) (a := a) (argsL := argsL) (rest := S) hlen rfl (by show 2 * 0 + _ ≤ _; rw [Nat.mul_zero, Nat.zero_add]; exact hW) hd (fun _ _ => ⟨rfl, eT, hc, hs⟩)
  dsimp only [Pt.U, Pt.locs, Pt.cells, Pt.slots] at X' h1 h2 h3 st hQ
  subst h1 h2 h3
  exact goT st (K v T' Lc X' hQ)
theorem gCallV (X : Stand p l e R s m args below meth c T locs cells slots) (hx : p.tables.exec = Jvm.exec) (hZ : Z.Warmed39 s.vm) {own C : String} {i : Nat} {y z : MethodName} {bytes : ByteArray} {maxL : Nat} {rt : Option FieldType} {rm : Room} {as' : Array Value} {Q : Option Value → Heap → List Loc → Prop} (hown : s.vm.findClass own = some m.cls)
    (w1 : (Jvm.Cond.methodLink own i y).before a0 Z = true) (w2 : (Jvm.Cond.declares y).before a0 Z = true) (w5 : (Jvm.Cond.selects C y z).before a0 Z = true) (w6 : (Jvm.Cond.instanceMethod z).before a0 Z = true) (w3 : (Jvm.Cond.initialized z.cls).before a0 Z = true) (w4 : (Jvm.Cond.code z bytes maxL rt).before a0 Z = true) (hnf : NotFace s y) (hy : y.cls ≠ "java/lang/invoke/MethodHandle" ∧ y.cls ≠ "java/lang/invoke/VarHandle")
    (hM : Con l Z z bytes maxL rt [] rm as' h rm.cells rm.slots Q) {W : Nat} (hf : rm.frames + 1 ≤ R.frames) (hlo : W + (maxL + 11) + rm.locals ≤ R.locals) (eT : T.heap = h) (hsize : L.size = c.maxLocals)
    {S0 : List Value} {a : Addr} (E : Exa Z h a C) (argsL : List Value) (hlen : ∀ sig, parseMethodDescriptor y.desc = some sig → argsL.length = sig.parameters.length) (has : (.ref a :: argsL).toArray = as') (hst : S0 = argsL.reverse ++ .ref a :: S) (hW : (S.map fun v => v.category).sum ≤ W) (hd : decode c.code pc = .ok (.invokevirtual i, 3)) (hq : pc + 3 = q)
    (hc : cells + rm.cells ≤ R.cells) (hs : slots + rm.slots ≤ R.slots)
    (K : ∀ v T' Lc, Stand p l e R s m args below meth c T' (locs ++ Lc) (cells + rm.cells) (slots + rm.slots) → Q v T'.heap Lc → Go p.tables e below P (T'.setTop (mkF m q L (v.toList ++ S)))) : Go p.tables e below P (T.setTop (mkF m pc L S0)) := by
  subst hq has hst
  obtain ⟨cq, kq, q1, q2, q3⟩ := isOf hZ eT E
  obtain ⟨v, _, ⟨T', L1, k1, n1⟩, -, X', ⟨Lc, hQ, h1, h2, h3⟩, st⟩ := X.virtualBack hx hown (mvT hZ w1) (mvT hZ w2) hnf (mvT hZ w5) (mvT hZ w6) hy (backOf (W := W) hM hZ w4 w3 hf hlo) q1 q3 (g := mkF m pc L (argsL.reverse ++ .ref a :: S)) rfl hsize (Steps.refl _) (argsL := argsL) (rest := S) hlen rfl (by show 2 * 0 + _ ≤ _; rw [Nat.mul_zero, Nat.zero_add]; exact hW) hd (fun _ _ => ⟨rfl, eT, hc, hs⟩)
  dsimp only [Pt.U, Pt.locs, Pt.cells, Pt.slots] at X' h1 h2 h3 st hQ
  subst h1 h2 h3
  exact goT st (K v T' Lc X' hQ)
end Steps2
end Jvm.OwnKit
namespace Jvm.OwnKit
open Sem ClassFile Op Lib Jvm.Stand Jvm.Free Jvm.LawKit Jvm.RoadKit
/-- the array at a: its class, its element type, its values -/
def Ary (Z : State) (h : Heap) (a : Addr) (k : ClassId) (ty : FieldType) (vs : List Value) : Prop := ∃ c : Cell, Arr Z h a c ty ∧ c.cls = k ∧ c.slots.toList = vs
section Ary
variable {Z : State} {h h' : Heap} {a b : Addr} {k : ClassId} {ty : FieldType} {vs : List Value} {sl : Nat} {v : Value} {ws : List Addr}
theorem Ary.ext (E : Ext h h') (F : Ary Z h a k ty vs) : Ary Z h' a k ty vs := by obtain ⟨c, A, r⟩ := F; exact ⟨c, A.ext E, r⟩
theorem Ary.other (W : Wr h h' a sl v) (F : Ary Z h b k ty vs) (q : b ≠ a) : Ary Z h' b k ty vs := by obtain ⟨c, A, r⟩ := F; exact ⟨c, A.other W q, r⟩
theorem Ary.keep (F : Ary Z h a k ty vs) (K : Keep h h' ws) (q : a ∉ ws) : Ary Z h' a k ty vs := by obtain ⟨c, A, r⟩ := F; exact ⟨c, ⟨K.2.1 a c A.1 q, A.2⟩, r⟩
theorem Ary.lt (F : Ary Z h a k ty vs) : a < h.size := by obtain ⟨c, A, -⟩ := F; exact A.lt
theorem Ary.same (W : Wr h h' a sl v) (F : Ary Z h a k ty vs) : Ary Z h' a k ty (vs.set sl v) := by
  obtain ⟨c, A, r1, r2⟩ := F
  exact ⟨_, A.same W, r1, by subst r2; simp [Cell.setSlot]⟩
theorem Ary.new {n : Int32} (A : Arr Z h a (newA k ty n) ty) : Ary Z h a k ty (List.replicate n.toNatClampNeg (defaultValue ty)) := ⟨_, A, rfl, by simp [newA]⟩
theorem Ary.ne_exa {a0 : Array Value} {C : String} {n : Nat} (F : Ary Z h a k ty vs) (E : Exa Z h b C) (wi : (Jvm.Cond.instantiable C n).before a0 Z = true) : a ≠ b := by obtain ⟨c, A, -⟩ := F; exact (ne_arr E wi A).symm
end Ary
section Steps3
variable {p : Program} {l : Launch} {e : Env} {R : Room} {s : State} {m : MethodId} {args : Array Value} {below : List Frame} {meth : Method} {c : Code} {T : State} {locs : List Loc} {cells slots : Nat} {P : State → Outcome → Prop} {pc q : Nat} {L L' : Array Slot} {S : List Value} {Z : State} {a0 : Array Value} {h : Heap} {a : Addr} {k : ClassId} {vs : List Value}
theorem gIaload (X : Stand p l e R s m args below meth c T locs cells slots) (hx : p.tables.exec = Jvm.exec) (hZ : Z.Warmed39 s.vm) (eT : T.heap = h) (A : Ary Z h a k .int vs) {j : Int32} {v : Value} (hd : decode c.code pc = .ok (.iaload, 1)) (hq : pc + 1 = q) (hj : ¬ (j < 0 ∨ vs.length ≤ j.toNatClampNeg)) (hv : vs[j.toNatClampNeg]? = some v) (K : Go p.tables e below P (T.setTop (mkF m q L (v :: S)))) : Go p.tables e below P (T.setTop (mkF m pc L (.int j :: .ref a :: S))) := by
  subst hq eT
  obtain ⟨cl, A, -, rfl⟩ := A
  exact go (fun t k => X.iaload hx (j := j) (v := v) A.1 (State.isArrayOf_alike hZ.alike A.2.1) A.2.2 (by simpa using hj) (by simpa using hv) (g := mkF m pc L (.int j :: .ref a :: S)) rfl rfl hd _ k) K
theorem gLaload (X : Stand p l e R s m args below meth c T locs cells slots) (hx : p.tables.exec = Jvm.exec) (hZ : Z.Warmed39 s.vm) (eT : T.heap = h) (A : Ary Z h a k .long vs) {j : Int32} {v : Value} (hd : decode c.code pc = .ok (.laload, 1)) (hq : pc + 1 = q) (hj : ¬ (j < 0 ∨ vs.length ≤ j.toNatClampNeg)) (hv : vs[j.toNatClampNeg]? = some v) (K : Go p.tables e below P (T.setTop (mkF m q L (v :: S)))) : Go p.tables e below P (T.setTop (mkF m pc L (.int j :: .ref a :: S))) := by
  subst hq eT
  obtain ⟨cl, A, -, rfl⟩ := A
  exact go (fun t k => X.laload hx (j := j) (v := v) A.1 (State.isArrayOf_alike hZ.alike A.2.1) A.2.2 (by simpa using hj) (by simpa using hv) (g := mkF m pc L (.int j :: .ref a :: S)) rfl rfl hd _ k) K
theorem gCaload (X : Stand p l e R s m args below meth c T locs cells slots) (hx : p.tables.exec = Jvm.exec) (hZ : Z.Warmed39 s.vm) (eT : T.heap = h) (A : Ary Z h a k .char vs) {j : Int32} {v : Value} (hd : decode c.code pc = .ok (.caload, 1)) (hq : pc + 1 = q) (hj : ¬ (j < 0 ∨ vs.length ≤ j.toNatClampNeg)) (hv : vs[j.toNatClampNeg]? = some v) (K : Go p.tables e below P (T.setTop (mkF m q L (v :: S)))) : Go p.tables e below P (T.setTop (mkF m pc L (.int j :: .ref a :: S))) := by
  subst hq eT
  obtain ⟨cl, A, -, rfl⟩ := A
  exact go (fun t k => X.caload hx (j := j) (v := v) A.1 (State.isArrayOf_alike hZ.alike A.2.1) A.2.2 (by simpa using hj) (by simpa using hv) (g := mkF m pc L (.int j :: .ref a :: S)) rfl rfl hd _ k) K
theorem gAaload (X : Stand p l e R s m args below meth c T locs cells slots) (hx : p.tables.exec = Jvm.exec) (hZ : Z.Warmed39 s.vm) (eT : T.heap = h) {ty : FieldType} (A : Ary Z h a k ty vs) (ht : ty.isReference = true) {j : Int32} {v : Value} (hd : decode c.code pc = .ok (.aaload, 1)) (hq : pc + 1 = q) (hj : ¬ (j < 0 ∨ vs.length ≤ j.toNatClampNeg)) (hv : vs[j.toNatClampNeg]? = some v) (K : Go p.tables e below P (T.setTop (mkF m q L (v :: S)))) : Go p.tables e below P (T.setTop (mkF m pc L (.int j :: .ref a :: S))) := by
  subst hq eT
  obtain ⟨cl, A, -, rfl⟩ := A
  exact go (fun t k => X.aaload hx (j := j) (v := v) A.1 (State.isArrayOf_alike hZ.alike A.2.1) ht A.2.2 (by simpa using hj) (by simpa using hv) (g := mkF m pc L (.int j :: .ref a :: S)) rfl rfl hd _ k) K
theorem gLen (X : Stand p l e R s m args below meth c T locs cells slots) (hx : p.tables.exec = Jvm.exec) (hZ : Z.Warmed39 s.vm) (eT : T.heap = h) {ty : FieldType} (A : Ary Z h a k ty vs) {n : Int32} (hn : vs.length.toInt32 = n) (hd : decode c.code pc = .ok (.arraylength, 1)) (hq : pc + 1 = q) (K : Go p.tables e below P (T.setTop (mkF m q L (.int n :: S)))) : Go p.tables e below P (T.setTop (mkF m pc L (.ref a :: S))) := by
  subst hq eT hn
  obtain ⟨cl, A, -, rfl⟩ := A
  exact go (fun t k => X.arraylength hx A.1 (State.isArrayOf_alike hZ.alike A.2.1) (g := mkF m pc L (.ref a :: S)) rfl rfl hd _ (by simpa using k)) K
theorem gIastore (X : Stand p l e R s m args below meth c T locs cells slots) (hx : p.tables.exec = Jvm.exec) (hZ : Z.Warmed39 s.vm) (eT : T.heap = h) (A : Ary Z h a k .int vs) {j : Int32} {x : Int32} (hd : decode c.code pc = .ok (.iastore, 1)) (hq : pc + 1 = q) (hj : ¬ (j < 0 ∨ vs.length ≤ j.toNatClampNeg))
    (K : ∀ T' h', Stand p l e R s m args below meth c T' (locs ++ [⟨a, j.toNatClampNeg⟩]) cells slots → T'.heap = h' → Wr h h' a j.toNatClampNeg (.int x) → Ary Z h' a k .int (vs.set j.toNatClampNeg (.int x)) → Go p.tables e below P (T'.setTop (mkF m q L (S)))) : Go p.tables e below P (T.setTop (mkF m pc L (.int x :: .int j :: .ref a :: S))) := by
  subst hq
  have A' := A
  obtain ⟨cl, Ac, r1, r2⟩ := A'
  obtain ⟨T', h', X', e', W', st⟩ := stI X hx hZ eT Ac (j := j) (x := x) (by subst r2; simpa using hj) (g := mkF m pc L (.int x :: .int j :: .ref a :: S)) rfl rfl hd
  exact go st (K T' h' X' e' W' (Ary.same W' A))
theorem gLastore (X : Stand p l e R s m args below meth c T locs cells slots) (hx : p.tables.exec = Jvm.exec) (hZ : Z.Warmed39 s.vm) (eT : T.heap = h) (A : Ary Z h a k .long vs) {j : Int32} {x : Int64} (hd : decode c.code pc = .ok (.lastore, 1)) (hq : pc + 1 = q) (hj : ¬ (j < 0 ∨ vs.length ≤ j.toNatClampNeg))
    (K : ∀ T' h', Stand p l e R s m args below meth c T' (locs ++ [⟨a, j.toNatClampNeg⟩]) cells slots → T'.heap = h' → Wr h h' a j.toNatClampNeg (.long x) → Ary Z h' a k .long (vs.set j.toNatClampNeg (.long x)) → Go p.tables e below P (T'.setTop (mkF m q L (S)))) : Go p.tables e below P (T.setTop (mkF m pc L (.long x :: .int j :: .ref a :: S))) := by
  subst hq
  have A' := A
  obtain ⟨cl, Ac, r1, r2⟩ := A'
  obtain ⟨T', h', X', e', W', st⟩ := stJ X hx hZ eT Ac (j := j) (x := x) (by subst r2; simpa using hj) (g := mkF m pc L (.long x :: .int j :: .ref a :: S)) rfl rfl hd
  exact go st (K T' h' X' e' W' (Ary.same W' A))
theorem gCastore (X : Stand p l e R s m args below meth c T locs cells slots) (hx : p.tables.exec = Jvm.exec) (hZ : Z.Warmed39 s.vm) (eT : T.heap = h) (A : Ary Z h a k .char vs) {j x : Int32} (hd : decode c.code pc = .ok (.castore, 1)) (hq : pc + 1 = q) (hj : ¬ (j < 0 ∨ vs.length ≤ j.toNatClampNeg))
    (K : ∀ T' h', Stand p l e R s m args below meth c T' (locs ++ [⟨a, j.toNatClampNeg⟩]) cells slots → T'.heap = h' → Wr h h' a j.toNatClampNeg (.int (nar .char x)) → Ary Z h' a k .char (vs.set j.toNatClampNeg (.int (nar .char x))) → Go p.tables e below P (T'.setTop (mkF m q L (S)))) : Go p.tables e below P (T.setTop (mkF m pc L (.int x :: .int j :: .ref a :: S))) := by
  subst hq
  have A' := A
  obtain ⟨cl, Ac, r1, r2⟩ := A'
  obtain ⟨T', h', X', e', W', st⟩ := stC X hx hZ eT Ac (j := j) (x := x) (by subst r2; simpa using hj) (g := mkF m pc L (.int x :: .int j :: .ref a :: S)) rfl rfl hd
  exact go st (K T' h' X' e' W' (Ary.same W' A))
theorem gAastore (X : Stand p l e R s m args below meth c T locs cells slots) (hx : p.tables.exec = Jvm.exec) (hZ : Z.Warmed39 s.vm) (eT : T.heap = h) {ty : FieldType} (A : Ary Z h a k ty vs) (ht : ty.isReference = true) {j : Int32} {v : Value} (F : Sto Z h a v) (hd : decode c.code pc = .ok (.aastore, 1)) (hq : pc + 1 = q) (hj : ¬ (j < 0 ∨ vs.length ≤ j.toNatClampNeg))
    (K : ∀ T' h', Stand p l e R s m args below meth c T' (locs ++ [⟨a, j.toNatClampNeg⟩]) cells slots → T'.heap = h' → Wr h h' a j.toNatClampNeg v → Ary Z h' a k ty (vs.set j.toNatClampNeg v) → Go p.tables e below P (T'.setTop (mkF m q L (S)))) : Go p.tables e below P (T.setTop (mkF m pc L (v :: .int j :: .ref a :: S))) := by
  subst hq
  have A' := A
  obtain ⟨cl, Ac, r1, r2⟩ := A'
  obtain ⟨T', h', X', e', W', st⟩ := stR X hx hZ eT Ac (j := j) (by subst r2; simpa using hj) ht F (g := mkF m pc L (v :: .int j :: .ref a :: S)) rfl rfl hd
  exact go st (K T' h' X' e' W' (Ary.same W' A))
theorem Sto.ofA {Z : State} {h : Heap} {a y : Addr} {k : ClassId} {ty : FieldType} {vs : List Value} {C : String} (A : Ary Z h a k ty vs) (O : Ovr Z k C) (I : Ins Z h y C true) : Sto Z h a (.ref y) := by obtain ⟨c, Ac, r, -⟩ := A; exact Sto.ofV Ac r O I
theorem gNewP (X : Stand p l e R s m args below meth c T locs cells slots) (hx : p.tables.exec = Jvm.exec) (hZ : Z.Warmed39 s.vm) {aty : ArrayType} (w : (Jvm.Cond.arrayClass (newarray.typeOf aty)).before a0 Z = true) (eT : T.heap = h) (hd : decode c.code pc = .ok (.newarray aty, 2)) (hq : pc + 2 = q) {n : Int32} (hn : ¬ n < 0) {cap : Nat} (hcap : n.toNatClampNeg ≤ cap) (hb : cap * 8 ≤ 536870912) (hc : cells + 1 ≤ R.cells) (hl : slots + cap ≤ R.slots)
    (K : ∀ T' h' a cA, Stand p l e R s m args below meth c T' locs (cells + 1) (slots + cap) → T'.heap = h' → a = h.size → Ext h h' → Ary Z h' a cA (newarray.typeOf aty) (List.replicate n.toNatClampNeg (defaultValue (newarray.typeOf aty))) → Go p.tables e below P (T'.setTop (mkF m q L (.ref a :: S)))) : Go p.tables e below P (T.setTop (mkF m pc L (.int n :: S))) := by
  subst hq
  obtain ⟨T', h', cA, X', e', E', A', st⟩ := newP X hx hZ w eT (g := mkF m pc L (.int n :: S)) rfl hd rfl hn hcap hb hc hl
  exact go st (K T' h' _ cA X' e' rfl E' (Ary.new A'))
theorem gNewR (X : Stand p l e R s m args below meth c T locs cells slots) (hx : p.tables.exec = Jvm.exec) (hZ : Z.Warmed39 s.vm) {own C : String} {i : Nat} (hown : s.vm.findClass own = some m.cls) (w1 : (Jvm.Cond.classLink own i C).before a0 Z = true) (w2 : (Jvm.Cond.arrayOver (.object C)).before a0 Z = true) (eT : T.heap = h) (hd : decode c.code pc = .ok (.anewarray i, 3)) (hq : pc + 3 = q) {n : Int32} (hn : ¬ n < 0) {cap : Nat} (hcap : n.toNatClampNeg ≤ cap) (hb : cap * 8 ≤ 536870912) (hc : cells + 1 ≤ R.cells) (hl : slots + cap ≤ R.slots)
    (K : ∀ T' h' a cA, Stand p l e R s m args below meth c T' locs (cells + 1) (slots + cap) → T'.heap = h' → a = h.size → Ext h h' → Ary Z h' a cA (.object C) (List.replicate n.toNatClampNeg .null) → Ovr Z cA C → Go p.tables e below P (T'.setTop (mkF m q L (.ref a :: S)))) : Go p.tables e below P (T.setTop (mkF m pc L (.int n :: S))) := by
  subst hq
  obtain ⟨T', h', cA, X', e', E', A', O', st⟩ := newR X hx hZ hown w1 w2 eT (g := mkF m pc L (.int n :: S)) rfl hd rfl hn hcap hb hc hl
  exact go st (K T' h' _ cA X' e' rfl E' (Ary.new A') O')
end Steps3
end Jvm.OwnKit
namespace Jvm.OwnKit
open Sem ClassFile Op Lib Jvm.Stand Jvm.Free Jvm.LawKit Jvm.RoadKit
theorem own_inst {Z : State} {a0 : Array Value} {K : String} {n : Nat} (w : (Jvm.Cond.instantiable K n).before a0 Z = true) : ∃ t k, Z.vm.findClass K = some t ∧ Z.vm.classes[t]? = some k ∧ k.kind = .ordinary ∧ k.isInterface = false := by
  obtain ⟨t, k, h1, h2, h3, h4, -⟩ := Cond.instantiable_spec w
  exact ⟨t, k, h1, h2, h3, by simp only [Bool.or_eq_false_iff] at h4; exact h4.1⟩
theorem own_nsRoot {Z : State} {a0 : Array Value} {O K : String} {n : Nat} (w : (Jvm.Cond.noSuperclass O).before a0 Z = true) (wk : (Jvm.Cond.instantiable K n).before a0 Z = true) (hn : O ≠ K) : NS Z O K := by
  obtain ⟨c, k, h1, h2, h3, -, -⟩ := Cond.noSuperclass_spec w
  obtain ⟨t, k', g1, -⟩ := own_inst wk
  have ne := ids_ne h1 g1 hn
  refine ⟨c, t, h1, g1, fun fuel => ?_⟩
  cases fuel with
  | zero => rfl
  | succ f => simp [Vm.isSubclassAux, ne, h2, h3]
theorem own_nsNo {Z : State} {a0 : Array Value} {C S K : String} {n : Nat} (w : (Jvm.Cond.superclass C S).before a0 Z = true) (wk : (Jvm.Cond.instantiable K n).before a0 Z = true) (m : NS Z C K) (hn : C ≠ K) : ∃ c t, Z.vm.findClass C = some c ∧ Z.vm.findClass K = some t ∧ Z.vm.assignable c t = false := by
  obtain ⟨c, t, h0, g0, n3⟩ := m
  obtain ⟨p, k, kp, h1, h2, h3, h4, h5, -, h7⟩ := Cond.superclass_spec h0 w
  obtain ⟨t', k', g1, g2, g3, g4⟩ := own_inst wk
  cases g0.symm.trans g1
  have ne := ids_ne h0 g0 hn
  refine ⟨c, t, h0, g0, ?_⟩
  show Z.vm.assignableAux (255 + 1) c t = false
  simp [Vm.assignableAux, ne, h2, g2, h5, g3, g4, Vm.isSubclass, n3]
section Steps4
variable {p : Program} {l : Launch} {e : Env} {R : Room} {s : State} {m : MethodId} {args : Array Value} {below : List Frame} {meth : Method} {c : Code} {T : State} {locs : List Loc} {cells slots : Nat} {P : State → Outcome → Prop} {pc q : Nat} {L L' : Array Slot} {S : List Value} {Z : State} {a0 : Array Value} {h : Heap} {a : Addr}
theorem gInstY (X : Stand p l e R s m args below meth c T locs cells slots) (hx : p.tables.exec = Jvm.exec) (hZ : Z.Warmed39 s.vm) {own K : String} {i : Nat} (hown : s.vm.findClass own = some m.cls) (w : (Jvm.Cond.classLink own i K).before a0 Z = true) (eT : T.heap = h) (F : Ins Z h a K true) (hd : decode c.code pc = .ok (.instanceof i, 3)) (hq : pc + 3 = q)
    (K1 : ∀ T', Stand p l e R s m args below meth c T' locs cells slots → T'.heap = h → Go p.tables e below P (T'.setTop (mkF m q L (.int 1 :: S)))) : Go p.tables e below P (T.setTop (mkF m pc L (.ref a :: S))) := by
  subst hq
  obtain ⟨T', X', e', st⟩ := instY X hx hZ hown w eT F (g := mkF m pc L (.ref a :: S)) rfl rfl hd
  exact go st (K1 T' X' e')
theorem gInstNo (X : Stand p l e R s m args below meth c T locs cells slots) (hx : p.tables.exec = Jvm.exec) (hZ : Z.Warmed39 s.vm) {own K C : String} {i : Nat} (hown : s.vm.findClass own = some m.cls) (w : (Jvm.Cond.classLink own i K).before a0 Z = true) (eT : T.heap = h) (E : Exa Z h a C) (F : ∃ c t, Z.vm.findClass C = some c ∧ Z.vm.findClass K = some t ∧ Z.vm.assignable c t = false) (hd : decode c.code pc = .ok (.instanceof i, 3)) (hq : pc + 3 = q)
    (K1 : ∀ T', Stand p l e R s m args below meth c T' locs cells slots → T'.heap = h → Go p.tables e below P (T'.setTop (mkF m q L (.int 0 :: S)))) : Go p.tables e below P (T.setTop (mkF m pc L (.ref a :: S))) := by
  subst hq
  obtain ⟨T', X', e', st⟩ := instNo X hx hZ hown w eT E F (g := mkF m pc L (.ref a :: S)) rfl rfl hd
  exact go st (K1 T' X' e')
theorem gInstNull (X : Stand p l e R s m args below meth c T locs cells slots) (hx : p.tables.exec = Jvm.exec) {i : Nat} (hd : decode c.code pc = .ok (.instanceof i, 3)) (hq : pc + 3 = q) (K1 : Go p.tables e below P (T.setTop (mkF m q L (.int 0 :: S)))) : Go p.tables e below P (T.setTop (mkF m pc L (.null :: S))) := by
  subst hq
  exact go (fun t k => X.instanceofNull hx (g := mkF m pc L (.null :: S)) rfl rfl hd _ k) K1
theorem gCastY (X : Stand p l e R s m args below meth c T locs cells slots) (hx : p.tables.exec = Jvm.exec) (hZ : Z.Warmed39 s.vm) {own K : String} {i : Nat} (hown : s.vm.findClass own = some m.cls) (w : (Jvm.Cond.classLink own i K).before a0 Z = true) (eT : T.heap = h) (F : Ins Z h a K true) (hd : decode c.code pc = .ok (.checkcast i, 3)) (hq : pc + 3 = q)
    (K1 : ∀ T', Stand p l e R s m args below meth c T' locs cells slots → T'.heap = h → Go p.tables e below P (T'.setTop (mkF m q L (.ref a :: S)))) : Go p.tables e below P (T.setTop (mkF m pc L (.ref a :: S))) := by
  subst hq
  obtain ⟨T', X', e', st⟩ := castY X hx hZ hown w eT F (g := mkF m pc L (.ref a :: S)) rfl rfl hd
  exact go st (K1 T' X' e')
end Steps4
end Jvm.OwnKit
namespace Jvm.OwnKit
open Sem ClassFile Op Lib Jvm.Stand Jvm.Free Jvm.LawKit Jvm.RoadKit
theorem own_lenlt {args : Array Value} {first s : State} {o : Option Outcome} {idx : List Nat} {t : Term} {a : Addr} {cl : Cell} {v : Value} (ev : t.eval args first o idx s = some (.ref a)) (hat : s.arrayAt? a = some cl) (h : (Term.length t).eval args first o idx s = some v) : cl.slots.size < 2 ^ 31 := by
  simp [Term.eval, ev, hat] at h
  exact h.1
theorem own_cache {s : State} {args : Array Value} (hf : Fit s) (w1 : (Jvm.Cond.initializedFor "java/lang/Integer$IntegerCache" "high" "I").before args s = true) (w2 : (Jvm.Cond.eq (Term.static "java/lang/Integer$IntegerCache" "high" "I") (Term.int 127)).before args s = true)
    (w3 : (Jvm.Cond.initialized "java/lang/Integer$IntegerCache").before args s = true) (w4 : (Jvm.Cond.laysStatic "java/lang/Integer$IntegerCache" "cache" "[Ljava/lang/Integer;").before args s = true) (w5 : (Jvm.Cond.arrayOf (Term.static "java/lang/Integer$IntegerCache" "cache" "[Ljava/lang/Integer;") (.object "java/lang/Integer")).before args s = true)
    (w6 : (Jvm.Cond.eq (Term.length (Term.static "java/lang/Integer$IntegerCache" "cache" "[Ljava/lang/Integer;")) (Term.int 256)).before args s = true)
    (w7 : (Jvm.Cond.all (Term.static "java/lang/Integer$IntegerCache" "cache" "[Ljava/lang/Integer;") (Jvm.Cond.and (Jvm.Cond.exactly (Term.elem (Term.static "java/lang/Integer$IntegerCache" "cache" "[Ljava/lang/Integer;") (Term.index 0)) "java/lang/Integer") (Jvm.Cond.eq (Term.field (Term.elem (Term.static "java/lang/Integer$IntegerCache" "cache" "[Ljava/lang/Integer;") (Term.index 0)) "java/lang/Integer" "value" "I") (Term.sub (Term.index 0) (Term.int 128))))).before args s = true) :
    Sta s s.heap "java/lang/Integer$IntegerCache" "high" "I" (.int 127) ∧ ∃ (rc : Addr) (kc : ClassId) (vc : List Value), Sta s s.heap "java/lang/Integer$IntegerCache" "cache" "[Ljava/lang/Integer;" (.ref rc) ∧ Ary s s.heap rc kc (.object "java/lang/Integer") vc ∧ vc.length = 256 ∧ ∀ j : Nat, j < 256 → ∃ r, vc[j]? = some (.ref r) ∧ Exa s s.heap r "java/lang/Integer" := by
  have w2' := Cond.before_iff.mp w2
  obtain ⟨u, w, h1, h2, h3, h4⟩ := cmp_v (Or.inl w2')
  obtain rfl : w = .int 127 := Option.some.inj (h2.symm.trans (Term.int_eval 127))
  obtain ⟨z, rfl⟩ := h4
  have hz : z = 127 := gotT (Cond.eq_ints h1 h2) w2'
  subst hz
  have SH := Sta.start h1 (Or.inl w1)
  have w5' := Cond.before_iff.mp w5
  obtain ⟨rc, ev⟩ := arr_v w5'
  obtain ⟨cl, A⟩ := Arr.start ev w5'
  have SC := Sta.start ev (Or.inr ⟨w3, w4⟩)
  have hal : s.vm.Alike s.vm := Vm.Alike.refl _
  have hat := Arr.fin hal A
  have w6' := Cond.before_iff.mp w6
  obtain ⟨u, w, g1, g2, g3, g4⟩ := cmp_v (Or.inl w6')
  obtain rfl : w = .int 256 := Option.some.inj (g2.symm.trans (Term.int_eval 256))
  obtain ⟨z, rfl⟩ := g4
  have hz : z = 256 := gotT (Cond.eq_ints g1 g2) w6'
  subst hz
  obtain ⟨b, cell, e1, e2, e3⟩ := Term.length_spec g1
  obtain rfl : rc = b := by have := ev.symm.trans e1; exact Value.ref.inj (Option.some.inj this)
  obtain rfl : cl = cell := Option.some.inj (hat.symm.trans e2)
  have hlt : cl.slots.size < 2 ^ 31 := own_lenlt ev hat g1
  have hsz : cl.slots.size = 256 := by
    have e4 := congrArg Int32.toInt (Value.int.inj e3)
    rw [len_toInt hlt] at e4
    have e5 : (256 : Int32).toInt = 256 := rfl
    omega
  have w7' := Cond.before_iff.mp w7
  refine ⟨SH, rc, cl.cls, cl.slots.toList, SC, ⟨cl, A, rfl, rfl⟩, by simpa using hsz, fun j hj => ?_⟩
  have hall := Cond.all_elim ev hat w7' j (by rw [hsz]; exact hj)
  obtain ⟨k1, -⟩ := and_e hall
  obtain ⟨r, er⟩ := exa_v k1
  have E := exa_at er k1
  have evj : (Term.static "java/lang/Integer$IntegerCache" "cache" "[Ljava/lang/Integer;").eval args s none [j] s = some (.ref rc) := ev
  have hi : (Term.index 0).eval args s none [j] s = some (.int j.toInt32) := Term.index_eval j
  refine ⟨r, ?_, E⟩
  have q := elem_in er evj hi A.1
  have hjn : j.toInt32.toNatClampNeg = j := by
    have := len_toInt (n := j) (by omega)
    show j.toInt32.toInt.toNat = j
    rw [this]; rfl
  rw [hjn] at q
  rw [Array.getElem?_toList]
  exact q.2
end Jvm.OwnKit
namespace Jvm.Pilot.@@N@@
open Jvm Jvm.ClassFile Sem Op Lib Jvm.Free Jvm.Stand Jvm.LawKit Jvm.RoadKit Bundle Jvm.OwnKit Jvm.Pilot.@@N@@.Jvm.D
theorem d8_0 : decode jdk_18_method_1_code 0 = .ok (.aload_n 0, 1) := by decide +kernel
theorem d8_1 : decode jdk_18_method_1_code 1 = .ok (.invokespecial 1, 3) := by decide +kernel
theorem d8_4 : decode jdk_18_method_1_code 4 = .ok (.return_, 1) := by decide +kernel
theorem pn0 : plainName "java/lang/Number" = true := by first | (simp [plainName, overriddenIn]; done) | decide +kernel
theorem ef0 (m : MethodId) (x0 : Addr) : entryFrame m #[(.ref x0)] 1 = mkF m 0 #[.val (.ref x0)] [] := by first | (simp [entryFrame, mkF, argsToLocals, Value.category]; done) | rfl
def Q_rmNum (Z : State) (a : Addr) (h0 : Heap) (n0 : Nat) (v : Option Value) (h : Heap) (L : List Loc) : Prop := v = none ∧ Fr n0 L ∧ h = h0
set_option maxRecDepth 65536 in
set_option maxHeartbeats 40000000 in
theorem rmNum (l : Launch) (Z : State) (a0 : Array Value) (hw : ∀ d ∈ tables_1, d.before a0 Z = true) (ws : List Jvm.Cond) (a : Addr) (h0 : Heap) (n0 : Nat) (Z0 : n0 ≤ h0.size)  :
    Con l Z (⟨"java/lang/Number", "<init>", "()V"⟩ : MethodName) jdk_18_method_1_code 1 none ws ({ frames := 1, cells := 0, slots := 0, locals := 12 } : Room) #[(.ref a)] h0 (({ frames := 1, cells := 0, slots := 0, locals := 12 } : Room).cells) (({ frames := 1, cells := 0, slots := 0, locals := 12 } : Room).slots) (Q_rmNum Z a h0 n0) := by
  refine Con.of (plainFor_of_name pn0) ?_
  intro p e s m below meth c s₁ hx hby hml hown hnm hret hlk hZ X0 e0
  have N0 := Fr.nil n0
  refine goE (L := #[.val (.ref a)]) (ef0 m a) ?_
  refine gAloadN X0 hx (hb hby d8_0) (q := 1) rfl rfl rfl ?_
  refine gInitO X0 hx hZ hown (hw _ (List.mem_of_getElem? (i := 46) rfl)) (hw _ (List.mem_of_getElem? (i := 15) rfl)) (hw _ (List.mem_of_getElem? (i := 16) rfl)) e0 (by rw [hml]; rfl) (hb hby d8_1) (q := 4) rfl (by decide) (W := 0) (Nat.le_of_eq rfl) (by decide) (fun T1 X1 e1 => ?_)
  exact gRetV X1 hx hlk hret (hb hby d8_4) (by decide) (by decide) ⟨rfl, N0, e1⟩
theorem d7_0 : decode jdk_33_method_23_code 0 = .ok (.aload_n 0, 1) := by decide +kernel
theorem d7_1 : decode jdk_33_method_23_code 1 = .ok (.invokespecial 202, 3) := by decide +kernel
theorem d7_4 : decode jdk_33_method_23_code 4 = .ok (.aload_n 0, 1) := by decide +kernel
theorem d7_5 : decode jdk_33_method_23_code 5 = .ok (.iload_n 1, 1) := by decide +kernel
theorem d7_6 : decode jdk_33_method_23_code 6 = .ok (.putfield 205, 3) := by decide +kernel
theorem d7_9 : decode jdk_33_method_23_code 9 = .ok (.return_, 1) := by decide +kernel
theorem pn1 : plainName "java/lang/Integer" = true := by first | (simp [plainName, overriddenIn]; done) | decide +kernel
theorem ef1 (m : MethodId) (x0 : Addr) (x1 : Int32) : entryFrame m #[(.ref x0), (.int x1)] 2 = mkF m 0 #[.val (.ref x0), .val (.int x1)] [] := by first | (simp [entryFrame, mkF, argsToLocals, Value.category]; done) | rfl
def Q_rmInt (Z : State) (a : Addr) (x1 : Int32) (h0 : Heap) (n0 : Nat) (v : Option Value) (h : Heap) (L : List Loc) : Prop := v = none ∧ Fr n0 L ∧ Keep h0 h [a] ∧ Exa Z h a "java/lang/Integer" ∧ Fld Z h a "java/lang/Integer" "value" "I" (.int x1)
theorem pd0 : parseMethodDescriptor "()V" = some ⟨[], none⟩ := by decide +kernel
set_option maxRecDepth 65536 in
set_option maxHeartbeats 40000000 in
theorem rmInt (l : Launch) (Z : State) (a0 : Array Value) (hw : ∀ d ∈ tables_1, d.before a0 Z = true) (ws : List Jvm.Cond) (a : Addr) (x1 : Int32) (h0 : Heap) (n0 : Nat) (Z0 : n0 ≤ h0.size) (F1 : Fld Z h0 a "java/lang/Integer" "value" "I" (.int (0 : Int32))) (E1 : Exa Z h0 a "java/lang/Integer") (la : n0 ≤ a) :
    Con l Z (⟨"java/lang/Integer", "<init>", "(I)V"⟩ : MethodName) jdk_33_method_23_code 2 none ws ({ frames := 2, cells := 0, slots := 0, locals := 24 } : Room) #[(.ref a), (.int x1)] h0 (({ frames := 2, cells := 0, slots := 0, locals := 24 } : Room).cells) (({ frames := 2, cells := 0, slots := 0, locals := 24 } : Room).slots) (Q_rmInt Z a x1 h0 n0) := by
  refine Con.of (plainFor_of_name pn1) ?_
  intro p e s m below meth c s₁ hx hby hml hown hnm hret hlk hZ X0 e0
  have N0 := Fr.nil n0
  refine goE (L := #[.val (.ref a), .val (.int x1)]) (ef1 m a x1) ?_
  refine gAloadN X0 hx (hb hby d7_0) (q := 1) rfl rfl rfl ?_
  refine gCallN X0 hx hZ rfl hown (hw _ (List.mem_of_getElem? (i := 40) rfl)) (hw _ (List.mem_of_getElem? (i := 41) rfl)) (hw _ (List.mem_of_getElem? (i := 44) rfl)) (hw _ (List.mem_of_getElem? (i := 45) rfl)) (by decide) (rmNum l Z a0 hw [] a h0 n0 Z0) (W := 0) (by decide) (by decide) e0 (by rw [hml]; rfl) [] (lenOf pd0 rfl) rfl (S := []) rfl (Nat.le_of_eq rfl) (hb hby d7_1) (q := 4) rfl (by decide) (by decide) (fun r1 T1 M1 X1 q1 => ?_)
  obtain ⟨rfl, M1n, e1⟩ := q1
  have N2 := Fr.app N0 M1n
  dsimp only [Option.toList, List.cons_append, List.nil_append]
  refine gAloadN X1 hx (hb hby d7_4) (q := 5) rfl rfl rfl ?_
  refine gIloadN X1 hx (hb hby d7_5) (q := 6) rfl rfl ?_
  refine gPutF X1 hx hZ (host := "") hown (Or.inl (hw _ (List.mem_of_getElem? (i := 47) rfl))) Via.refl e1 F1 E1 (Or.inr ⟨(hw _ (List.mem_of_getElem? (i := 48) rfl)), rfl, hnm⟩) (hw _ (List.mem_of_getElem? (i := 35) rfl)) (ty := .int) (by decide) rfl rfl (hb hby d7_6) (q := 9) rfl (fun T3 h3 X3 e3 W3 => ?_)
  have N4 := Fr.snoc X3 N2 la
  have K5 := (Keep.refl h0 [a]).wr W3 (Or.inl (List.mem_of_getElem? (i := 0) rfl))
  have F6 := Fld.same W3 F1
  have E7 := Exa.wr W3 E1
  have Z8 : n0 ≤ h3.size := by rw [W3.size]; exact Z0
  exact gRetV X3 hx hlk hret (hb hby d7_9) (by decide) (by decide) (by rw [e3]; exact ⟨rfl, N4, K5, E7, F6⟩)
theorem own_cacheIdx {x : Int32} {vs : List Value} (h1 : ¬ x < (-128 : Int32)) (h2 : ¬ (127 : Int32) < x) (hl : vs.length = 256) : ¬ ((x + (128 : Int32)) < 0 ∨ vs.length ≤ (x + (128 : Int32)).toNatClampNeg) := by
  rw [Int32.lt_iff_toInt_lt] at h1 h2
  have e1 : (-128 : Int32).toInt = -128 := rfl
  have e2 : (127 : Int32).toInt = 127 := rfl
  have e3 := c_iadd x 128
  have e4 : (128 : Int32).toInt = 128 := rfl
  have r1 := rng32 x
  have r2 := rng32 (x + 128)
  have e5 : (x + 128).toInt = x.toInt + 128 := by omega
  have e6 : (0 : Int32).toInt = 0 := rfl
  have hnn : ¬ (x + 128) < 0 := by rw [Int32.lt_iff_toInt_lt]; omega
  have e7 := nat_of hnn
  rintro (h | h)
  · exact hnn h
  · omega
theorem d6_0 : decode jdk_33_method_22_code 0 = .ok (.iload_n 0, 1) := by decide +kernel
theorem d6_1 : decode jdk_33_method_22_code 1 = .ok (.bipush (-128), 2) := by decide +kernel
theorem d6_3 : decode jdk_33_method_22_code 3 = .ok (.if_icmp .lt 20, 3) := by decide +kernel
theorem d6_6 : decode jdk_33_method_22_code 6 = .ok (.iload_n 0, 1) := by decide +kernel
theorem d6_7 : decode jdk_33_method_22_code 7 = .ok (.getstatic 191, 3) := by decide +kernel
theorem d6_10 : decode jdk_33_method_22_code 10 = .ok (.if_icmp .gt 13, 3) := by decide +kernel
theorem d6_13 : decode jdk_33_method_22_code 13 = .ok (.getstatic 195, 3) := by decide +kernel
theorem d6_16 : decode jdk_33_method_22_code 16 = .ok (.iload_n 0, 1) := by decide +kernel
theorem d6_17 : decode jdk_33_method_22_code 17 = .ok (.sipush 128, 3) := by decide +kernel
theorem d6_20 : decode jdk_33_method_22_code 20 = .ok (.iadd, 1) := by decide +kernel
theorem d6_21 : decode jdk_33_method_22_code 21 = .ok (.aaload, 1) := by decide +kernel
theorem d6_22 : decode jdk_33_method_22_code 22 = .ok (.areturn, 1) := by decide +kernel
theorem d6_23 : decode jdk_33_method_22_code 23 = .ok (.new 1, 3) := by decide +kernel
theorem d6_26 : decode jdk_33_method_22_code 26 = .ok (.dup, 1) := by decide +kernel
theorem d6_27 : decode jdk_33_method_22_code 27 = .ok (.iload_n 0, 1) := by decide +kernel
theorem d6_28 : decode jdk_33_method_22_code 28 = .ok (.invokespecial 199, 3) := by decide +kernel
theorem d6_31 : decode jdk_33_method_22_code 31 = .ok (.areturn, 1) := by decide +kernel
theorem ef2 (m : MethodId) (x0 : Int32) : entryFrame m #[(.int x0)] 1 = mkF m 0 #[.val (.int x0)] [] := by first | (simp [entryFrame, mkF, argsToLocals, Value.category]; done) | rfl
def Q_rmVal (Z : State) (x0 : Int32) (rc : Addr) (kc : ClassId) (vc : List Value) (h0 : Heap) (n0 : Nat) (v : Option Value) (h : Heap) (L : List Loc) : Prop := ∃ r, v = some (.ref r) ∧ Fr n0 L ∧ Keep h0 h [] ∧ Exa Z h r "java/lang/Integer"
theorem pd1 : parseMethodDescriptor "(I)V" = some ⟨[.int], none⟩ := by decide +kernel
set_option maxRecDepth 65536 in
set_option maxHeartbeats 40000000 in
theorem rmVal (l : Launch) (Z : State) (a0 : Array Value) (hw : ∀ d ∈ tables_1, d.before a0 Z = true) (ws : List Jvm.Cond) (x0 : Int32) (rc : Addr) (kc : ClassId) (vc : List Value) (h0 : Heap) (n0 : Nat) (Z0 : n0 ≤ h0.size) (SH : Sta Z h0 "java/lang/Integer$IntegerCache" "high" "I" (.int 127)) (SC : Sta Z h0 "java/lang/Integer$IntegerCache" "cache" "[Ljava/lang/Integer;" (.ref rc)) (AC : Ary Z h0 rc kc (.object "java/lang/Integer") vc) (hlen : vc.length = 256) (HC : ∀ j : Nat, j < 256 → ∃ r, vc[j]? = some (.ref r) ∧ Exa Z h0 r "java/lang/Integer") :
    Con l Z (⟨"java/lang/Integer", "valueOf", "(I)Ljava/lang/Integer;"⟩ : MethodName) jdk_33_method_22_code 1 (some (.object "java/lang/Integer")) ws ({ frames := 3, cells := 1, slots := 1, locals := 38 } : Room) #[(.int x0)] h0 (({ frames := 3, cells := 1, slots := 1, locals := 38 } : Room).cells) (({ frames := 3, cells := 1, slots := 1, locals := 38 } : Room).slots) (Q_rmVal Z x0 rc kc vc h0 n0) := by
  refine Con.of (plainFor_of_name pn1) ?_
  intro p e s m below meth c s₁ hx hby hml hown hnm hret hlk hZ X0 e0
  have N0 := Fr.nil n0
  refine goE (L := #[.val (.int x0)]) (ef2 m x0) ?_
  refine gIloadN X0 hx (hb hby d6_0) (q := 1) rfl rfl ?_
  refine gBipush X0 hx (-128 : Int32) (hb hby d6_1) (q := 3) rfl (by decide) ?_
  by_cases c1 : x0 < (-128 : Int32)
  · refine gIcmpY X0 hx (hb hby d6_3) (q := 23) (by decide) (by decide) (XT.ii_lt_t c1) ?_
    refine gNewO X0 hx hZ hown (hw _ (List.mem_of_getElem? (i := 34) rfl)) (hw _ (List.mem_of_getElem? (i := 35) rfl)) (hw _ (List.mem_of_getElem? (i := 30) rfl)) e0 (hb hby d6_23) (q := 26) rfl (by decide) (by decide) (fun T2 h2 a2 X2 e2 g2 E2 A2 D2 => ?_)
    have S3 := Sta.ext E2 SH
    have S4 := Sta.ext E2 SC
    have le_a2 : n0 ≤ a2 := by rw [g2]; exact Z0
    have Z5 := Nat.le_trans Z0 E2.1
    have F6 : Fld Z h2 a2 "java/lang/Integer" "value" "I" (.int (0 : Int32)) := D2 (Or.inr (hw _ (List.mem_of_getElem? (i := 48) rfl))) (ty := .int) (by decide)
    clear D2
    have KI := (Keep.refl h0 []).ext E2
    refine gDup X2 hx (hb hby d6_26) (q := 27) rfl rfl ?_
    refine gIloadN X2 hx (hb hby d6_27) (q := 28) rfl rfl ?_
    refine gCallN X2 hx hZ rfl hown (hw _ (List.mem_of_getElem? (i := 36) rfl)) (hw _ (List.mem_of_getElem? (i := 37) rfl)) (hw _ (List.mem_of_getElem? (i := 30) rfl)) (hw _ (List.mem_of_getElem? (i := 39) rfl)) (by decide) (rmInt l Z a0 hw [] a2 x0 h2 n0 Z5 F6 A2 le_a2) (W := 1) (by decide) (by decide) e2 (by rw [hml]; rfl) [(.int x0)] (lenOf pd1 rfl) rfl (S := [(.ref a2)]) rfl (Nat.le_of_eq rfl) (hb hby d6_28) (q := 31) rfl (by decide) (by decide) (fun r7 T7 M7 X7 q7 => ?_)
    obtain ⟨rfl, M7n, K7, P7e, P7m⟩ := q7
    have N8 := Fr.app N0 M7n
    have Z9 := Nat.le_trans Z5 K7.1
    have KK10 := KI.trans K7 (allS (Or.inr (Nat.le_of_eq g2.symm)) all0)
    dsimp only [Option.toList, List.cons_append, List.nil_append]
    exact gRetA X7 hx hlk hret rfl rfl (hb hby d6_31) (by decide) (by decide) (by exact ⟨_, rfl, N8, KK10, P7e⟩)
  · refine gIcmpN X0 hx (hb hby d6_3) (q := 6) rfl (XT.ii_lt_f c1) ?_
    refine gIloadN X0 hx (hb hby d6_6) (q := 7) rfl rfl ?_
    refine gGetS X0 hx hZ hown (hw _ (List.mem_of_getElem? (i := 32) rfl)) Via.refl e0 SH (hb hby d6_7) (q := 10) rfl (fun T11 X11 e11 => ?_)
    by_cases c12 : (127 : Int32) < x0
    · refine gIcmpY X11 hx (hb hby d6_10) (q := 23) (by decide) (by decide) (XT.ii_gt_t c12) ?_
      refine gNewO X11 hx hZ hown (hw _ (List.mem_of_getElem? (i := 34) rfl)) (hw _ (List.mem_of_getElem? (i := 35) rfl)) (hw _ (List.mem_of_getElem? (i := 30) rfl)) e11 (hb hby d6_23) (q := 26) rfl (by decide) (by decide) (fun T13 h13 a13 X13 e13 g13 E13 A13 D13 => ?_)
      have S14 := Sta.ext E13 SH
      have S15 := Sta.ext E13 SC
      have le_a13 : n0 ≤ a13 := by rw [g13]; exact Z0
      have Z16 := Nat.le_trans Z0 E13.1
      have F17 : Fld Z h13 a13 "java/lang/Integer" "value" "I" (.int (0 : Int32)) := D13 (Or.inr (hw _ (List.mem_of_getElem? (i := 48) rfl))) (ty := .int) (by decide)
      clear D13
      have KI := (Keep.refl h0 []).ext E13
      refine gDup X13 hx (hb hby d6_26) (q := 27) rfl rfl ?_
      refine gIloadN X13 hx (hb hby d6_27) (q := 28) rfl rfl ?_
      refine gCallN X13 hx hZ rfl hown (hw _ (List.mem_of_getElem? (i := 36) rfl)) (hw _ (List.mem_of_getElem? (i := 37) rfl)) (hw _ (List.mem_of_getElem? (i := 30) rfl)) (hw _ (List.mem_of_getElem? (i := 39) rfl)) (by decide) (rmInt l Z a0 hw [] a13 x0 h13 n0 Z16 F17 A13 le_a13) (W := 1) (by decide) (by decide) e13 (by rw [hml]; rfl) [(.int x0)] (lenOf pd1 rfl) rfl (S := [(.ref a13)]) rfl (Nat.le_of_eq rfl) (hb hby d6_28) (q := 31) rfl (by decide) (by decide) (fun r18 T18 M18 X18 q18 => ?_)
      obtain ⟨rfl, M18n, K18, P18e, P18m⟩ := q18
      have N19 := Fr.app N0 M18n
      have Z20 := Nat.le_trans Z16 K18.1
      have KK21 := KI.trans K18 (allS (Or.inr (Nat.le_of_eq g13.symm)) all0)
      dsimp only [Option.toList, List.cons_append, List.nil_append]
      exact gRetA X18 hx hlk hret rfl rfl (hb hby d6_31) (by decide) (by decide) (by exact ⟨_, rfl, N19, KK21, P18e⟩)
    · refine gIcmpN X11 hx (hb hby d6_10) (q := 13) rfl (XT.ii_gt_f c12) ?_
      refine gGetS X11 hx hZ hown (hw _ (List.mem_of_getElem? (i := 52) rfl)) Via.refl e11 SC (hb hby d6_13) (q := 16) rfl (fun T22 X22 e22 => ?_)
      refine gIloadN X22 hx (hb hby d6_16) (q := 17) rfl rfl ?_
      refine gSipush X22 hx (128 : Int32) (hb hby d6_17) (q := 20) rfl (by decide) ?_
      refine gIadd X22 hx (hb hby d6_20) (q := 21) rfl ?_
      have hjr : ¬ ((x0 + (128 : Int32)) < 0 ∨ vc.length ≤ (x0 + (128 : Int32)).toNatClampNeg) := own_cacheIdx c1 c12 hlen
      obtain ⟨rr, hrr, ER⟩ := HC (x0 + (128 : Int32)).toNatClampNeg (by rw [← hlen]; exact Nat.lt_of_not_le fun z => hjr (Or.inr z))
      refine gAaload X22 hx hZ e22 AC rfl (hb hby d6_21) (q := 22) rfl hjr hrr ?_
      exact gRetA X22 hx hlk hret rfl rfl (hb hby d6_22) (by decide) (by decide) (by rw [e22]; exact ⟨_, rfl, N0, (Keep.refl _ _), ER⟩)
theorem d1_0 : decode jdk_29_method_69_code 0 = .ok (.iload_n 0, 1) := by decide +kernel
theorem d1_1 : decode jdk_29_method_69_code 1 = .ok (.iload_n 1, 1) := by decide +kernel
theorem d1_2 : decode jdk_29_method_69_code 2 = .ok (.if_icmp .gt 7, 3) := by decide +kernel
theorem d1_5 : decode jdk_29_method_69_code 5 = .ok (.iload_n 0, 1) := by decide +kernel
theorem d1_6 : decode jdk_29_method_69_code 6 = .ok (.goto 4, 3) := by decide +kernel
theorem d1_9 : decode jdk_29_method_69_code 9 = .ok (.iload_n 1, 1) := by decide +kernel
theorem d1_10 : decode jdk_29_method_69_code 10 = .ok (.ireturn, 1) := by decide +kernel
theorem pn2 : plainFor (⟨"java/lang/Math", "min", "(II)I"⟩ : MethodName) = true := by decide +kernel
theorem ef3 (m : MethodId) (x0 : Int32) (x1 : Int32) : entryFrame m #[(.int x0), (.int x1)] 2 = mkF m 0 #[.val (.int x0), .val (.int x1)] [] := by first | (simp [entryFrame, mkF, argsToLocals, Value.category]; done) | rfl
def Q_rmMin (Z : State) (x0 : Int32) (x1 : Int32) (h0 : Heap) (n0 : Nat) (v : Option Value) (h : Heap) (L : List Loc) : Prop := v = some (.int (if x1 < x0 then x1 else x0)) ∧ Fr n0 L ∧ h = h0
set_option maxRecDepth 65536 in
set_option maxHeartbeats 40000000 in
theorem rmMin (l : Launch) (Z : State) (a0 : Array Value) (hw : ∀ d ∈ tables_1, d.before a0 Z = true) (ws : List Jvm.Cond) (x0 : Int32) (x1 : Int32) (h0 : Heap) (n0 : Nat) (Z0 : n0 ≤ h0.size)  :
    Con l Z (⟨"java/lang/Math", "min", "(II)I"⟩ : MethodName) jdk_29_method_69_code 2 (some (.int)) ws ({ frames := 0, cells := 0, slots := 0, locals := 0 } : Room) #[(.int x0), (.int x1)] h0 (({ frames := 0, cells := 0, slots := 0, locals := 0 } : Room).cells) (({ frames := 0, cells := 0, slots := 0, locals := 0 } : Room).slots) (Q_rmMin Z x0 x1 h0 n0) := by
  refine Con.of pn2 ?_
  intro p e s m below meth c s₁ hx hby hml hown hnm hret hlk hZ X0 e0
  have N0 := Fr.nil n0
  refine goE (L := #[.val (.int x0), .val (.int x1)]) (ef3 m x0 x1) ?_
  refine gIloadN X0 hx (hb hby d1_0) (q := 1) rfl rfl ?_
  refine gIloadN X0 hx (hb hby d1_1) (q := 2) rfl rfl ?_
  have J2_3 : ∀ v2 : Int32, v2 = (if x1 < x0 then x1 else x0) → Go p.tables e below (Done s (Q_rmMin Z x0 x1 h0 n0) (({ frames := 0, cells := 0, slots := 0, locals := 0 } : Room).cells) (({ frames := 0, cells := 0, slots := 0, locals := 0 } : Room).slots)) (s₁.setTop (mkF m 10 #[.val (.int x0), .val (.int x1)] [(.int v2)])) := by
    intro v2 hv2
    exact gRetI X0 hx hlk hret (hb hby d1_10) (by decide) (by decide) ⟨by rw [hv2], N0, e0⟩
  by_cases c1 : x1 < x0
  · refine gIcmpY X0 hx (hb hby d1_2) (q := 9) (by decide) (by decide) (XT.ii_gt_t c1) ?_
    refine gIloadN X0 hx (hb hby d1_9) (q := 10) rfl rfl ?_
    exact J2_3 _ (by first | rfl | (simp only [if_pos c1]; done) | (simp only [if_pos c1]; done) | (simp only [if_pos c1, if_true, if_false]; done) | (exfalso; simp at c1; done))
  · refine gIcmpN X0 hx (hb hby d1_2) (q := 5) rfl (XT.ii_gt_f c1) ?_
    refine gIloadN X0 hx (hb hby d1_5) (q := 6) rfl rfl ?_
    refine gGoto X0 hx (hb hby d1_6) (q := 10) (by decide) (by decide) ?_
    exact J2_3 _ (by first | rfl | (simp only [if_neg c1]; done) | (simp only [if_neg c1]; done) | (simp only [if_neg c1, if_true, if_false]; done) | (exfalso; simp at c1; done))
theorem d2_0 : decode jdk_29_method_65_code 0 = .ok (.iload_n 0, 1) := by decide +kernel
theorem d2_1 : decode jdk_29_method_65_code 1 = .ok (.iload_n 1, 1) := by decide +kernel
theorem d2_2 : decode jdk_29_method_65_code 2 = .ok (.if_icmp .lt 7, 3) := by decide +kernel
theorem d2_5 : decode jdk_29_method_65_code 5 = .ok (.iload_n 0, 1) := by decide +kernel
theorem d2_6 : decode jdk_29_method_65_code 6 = .ok (.goto 4, 3) := by decide +kernel
theorem d2_9 : decode jdk_29_method_65_code 9 = .ok (.iload_n 1, 1) := by decide +kernel
theorem d2_10 : decode jdk_29_method_65_code 10 = .ok (.ireturn, 1) := by decide +kernel
theorem pn3 : plainFor (⟨"java/lang/Math", "max", "(II)I"⟩ : MethodName) = true := by decide +kernel
theorem ef4 (m : MethodId) (x0 : Int32) (x1 : Int32) : entryFrame m #[(.int x0), (.int x1)] 2 = mkF m 0 #[.val (.int x0), .val (.int x1)] [] := by first | (simp [entryFrame, mkF, argsToLocals, Value.category]; done) | rfl
def Q_rmMax (Z : State) (x0 : Int32) (x1 : Int32) (h0 : Heap) (n0 : Nat) (v : Option Value) (h : Heap) (L : List Loc) : Prop := v = some (.int (if x0 < x1 then x1 else x0)) ∧ Fr n0 L ∧ h = h0
set_option maxRecDepth 65536 in
set_option maxHeartbeats 40000000 in
theorem rmMax (l : Launch) (Z : State) (a0 : Array Value) (hw : ∀ d ∈ tables_1, d.before a0 Z = true) (ws : List Jvm.Cond) (x0 : Int32) (x1 : Int32) (h0 : Heap) (n0 : Nat) (Z0 : n0 ≤ h0.size)  :
    Con l Z (⟨"java/lang/Math", "max", "(II)I"⟩ : MethodName) jdk_29_method_65_code 2 (some (.int)) ws ({ frames := 0, cells := 0, slots := 0, locals := 0 } : Room) #[(.int x0), (.int x1)] h0 (({ frames := 0, cells := 0, slots := 0, locals := 0 } : Room).cells) (({ frames := 0, cells := 0, slots := 0, locals := 0 } : Room).slots) (Q_rmMax Z x0 x1 h0 n0) := by
  refine Con.of pn3 ?_
  intro p e s m below meth c s₁ hx hby hml hown hnm hret hlk hZ X0 e0
  have N0 := Fr.nil n0
  refine goE (L := #[.val (.int x0), .val (.int x1)]) (ef4 m x0 x1) ?_
  refine gIloadN X0 hx (hb hby d2_0) (q := 1) rfl rfl ?_
  refine gIloadN X0 hx (hb hby d2_1) (q := 2) rfl rfl ?_
  have J2_3 : ∀ v2 : Int32, v2 = (if x0 < x1 then x1 else x0) → Go p.tables e below (Done s (Q_rmMax Z x0 x1 h0 n0) (({ frames := 0, cells := 0, slots := 0, locals := 0 } : Room).cells) (({ frames := 0, cells := 0, slots := 0, locals := 0 } : Room).slots)) (s₁.setTop (mkF m 10 #[.val (.int x0), .val (.int x1)] [(.int v2)])) := by
    intro v2 hv2
    exact gRetI X0 hx hlk hret (hb hby d2_10) (by decide) (by decide) ⟨by rw [hv2], N0, e0⟩
  by_cases c1 : x0 < x1
  · refine gIcmpY X0 hx (hb hby d2_2) (q := 9) (by decide) (by decide) (XT.ii_lt_t c1) ?_
    refine gIloadN X0 hx (hb hby d2_9) (q := 10) rfl rfl ?_
    exact J2_3 _ (by first | rfl | (simp only [if_pos c1]; done) | (simp only [if_pos c1]; done) | (simp only [if_pos c1, if_true, if_false]; done) | (exfalso; simp at c1; done))
  · refine gIcmpN X0 hx (hb hby d2_2) (q := 5) rfl (XT.ii_lt_f c1) ?_
    refine gIloadN X0 hx (hb hby d2_5) (q := 6) rfl rfl ?_
    refine gGoto X0 hx (hb hby d2_6) (q := 10) (by decide) (by decide) ?_
    exact J2_3 _ (by first | rfl | (simp only [if_neg c1]; done) | (simp only [if_neg c1]; done) | (simp only [if_neg c1, if_true, if_false]; done) | (exfalso; simp at c1; done))
theorem d3_0 : decode prog_34_method_1_code 0 = .ok (.aload_n 0, 1) := by decide +kernel
theorem d3_1 : decode prog_34_method_1_code 1 = .ok (.invokespecial 1, 3) := by decide +kernel
theorem d3_4 : decode prog_34_method_1_code 4 = .ok (.iload_n 1, 1) := by decide +kernel
theorem d3_5 : decode prog_34_method_1_code 5 = .ok (.ifCond .lt 8, 3) := by decide +kernel
theorem d3_8 : decode prog_34_method_1_code 8 = .ok (.iload_n 1, 1) := by decide +kernel
theorem d3_9 : decode prog_34_method_1_code 9 = .ok (.iload_n 2, 1) := by decide +kernel
theorem d3_10 : decode prog_34_method_1_code 10 = .ok (.if_icmp .le 18, 3) := by decide +kernel
theorem d3_13 : decode prog_34_method_1_code 13 = .ok (.new 7, 3) := by decide +kernel
theorem d3_16 : decode prog_34_method_1_code 16 = .ok (.dup, 1) := by decide +kernel
theorem d3_17 : decode prog_34_method_1_code 17 = .ok (.iload_n 1, 1) := by decide +kernel
theorem d3_18 : decode prog_34_method_1_code 18 = .ok (.iload_n 2, 1) := by decide +kernel
theorem d3_19 : decode prog_34_method_1_code 19 = .ok (.invokedynamic 9, 5) := by decide +kernel
theorem d3_24 : decode prog_34_method_1_code 24 = .ok (.invokespecial 13, 3) := by decide +kernel
theorem d3_27 : decode prog_34_method_1_code 27 = .ok (.athrow, 1) := by decide +kernel
theorem d3_28 : decode prog_34_method_1_code 28 = .ok (.aload_n 0, 1) := by decide +kernel
theorem d3_29 : decode prog_34_method_1_code 29 = .ok (.iload_n 1, 1) := by decide +kernel
theorem d3_30 : decode prog_34_method_1_code 30 = .ok (.putfield 16, 3) := by decide +kernel
theorem d3_33 : decode prog_34_method_1_code 33 = .ok (.aload_n 0, 1) := by decide +kernel
theorem d3_34 : decode prog_34_method_1_code 34 = .ok (.iload_n 2, 1) := by decide +kernel
theorem d3_35 : decode prog_34_method_1_code 35 = .ok (.putfield 22, 3) := by decide +kernel
theorem d3_38 : decode prog_34_method_1_code 38 = .ok (.return_, 1) := by decide +kernel
theorem pn4 : plainName "com/example/libpalin/libpalin/Span" = true := by first | (simp [plainName, overriddenIn]; done) | decide +kernel
theorem ef5 (m : MethodId) (x0 : Addr) (x1 : Int32) (x2 : Int32) : entryFrame m #[(.ref x0), (.int x1), (.int x2)] 3 = mkF m 0 #[.val (.ref x0), .val (.int x1), .val (.int x2)] [] := by first | (simp [entryFrame, mkF, argsToLocals, Value.category]; done) | rfl
def Q_rmSpan (Z : State) (a : Addr) (x1 : Int32) (x2 : Int32) (h0 : Heap) (n0 : Nat) (v : Option Value) (h : Heap) (L : List Loc) : Prop := v = none ∧ Fr n0 L ∧ Keep h0 h [a] ∧ Exa Z h a "com/example/libpalin/libpalin/Span" ∧ Fld Z h a "com/example/libpalin/libpalin/Span" "start" "I" (.int x1) ∧ Fld Z h a "com/example/libpalin/libpalin/Span" "end" "I" (.int x2)
set_option maxRecDepth 65536 in
set_option maxHeartbeats 40000000 in
theorem rmSpan (l : Launch) (Z : State) (a0 : Array Value) (hw : ∀ d ∈ tables_1, d.before a0 Z = true) (ws : List Jvm.Cond) (a : Addr) (x1 : Int32) (x2 : Int32) (h0 : Heap) (n0 : Nat) (Z0 : n0 ≤ h0.size) (F1 : Fld Z h0 a "com/example/libpalin/libpalin/Span" "start" "I" (.int (0 : Int32))) (F2 : Fld Z h0 a "com/example/libpalin/libpalin/Span" "end" "I" (.int (0 : Int32))) (E1 : Exa Z h0 a "com/example/libpalin/libpalin/Span") (la : n0 ≤ a) (hp1 : ¬ x1 < 0) (hp2 : ¬ x2 < x1) :
    Con l Z (⟨"com/example/libpalin/libpalin/Span", "<init>", "(II)V"⟩ : MethodName) prog_34_method_1_code 3 none ws ({ frames := 1, cells := 0, slots := 0, locals := 12 } : Room) #[(.ref a), (.int x1), (.int x2)] h0 (({ frames := 1, cells := 0, slots := 0, locals := 12 } : Room).cells) (({ frames := 1, cells := 0, slots := 0, locals := 12 } : Room).slots) (Q_rmSpan Z a x1 x2 h0 n0) := by
  refine Con.of (plainFor_of_name pn4) ?_
  intro p e s m below meth c s₁ hx hby hml hown hnm hret hlk hZ X0 e0
  have N0 := Fr.nil n0
  refine goE (L := #[.val (.ref a), .val (.int x1), .val (.int x2)]) (ef5 m a x1 x2) ?_
  refine gAloadN X0 hx (hb hby d3_0) (q := 1) rfl rfl rfl ?_
  refine gInitO X0 hx hZ hown (hw _ (List.mem_of_getElem? (i := 14) rfl)) (hw _ (List.mem_of_getElem? (i := 15) rfl)) (hw _ (List.mem_of_getElem? (i := 16) rfl)) e0 (by rw [hml]; rfl) (hb hby d3_1) (q := 4) rfl (by decide) (W := 0) (Nat.le_of_eq rfl) (by decide) (fun T1 X1 e1 => ?_)
  refine gIloadN X1 hx (hb hby d3_4) (q := 5) rfl rfl ?_
  by_cases c2 : x1 < (0 : Int32)
  · refine gIfY X1 hx (hb hby d3_5) (q := 13) (by decide) (by decide) (XT.i0_lt_t c2) ?_
    exact absurd c2 hp1
  · refine gIfN X1 hx (hb hby d3_5) (q := 8) rfl (XT.i0_lt_f c2) ?_
    refine gIloadN X1 hx (hb hby d3_8) (q := 9) rfl rfl ?_
    refine gIloadN X1 hx (hb hby d3_9) (q := 10) rfl rfl ?_
    by_cases c3 : x2 < x1
    · refine gIcmpN X1 hx (hb hby d3_10) (q := 13) rfl (XT.ii_le_f c3) ?_
      exact absurd c3 hp2
    · refine gIcmpY X1 hx (hb hby d3_10) (q := 28) (by decide) (by decide) (XT.ii_le_t c3) ?_
      refine gAloadN X1 hx (hb hby d3_28) (q := 29) rfl rfl rfl ?_
      refine gIloadN X1 hx (hb hby d3_29) (q := 30) rfl rfl ?_
      refine gPutF X1 hx hZ (host := "") hown (Or.inl (hw _ (List.mem_of_getElem? (i := 17) rfl))) Via.refl e1 F1 E1 (Or.inr ⟨(hw _ (List.mem_of_getElem? (i := 18) rfl)), rfl, hnm⟩) (hw _ (List.mem_of_getElem? (i := 9) rfl)) (ty := .int) (by decide) rfl rfl (hb hby d3_30) (q := 33) rfl (fun T4 h4 X4 e4 W4 => ?_)
      have N5 := Fr.snoc X4 N0 la
      have K6 := (Keep.refl h0 [a]).wr W4 (Or.inl (List.mem_of_getElem? (i := 0) rfl))
      have F7 := Fld.same W4 F1
      have F8 := Fld.other W4 F2 (Or.inr (slot_ne (Or.inr (hw _ (List.mem_of_getElem? (i := 20) rfl))) (Or.inr (hw _ (List.mem_of_getElem? (i := 18) rfl))) (by decide) (t := .int) (by decide) (t' := .int) (by decide)))
      have E9 := Exa.wr W4 E1
      have Z10 : n0 ≤ h4.size := by rw [W4.size]; exact Z0
      refine gAloadN X4 hx (hb hby d3_33) (q := 34) rfl rfl rfl ?_
      refine gIloadN X4 hx (hb hby d3_34) (q := 35) rfl rfl ?_
      refine gPutF X4 hx hZ (host := "") hown (Or.inl (hw _ (List.mem_of_getElem? (i := 19) rfl))) Via.refl e4 F8 E9 (Or.inr ⟨(hw _ (List.mem_of_getElem? (i := 20) rfl)), rfl, hnm⟩) (hw _ (List.mem_of_getElem? (i := 9) rfl)) (ty := .int) (by decide) rfl rfl (hb hby d3_35) (q := 38) rfl (fun T11 h11 X11 e11 W11 => ?_)
      have N12 := Fr.snoc X11 N5 la
      have K13 := K6.wr W11 (Or.inl (List.mem_of_getElem? (i := 0) rfl))
      have F14 := Fld.other W11 F7 (Or.inr (slot_ne (Or.inr (hw _ (List.mem_of_getElem? (i := 18) rfl))) (Or.inr (hw _ (List.mem_of_getElem? (i := 20) rfl))) (by decide) (t := .int) (by decide) (t' := .int) (by decide)))
      have F15 := Fld.same W11 F8
      have E16 := Exa.wr W11 E9
      have Z17 : n0 ≤ h11.size := by rw [W11.size]; exact Z10
      exact gRetV X11 hx hlk hret (hb hby d3_38) (by decide) (by decide) (by rw [e11]; exact ⟨rfl, N12, K13, E16, F14, F15⟩)
theorem d5_0 : decode prog_34_method_5_code 0 = .ok (.aload_n 1, 1) := by decide +kernel
theorem d5_1 : decode prog_34_method_5_code 1 = .ok (.instanceof 17, 3) := by decide +kernel
theorem d5_4 : decode prog_34_method_5_code 4 = .ok (.ifCond .eq 34, 3) := by decide +kernel
theorem d5_7 : decode prog_34_method_5_code 7 = .ok (.aload_n 1, 1) := by decide +kernel
theorem d5_8 : decode prog_34_method_5_code 8 = .ok (.checkcast 17, 3) := by decide +kernel
theorem d5_11 : decode prog_34_method_5_code 11 = .ok (.astore_n 2, 1) := by decide +kernel
theorem d5_12 : decode prog_34_method_5_code 12 = .ok (.aload_n 0, 1) := by decide +kernel
theorem d5_13 : decode prog_34_method_5_code 13 = .ok (.getfield 16, 3) := by decide +kernel
theorem d5_16 : decode prog_34_method_5_code 16 = .ok (.aload_n 2, 1) := by decide +kernel
theorem d5_17 : decode prog_34_method_5_code 17 = .ok (.getfield 16, 3) := by decide +kernel
theorem d5_20 : decode prog_34_method_5_code 20 = .ok (.if_icmp .ne 18, 3) := by decide +kernel
theorem d5_23 : decode prog_34_method_5_code 23 = .ok (.aload_n 0, 1) := by decide +kernel
theorem d5_24 : decode prog_34_method_5_code 24 = .ok (.getfield 22, 3) := by decide +kernel
theorem d5_27 : decode prog_34_method_5_code 27 = .ok (.aload_n 2, 1) := by decide +kernel
theorem d5_28 : decode prog_34_method_5_code 28 = .ok (.getfield 22, 3) := by decide +kernel
theorem d5_31 : decode prog_34_method_5_code 31 = .ok (.if_icmp .ne 7, 3) := by decide +kernel
theorem d5_34 : decode prog_34_method_5_code 34 = .ok (.iconst 1, 1) := by decide +kernel
theorem d5_35 : decode prog_34_method_5_code 35 = .ok (.goto 4, 3) := by decide +kernel
theorem d5_38 : decode prog_34_method_5_code 38 = .ok (.iconst 0, 1) := by decide +kernel
theorem d5_39 : decode prog_34_method_5_code 39 = .ok (.ireturn, 1) := by decide +kernel
theorem ef6 (m : MethodId) (x0 : Addr) (x1 : Addr) : entryFrame m #[(.ref x0), (.ref x1)] 3 = mkF m 0 #[.val (.ref x0), .val (.ref x1), .unset] [] := by first | (simp [entryFrame, mkF, argsToLocals, Value.category]; done) | rfl
def Q_rmEqC (Z : State) (a : Addr) (b : Addr) (x1 : Int32) (x2 : Int32) (y1 : Int32) (y2 : Int32) (h0 : Heap) (n0 : Nat) (v : Option Value) (h : Heap) (L : List Loc) : Prop := v = some (.int (if x1 = y1 then (if x2 = y2 then (1 : Int32) else (0 : Int32)) else (0 : Int32))) ∧ Fr n0 L ∧ h = h0
set_option maxRecDepth 65536 in
set_option maxHeartbeats 40000000 in
theorem rmEqC (l : Launch) (Z : State) (a0 : Array Value) (hw : ∀ d ∈ tables_1, d.before a0 Z = true) (ws : List Jvm.Cond) (a : Addr) (b : Addr) (x1 : Int32) (x2 : Int32) (y1 : Int32) (y2 : Int32) (h0 : Heap) (n0 : Nat) (Z0 : n0 ≤ h0.size) (F1 : Fld Z h0 a "com/example/libpalin/libpalin/Span" "start" "I" (.int x1)) (F2 : Fld Z h0 a "com/example/libpalin/libpalin/Span" "end" "I" (.int x2)) (G1 : Fld Z h0 b "com/example/libpalin/libpalin/Span" "start" "I" (.int y1)) (G2 : Fld Z h0 b "com/example/libpalin/libpalin/Span" "end" "I" (.int y2)) (E2 : Exa Z h0 b "com/example/libpalin/libpalin/Span") :
    Con l Z (⟨"com/example/libpalin/libpalin/Span", "equals", "(Ljava/lang/Object;)Z"⟩ : MethodName) prog_34_method_5_code 3 (some (.boolean)) ws ({ frames := 0, cells := 0, slots := 0, locals := 0 } : Room) #[(.ref a), (.ref b)] h0 (({ frames := 0, cells := 0, slots := 0, locals := 0 } : Room).cells) (({ frames := 0, cells := 0, slots := 0, locals := 0 } : Room).slots) (Q_rmEqC Z a b x1 x2 y1 y2 h0 n0) := by
  refine Con.of (plainFor_of_name pn4) ?_
  intro p e s m below meth c s₁ hx hby hml hown hnm hret hlk hZ X0 e0
  have N0 := Fr.nil n0
  refine goE (L := #[.val (.ref a), .val (.ref b), .unset]) (ef6 m a b) ?_
  refine gAloadN X0 hx (hb hby d5_0) (q := 1) rfl rfl rfl ?_
  refine gInstY X0 hx hZ hown (hw _ (List.mem_of_getElem? (i := 26) rfl)) e0 (Ins.self E2) (hb hby d5_1) (q := 4) rfl (fun T1 X1 e1 => ?_)
  refine gIfN X1 hx (hb hby d5_4) (q := 7) rfl (XT.i0_eq_f (by decide)) ?_
  refine gAloadN X1 hx (hb hby d5_7) (q := 8) rfl rfl rfl ?_
  refine gCastY X1 hx hZ hown (hw _ (List.mem_of_getElem? (i := 26) rfl)) e1 (Ins.self E2) (hb hby d5_8) (q := 11) rfl (fun T2 X2 e2 => ?_)
  refine gAstoreN X2 hx (hb hby d5_11) (q := 12) rfl rfl (L' := #[.val (.ref a), .val (.ref b), .val (.ref b)]) rfl ?_
  refine gAloadN X2 hx (hb hby d5_12) (q := 13) rfl rfl rfl ?_
  refine gGetF X2 hx hZ (host := "") hown (Or.inl (hw _ (List.mem_of_getElem? (i := 17) rfl))) Via.refl e2 F1 (hb hby d5_13) (q := 16) rfl (fun T3 X3 e3 => ?_)
  refine gAloadN X3 hx (hb hby d5_16) (q := 17) rfl rfl rfl ?_
  refine gGetF X3 hx hZ (host := "") hown (Or.inl (hw _ (List.mem_of_getElem? (i := 17) rfl))) Via.refl e3 G1 (hb hby d5_17) (q := 20) rfl (fun T4 X4 e4 => ?_)
  have J20_7 : ∀ (T8 : State) (L8 : List Loc), Stand p l e ({ frames := 0, cells := 0, slots := 0, locals := 0 } : Room) s m #[(.ref a), (.ref b)] below meth c T8 L8 0 0 → T8.heap = h0 → Fr n0 L8 → ∀ v6 : Int32, v6 = (if x1 = y1 then (if x2 = y2 then (1 : Int32) else (0 : Int32)) else (0 : Int32)) → Go p.tables e below (Done s (Q_rmEqC Z a b x1 x2 y1 y2 h0 n0) (({ frames := 0, cells := 0, slots := 0, locals := 0 } : Room).cells) (({ frames := 0, cells := 0, slots := 0, locals := 0 } : Room).slots)) (T8.setTop (mkF m 39 #[.val (.ref a), .val (.ref b), .val (.ref b)] [(.int v6)])) := by
    intro T8 L8 X8 e8 N8 v6 hv6
    exact gRetZ X8 hx hlk hret (hb hby d5_39) (by decide) (by decide) (by rw [hv6]; (repeat' split) <;> first | exact Or.inl rfl | exact Or.inr rfl) ⟨by rw [hv6], N8, e8⟩
  by_cases c5 : x1 = y1
  · refine gIcmpN X4 hx (hb hby d5_20) (q := 23) rfl (XT.ii_ne_f c5) ?_
    refine gAloadN X4 hx (hb hby d5_23) (q := 24) rfl rfl rfl ?_
    refine gGetF X4 hx hZ (host := "") hown (Or.inl (hw _ (List.mem_of_getElem? (i := 19) rfl))) Via.refl e4 F2 (hb hby d5_24) (q := 27) rfl (fun T9 X9 e9 => ?_)
    refine gAloadN X9 hx (hb hby d5_27) (q := 28) rfl rfl rfl ?_
    refine gGetF X9 hx hZ (host := "") hown (Or.inl (hw _ (List.mem_of_getElem? (i := 19) rfl))) Via.refl e9 G2 (hb hby d5_28) (q := 31) rfl (fun T10 X10 e10 => ?_)
    by_cases c11 : x2 = y2
    · refine gIcmpN X10 hx (hb hby d5_31) (q := 34) rfl (XT.ii_ne_f c11) ?_
      refine gIconst X10 hx (1 : Int32) (hb hby d5_34) (q := 35) rfl (by decide) ?_
      refine gGoto X10 hx (hb hby d5_35) (q := 39) (by decide) (by decide) ?_
      exact J20_7 T10 _ X10 e10 N0 _ (by first | rfl | (simp only [if_pos c5, if_pos c11]; done) | (simp only [if_pos c5, if_pos c11]; done) | (simp only [if_pos c5, if_pos c11, if_true, if_false]; done) | (exfalso; simp at c11; done))
    · refine gIcmpY X10 hx (hb hby d5_31) (q := 38) (by decide) (by decide) (XT.ii_ne_t c11) ?_
      refine gIconst X10 hx (0 : Int32) (hb hby d5_38) (q := 39) rfl (by decide) ?_
      exact J20_7 T10 _ X10 e10 N0 _ (by first | rfl | (simp only [if_pos c5, if_neg c11]; done) | (simp only [if_pos c5, if_neg c11]; done) | (simp only [if_pos c5, if_neg c11, if_true, if_false]; done) | (exfalso; simp at c11; done))
  · refine gIcmpY X4 hx (hb hby d5_20) (q := 38) (by decide) (by decide) (XT.ii_ne_t c5) ?_
    refine gIconst X4 hx (0 : Int32) (hb hby d5_38) (q := 39) rfl (by decide) ?_
    exact J20_7 T4 _ X4 e4 N0 _ (by first | rfl | (simp only [if_neg c5]; done) | (simp only [if_neg c5]; done) | (simp only [if_neg c5, if_true, if_false]; done) | (exfalso; simp at c5; done))
theorem ef7 (m : MethodId) (x0 : Addr) : entryFrame m #[(.ref x0), (.null)] 3 = mkF m 0 #[.val (.ref x0), .val (.null), .unset] [] := by first | (simp [entryFrame, mkF, argsToLocals, Value.category]; done) | rfl
def Q_rmEqN (Z : State) (a : Addr) (h0 : Heap) (n0 : Nat) (v : Option Value) (h : Heap) (L : List Loc) : Prop := v = some (.int (0 : Int32)) ∧ Fr n0 L ∧ h = h0
set_option maxRecDepth 65536 in
set_option maxHeartbeats 40000000 in
theorem rmEqN (l : Launch) (Z : State) (a0 : Array Value) (hw : ∀ d ∈ tables_1, d.before a0 Z = true) (ws : List Jvm.Cond) (a : Addr) (h0 : Heap) (n0 : Nat) (Z0 : n0 ≤ h0.size)  :
    Con l Z (⟨"com/example/libpalin/libpalin/Span", "equals", "(Ljava/lang/Object;)Z"⟩ : MethodName) prog_34_method_5_code 3 (some (.boolean)) ws ({ frames := 0, cells := 0, slots := 0, locals := 0 } : Room) #[(.ref a), (.null)] h0 (({ frames := 0, cells := 0, slots := 0, locals := 0 } : Room).cells) (({ frames := 0, cells := 0, slots := 0, locals := 0 } : Room).slots) (Q_rmEqN Z a h0 n0) := by
  refine Con.of (plainFor_of_name pn4) ?_
  intro p e s m below meth c s₁ hx hby hml hown hnm hret hlk hZ X0 e0
  have N0 := Fr.nil n0
  refine goE (L := #[.val (.ref a), .val (.null), .unset]) (ef7 m a) ?_
  refine gAloadN X0 hx (hb hby d5_0) (q := 1) rfl rfl rfl ?_
  refine gInstNull X0 hx (hb hby d5_1) (q := 4) rfl ?_
  refine gIfY X0 hx (hb hby d5_4) (q := 38) (by decide) (by decide) (XT.i0_eq_t (by decide)) ?_
  refine gIconst X0 hx (0 : Int32) (hb hby d5_38) (q := 39) rfl (by decide) ?_
  exact gRetZ X0 hx hlk hret (hb hby d5_39) (by decide) (by decide) (by simp) ⟨rfl, N0, e0⟩
theorem ef8 (m : MethodId) (x0 : Addr) (x1 : Addr) : entryFrame m #[(.ref x0), (.ref x1)] 3 = mkF m 0 #[.val (.ref x0), .val (.ref x1), .unset] [] := by first | (simp [entryFrame, mkF, argsToLocals, Value.category]; done) | rfl
def Q_rmEqI (Z : State) (a : Addr) (b : Addr) (h0 : Heap) (n0 : Nat) (v : Option Value) (h : Heap) (L : List Loc) : Prop := v = some (.int (0 : Int32)) ∧ Fr n0 L ∧ h = h0
set_option maxRecDepth 65536 in
set_option maxHeartbeats 40000000 in
theorem rmEqI (l : Launch) (Z : State) (a0 : Array Value) (hw : ∀ d ∈ tables_1, d.before a0 Z = true) (ws : List Jvm.Cond) (a : Addr) (b : Addr) (h0 : Heap) (n0 : Nat) (Z0 : n0 ≤ h0.size) (E2 : Exa Z h0 b "java/lang/Integer") :
    Con l Z (⟨"com/example/libpalin/libpalin/Span", "equals", "(Ljava/lang/Object;)Z"⟩ : MethodName) prog_34_method_5_code 3 (some (.boolean)) ws ({ frames := 0, cells := 0, slots := 0, locals := 0 } : Room) #[(.ref a), (.ref b)] h0 (({ frames := 0, cells := 0, slots := 0, locals := 0 } : Room).cells) (({ frames := 0, cells := 0, slots := 0, locals := 0 } : Room).slots) (Q_rmEqI Z a b h0 n0) := by
  refine Con.of (plainFor_of_name pn4) ?_
  intro p e s m below meth c s₁ hx hby hml hown hnm hret hlk hZ X0 e0
  have N0 := Fr.nil n0
  refine goE (L := #[.val (.ref a), .val (.ref b), .unset]) (ef8 m a b) ?_
  refine gAloadN X0 hx (hb hby d5_0) (q := 1) rfl rfl rfl ?_
  refine gInstNo X0 hx hZ hown (hw _ (List.mem_of_getElem? (i := 26) rfl)) e0 E2 (own_nsNo (hw _ (List.mem_of_getElem? (i := 49) rfl)) (hw _ (List.mem_of_getElem? (i := 9) rfl)) (NS.step (hw _ (List.mem_of_getElem? (i := 49) rfl)) (NS.step (hw _ (List.mem_of_getElem? (i := 50) rfl)) (own_nsRoot (hw _ (List.mem_of_getElem? (i := 51) rfl)) (hw _ (List.mem_of_getElem? (i := 9) rfl)) (by decide)) (by decide)) (by decide)) (by decide)) (hb hby d5_1) (q := 4) rfl (fun T1 X1 e1 => ?_)
  refine gIfY X1 hx (hb hby d5_4) (q := 38) (by decide) (by decide) (XT.i0_eq_t (by decide)) ?_
  refine gIconst X1 hx (0 : Int32) (hb hby d5_38) (q := 39) rfl (by decide) ?_
  exact gRetZ X1 hx hlk hret (hb hby d5_39) (by decide) (by decide) (by simp) ⟨rfl, N0, e1⟩
theorem own_nn (x : Int32) : 0 ≤ (x &&& (2147483647 : Int32)).toInt := by
  have := c_mask x 2147483647 31 (by decide) (by decide)
  rw [this]; omega
theorem own_mm (a b : Int32) (ha : 0 ≤ a.toInt) (hb : 0 ≤ b.toInt) : ¬ (if b < a then b else a) < 0 ∧ ¬ (if a < b then b else a) < (if b < a then b else a) := by
  have z : (0 : Int32).toInt = 0 := rfl
  constructor <;> (repeat' split) <;> simp only [Int32.lt_iff_toInt_lt] at * <;> omega
theorem own_m2 (a b : Int32) (ha : 0 ≤ a.toInt) : ¬ a < 0 ∧ ¬ (if a < b then b else a) < a := by
  have z : (0 : Int32).toInt = 0 := rfl
  constructor <;> (repeat' split) <;> simp only [Int32.lt_iff_toInt_lt] at * <;> omega
theorem own_m3 (a b : Int32) (ha : 0 ≤ a.toInt) (hb : 0 ≤ b.toInt) : ¬ (if b < a then b else a) < 0 ∧ ¬ a < (if b < a then b else a) := by
  have z : (0 : Int32).toInt = 0 := rfl
  constructor <;> (repeat' split) <;> simp only [Int32.lt_iff_toInt_lt] at * <;> omega

theorem pn5 : plainName "com/example/libpalin/libpalin/SpanEqualsPinLaw" = true := by first | (simp [plainName, overriddenIn]; done) | decide +kernel
theorem ef9 (m : MethodId) (x0 : Int32) (x1 : Int32) (x2 : Int32) (x3 : Int32) (x4 : Int32) : entryFrame m #[(.int x0), (.int x1), (.int x2), (.int x3), (.int x4)] maxLocals = mkF m 0 #[.val (.int x0), .val (.int x1), .val (.int x2), .val (.int x3), .val (.int x4), .unset, .unset, .unset, .unset, .unset, .unset, .unset, .unset, .unset, .unset, .unset, .unset, .unset, .unset, .unset, .unset, .unset, .unset] [] := by first | (simp [entryFrame, mkF, argsToLocals, Value.category, maxLocals]; done) | rfl
def Q_rm0 (Z : State) (x0 : Int32) (x1 : Int32) (x2 : Int32) (x3 : Int32) (x4 : Int32) (rc : Addr) (kc : ClassId) (vc : List Value) (h0 : Heap) (n0 : Nat) (v : Option Value) (h : Heap) (L : List Loc) : Prop := v = some (.int 1) ∧ Fr n0 L
theorem pd2 : parseMethodDescriptor "(II)I" = some ⟨[.int, .int], some (.int)⟩ := by decide +kernel
set_option maxRecDepth 65536 in
set_option maxHeartbeats 40000000 in
theorem own_sp1 (x0 : Int32) (x1 : Int32) (x2 : Int32) (x3 : Int32) (x4 : Int32) (u1 : Int32) (hu1 : (x0 &&& (2147483647 : Int32)) = u1) (u2 : Int32) (hu2 : (x1 &&& (2147483647 : Int32)) = u2) (u5 : Int32) (hu5 : (if u2 < u1 then u2 else u1) = u5) (u8 : Int32) (hu8 : (if u1 < u2 then u2 else u1) = u8) (u9 : Int32) (hu9 : (x2 &&& (2147483647 : Int32)) = u9) (u10 : Int32) (hu10 : (x3 &&& (2147483647 : Int32)) = u10) (u11 : Int32) (hu11 : (x4 &&& (3 : Int32)) = u11) (v13 : Int32) (hv13 : v13 = (if u11 = (0 : Int32) then u5 else (if u11 = (1 : Int32) then (if u10 < u9 then u10 else u9) else (if u11 = (2 : Int32) then u5 else (if u9 < u8 then u9 else u8))))) (v14 : Int32) (hv14 : v14 = (if u11 = (0 : Int32) then u8 else (if u11 = (1 : Int32) then (if u9 < u10 then u10 else u9) else (if u11 = (2 : Int32) then (if u5 < u10 then u10 else u5) else u8))))  : ¬ u5 < 0 ∧ ¬ u8 < u5 := by
  subst_vars
  exact own_mm _ _ (own_nn _) (own_nn _)
theorem pd3 : parseMethodDescriptor "(II)V" = some ⟨[.int, .int], none⟩ := by decide +kernel
set_option maxRecDepth 65536 in
set_option maxHeartbeats 40000000 in
theorem own_sp2 (x0 : Int32) (x1 : Int32) (x2 : Int32) (x3 : Int32) (x4 : Int32) (u1 : Int32) (hu1 : (x0 &&& (2147483647 : Int32)) = u1) (u2 : Int32) (hu2 : (x1 &&& (2147483647 : Int32)) = u2) (u5 : Int32) (hu5 : (if u2 < u1 then u2 else u1) = u5) (u8 : Int32) (hu8 : (if u1 < u2 then u2 else u1) = u8) (u9 : Int32) (hu9 : (x2 &&& (2147483647 : Int32)) = u9) (u10 : Int32) (hu10 : (x3 &&& (2147483647 : Int32)) = u10) (u11 : Int32) (hu11 : (x4 &&& (3 : Int32)) = u11) (v13 : Int32) (hv13 : v13 = (if u11 = (0 : Int32) then u5 else (if u11 = (1 : Int32) then (if u10 < u9 then u10 else u9) else (if u11 = (2 : Int32) then u5 else (if u9 < u8 then u9 else u8))))) (v14 : Int32) (hv14 : v14 = (if u11 = (0 : Int32) then u8 else (if u11 = (1 : Int32) then (if u9 < u10 then u10 else u9) else (if u11 = (2 : Int32) then (if u5 < u10 then u10 else u5) else u8))))  : ¬ v13 < 0 ∧ ¬ v14 < v13 := by
  have k1 := own_mm _ _ (own_nn x0) (own_nn x1)
  have k2 := own_mm _ _ (own_nn x2) (own_nn x3)
  have n2 := own_nn x2
  subst_vars
  have z0 : 0 ≤ (if (x1 &&& 2147483647) < (x0 &&& 2147483647) then (x1 &&& 2147483647) else (x0 &&& 2147483647)).toInt := by split <;> exact own_nn _
  have z1 : 0 ≤ (if (x0 &&& 2147483647) < (x1 &&& 2147483647) then (x1 &&& 2147483647) else (x0 &&& 2147483647)).toInt := by split <;> exact own_nn _
  by_cases m0 : (x4 &&& 3) = 0
  · simp only [if_pos m0]; exact k1
  · by_cases m1 : (x4 &&& 3) = 1
    · simp only [if_neg m0, if_pos m1]; exact k2
    · by_cases m2 : (x4 &&& 3) = 2
      · simp only [if_neg m0, if_neg m1, if_pos m2]; exact own_m2 _ _ z0
      · simp only [if_neg m0, if_neg m1, if_neg m2]; exact own_m3 _ _ z1 n2
theorem pd4 : parseMethodDescriptor "(Ljava/lang/Object;)Z" = some ⟨[.object "java/lang/Object"], some (.boolean)⟩ := by decide +kernel
set_option maxRecDepth 65536 in
set_option maxHeartbeats 40000000 in
theorem own_law (x0 : Int32) (x1 : Int32) (x2 : Int32) (x3 : Int32) (x4 : Int32) (u1 : Int32) (hu1 : (x0 &&& (2147483647 : Int32)) = u1) (u2 : Int32) (hu2 : (x1 &&& (2147483647 : Int32)) = u2) (u5 : Int32) (hu5 : (if u2 < u1 then u2 else u1) = u5) (u8 : Int32) (hu8 : (if u1 < u2 then u2 else u1) = u8) (u9 : Int32) (hu9 : (x2 &&& (2147483647 : Int32)) = u9) (u10 : Int32) (hu10 : (x3 &&& (2147483647 : Int32)) = u10) (u11 : Int32) (hu11 : (x4 &&& (3 : Int32)) = u11) (v13 : Int32) (hv13 : v13 = (if u11 = (0 : Int32) then u5 else (if u11 = (1 : Int32) then (if u10 < u9 then u10 else u9) else (if u11 = (2 : Int32) then u5 else (if u9 < u8 then u9 else u8))))) (v14 : Int32) (hv14 : v14 = (if u11 = (0 : Int32) then u8 else (if u11 = (1 : Int32) then (if u9 < u10 then u10 else u9) else (if u11 = (2 : Int32) then (if u5 < u10 then u10 else u5) else u8)))) (u41 : Int32) (hu41 : ((XT.ushr x4 (2 : Int32)) &&& (3 : Int32)) = u41) (r47 : Int32) (hr47 : (if u5 = u5 then (if u8 = u8 then (1 : Int32) else (0 : Int32)) else (0 : Int32)) = r47) (v49 : Int32) (hv49 : v49 = (if r47 = (0 : Int32) then (0 : Int32) else (1 : Int32))) (c42 : u41 = (1 : Int32)) : v49 = 1 := by
  clear hu1 hu2 hu5 hu8 hu9 hu10 hu11 hv13 hv14 hu41
  by_cases e1 : v13 = u5
  · subst e1
    by_cases e2 : v14 = u8
    · subst e2; simp_all
    · have e3 : ¬ u8 = v14 := fun z => e2 z.symm
      simp_all
  · have e3 : ¬ u5 = v13 := fun z => e1 z.symm
    simp_all
theorem pd5 : parseMethodDescriptor "(I)Ljava/lang/Integer;" = some ⟨[.int], some (.object "java/lang/Integer")⟩ := by decide +kernel
set_option maxRecDepth 65536 in
set_option maxHeartbeats 40000000 in
theorem own_law2 (x0 : Int32) (x1 : Int32) (x2 : Int32) (x3 : Int32) (x4 : Int32) (u1 : Int32) (hu1 : (x0 &&& (2147483647 : Int32)) = u1) (u2 : Int32) (hu2 : (x1 &&& (2147483647 : Int32)) = u2) (u5 : Int32) (hu5 : (if u2 < u1 then u2 else u1) = u5) (u8 : Int32) (hu8 : (if u1 < u2 then u2 else u1) = u8) (u9 : Int32) (hu9 : (x2 &&& (2147483647 : Int32)) = u9) (u10 : Int32) (hu10 : (x3 &&& (2147483647 : Int32)) = u10) (u11 : Int32) (hu11 : (x4 &&& (3 : Int32)) = u11) (v13 : Int32) (hv13 : v13 = (if u11 = (0 : Int32) then u5 else (if u11 = (1 : Int32) then (if u10 < u9 then u10 else u9) else (if u11 = (2 : Int32) then u5 else (if u9 < u8 then u9 else u8))))) (v14 : Int32) (hv14 : v14 = (if u11 = (0 : Int32) then u8 else (if u11 = (1 : Int32) then (if u9 < u10 then u10 else u9) else (if u11 = (2 : Int32) then (if u5 < u10 then u10 else u5) else u8)))) (u41 : Int32) (hu41 : ((XT.ushr x4 (2 : Int32)) &&& (3 : Int32)) = u41) (r67 : Int32) (hr67 : (if u5 = u5 then (if u8 = u8 then (1 : Int32) else (0 : Int32)) else (0 : Int32)) = r67) (v69 : Int32) (hv69 : v69 = (if r67 = (0 : Int32) then (0 : Int32) else (1 : Int32))) (c42 : ¬ (u41 = (1 : Int32))) (c51 : u41 = (2 : Int32)) : v69 = 1 := by
  clear hu1 hu2 hu5 hu8 hu9 hu10 hu11 hv13 hv14 hu41
  by_cases e1 : v13 = u5
  · subst e1
    by_cases e2 : v14 = u8
    · subst e2; simp_all
    · have e3 : ¬ u8 = v14 := fun z => e2 z.symm
      simp_all
  · have e3 : ¬ u5 = v13 := fun z => e1 z.symm
    simp_all
set_option maxRecDepth 65536 in
set_option maxHeartbeats 40000000 in
theorem own_law3 (x0 : Int32) (x1 : Int32) (x2 : Int32) (x3 : Int32) (x4 : Int32) (u1 : Int32) (hu1 : (x0 &&& (2147483647 : Int32)) = u1) (u2 : Int32) (hu2 : (x1 &&& (2147483647 : Int32)) = u2) (u5 : Int32) (hu5 : (if u2 < u1 then u2 else u1) = u5) (u8 : Int32) (hu8 : (if u1 < u2 then u2 else u1) = u8) (u9 : Int32) (hu9 : (x2 &&& (2147483647 : Int32)) = u9) (u10 : Int32) (hu10 : (x3 &&& (2147483647 : Int32)) = u10) (u11 : Int32) (hu11 : (x4 &&& (3 : Int32)) = u11) (v13 : Int32) (hv13 : v13 = (if u11 = (0 : Int32) then u5 else (if u11 = (1 : Int32) then (if u10 < u9 then u10 else u9) else (if u11 = (2 : Int32) then u5 else (if u9 < u8 then u9 else u8))))) (v14 : Int32) (hv14 : v14 = (if u11 = (0 : Int32) then u8 else (if u11 = (1 : Int32) then (if u9 < u10 then u10 else u9) else (if u11 = (2 : Int32) then (if u5 < u10 then u10 else u5) else u8)))) (u41 : Int32) (hu41 : ((XT.ushr x4 (2 : Int32)) &&& (3 : Int32)) = u41) (v72 : Int32) (hv72 : v72 = (if u5 = v13 then (if u8 = v14 then (1 : Int32) else (0 : Int32)) else (0 : Int32))) (f76 : Int32) (hf76 : (if u5 = v13 then (if u8 = v14 then (1 : Int32) else (0 : Int32)) else (0 : Int32)) = f76) (v78 : Int32) (hv78 : v78 = (if f76 = v72 then (1 : Int32) else (0 : Int32))) (r82 : Int32) (hr82 : (if u5 = u5 then (if u8 = u8 then (1 : Int32) else (0 : Int32)) else (0 : Int32)) = r82) (s85 : Int32) (hs85 : (if v13 = u5 then (if v14 = u8 then (1 : Int32) else (0 : Int32)) else (0 : Int32)) = s85) (v87 : Int32) (hv87 : v87 = (if s85 = v72 then (1 : Int32) else (0 : Int32))) (v90 : Int32) (hv90 : v90 = (if v78 = (0 : Int32) then (0 : Int32) else (if r82 = (0 : Int32) then (0 : Int32) else (if v87 = (0 : Int32) then (0 : Int32) else (1 : Int32))))) (c42 : ¬ (u41 = (1 : Int32))) (c51 : ¬ (u41 = (2 : Int32))) : v90 = 1 := by
  clear hu1 hu2 hu5 hu8 hu9 hu10 hu11 hv13 hv14 hu41
  by_cases e1 : v13 = u5
  · subst e1
    by_cases e2 : v14 = u8
    · subst e2; simp_all
    · have e3 : ¬ u8 = v14 := fun z => e2 z.symm
      simp_all
  · have e3 : ¬ u5 = v13 := fun z => e1 z.symm
    simp_all
set_option maxRecDepth 65536 in
set_option maxHeartbeats 40000000 in
theorem rm0 (l : Launch) (Z : State) (a0 : Array Value) (hw : ∀ d ∈ tables_1, d.before a0 Z = true) (ws : List Jvm.Cond) (x0 : Int32) (x1 : Int32) (x2 : Int32) (x3 : Int32) (x4 : Int32) (rc : Addr) (kc : ClassId) (vc : List Value) (h0 : Heap) (n0 : Nat) (Z0 : n0 ≤ h0.size) (O0 : Old Z n0 h0) (SH : Sta Z Z.heap "java/lang/Integer$IntegerCache" "high" "I" (.int 127)) (SC : Sta Z Z.heap "java/lang/Integer$IntegerCache" "cache" "[Ljava/lang/Integer;" (.ref rc)) (AC : Ary Z Z.heap rc kc (.object "java/lang/Integer") vc) (hlen : vc.length = 256) (HC : ∀ j : Nat, j < 256 → ∃ r, vc[j]? = some (.ref r) ∧ Exa Z Z.heap r "java/lang/Integer") :
    Con l Z x code maxLocals ret ws room_1 #[(.int x0), (.int x1), (.int x2), (.int x3), (.int x4)] h0 (room_1.cells) (room_1.slots) (Q_rm0 Z x0 x1 x2 x3 x4 rc kc vc h0 n0) := by
  refine Con.of (plainFor_of_name pn5) ?_
  intro p e s m below meth c s₁ hx hby hml hown hnm hret hlk hZ X0 e0
  have N0 := Fr.nil n0
  refine goE (L := #[.val (.int x0), .val (.int x1), .val (.int x2), .val (.int x3), .val (.int x4), .unset, .unset, .unset, .unset, .unset, .unset, .unset, .unset, .unset, .unset, .unset, .unset, .unset, .unset, .unset, .unset, .unset, .unset]) (ef9 m x0 x1 x2 x3 x4) ?_
  refine gIloadN X0 hx (hb hby at_0) (q := 1) rfl rfl ?_
  refine gLdc X0 hx hZ hown (hw _ (List.mem_of_getElem? (i := 0) rfl)) (hb hby at_1) (q := 3) rfl ?_
  refine gIand X0 hx (hb hby at_3) (q := 4) rfl ?_
  generalize hu1 : (x0 &&& (2147483647 : Int32)) = u1
  refine gIstore X0 hx (hb hby at_4) (q := 6) rfl (L' := #[.val (.int x0), .val (.int x1), .val (.int x2), .val (.int x3), .val (.int x4), .val (.int u1), .unset, .unset, .unset, .unset, .unset, .unset, .unset, .unset, .unset, .unset, .unset, .unset, .unset, .unset, .unset, .unset, .unset]) rfl ?_
  refine gIloadN X0 hx (hb hby at_6) (q := 7) rfl rfl ?_
  refine gLdc X0 hx hZ hown (hw _ (List.mem_of_getElem? (i := 0) rfl)) (hb hby at_7) (q := 9) rfl ?_
  refine gIand X0 hx (hb hby at_9) (q := 10) rfl ?_
  generalize hu2 : (x1 &&& (2147483647 : Int32)) = u2
  refine gIstore X0 hx (hb hby at_10) (q := 12) rfl (L' := #[.val (.int x0), .val (.int x1), .val (.int x2), .val (.int x3), .val (.int x4), .val (.int u1), .val (.int u2), .unset, .unset, .unset, .unset, .unset, .unset, .unset, .unset, .unset, .unset, .unset, .unset, .unset, .unset, .unset, .unset]) rfl ?_
  refine gIload X0 hx (hb hby at_12) (q := 14) rfl rfl ?_
  refine gIload X0 hx (hb hby at_14) (q := 16) rfl rfl ?_
  refine gCallS X0 hx hZ hown (hw _ (List.mem_of_getElem? (i := 1) rfl)) (hw _ (List.mem_of_getElem? (i := 2) rfl)) (hw _ (List.mem_of_getElem? (i := 3) rfl)) (hw _ (List.mem_of_getElem? (i := 4) rfl)) (by decide) (rmMin l Z a0 hw [] u1 u2 h0 n0 Z0) (W := 0) (by decide) (by decide) e0 (by rw [hml]; rfl) [(.int u1), (.int u2)] (lenOf pd2 rfl) rfl (S := []) rfl (Nat.le_of_eq rfl) (hb hby at_16) (q := 19) rfl (by decide) (by decide) (fun r3 T3 M3 X3 q3 => ?_)
  obtain ⟨rfl, M3n, e3⟩ := q3
  have N4 := Fr.app N0 M3n
  dsimp only [Option.toList, List.cons_append, List.nil_append]
  generalize hu5 : (if u2 < u1 then u2 else u1) = u5
  refine gIstore X3 hx (hb hby at_19) (q := 21) rfl (L' := #[.val (.int x0), .val (.int x1), .val (.int x2), .val (.int x3), .val (.int x4), .val (.int u1), .val (.int u2), .val (.int u5), .unset, .unset, .unset, .unset, .unset, .unset, .unset, .unset, .unset, .unset, .unset, .unset, .unset, .unset, .unset]) rfl ?_
  refine gIload X3 hx (hb hby at_21) (q := 23) rfl rfl ?_
  refine gIload X3 hx (hb hby at_23) (q := 25) rfl rfl ?_
  refine gCallS X3 hx hZ hown (hw _ (List.mem_of_getElem? (i := 5) rfl)) (hw _ (List.mem_of_getElem? (i := 6) rfl)) (hw _ (List.mem_of_getElem? (i := 3) rfl)) (hw _ (List.mem_of_getElem? (i := 7) rfl)) (by decide) (rmMax l Z a0 hw [] u1 u2 h0 n0 Z0) (W := 0) (by decide) (by decide) e3 (by rw [hml]; rfl) [(.int u1), (.int u2)] (lenOf pd2 rfl) rfl (S := []) rfl (Nat.le_of_eq rfl) (hb hby at_25) (q := 28) rfl (by decide) (by decide) (fun r6 T6 M6 X6 q6 => ?_)
  obtain ⟨rfl, M6n, e6⟩ := q6
  have N7 := Fr.app N4 M6n
  dsimp only [Option.toList, List.cons_append, List.nil_append]
  generalize hu8 : (if u1 < u2 then u2 else u1) = u8
  refine gIstore X6 hx (hb hby at_28) (q := 30) rfl (L' := #[.val (.int x0), .val (.int x1), .val (.int x2), .val (.int x3), .val (.int x4), .val (.int u1), .val (.int u2), .val (.int u5), .val (.int u8), .unset, .unset, .unset, .unset, .unset, .unset, .unset, .unset, .unset, .unset, .unset, .unset, .unset, .unset]) rfl ?_
  refine gIloadN X6 hx (hb hby at_30) (q := 31) rfl rfl ?_
  refine gLdc X6 hx hZ hown (hw _ (List.mem_of_getElem? (i := 0) rfl)) (hb hby at_31) (q := 33) rfl ?_
  refine gIand X6 hx (hb hby at_33) (q := 34) rfl ?_
  generalize hu9 : (x2 &&& (2147483647 : Int32)) = u9
  refine gIstore X6 hx (hb hby at_34) (q := 36) rfl (L' := #[.val (.int x0), .val (.int x1), .val (.int x2), .val (.int x3), .val (.int x4), .val (.int u1), .val (.int u2), .val (.int u5), .val (.int u8), .val (.int u9), .unset, .unset, .unset, .unset, .unset, .unset, .unset, .unset, .unset, .unset, .unset, .unset, .unset]) rfl ?_
  refine gIloadN X6 hx (hb hby at_36) (q := 37) rfl rfl ?_
  refine gLdc X6 hx hZ hown (hw _ (List.mem_of_getElem? (i := 0) rfl)) (hb hby at_37) (q := 39) rfl ?_
  refine gIand X6 hx (hb hby at_39) (q := 40) rfl ?_
  generalize hu10 : (x3 &&& (2147483647 : Int32)) = u10
  refine gIstore X6 hx (hb hby at_40) (q := 42) rfl (L' := #[.val (.int x0), .val (.int x1), .val (.int x2), .val (.int x3), .val (.int x4), .val (.int u1), .val (.int u2), .val (.int u5), .val (.int u8), .val (.int u9), .val (.int u10), .unset, .unset, .unset, .unset, .unset, .unset, .unset, .unset, .unset, .unset, .unset, .unset]) rfl ?_
  refine gIload X6 hx (hb hby at_42) (q := 44) rfl rfl ?_
  refine gIconst X6 hx (3 : Int32) (hb hby at_44) (q := 45) rfl (by decide) ?_
  refine gIand X6 hx (hb hby at_45) (q := 46) rfl ?_
  generalize hu11 : (x4 &&& (3 : Int32)) = u11
  refine gIstore X6 hx (hb hby at_46) (q := 48) rfl (L' := #[.val (.int x0), .val (.int x1), .val (.int x2), .val (.int x3), .val (.int x4), .val (.int u1), .val (.int u2), .val (.int u5), .val (.int u8), .val (.int u9), .val (.int u10), .val (.int u11), .unset, .unset, .unset, .unset, .unset, .unset, .unset, .unset, .unset, .unset, .unset]) rfl ?_
  refine gIload X6 hx (hb hby at_48) (q := 50) rfl rfl ?_
  have J50_15 : ∀ (T16 : State) (L16 : List Loc), Stand p l e room_1 s m #[(.int x0), (.int x1), (.int x2), (.int x3), (.int x4)] below meth c T16 L16 0 0 → T16.heap = h0 → Fr n0 L16 → ∀ v13 : Int32, v13 = (if u11 = (0 : Int32) then u5 else (if u11 = (1 : Int32) then (if u10 < u9 then u10 else u9) else (if u11 = (2 : Int32) then u5 else (if u9 < u8 then u9 else u8)))) → ∀ v14 : Int32, v14 = (if u11 = (0 : Int32) then u8 else (if u11 = (1 : Int32) then (if u9 < u10 then u10 else u9) else (if u11 = (2 : Int32) then (if u5 < u10 then u10 else u5) else u8))) → Go p.tables e below (Done s (Q_rm0 Z x0 x1 x2 x3 x4 rc kc vc h0 n0) (room_1.cells) (room_1.slots)) (T16.setTop (mkF m 126 #[.val (.int x0), .val (.int x1), .val (.int x2), .val (.int x3), .val (.int x4), .val (.int u1), .val (.int u2), .val (.int u5), .val (.int u8), .val (.int u9), .val (.int u10), .val (.int u11), .val (.int v13), .val (.int v14), .unset, .unset, .unset, .unset, .unset, .unset, .unset, .unset, .unset] [])) := by
    intro T16 L16 X16 e16 N16 v13 hv13 v14 hv14
    refine gNewO X16 hx hZ hown (hw _ (List.mem_of_getElem? (i := 8) rfl)) (hw _ (List.mem_of_getElem? (i := 9) rfl)) (hw _ (List.mem_of_getElem? (i := 10) rfl)) e16 (hb hby at_126) (q := 129) rfl (by decide) (by decide) (fun T17 h17 a17 X17 e17 g17 E17 A17 D17 => ?_)
    have O18 := O0.ext E17
    have le_a17 : n0 ≤ a17 := by rw [g17]; exact Z0
    have Z19 := Nat.le_trans Z0 E17.1
    have F20 : Fld Z h17 a17 "com/example/libpalin/libpalin/Span" "start" "I" (.int (0 : Int32)) := D17 (Or.inr (hw _ (List.mem_of_getElem? (i := 18) rfl))) (ty := .int) (by decide)
    have F21 : Fld Z h17 a17 "com/example/libpalin/libpalin/Span" "end" "I" (.int (0 : Int32)) := D17 (Or.inr (hw _ (List.mem_of_getElem? (i := 20) rfl))) (ty := .int) (by decide)
    clear D17
    refine gDup X17 hx (hb hby at_129) (q := 130) rfl rfl ?_
    refine gIload X17 hx (hb hby at_130) (q := 132) rfl rfl ?_
    refine gIload X17 hx (hb hby at_132) (q := 134) rfl rfl ?_
    obtain ⟨hpa134, hpb134⟩ := own_sp1 x0 x1 x2 x3 x4 u1 hu1 u2 hu2 u5 hu5 u8 hu8 u9 hu9 u10 hu10 u11 hu11 v13 hv13 v14 hv14 
    refine gCallN X17 hx hZ rfl hown (hw _ (List.mem_of_getElem? (i := 11) rfl)) (hw _ (List.mem_of_getElem? (i := 12) rfl)) (hw _ (List.mem_of_getElem? (i := 10) rfl)) (hw _ (List.mem_of_getElem? (i := 13) rfl)) (by decide) (rmSpan l Z a0 hw [] a17 u5 u8 h17 n0 Z19 F20 F21 A17 le_a17 hpa134 hpb134) (W := 1) (by decide) (by decide) e17 (by rw [hml]; rfl) [(.int u5), (.int u8)] (lenOf pd3 rfl) rfl (S := [(.ref a17)]) rfl (Nat.le_of_eq rfl) (hb hby at_134) (q := 137) rfl (by decide) (by decide) (fun r22 T22 M22 X22 q22 => ?_)
    obtain ⟨rfl, M22n, K22, P22e, P22m, P22n⟩ := q22
    have N23 := Fr.app N16 M22n
    have O24 := O18.keep K22 (allS le_a17 all0)
    have Z25 := Nat.le_trans Z19 K22.1
    dsimp only [Option.toList, List.cons_append, List.nil_append]
    refine gAstore X22 hx (hb hby at_137) (q := 139) rfl rfl (L' := #[.val (.int x0), .val (.int x1), .val (.int x2), .val (.int x3), .val (.int x4), .val (.int u1), .val (.int u2), .val (.int u5), .val (.int u8), .val (.int u9), .val (.int u10), .val (.int u11), .val (.int v13), .val (.int v14), .val (.ref a17), .unset, .unset, .unset, .unset, .unset, .unset, .unset, .unset]) rfl ?_
    refine gNewO X22 hx hZ hown (hw _ (List.mem_of_getElem? (i := 8) rfl)) (hw _ (List.mem_of_getElem? (i := 9) rfl)) (hw _ (List.mem_of_getElem? (i := 10) rfl)) rfl (hb hby at_139) (q := 142) rfl (by decide) (by decide) (fun T26 h26 a26 X26 e26 g26 E26 A26 D26 => ?_)
    have E27 := Exa.ext E26 P22e
    have F28 := Fld.ext E26 P22m
    have F29 := Fld.ext E26 P22n
    have O30 := O24.ext E26
    have le_a26 : n0 ≤ a26 := by rw [g26]; exact Z25
    have ne_a17_a26 : a17 ≠ a26 := by rw [g26]; exact Nat.ne_of_lt P22e.lt
    have Z31 := Nat.le_trans Z25 E26.1
    have F32 : Fld Z h26 a26 "com/example/libpalin/libpalin/Span" "start" "I" (.int (0 : Int32)) := D26 (Or.inr (hw _ (List.mem_of_getElem? (i := 18) rfl))) (ty := .int) (by decide)
    have F33 : Fld Z h26 a26 "com/example/libpalin/libpalin/Span" "end" "I" (.int (0 : Int32)) := D26 (Or.inr (hw _ (List.mem_of_getElem? (i := 20) rfl))) (ty := .int) (by decide)
    clear D26
    refine gDup X26 hx (hb hby at_142) (q := 143) rfl rfl ?_
    refine gIload X26 hx (hb hby at_143) (q := 145) rfl rfl ?_
    refine gIload X26 hx (hb hby at_145) (q := 147) rfl rfl ?_
    obtain ⟨hpa147, hpb147⟩ := own_sp2 x0 x1 x2 x3 x4 u1 hu1 u2 hu2 u5 hu5 u8 hu8 u9 hu9 u10 hu10 u11 hu11 v13 hv13 v14 hv14 
    refine gCallN X26 hx hZ rfl hown (hw _ (List.mem_of_getElem? (i := 11) rfl)) (hw _ (List.mem_of_getElem? (i := 12) rfl)) (hw _ (List.mem_of_getElem? (i := 10) rfl)) (hw _ (List.mem_of_getElem? (i := 13) rfl)) (by decide) (rmSpan l Z a0 hw [] a26 v13 v14 h26 n0 Z31 F32 F33 A26 le_a26 hpa147 hpb147) (W := 1) (by decide) (by decide) e26 (by rw [hml]; rfl) [(.int v13), (.int v14)] (lenOf pd3 rfl) rfl (S := [(.ref a26)]) rfl (Nat.le_of_eq rfl) (hb hby at_147) (q := 150) rfl (by decide) (by decide) (fun r34 T34 M34 X34 q34 => ?_)
    obtain ⟨rfl, M34n, K34, P34e, P34m, P34n⟩ := q34
    have N35 := Fr.app N23 M34n
    have E36 := Exa.keep E27 K34
    have F37 := Fld.keep F28 K34 (ninS ne_a17_a26 nin0)
    have F38 := Fld.keep F29 K34 (ninS ne_a17_a26 nin0)
    have O39 := O30.keep K34 (allS le_a26 all0)
    have Z40 := Nat.le_trans Z31 K34.1
    dsimp only [Option.toList, List.cons_append, List.nil_append]
    refine gAstore X34 hx (hb hby at_150) (q := 152) rfl rfl (L' := #[.val (.int x0), .val (.int x1), .val (.int x2), .val (.int x3), .val (.int x4), .val (.int u1), .val (.int u2), .val (.int u5), .val (.int u8), .val (.int u9), .val (.int u10), .val (.int u11), .val (.int v13), .val (.int v14), .val (.ref a17), .val (.ref a26), .unset, .unset, .unset, .unset, .unset, .unset, .unset]) rfl ?_
    refine gIload X34 hx (hb hby at_152) (q := 154) rfl rfl ?_
    refine gIconst X34 hx (2 : Int32) (hb hby at_154) (q := 155) rfl (by decide) ?_
    refine gIushr X34 hx (hb hby at_155) (q := 156) rfl ?_
    refine gIconst X34 hx (3 : Int32) (hb hby at_156) (q := 157) rfl (by decide) ?_
    refine gIand X34 hx (hb hby at_157) (q := 158) rfl ?_
    generalize hu41 : ((XT.ushr x4 (2 : Int32)) &&& (3 : Int32)) = u41
    refine gIstore X34 hx (hb hby at_158) (q := 160) rfl (L' := #[.val (.int x0), .val (.int x1), .val (.int x2), .val (.int x3), .val (.int x4), .val (.int u1), .val (.int u2), .val (.int u5), .val (.int u8), .val (.int u9), .val (.int u10), .val (.int u11), .val (.int v13), .val (.int v14), .val (.ref a17), .val (.ref a26), .val (.int u41), .unset, .unset, .unset, .unset, .unset, .unset]) rfl ?_
    refine gIload X34 hx (hb hby at_160) (q := 162) rfl rfl ?_
    refine gIconst X34 hx (1 : Int32) (hb hby at_162) (q := 163) rfl (by decide) ?_
    by_cases c42 : u41 = (1 : Int32)
    · refine gIcmpN X34 hx (hb hby at_163) (q := 166) rfl (XT.ii_ne_f c42) ?_
      refine gNull X34 hx (hb hby at_166) (q := 167) rfl ?_
      refine gAstore X34 hx (hb hby at_167) (q := 169) rfl rfl (L' := #[.val (.int x0), .val (.int x1), .val (.int x2), .val (.int x3), .val (.int x4), .val (.int u1), .val (.int u2), .val (.int u5), .val (.int u8), .val (.int u9), .val (.int u10), .val (.int u11), .val (.int v13), .val (.int v14), .val (.ref a17), .val (.ref a26), .val (.int u41), .val (.null), .unset, .unset, .unset, .unset, .unset]) rfl ?_
      refine gIconst X34 hx (0 : Int32) (hb hby at_169) (q := 170) rfl (by decide) ?_
      refine gIstore X34 hx (hb hby at_170) (q := 172) rfl (L' := #[.val (.int x0), .val (.int x1), .val (.int x2), .val (.int x3), .val (.int x4), .val (.int u1), .val (.int u2), .val (.int u5), .val (.int u8), .val (.int u9), .val (.int u10), .val (.int u11), .val (.int v13), .val (.int v14), .val (.ref a17), .val (.ref a26), .val (.int u41), .val (.null), .val (.int (0 : Int32)), .unset, .unset, .unset, .unset]) rfl ?_
      refine gIconst X34 hx (0 : Int32) (hb hby at_172) (q := 173) rfl (by decide) ?_
      refine gIstore X34 hx (hb hby at_173) (q := 175) rfl (L' := #[.val (.int x0), .val (.int x1), .val (.int x2), .val (.int x3), .val (.int x4), .val (.int u1), .val (.int u2), .val (.int u5), .val (.int u8), .val (.int u9), .val (.int u10), .val (.int u11), .val (.int v13), .val (.int v14), .val (.ref a17), .val (.ref a26), .val (.int u41), .val (.null), .val (.int (0 : Int32)), .val (.int (0 : Int32)), .unset, .unset, .unset]) rfl ?_
      refine gGoto X34 hx (hb hby at_175) (q := 228) (by decide) (by decide) ?_
      refine gAload X34 hx (hb hby at_228) (q := 230) rfl rfl rfl ?_
      refine gAload X34 hx (hb hby at_230) (q := 232) rfl rfl rfl ?_
      refine gCallV X34 hx hZ hown (hw _ (List.mem_of_getElem? (i := 21) rfl)) (hw _ (List.mem_of_getElem? (i := 22) rfl)) (hw _ (List.mem_of_getElem? (i := 24) rfl)) (hw _ (List.mem_of_getElem? (i := 23) rfl)) (hw _ (List.mem_of_getElem? (i := 10) rfl)) (hw _ (List.mem_of_getElem? (i := 25) rfl)) (notFace_of_selects (args := #[]) (mvT hZ (hw _ (List.mem_of_getElem? (i := 24) rfl)))) (by decide) (rmEqN l Z a0 hw [] a17 T34.heap n0 Z40) (W := 0) (by decide) (by decide) rfl (by rw [hml]; rfl) E36 [(.null)] (lenOf pd4 rfl) rfl (S := []) rfl (Nat.le_of_eq rfl) (hb hby at_232) (q := 235) rfl (by decide) (by decide) (fun r43 T43 M43 X43 q43 => ?_)
      obtain ⟨rfl, M43n, e43⟩ := q43
      have N44 := Fr.app N35 M43n
      dsimp only [Option.toList, List.cons_append, List.nil_append]
      refine gIload X43 hx (hb hby at_235) (q := 237) rfl rfl ?_
      refine gIcmpN X43 hx (hb hby at_237) (q := 240) rfl (XT.ii_ne_f (by decide)) ?_
      refine gIconst X43 hx (1 : Int32) (hb hby at_240) (q := 241) rfl (by decide) ?_
      refine gGoto X43 hx (hb hby at_241) (q := 245) (by decide) (by decide) ?_
      refine gIstore X43 hx (hb hby at_245) (q := 247) rfl (L' := #[.val (.int x0), .val (.int x1), .val (.int x2), .val (.int x3), .val (.int x4), .val (.int u1), .val (.int u2), .val (.int u5), .val (.int u8), .val (.int u9), .val (.int u10), .val (.int u11), .val (.int v13), .val (.int v14), .val (.ref a17), .val (.ref a26), .val (.int u41), .val (.null), .val (.int (0 : Int32)), .val (.int (0 : Int32)), .val (.int (1 : Int32)), .unset, .unset]) rfl ?_
      refine gAload X43 hx (hb hby at_247) (q := 249) rfl rfl rfl ?_
      refine gAload X43 hx (hb hby at_249) (q := 251) rfl rfl rfl ?_
      refine gCallV X43 hx hZ hown (hw _ (List.mem_of_getElem? (i := 21) rfl)) (hw _ (List.mem_of_getElem? (i := 22) rfl)) (hw _ (List.mem_of_getElem? (i := 24) rfl)) (hw _ (List.mem_of_getElem? (i := 23) rfl)) (hw _ (List.mem_of_getElem? (i := 10) rfl)) (hw _ (List.mem_of_getElem? (i := 25) rfl)) (notFace_of_selects (args := #[]) (mvT hZ (hw _ (List.mem_of_getElem? (i := 24) rfl)))) (by decide) (rmEqC l Z a0 hw [] a17 a17 u5 u8 u5 u8 T34.heap n0 Z40 F37 F38 F37 F38 E36) (W := 0) (by decide) (by decide) e43 (by rw [hml]; rfl) E36 [(.ref a17)] (lenOf pd4 rfl) rfl (S := []) rfl (Nat.le_of_eq rfl) (hb hby at_251) (q := 254) rfl (by decide) (by decide) (fun r45 T45 M45 X45 q45 => ?_)
      obtain ⟨rfl, M45n, e45⟩ := q45
      have N46 := Fr.app N44 M45n
      dsimp only [Option.toList, List.cons_append, List.nil_append]
      generalize hr47 : (if u5 = u5 then (if u8 = u8 then (1 : Int32) else (0 : Int32)) else (0 : Int32)) = r47
      refine gIstore X45 hx (hb hby at_254) (q := 256) rfl (L' := #[.val (.int x0), .val (.int x1), .val (.int x2), .val (.int x3), .val (.int x4), .val (.int u1), .val (.int u2), .val (.int u5), .val (.int u8), .val (.int u9), .val (.int u10), .val (.int u11), .val (.int v13), .val (.int v14), .val (.ref a17), .val (.ref a26), .val (.int u41), .val (.null), .val (.int (0 : Int32)), .val (.int (0 : Int32)), .val (.int (1 : Int32)), .val (.int r47), .unset]) rfl ?_
      refine gIload X45 hx (hb hby at_256) (q := 258) rfl rfl ?_
      refine gIfY X45 hx (hb hby at_258) (q := 273) (by decide) (by decide) (XT.i0_eq_t (by decide)) ?_
      refine gIconst X45 hx (1 : Int32) (hb hby at_273) (q := 274) rfl (by decide) ?_
      refine gGoto X45 hx (hb hby at_274) (q := 278) (by decide) (by decide) ?_
      refine gIstore X45 hx (hb hby at_278) (q := 280) rfl (L' := #[.val (.int x0), .val (.int x1), .val (.int x2), .val (.int x3), .val (.int x4), .val (.int u1), .val (.int u2), .val (.int u5), .val (.int u8), .val (.int u9), .val (.int u10), .val (.int u11), .val (.int v13), .val (.int v14), .val (.ref a17), .val (.ref a26), .val (.int u41), .val (.null), .val (.int (0 : Int32)), .val (.int (0 : Int32)), .val (.int (1 : Int32)), .val (.int r47), .val (.int (1 : Int32))]) rfl ?_
      refine gIload X45 hx (hb hby at_280) (q := 282) rfl rfl ?_
      refine gIfN X45 hx (hb hby at_282) (q := 285) rfl (XT.i0_eq_f (by decide)) ?_
      refine gIload X45 hx (hb hby at_285) (q := 287) rfl rfl ?_
      have J287_50 : ∀ v49 : Int32, v49 = (if r47 = (0 : Int32) then (0 : Int32) else (1 : Int32)) → Go p.tables e below (Done s (Q_rm0 Z x0 x1 x2 x3 x4 rc kc vc h0 n0) (room_1.cells) (room_1.slots)) (T45.setTop (mkF m 300 #[.val (.int x0), .val (.int x1), .val (.int x2), .val (.int x3), .val (.int x4), .val (.int u1), .val (.int u2), .val (.int u5), .val (.int u8), .val (.int u9), .val (.int u10), .val (.int u11), .val (.int v13), .val (.int v14), .val (.ref a17), .val (.ref a26), .val (.int u41), .val (.null), .val (.int (0 : Int32)), .val (.int (0 : Int32)), .val (.int (1 : Int32)), .val (.int r47), .val (.int (1 : Int32))] [(.int v49)])) := by
        intro v49 hv49
        have hone : v49 = 1 := own_law x0 x1 x2 x3 x4 u1 hu1 u2 hu2 u5 hu5 u8 hu8 u9 hu9 u10 hu10 u11 hu11 v13 hv13 v14 hv14 u41 hu41 r47 hr47 v49 hv49 c42
        exact gRetZ X45 hx hlk hret (hb hby at_300) (by decide) (by decide) (Or.inr hone) ⟨by rw [hone], N46⟩
      by_cases c48 : r47 = (0 : Int32)
      · refine gIfY X45 hx (hb hby at_287) (q := 299) (by decide) (by decide) (XT.i0_eq_t c48) ?_
        refine gIconst X45 hx (0 : Int32) (hb hby at_299) (q := 300) rfl (by decide) ?_
        exact J287_50 _ (by first | rfl | (simp only [if_pos c42, if_pos c48]; done) | (simp only [if_pos c42, if_pos c48]; done) | (simp only [if_pos c42, if_pos c48, if_true, if_false]; done) | (exfalso; simp at c48; done))
      · refine gIfN X45 hx (hb hby at_287) (q := 290) rfl (XT.i0_eq_f c48) ?_
        refine gIload X45 hx (hb hby at_290) (q := 292) rfl rfl ?_
        refine gIfN X45 hx (hb hby at_292) (q := 295) rfl (XT.i0_eq_f (by decide)) ?_
        refine gIconst X45 hx (1 : Int32) (hb hby at_295) (q := 296) rfl (by decide) ?_
        refine gGoto X45 hx (hb hby at_296) (q := 300) (by decide) (by decide) ?_
        exact J287_50 _ (by first | rfl | (simp only [if_pos c42, if_neg c48]; done) | (simp only [if_pos c42, if_neg c48]; done) | (simp only [if_pos c42, if_neg c48, if_true, if_false]; done) | (exfalso; simp at c48; done))
    · refine gIcmpY X34 hx (hb hby at_163) (q := 178) (by decide) (by decide) (XT.ii_ne_t c42) ?_
      refine gIload X34 hx (hb hby at_178) (q := 180) rfl rfl ?_
      refine gIconst X34 hx (2 : Int32) (hb hby at_180) (q := 181) rfl (by decide) ?_
      by_cases c51 : u41 = (2 : Int32)
      · refine gIcmpN X34 hx (hb hby at_181) (q := 184) rfl (XT.ii_ne_f c51) ?_
        refine gIload X34 hx (hb hby at_184) (q := 186) rfl rfl ?_
        refine gCallS X34 hx hZ hown (hw _ (List.mem_of_getElem? (i := 28) rfl)) (hw _ (List.mem_of_getElem? (i := 29) rfl)) (hw _ (List.mem_of_getElem? (i := 30) rfl)) (hw _ (List.mem_of_getElem? (i := 31) rfl)) (by decide) (rmVal l Z a0 hw [] u5 rc kc vc T34.heap n0 Z40 (Sta.ext O39.2 SH) (Sta.ext O39.2 SC) (Ary.ext O39.2 AC) hlen (fun j hj => (HC j hj).elim fun r hr => ⟨r, hr.1, Exa.ext O39.2 hr.2⟩)) (W := 0) (by decide) (by decide) rfl (by rw [hml]; rfl) [(.int u5)] (lenOf pd5 rfl) rfl (S := []) rfl (Nat.le_of_eq rfl) (hb hby at_186) (q := 189) rfl (by decide) (by decide) (fun r53 T53 M53 X53 q53 => ?_)
        obtain ⟨rI52, rfl, M53n, K53, ErI52⟩ := q53
        have N54 := Fr.app N35 M53n
        have E55 := Exa.keep E36 K53
        have F56 := Fld.keep F37 K53 nin0
        have F57 := Fld.keep F38 K53 nin0
        have E58 := Exa.keep P34e K53
        have F59 := Fld.keep P34m K53 nin0
        have F60 := Fld.keep P34n K53 nin0
        have O61 := O39.keep K53 all0
        have Z62 := Nat.le_trans Z40 K53.1
        dsimp only [Option.toList, List.cons_append, List.nil_append]
        refine gAstore X53 hx (hb hby at_189) (q := 191) rfl rfl (L' := #[.val (.int x0), .val (.int x1), .val (.int x2), .val (.int x3), .val (.int x4), .val (.int u1), .val (.int u2), .val (.int u5), .val (.int u8), .val (.int u9), .val (.int u10), .val (.int u11), .val (.int v13), .val (.int v14), .val (.ref a17), .val (.ref a26), .val (.int u41), .val (.ref rI52), .unset, .unset, .unset, .unset, .unset]) rfl ?_
        refine gIconst X53 hx (0 : Int32) (hb hby at_191) (q := 192) rfl (by decide) ?_
        refine gIstore X53 hx (hb hby at_192) (q := 194) rfl (L' := #[.val (.int x0), .val (.int x1), .val (.int x2), .val (.int x3), .val (.int x4), .val (.int u1), .val (.int u2), .val (.int u5), .val (.int u8), .val (.int u9), .val (.int u10), .val (.int u11), .val (.int v13), .val (.int v14), .val (.ref a17), .val (.ref a26), .val (.int u41), .val (.ref rI52), .val (.int (0 : Int32)), .unset, .unset, .unset, .unset]) rfl ?_
        refine gIconst X53 hx (0 : Int32) (hb hby at_194) (q := 195) rfl (by decide) ?_
        refine gIstore X53 hx (hb hby at_195) (q := 197) rfl (L' := #[.val (.int x0), .val (.int x1), .val (.int x2), .val (.int x3), .val (.int x4), .val (.int u1), .val (.int u2), .val (.int u5), .val (.int u8), .val (.int u9), .val (.int u10), .val (.int u11), .val (.int v13), .val (.int v14), .val (.ref a17), .val (.ref a26), .val (.int u41), .val (.ref rI52), .val (.int (0 : Int32)), .val (.int (0 : Int32)), .unset, .unset, .unset]) rfl ?_
        refine gGoto X53 hx (hb hby at_197) (q := 228) (by decide) (by decide) ?_
        refine gAload X53 hx (hb hby at_228) (q := 230) rfl rfl rfl ?_
        refine gAload X53 hx (hb hby at_230) (q := 232) rfl rfl rfl ?_
        refine gCallV X53 hx hZ hown (hw _ (List.mem_of_getElem? (i := 21) rfl)) (hw _ (List.mem_of_getElem? (i := 22) rfl)) (hw _ (List.mem_of_getElem? (i := 24) rfl)) (hw _ (List.mem_of_getElem? (i := 23) rfl)) (hw _ (List.mem_of_getElem? (i := 10) rfl)) (hw _ (List.mem_of_getElem? (i := 25) rfl)) (notFace_of_selects (args := #[]) (mvT hZ (hw _ (List.mem_of_getElem? (i := 24) rfl)))) (by decide) (rmEqI l Z a0 hw [] a17 rI52 T53.heap n0 Z62 ErI52) (W := 0) (by decide) (by decide) rfl (by rw [hml]; rfl) E55 [(.ref rI52)] (lenOf pd4 rfl) rfl (S := []) rfl (Nat.le_of_eq rfl) (hb hby at_232) (q := 235) rfl (by decide) (by decide) (fun r63 T63 M63 X63 q63 => ?_)
        obtain ⟨rfl, M63n, e63⟩ := q63
        have N64 := Fr.app N54 M63n
        dsimp only [Option.toList, List.cons_append, List.nil_append]
        refine gIload X63 hx (hb hby at_235) (q := 237) rfl rfl ?_
        refine gIcmpN X63 hx (hb hby at_237) (q := 240) rfl (XT.ii_ne_f (by decide)) ?_
        refine gIconst X63 hx (1 : Int32) (hb hby at_240) (q := 241) rfl (by decide) ?_
        refine gGoto X63 hx (hb hby at_241) (q := 245) (by decide) (by decide) ?_
        refine gIstore X63 hx (hb hby at_245) (q := 247) rfl (L' := #[.val (.int x0), .val (.int x1), .val (.int x2), .val (.int x3), .val (.int x4), .val (.int u1), .val (.int u2), .val (.int u5), .val (.int u8), .val (.int u9), .val (.int u10), .val (.int u11), .val (.int v13), .val (.int v14), .val (.ref a17), .val (.ref a26), .val (.int u41), .val (.ref rI52), .val (.int (0 : Int32)), .val (.int (0 : Int32)), .val (.int (1 : Int32)), .unset, .unset]) rfl ?_
        refine gAload X63 hx (hb hby at_247) (q := 249) rfl rfl rfl ?_
        refine gAload X63 hx (hb hby at_249) (q := 251) rfl rfl rfl ?_
        refine gCallV X63 hx hZ hown (hw _ (List.mem_of_getElem? (i := 21) rfl)) (hw _ (List.mem_of_getElem? (i := 22) rfl)) (hw _ (List.mem_of_getElem? (i := 24) rfl)) (hw _ (List.mem_of_getElem? (i := 23) rfl)) (hw _ (List.mem_of_getElem? (i := 10) rfl)) (hw _ (List.mem_of_getElem? (i := 25) rfl)) (notFace_of_selects (args := #[]) (mvT hZ (hw _ (List.mem_of_getElem? (i := 24) rfl)))) (by decide) (rmEqC l Z a0 hw [] a17 a17 u5 u8 u5 u8 T53.heap n0 Z62 F56 F57 F56 F57 E55) (W := 0) (by decide) (by decide) e63 (by rw [hml]; rfl) E55 [(.ref a17)] (lenOf pd4 rfl) rfl (S := []) rfl (Nat.le_of_eq rfl) (hb hby at_251) (q := 254) rfl (by decide) (by decide) (fun r65 T65 M65 X65 q65 => ?_)
        obtain ⟨rfl, M65n, e65⟩ := q65
        have N66 := Fr.app N64 M65n
        dsimp only [Option.toList, List.cons_append, List.nil_append]
        generalize hr67 : (if u5 = u5 then (if u8 = u8 then (1 : Int32) else (0 : Int32)) else (0 : Int32)) = r67
        refine gIstore X65 hx (hb hby at_254) (q := 256) rfl (L' := #[.val (.int x0), .val (.int x1), .val (.int x2), .val (.int x3), .val (.int x4), .val (.int u1), .val (.int u2), .val (.int u5), .val (.int u8), .val (.int u9), .val (.int u10), .val (.int u11), .val (.int v13), .val (.int v14), .val (.ref a17), .val (.ref a26), .val (.int u41), .val (.ref rI52), .val (.int (0 : Int32)), .val (.int (0 : Int32)), .val (.int (1 : Int32)), .val (.int r67), .unset]) rfl ?_
        refine gIload X65 hx (hb hby at_256) (q := 258) rfl rfl ?_
        refine gIfY X65 hx (hb hby at_258) (q := 273) (by decide) (by decide) (XT.i0_eq_t (by decide)) ?_
        refine gIconst X65 hx (1 : Int32) (hb hby at_273) (q := 274) rfl (by decide) ?_
        refine gGoto X65 hx (hb hby at_274) (q := 278) (by decide) (by decide) ?_
        refine gIstore X65 hx (hb hby at_278) (q := 280) rfl (L' := #[.val (.int x0), .val (.int x1), .val (.int x2), .val (.int x3), .val (.int x4), .val (.int u1), .val (.int u2), .val (.int u5), .val (.int u8), .val (.int u9), .val (.int u10), .val (.int u11), .val (.int v13), .val (.int v14), .val (.ref a17), .val (.ref a26), .val (.int u41), .val (.ref rI52), .val (.int (0 : Int32)), .val (.int (0 : Int32)), .val (.int (1 : Int32)), .val (.int r67), .val (.int (1 : Int32))]) rfl ?_
        refine gIload X65 hx (hb hby at_280) (q := 282) rfl rfl ?_
        refine gIfN X65 hx (hb hby at_282) (q := 285) rfl (XT.i0_eq_f (by decide)) ?_
        refine gIload X65 hx (hb hby at_285) (q := 287) rfl rfl ?_
        have J287_70 : ∀ v69 : Int32, v69 = (if r67 = (0 : Int32) then (0 : Int32) else (1 : Int32)) → Go p.tables e below (Done s (Q_rm0 Z x0 x1 x2 x3 x4 rc kc vc h0 n0) (room_1.cells) (room_1.slots)) (T65.setTop (mkF m 300 #[.val (.int x0), .val (.int x1), .val (.int x2), .val (.int x3), .val (.int x4), .val (.int u1), .val (.int u2), .val (.int u5), .val (.int u8), .val (.int u9), .val (.int u10), .val (.int u11), .val (.int v13), .val (.int v14), .val (.ref a17), .val (.ref a26), .val (.int u41), .val (.ref rI52), .val (.int (0 : Int32)), .val (.int (0 : Int32)), .val (.int (1 : Int32)), .val (.int r67), .val (.int (1 : Int32))] [(.int v69)])) := by
          intro v69 hv69
          have hone : v69 = 1 := own_law2 x0 x1 x2 x3 x4 u1 hu1 u2 hu2 u5 hu5 u8 hu8 u9 hu9 u10 hu10 u11 hu11 v13 hv13 v14 hv14 u41 hu41 r67 hr67 v69 hv69 c42 c51
          exact gRetZ X65 hx hlk hret (hb hby at_300) (by decide) (by decide) (Or.inr hone) ⟨by rw [hone], N66⟩
        by_cases c68 : r67 = (0 : Int32)
        · refine gIfY X65 hx (hb hby at_287) (q := 299) (by decide) (by decide) (XT.i0_eq_t c68) ?_
          refine gIconst X65 hx (0 : Int32) (hb hby at_299) (q := 300) rfl (by decide) ?_
          exact J287_70 _ (by first | rfl | (simp only [if_neg c42, if_pos c51, if_pos c68]; done) | (simp only [if_neg c42, if_pos c51, if_pos c68]; done) | (simp only [if_neg c42, if_pos c51, if_pos c68, if_true, if_false]; done) | (exfalso; simp at c68; done))
        · refine gIfN X65 hx (hb hby at_287) (q := 290) rfl (XT.i0_eq_f c68) ?_
          refine gIload X65 hx (hb hby at_290) (q := 292) rfl rfl ?_
          refine gIfN X65 hx (hb hby at_292) (q := 295) rfl (XT.i0_eq_f (by decide)) ?_
          refine gIconst X65 hx (1 : Int32) (hb hby at_295) (q := 296) rfl (by decide) ?_
          refine gGoto X65 hx (hb hby at_296) (q := 300) (by decide) (by decide) ?_
          exact J287_70 _ (by first | rfl | (simp only [if_neg c42, if_pos c51, if_neg c68]; done) | (simp only [if_neg c42, if_pos c51, if_neg c68]; done) | (simp only [if_neg c42, if_pos c51, if_neg c68, if_true, if_false]; done) | (exfalso; simp at c68; done))
      · refine gIcmpY X34 hx (hb hby at_181) (q := 200) (by decide) (by decide) (XT.ii_ne_t c51) ?_
        refine gAload X34 hx (hb hby at_200) (q := 202) rfl rfl rfl ?_
        refine gAstore X34 hx (hb hby at_202) (q := 204) rfl rfl (L' := #[.val (.int x0), .val (.int x1), .val (.int x2), .val (.int x3), .val (.int x4), .val (.int u1), .val (.int u2), .val (.int u5), .val (.int u8), .val (.int u9), .val (.int u10), .val (.int u11), .val (.int v13), .val (.int v14), .val (.ref a17), .val (.ref a26), .val (.int u41), .val (.ref a26), .unset, .unset, .unset, .unset, .unset]) rfl ?_
        refine gIload X34 hx (hb hby at_204) (q := 206) rfl rfl ?_
        refine gIload X34 hx (hb hby at_206) (q := 208) rfl rfl ?_
        have J208_73 : ∀ v72 : Int32, v72 = (if u5 = v13 then (if u8 = v14 then (1 : Int32) else (0 : Int32)) else (0 : Int32)) → Go p.tables e below (Done s (Q_rm0 Z x0 x1 x2 x3 x4 rc kc vc h0 n0) (room_1.cells) (room_1.slots)) (T34.setTop (mkF m 223 #[.val (.int x0), .val (.int x1), .val (.int x2), .val (.int x3), .val (.int x4), .val (.int u1), .val (.int u2), .val (.int u5), .val (.int u8), .val (.int u9), .val (.int u10), .val (.int u11), .val (.int v13), .val (.int v14), .val (.ref a17), .val (.ref a26), .val (.int u41), .val (.ref a26), .unset, .unset, .unset, .unset, .unset] [(.int v72)])) := by
          intro v72 hv72
          refine gIstore X34 hx (hb hby at_223) (q := 225) rfl (L' := #[.val (.int x0), .val (.int x1), .val (.int x2), .val (.int x3), .val (.int x4), .val (.int u1), .val (.int u2), .val (.int u5), .val (.int u8), .val (.int u9), .val (.int u10), .val (.int u11), .val (.int v13), .val (.int v14), .val (.ref a17), .val (.ref a26), .val (.int u41), .val (.ref a26), .val (.int v72), .unset, .unset, .unset, .unset]) rfl ?_
          refine gIconst X34 hx (1 : Int32) (hb hby at_225) (q := 226) rfl (by decide) ?_
          refine gIstore X34 hx (hb hby at_226) (q := 228) rfl (L' := #[.val (.int x0), .val (.int x1), .val (.int x2), .val (.int x3), .val (.int x4), .val (.int u1), .val (.int u2), .val (.int u5), .val (.int u8), .val (.int u9), .val (.int u10), .val (.int u11), .val (.int v13), .val (.int v14), .val (.ref a17), .val (.ref a26), .val (.int u41), .val (.ref a26), .val (.int v72), .val (.int (1 : Int32)), .unset, .unset, .unset]) rfl ?_
          refine gAload X34 hx (hb hby at_228) (q := 230) rfl rfl rfl ?_
          refine gAload X34 hx (hb hby at_230) (q := 232) rfl rfl rfl ?_
          refine gCallV X34 hx hZ hown (hw _ (List.mem_of_getElem? (i := 21) rfl)) (hw _ (List.mem_of_getElem? (i := 22) rfl)) (hw _ (List.mem_of_getElem? (i := 24) rfl)) (hw _ (List.mem_of_getElem? (i := 23) rfl)) (hw _ (List.mem_of_getElem? (i := 10) rfl)) (hw _ (List.mem_of_getElem? (i := 25) rfl)) (notFace_of_selects (args := #[]) (mvT hZ (hw _ (List.mem_of_getElem? (i := 24) rfl)))) (by decide) (rmEqC l Z a0 hw [] a17 a26 u5 u8 v13 v14 T34.heap n0 Z40 F37 F38 P34m P34n P34e) (W := 0) (by decide) (by decide) rfl (by rw [hml]; rfl) E36 [(.ref a26)] (lenOf pd4 rfl) rfl (S := []) rfl (Nat.le_of_eq rfl) (hb hby at_232) (q := 235) rfl (by decide) (by decide) (fun r74 T74 M74 X74 q74 => ?_)
          obtain ⟨rfl, M74n, e74⟩ := q74
          have N75 := Fr.app N35 M74n
          dsimp only [Option.toList, List.cons_append, List.nil_append]
          generalize hf76 : (if u5 = v13 then (if u8 = v14 then (1 : Int32) else (0 : Int32)) else (0 : Int32)) = f76
          refine gIload X74 hx (hb hby at_235) (q := 237) rfl rfl ?_
          have J237_79 : ∀ v78 : Int32, v78 = (if f76 = v72 then (1 : Int32) else (0 : Int32)) → Go p.tables e below (Done s (Q_rm0 Z x0 x1 x2 x3 x4 rc kc vc h0 n0) (room_1.cells) (room_1.slots)) (T74.setTop (mkF m 245 #[.val (.int x0), .val (.int x1), .val (.int x2), .val (.int x3), .val (.int x4), .val (.int u1), .val (.int u2), .val (.int u5), .val (.int u8), .val (.int u9), .val (.int u10), .val (.int u11), .val (.int v13), .val (.int v14), .val (.ref a17), .val (.ref a26), .val (.int u41), .val (.ref a26), .val (.int v72), .val (.int (1 : Int32)), .unset, .unset, .unset] [(.int v78)])) := by
            intro v78 hv78
            refine gIstore X74 hx (hb hby at_245) (q := 247) rfl (L' := #[.val (.int x0), .val (.int x1), .val (.int x2), .val (.int x3), .val (.int x4), .val (.int u1), .val (.int u2), .val (.int u5), .val (.int u8), .val (.int u9), .val (.int u10), .val (.int u11), .val (.int v13), .val (.int v14), .val (.ref a17), .val (.ref a26), .val (.int u41), .val (.ref a26), .val (.int v72), .val (.int (1 : Int32)), .val (.int v78), .unset, .unset]) rfl ?_
            refine gAload X74 hx (hb hby at_247) (q := 249) rfl rfl rfl ?_
            refine gAload X74 hx (hb hby at_249) (q := 251) rfl rfl rfl ?_
            refine gCallV X74 hx hZ hown (hw _ (List.mem_of_getElem? (i := 21) rfl)) (hw _ (List.mem_of_getElem? (i := 22) rfl)) (hw _ (List.mem_of_getElem? (i := 24) rfl)) (hw _ (List.mem_of_getElem? (i := 23) rfl)) (hw _ (List.mem_of_getElem? (i := 10) rfl)) (hw _ (List.mem_of_getElem? (i := 25) rfl)) (notFace_of_selects (args := #[]) (mvT hZ (hw _ (List.mem_of_getElem? (i := 24) rfl)))) (by decide) (rmEqC l Z a0 hw [] a17 a17 u5 u8 u5 u8 T34.heap n0 Z40 F37 F38 F37 F38 E36) (W := 0) (by decide) (by decide) e74 (by rw [hml]; rfl) E36 [(.ref a17)] (lenOf pd4 rfl) rfl (S := []) rfl (Nat.le_of_eq rfl) (hb hby at_251) (q := 254) rfl (by decide) (by decide) (fun r80 T80 M80 X80 q80 => ?_)
            obtain ⟨rfl, M80n, e80⟩ := q80
            have N81 := Fr.app N75 M80n
            dsimp only [Option.toList, List.cons_append, List.nil_append]
            generalize hr82 : (if u5 = u5 then (if u8 = u8 then (1 : Int32) else (0 : Int32)) else (0 : Int32)) = r82
            refine gIstore X80 hx (hb hby at_254) (q := 256) rfl (L' := #[.val (.int x0), .val (.int x1), .val (.int x2), .val (.int x3), .val (.int x4), .val (.int u1), .val (.int u2), .val (.int u5), .val (.int u8), .val (.int u9), .val (.int u10), .val (.int u11), .val (.int v13), .val (.int v14), .val (.ref a17), .val (.ref a26), .val (.int u41), .val (.ref a26), .val (.int v72), .val (.int (1 : Int32)), .val (.int v78), .val (.int r82), .unset]) rfl ?_
            refine gIload X80 hx (hb hby at_256) (q := 258) rfl rfl ?_
            refine gIfN X80 hx (hb hby at_258) (q := 261) rfl (XT.i0_eq_f (by decide)) ?_
            refine gAload X80 hx (hb hby at_261) (q := 263) rfl rfl rfl ?_
            refine gAload X80 hx (hb hby at_263) (q := 265) rfl rfl rfl ?_
            refine gCallV X80 hx hZ hown (hw _ (List.mem_of_getElem? (i := 21) rfl)) (hw _ (List.mem_of_getElem? (i := 22) rfl)) (hw _ (List.mem_of_getElem? (i := 24) rfl)) (hw _ (List.mem_of_getElem? (i := 23) rfl)) (hw _ (List.mem_of_getElem? (i := 10) rfl)) (hw _ (List.mem_of_getElem? (i := 25) rfl)) (notFace_of_selects (args := #[]) (mvT hZ (hw _ (List.mem_of_getElem? (i := 24) rfl)))) (by decide) (rmEqC l Z a0 hw [] a26 a17 v13 v14 u5 u8 T34.heap n0 Z40 P34m P34n F37 F38 E36) (W := 0) (by decide) (by decide) e80 (by rw [hml]; rfl) P34e [(.ref a17)] (lenOf pd4 rfl) rfl (S := []) rfl (Nat.le_of_eq rfl) (hb hby at_265) (q := 268) rfl (by decide) (by decide) (fun r83 T83 M83 X83 q83 => ?_)
            obtain ⟨rfl, M83n, e83⟩ := q83
            have N84 := Fr.app N81 M83n
            dsimp only [Option.toList, List.cons_append, List.nil_append]
            generalize hs85 : (if v13 = u5 then (if v14 = u8 then (1 : Int32) else (0 : Int32)) else (0 : Int32)) = s85
            refine gIload X83 hx (hb hby at_268) (q := 270) rfl rfl ?_
            have J270_88 : ∀ v87 : Int32, v87 = (if s85 = v72 then (1 : Int32) else (0 : Int32)) → Go p.tables e below (Done s (Q_rm0 Z x0 x1 x2 x3 x4 rc kc vc h0 n0) (room_1.cells) (room_1.slots)) (T83.setTop (mkF m 278 #[.val (.int x0), .val (.int x1), .val (.int x2), .val (.int x3), .val (.int x4), .val (.int u1), .val (.int u2), .val (.int u5), .val (.int u8), .val (.int u9), .val (.int u10), .val (.int u11), .val (.int v13), .val (.int v14), .val (.ref a17), .val (.ref a26), .val (.int u41), .val (.ref a26), .val (.int v72), .val (.int (1 : Int32)), .val (.int v78), .val (.int r82), .unset] [(.int v87)])) := by
              intro v87 hv87
              refine gIstore X83 hx (hb hby at_278) (q := 280) rfl (L' := #[.val (.int x0), .val (.int x1), .val (.int x2), .val (.int x3), .val (.int x4), .val (.int u1), .val (.int u2), .val (.int u5), .val (.int u8), .val (.int u9), .val (.int u10), .val (.int u11), .val (.int v13), .val (.int v14), .val (.ref a17), .val (.ref a26), .val (.int u41), .val (.ref a26), .val (.int v72), .val (.int (1 : Int32)), .val (.int v78), .val (.int r82), .val (.int v87)]) rfl ?_
              refine gIload X83 hx (hb hby at_280) (q := 282) rfl rfl ?_
              have J282_91 : ∀ v90 : Int32, v90 = (if v78 = (0 : Int32) then (0 : Int32) else (if r82 = (0 : Int32) then (0 : Int32) else (if v87 = (0 : Int32) then (0 : Int32) else (1 : Int32)))) → Go p.tables e below (Done s (Q_rm0 Z x0 x1 x2 x3 x4 rc kc vc h0 n0) (room_1.cells) (room_1.slots)) (T83.setTop (mkF m 300 #[.val (.int x0), .val (.int x1), .val (.int x2), .val (.int x3), .val (.int x4), .val (.int u1), .val (.int u2), .val (.int u5), .val (.int u8), .val (.int u9), .val (.int u10), .val (.int u11), .val (.int v13), .val (.int v14), .val (.ref a17), .val (.ref a26), .val (.int u41), .val (.ref a26), .val (.int v72), .val (.int (1 : Int32)), .val (.int v78), .val (.int r82), .val (.int v87)] [(.int v90)])) := by
                intro v90 hv90
                have hone : v90 = 1 := own_law3 x0 x1 x2 x3 x4 u1 hu1 u2 hu2 u5 hu5 u8 hu8 u9 hu9 u10 hu10 u11 hu11 v13 hv13 v14 hv14 u41 hu41 v72 hv72 f76 hf76 v78 hv78 r82 hr82 s85 hs85 v87 hv87 v90 hv90 c42 c51
                exact gRetZ X83 hx hlk hret (hb hby at_300) (by decide) (by decide) (Or.inr hone) ⟨by rw [hone], N84⟩
              by_cases c89 : v78 = (0 : Int32)
              · refine gIfY X83 hx (hb hby at_282) (q := 299) (by decide) (by decide) (XT.i0_eq_t c89) ?_
                refine gIconst X83 hx (0 : Int32) (hb hby at_299) (q := 300) rfl (by decide) ?_
                exact J282_91 _ (by first | rfl | (simp only [if_neg c42, if_neg c51, if_pos c89]; done) | (simp only [if_neg c42, if_neg c51, if_pos c89]; done) | (simp only [if_neg c42, if_neg c51, if_pos c89, if_true, if_false]; done) | (exfalso; simp at c89; done))
              · refine gIfN X83 hx (hb hby at_282) (q := 285) rfl (XT.i0_eq_f c89) ?_
                refine gIload X83 hx (hb hby at_285) (q := 287) rfl rfl ?_
                by_cases c92 : r82 = (0 : Int32)
                · refine gIfY X83 hx (hb hby at_287) (q := 299) (by decide) (by decide) (XT.i0_eq_t c92) ?_
                  refine gIconst X83 hx (0 : Int32) (hb hby at_299) (q := 300) rfl (by decide) ?_
                  exact J282_91 _ (by first | rfl | (simp only [if_neg c42, if_neg c51, if_neg c89, if_pos c92]; done) | (simp only [if_neg c42, if_neg c51, if_neg c89, if_pos c92]; done) | (simp only [if_neg c42, if_neg c51, if_neg c89, if_pos c92, if_true, if_false]; done) | (exfalso; simp at c92; done))
                · refine gIfN X83 hx (hb hby at_287) (q := 290) rfl (XT.i0_eq_f c92) ?_
                  refine gIload X83 hx (hb hby at_290) (q := 292) rfl rfl ?_
                  by_cases c93 : v87 = (0 : Int32)
                  · refine gIfY X83 hx (hb hby at_292) (q := 299) (by decide) (by decide) (XT.i0_eq_t c93) ?_
                    refine gIconst X83 hx (0 : Int32) (hb hby at_299) (q := 300) rfl (by decide) ?_
                    exact J282_91 _ (by first | rfl | (simp only [if_neg c42, if_neg c51, if_neg c89, if_neg c92, if_pos c93]; done) | (simp only [if_neg c42, if_neg c51, if_neg c89, if_neg c92, if_pos c93]; done) | (simp only [if_neg c42, if_neg c51, if_neg c89, if_neg c92, if_pos c93, if_true, if_false]; done) | (exfalso; simp at c93; done))
                  · refine gIfN X83 hx (hb hby at_292) (q := 295) rfl (XT.i0_eq_f c93) ?_
                    refine gIconst X83 hx (1 : Int32) (hb hby at_295) (q := 296) rfl (by decide) ?_
                    refine gGoto X83 hx (hb hby at_296) (q := 300) (by decide) (by decide) ?_
                    exact J282_91 _ (by first | rfl | (simp only [if_neg c42, if_neg c51, if_neg c89, if_neg c92, if_neg c93]; done) | (simp only [if_neg c42, if_neg c51, if_neg c89, if_neg c92, if_neg c93]; done) | (simp only [if_neg c42, if_neg c51, if_neg c89, if_neg c92, if_neg c93, if_true, if_false]; done) | (exfalso; simp at c93; done))
            by_cases c86 : s85 = v72
            · refine gIcmpN X83 hx (hb hby at_270) (q := 273) rfl (XT.ii_ne_f c86) ?_
              refine gIconst X83 hx (1 : Int32) (hb hby at_273) (q := 274) rfl (by decide) ?_
              refine gGoto X83 hx (hb hby at_274) (q := 278) (by decide) (by decide) ?_
              exact J270_88 _ (by first | rfl | (simp only [if_neg c42, if_neg c51, if_pos c86]; done) | (simp only [if_neg c42, if_neg c51, if_pos c86]; done) | (simp only [if_neg c42, if_neg c51, if_pos c86, if_true, if_false]; done) | (exfalso; simp at c86; done))
            · refine gIcmpY X83 hx (hb hby at_270) (q := 277) (by decide) (by decide) (XT.ii_ne_t c86) ?_
              refine gIconst X83 hx (0 : Int32) (hb hby at_277) (q := 278) rfl (by decide) ?_
              exact J270_88 _ (by first | rfl | (simp only [if_neg c42, if_neg c51, if_neg c86]; done) | (simp only [if_neg c42, if_neg c51, if_neg c86]; done) | (simp only [if_neg c42, if_neg c51, if_neg c86, if_true, if_false]; done) | (exfalso; simp at c86; done))
          by_cases c77 : f76 = v72
          · refine gIcmpN X74 hx (hb hby at_237) (q := 240) rfl (XT.ii_ne_f c77) ?_
            refine gIconst X74 hx (1 : Int32) (hb hby at_240) (q := 241) rfl (by decide) ?_
            refine gGoto X74 hx (hb hby at_241) (q := 245) (by decide) (by decide) ?_
            exact J237_79 _ (by first | rfl | (simp only [if_neg c42, if_neg c51, if_pos c77]; done) | (simp only [if_neg c42, if_neg c51, if_pos c77]; done) | (simp only [if_neg c42, if_neg c51, if_pos c77, if_true, if_false]; done) | (exfalso; simp at c77; done))
          · refine gIcmpY X74 hx (hb hby at_237) (q := 244) (by decide) (by decide) (XT.ii_ne_t c77) ?_
            refine gIconst X74 hx (0 : Int32) (hb hby at_244) (q := 245) rfl (by decide) ?_
            exact J237_79 _ (by first | rfl | (simp only [if_neg c42, if_neg c51, if_neg c77]; done) | (simp only [if_neg c42, if_neg c51, if_neg c77]; done) | (simp only [if_neg c42, if_neg c51, if_neg c77, if_true, if_false]; done) | (exfalso; simp at c77; done))
        by_cases c71 : u5 = v13
        · refine gIcmpN X34 hx (hb hby at_208) (q := 211) rfl (XT.ii_ne_f c71) ?_
          refine gIload X34 hx (hb hby at_211) (q := 213) rfl rfl ?_
          refine gIload X34 hx (hb hby at_213) (q := 215) rfl rfl ?_
          by_cases c94 : u8 = v14
          · refine gIcmpN X34 hx (hb hby at_215) (q := 218) rfl (XT.ii_ne_f c94) ?_
            refine gIconst X34 hx (1 : Int32) (hb hby at_218) (q := 219) rfl (by decide) ?_
            refine gGoto X34 hx (hb hby at_219) (q := 223) (by decide) (by decide) ?_
            exact J208_73 _ (by first | rfl | (simp only [if_neg c42, if_neg c51, if_pos c71, if_pos c94]; done) | (simp only [if_neg c42, if_neg c51, if_pos c71, if_pos c94]; done) | (simp only [if_neg c42, if_neg c51, if_pos c71, if_pos c94, if_true, if_false]; done) | (exfalso; simp at c94; done))
          · refine gIcmpY X34 hx (hb hby at_215) (q := 222) (by decide) (by decide) (XT.ii_ne_t c94) ?_
            refine gIconst X34 hx (0 : Int32) (hb hby at_222) (q := 223) rfl (by decide) ?_
            exact J208_73 _ (by first | rfl | (simp only [if_neg c42, if_neg c51, if_pos c71, if_neg c94]; done) | (simp only [if_neg c42, if_neg c51, if_pos c71, if_neg c94]; done) | (simp only [if_neg c42, if_neg c51, if_pos c71, if_neg c94, if_true, if_false]; done) | (exfalso; simp at c94; done))
        · refine gIcmpY X34 hx (hb hby at_208) (q := 222) (by decide) (by decide) (XT.ii_ne_t c71) ?_
          refine gIconst X34 hx (0 : Int32) (hb hby at_222) (q := 223) rfl (by decide) ?_
          exact J208_73 _ (by first | rfl | (simp only [if_neg c42, if_neg c51, if_neg c71]; done) | (simp only [if_neg c42, if_neg c51, if_neg c71]; done) | (simp only [if_neg c42, if_neg c51, if_neg c71, if_true, if_false]; done) | (exfalso; simp at c71; done))
  by_cases c12 : u11 = (0 : Int32)
  · refine gIfN X6 hx (hb hby at_50) (q := 53) rfl (XT.i0_ne_f c12) ?_
    refine gIload X6 hx (hb hby at_53) (q := 55) rfl rfl ?_
    refine gIstore X6 hx (hb hby at_55) (q := 57) rfl (L' := #[.val (.int x0), .val (.int x1), .val (.int x2), .val (.int x3), .val (.int x4), .val (.int u1), .val (.int u2), .val (.int u5), .val (.int u8), .val (.int u9), .val (.int u10), .val (.int u11), .val (.int u5), .unset, .unset, .unset, .unset, .unset, .unset, .unset, .unset, .unset, .unset]) rfl ?_
    refine gIload X6 hx (hb hby at_57) (q := 59) rfl rfl ?_
    refine gIstore X6 hx (hb hby at_59) (q := 61) rfl (L' := #[.val (.int x0), .val (.int x1), .val (.int x2), .val (.int x3), .val (.int x4), .val (.int u1), .val (.int u2), .val (.int u5), .val (.int u8), .val (.int u9), .val (.int u10), .val (.int u11), .val (.int u5), .val (.int u8), .unset, .unset, .unset, .unset, .unset, .unset, .unset, .unset, .unset]) rfl ?_
    refine gGoto X6 hx (hb hby at_61) (q := 126) (by decide) (by decide) ?_
    exact J50_15 T6 _ X6 e6 N7 _ (by first | rfl | (simp only [if_pos c12]; done) | (simp only [if_pos c12]; done) | (simp only [if_pos c12, if_true, if_false]; done) | (exfalso; simp at c12; done)) _ (by first | rfl | (simp only [if_pos c12]; done) | (simp only [if_pos c12]; done) | (simp only [if_pos c12, if_true, if_false]; done) | (exfalso; simp at c12; done))
  · refine gIfY X6 hx (hb hby at_50) (q := 64) (by decide) (by decide) (XT.i0_ne_t c12) ?_
    refine gIload X6 hx (hb hby at_64) (q := 66) rfl rfl ?_
    refine gIconst X6 hx (1 : Int32) (hb hby at_66) (q := 67) rfl (by decide) ?_
    by_cases c95 : u11 = (1 : Int32)
    · refine gIcmpN X6 hx (hb hby at_67) (q := 70) rfl (XT.ii_ne_f c95) ?_
      refine gIload X6 hx (hb hby at_70) (q := 72) rfl rfl ?_
      refine gIload X6 hx (hb hby at_72) (q := 74) rfl rfl ?_
      refine gCallS X6 hx hZ hown (hw _ (List.mem_of_getElem? (i := 1) rfl)) (hw _ (List.mem_of_getElem? (i := 2) rfl)) (hw _ (List.mem_of_getElem? (i := 3) rfl)) (hw _ (List.mem_of_getElem? (i := 4) rfl)) (by decide) (rmMin l Z a0 hw [] u9 u10 h0 n0 Z0) (W := 0) (by decide) (by decide) e6 (by rw [hml]; rfl) [(.int u9), (.int u10)] (lenOf pd2 rfl) rfl (S := []) rfl (Nat.le_of_eq rfl) (hb hby at_74) (q := 77) rfl (by decide) (by decide) (fun r96 T96 M96 X96 q96 => ?_)
      obtain ⟨rfl, M96n, e96⟩ := q96
      have N97 := Fr.app N7 M96n
      dsimp only [Option.toList, List.cons_append, List.nil_append]
      refine gIstore X96 hx (hb hby at_77) (q := 79) rfl (L' := #[.val (.int x0), .val (.int x1), .val (.int x2), .val (.int x3), .val (.int x4), .val (.int u1), .val (.int u2), .val (.int u5), .val (.int u8), .val (.int u9), .val (.int u10), .val (.int u11), .val (.int (if u10 < u9 then u10 else u9)), .unset, .unset, .unset, .unset, .unset, .unset, .unset, .unset, .unset, .unset]) rfl ?_
      refine gIload X96 hx (hb hby at_79) (q := 81) rfl rfl ?_
      refine gIload X96 hx (hb hby at_81) (q := 83) rfl rfl ?_
      refine gCallS X96 hx hZ hown (hw _ (List.mem_of_getElem? (i := 5) rfl)) (hw _ (List.mem_of_getElem? (i := 6) rfl)) (hw _ (List.mem_of_getElem? (i := 3) rfl)) (hw _ (List.mem_of_getElem? (i := 7) rfl)) (by decide) (rmMax l Z a0 hw [] u9 u10 h0 n0 Z0) (W := 0) (by decide) (by decide) e96 (by rw [hml]; rfl) [(.int u9), (.int u10)] (lenOf pd2 rfl) rfl (S := []) rfl (Nat.le_of_eq rfl) (hb hby at_83) (q := 86) rfl (by decide) (by decide) (fun r98 T98 M98 X98 q98 => ?_)
      obtain ⟨rfl, M98n, e98⟩ := q98
      have N99 := Fr.app N97 M98n
      dsimp only [Option.toList, List.cons_append, List.nil_append]
      refine gIstore X98 hx (hb hby at_86) (q := 88) rfl (L' := #[.val (.int x0), .val (.int x1), .val (.int x2), .val (.int x3), .val (.int x4), .val (.int u1), .val (.int u2), .val (.int u5), .val (.int u8), .val (.int u9), .val (.int u10), .val (.int u11), .val (.int (if u10 < u9 then u10 else u9)), .val (.int (if u9 < u10 then u10 else u9)), .unset, .unset, .unset, .unset, .unset, .unset, .unset, .unset, .unset]) rfl ?_
      refine gGoto X98 hx (hb hby at_88) (q := 126) (by decide) (by decide) ?_
      exact J50_15 T98 _ X98 e98 N99 _ (by first | rfl | (simp only [if_neg c12, if_pos c95]; done) | (simp only [if_neg c12, if_pos c95]; done) | (simp only [if_neg c12, if_pos c95, if_true, if_false]; done) | (exfalso; simp at c95; done)) _ (by first | rfl | (simp only [if_neg c12, if_pos c95]; done) | (simp only [if_neg c12, if_pos c95]; done) | (simp only [if_neg c12, if_pos c95, if_true, if_false]; done) | (exfalso; simp at c95; done))
    · refine gIcmpY X6 hx (hb hby at_67) (q := 91) (by decide) (by decide) (XT.ii_ne_t c95) ?_
      refine gIload X6 hx (hb hby at_91) (q := 93) rfl rfl ?_
      refine gIconst X6 hx (2 : Int32) (hb hby at_93) (q := 94) rfl (by decide) ?_
      by_cases c100 : u11 = (2 : Int32)
      · refine gIcmpN X6 hx (hb hby at_94) (q := 97) rfl (XT.ii_ne_f c100) ?_
        refine gIload X6 hx (hb hby at_97) (q := 99) rfl rfl ?_
        refine gIstore X6 hx (hb hby at_99) (q := 101) rfl (L' := #[.val (.int x0), .val (.int x1), .val (.int x2), .val (.int x3), .val (.int x4), .val (.int u1), .val (.int u2), .val (.int u5), .val (.int u8), .val (.int u9), .val (.int u10), .val (.int u11), .val (.int u5), .unset, .unset, .unset, .unset, .unset, .unset, .unset, .unset, .unset, .unset]) rfl ?_
        refine gIload X6 hx (hb hby at_101) (q := 103) rfl rfl ?_
        refine gIload X6 hx (hb hby at_103) (q := 105) rfl rfl ?_
        refine gCallS X6 hx hZ hown (hw _ (List.mem_of_getElem? (i := 5) rfl)) (hw _ (List.mem_of_getElem? (i := 6) rfl)) (hw _ (List.mem_of_getElem? (i := 3) rfl)) (hw _ (List.mem_of_getElem? (i := 7) rfl)) (by decide) (rmMax l Z a0 hw [] u5 u10 h0 n0 Z0) (W := 0) (by decide) (by decide) e6 (by rw [hml]; rfl) [(.int u5), (.int u10)] (lenOf pd2 rfl) rfl (S := []) rfl (Nat.le_of_eq rfl) (hb hby at_105) (q := 108) rfl (by decide) (by decide) (fun r101 T101 M101 X101 q101 => ?_)
        obtain ⟨rfl, M101n, e101⟩ := q101
        have N102 := Fr.app N7 M101n
        dsimp only [Option.toList, List.cons_append, List.nil_append]
        refine gIstore X101 hx (hb hby at_108) (q := 110) rfl (L' := #[.val (.int x0), .val (.int x1), .val (.int x2), .val (.int x3), .val (.int x4), .val (.int u1), .val (.int u2), .val (.int u5), .val (.int u8), .val (.int u9), .val (.int u10), .val (.int u11), .val (.int u5), .val (.int (if u5 < u10 then u10 else u5)), .unset, .unset, .unset, .unset, .unset, .unset, .unset, .unset, .unset]) rfl ?_
        refine gGoto X101 hx (hb hby at_110) (q := 126) (by decide) (by decide) ?_
        exact J50_15 T101 _ X101 e101 N102 _ (by first | rfl | (simp only [if_neg c12, if_neg c95, if_pos c100]; done) | (simp only [if_neg c12, if_neg c95, if_pos c100]; done) | (simp only [if_neg c12, if_neg c95, if_pos c100, if_true, if_false]; done) | (exfalso; simp at c100; done)) _ (by first | rfl | (simp only [if_neg c12, if_neg c95, if_pos c100]; done) | (simp only [if_neg c12, if_neg c95, if_pos c100]; done) | (simp only [if_neg c12, if_neg c95, if_pos c100, if_true, if_false]; done) | (exfalso; simp at c100; done))
      · refine gIcmpY X6 hx (hb hby at_94) (q := 113) (by decide) (by decide) (XT.ii_ne_t c100) ?_
        refine gIload X6 hx (hb hby at_113) (q := 115) rfl rfl ?_
        refine gIstore X6 hx (hb hby at_115) (q := 117) rfl (L' := #[.val (.int x0), .val (.int x1), .val (.int x2), .val (.int x3), .val (.int x4), .val (.int u1), .val (.int u2), .val (.int u5), .val (.int u8), .val (.int u9), .val (.int u10), .val (.int u11), .unset, .val (.int u8), .unset, .unset, .unset, .unset, .unset, .unset, .unset, .unset, .unset]) rfl ?_
        refine gIload X6 hx (hb hby at_117) (q := 119) rfl rfl ?_
        refine gIload X6 hx (hb hby at_119) (q := 121) rfl rfl ?_
        refine gCallS X6 hx hZ hown (hw _ (List.mem_of_getElem? (i := 1) rfl)) (hw _ (List.mem_of_getElem? (i := 2) rfl)) (hw _ (List.mem_of_getElem? (i := 3) rfl)) (hw _ (List.mem_of_getElem? (i := 4) rfl)) (by decide) (rmMin l Z a0 hw [] u8 u9 h0 n0 Z0) (W := 0) (by decide) (by decide) e6 (by rw [hml]; rfl) [(.int u8), (.int u9)] (lenOf pd2 rfl) rfl (S := []) rfl (Nat.le_of_eq rfl) (hb hby at_121) (q := 124) rfl (by decide) (by decide) (fun r103 T103 M103 X103 q103 => ?_)
        obtain ⟨rfl, M103n, e103⟩ := q103
        have N104 := Fr.app N7 M103n
        dsimp only [Option.toList, List.cons_append, List.nil_append]
        refine gIstore X103 hx (hb hby at_124) (q := 126) rfl (L' := #[.val (.int x0), .val (.int x1), .val (.int x2), .val (.int x3), .val (.int x4), .val (.int u1), .val (.int u2), .val (.int u5), .val (.int u8), .val (.int u9), .val (.int u10), .val (.int u11), .val (.int (if u9 < u8 then u9 else u8)), .val (.int u8), .unset, .unset, .unset, .unset, .unset, .unset, .unset, .unset, .unset]) rfl ?_
        exact J50_15 T103 _ X103 e103 N104 _ (by first | rfl | (simp only [if_neg c12, if_neg c95, if_neg c100]; done) | (simp only [if_neg c12, if_neg c95, if_neg c100]; done) | (simp only [if_neg c12, if_neg c95, if_neg c100, if_true, if_false]; done) | (exfalso; simp at c100; done)) _ (by first | rfl | (simp only [if_neg c12, if_neg c95, if_neg c100]; done) | (simp only [if_neg c12, if_neg c95, if_neg c100]; done) | (simp only [if_neg c12, if_neg c95, if_neg c100, if_true, if_false]; done) | (exfalso; simp at c100; done))
set_option maxRecDepth 65536 in
set_option maxHeartbeats 40000000 in
theorem comes_1 {Post : Tables → Env → Array Value → State → Outcome → State → Prop} (hpost : ∀ tb e args s v u, (limb_1_1.after args s (.returned v) u = true ∧ limb_1_2.after args s (.returned v) u = true ∧ True) → FrameEnd s (.returned v) u (Jvm.fieldLocs frame_1_writes args s ++ Jvm.arrayLocs frame_1_arrays args s ++ Jvm.staticLocs frame_1_statics s) 16 128 → Post tb e args s (.returned v) u) :
    ArmFor flags0 classFile x code maxLocals ret World_1 tables_1 room_1 Calls_1 rest_1 Pre_1 Post := by
  intro l hfl _ _ p e ha hc hk s m args below hf hA hF happ hP
  obtain ⟨hcalls, hrest, hpre⟩ := hP
  obtain ⟨-, -, -, hnamed, -, -, -, hat⟩ := (Spec.applies_iff hf).mp happ
  obtain ⟨hg, hn⟩ := and_e (Cond.before_iff.mp (show (Jvm.Cond.and given_1 narrow_1).before args s = true from hpre))
  obtain ⟨hcount, hg⟩ := and_e hg
  obtain ⟨hk0, hg⟩ := and_e hg
  obtain ⟨hk1, hg⟩ := and_e hg
  obtain ⟨hk2, hg⟩ := and_e hg
  obtain ⟨hk3, hg⟩ := and_e hg
  have hk4 := hg
  obtain ⟨w0, w1, w2, w3, w4, rfl⟩ : ∃ w0 w1 w2 w3 w4 : Value, args = #[w0, w1, w2, w3, w4] := by
    have hs : args.size = 5 := by simpa [Cond.value, given_1] using hcount
    obtain ⟨L⟩ := args
    match L, hs with
    | [w0, w1, w2, w3, w4], _ => exact ⟨w0, w1, w2, w3, w4, rfl⟩
  have hw := fun d (hd : d ∈ tables_1) => atoms_spec (ws := Jvm.Cond.code x code maxLocals ret :: tables_1) hat d (List.mem_cons_of_mem _ hd)
  have hfit : Fit s := fun {y c} hc i hi => by
    obtain ⟨ha, rfl⟩ := Array.getElem?_eq_some_iff.mp hc
    have q := List.all_eq_true.mp ((Array.all_eq_true_iff_forall_mem.mp hF) _ (Array.getElem_mem ha)) i (List.mem_range.mpr hi)
    simpa [Array.getElem?_eq_getElem hi] using q
  obtain ⟨i0, hi0⟩ := is_v hk0
  obtain rfl : w0 = (.int i0) := Option.some.inj hi0
  obtain ⟨i1, hi1⟩ := is_v hk1
  obtain rfl : w1 = (.int i1) := Option.some.inj hi1
  obtain ⟨i2, hi2⟩ := is_v hk2
  obtain rfl : w2 = (.int i2) := Option.some.inj hi2
  obtain ⟨i3, hi3⟩ := is_v hk3
  obtain rfl : w3 = (.int i3) := Option.some.inj hi3
  obtain ⟨i4, hi4⟩ := is_v hk4
  obtain rfl : w4 = (.int i4) := Option.some.inj hi4
  obtain ⟨hsets, hown0⟩ := atoms_of _ (rest_1_c_eq ▸ (show rest_1_c.before _ s = true from hrest))
  obtain ⟨SH, rc, kc, vc, SC, AC, hlen, HC⟩ := own_cache hfit (hsets _ (List.mem_of_getElem? (i := 1) rfl)) (hsets _ (List.mem_of_getElem? (i := 3) rfl)) (hw _ (List.mem_of_getElem? (i := 33) rfl)) (hsets _ (List.mem_of_getElem? (i := 2) rfl)) (hsets _ (List.mem_of_getElem? (i := 4) rfl)) (hsets _ (List.mem_of_getElem? (i := 6) rfl)) (hsets _ (List.mem_of_getElem? (i := 7) rfl))
  obtain ⟨n, o, h1, h2, h3, _, L, rfl, ⟨rfl, N⟩, hq⟩ := rm0 l s _ hw tables_1 i0 i1 i2 i3 i4 rc kc vc s.heap s.heap.size (Nat.le_refl _) (Old.start s) SH SC AC hlen HC p e ha hc hk s m _ below hf ((Spec.applies_iff_loose hf).mp happ).1 ⟨rfl, State.Warmed39.refl s, rfl⟩ trivial
  refine ⟨n, _, h1, h2, h3, hpost _ _ _ _ _ _ ⟨Cond.after_iff.mpr rfl, Cond.after_iff.mpr (eq_i res_at (Term.int_eval (1)) rfl), trivial⟩ ⟨hq.1, hq.2.1, (hq.2.2.sift fun y hy => Or.inr (N y hy)).mono (by decide) (by decide)⟩⟩
theorem main_1_1 : Claimed_1_1 := comes_1 fun _ _ _ _ _ _ h hF => ⟨h.1, hF⟩
theorem main_1_2 : Claimed_1_2 := comes_1 fun _ _ _ _ _ _ h hF => ⟨h.2.1, hF⟩
end Jvm.Pilot.@@N@@
namespace Jvm.Pilot.@@N@@
open Jvm Jvm.ClassFile Sem Op Lib Jvm.Free Jvm.Stand Jvm.Pilot.@@N@@.Jvm.D
/-! MADE BY PROGRAM (witnessworld.py) out of the Statement's table words and the real class files: 17 classes; the members and pool entries that the words name. The judged class is class 1, her method 1. -/
namespace start1
open Jvm.ClassFile
def u (s : String) : CpInfo := .utf8 (stringToUtf16 s)
/-- a pool by its gaps: so many unusable entries, then the entry; so many at the end -/
def gap : Nat → List CpInfo → List CpInfo
  | 0, r => r
  | n + 1, r => .unusable :: gap n r
def poolList (es : List (Nat × CpInfo)) (last : Nat) : List CpInfo := es.foldr (fun e r => gap e.1 (e.2 :: r)) (gap last [])
def pool (es : List (Nat × CpInfo)) (last : Nat) : Array CpInfo := ⟨poolList es last⟩
def fileOf (pool : Array CpInfo) (this : Nat) (attrs : Array Attribute := #[]) (ms : Array MethodInfo := #[]) (fl : Nat := 33) (sup : Nat := 0) (ifs : Array Nat := #[]) (fds : Array FieldInfo := #[]) : ClassFile where
  minorVersion := 0
  majorVersion := 65
  constantPool := pool
  accessFlags := fl
  thisClass := this
  superClass := sup
  interfaces := ifs
  fields := fds
  methods := ms
  attributes := attrs
def plain (name : String) (sup : Option ClassId) : Class where
  name := name
  kind := .ordinary
  loader := none
  accessFlags := 33
  super := sup
  interfaces := #[]
  cf := none
  fields := #[]
  methods := #[]
  instanceTypes := #[]
  staticTypes := #[]
  resolved := #[]
  callSites := []
  init := .initialized
  statics := none
  mirror := none

def pool0 : Array CpInfo := pool [(5, u "<init>"), (0, u "()V"), (1, .class_ 10), (1, u "java/lang/Object")] 113

def k0c0 : Code := { maxStack := 0, maxLocals := 1, code := object_method_1_code, exceptionTable := #[], attributes := #[] }
def k0m0 : Method := { name := "<init>", desc := "()V", sig := { parameters := [], returnType := none }, accessFlags := 1, code := some k0c0 }
/-- java/lang/Object -/
def k0 : Class := { plain "java/lang/Object" none with
  accessFlags := 33
  interfaces := #[]
  cf := some (fileOf pool0 8 #[] #[{ accessFlags := 1, nameIndex := 5, descriptorIndex := 6, attributes := #[] }] 33 0 #[] #[])
  fields := #[]
  methods := #[k0m0]
  instanceTypes := #[]
  staticTypes := #[]
  resolved := Array.replicate 124 none
  statics := none }

def pool1 : Array CpInfo := pool [(2, .class_ 4), (1, u "java/lang/Object"), (0, u "<init>"), (0, u "()V"), (0, .integer 2147483647), (0, .methodref 9 10), (0, .class_ 11), (0, .nameAndType 12 13), (0, u "java/lang/Math"), (0, u "min"), (0, u "(II)I"), (0, .methodref 9 15), (0, .nameAndType 16 13), (0, u "max"), (0, .class_ 18), (0, u "com/example/libpalin/libpalin/Span"), (0, .methodref 17 20), (0, .nameAndType 5 21), (0, u "(II)V"), (0, .methodref 23 24), (0, .class_ 25), (0, .nameAndType 26 27), (0, u "java/lang/Integer"), (0, u "valueOf"), (0, u "(I)Ljava/lang/Integer;"), (0, .methodref 17 29), (0, .nameAndType 30 31), (0, u "equals"), (0, u "(Ljava/lang/Object;)Z"), (0, .class_ 33), (0, u "com/example/libpalin/libpalin/SpanEqualsPinLaw"), (2, u "law"), (0, u "(IIIII)Z")] 3

def k1m0 : Method := { name := "<init>", desc := "()V", sig := { parameters := [], returnType := none }, accessFlags := 1, code := none }
def k1c1 : Code := { maxStack := 4, maxLocals := 23, code := code, exceptionTable := #[], attributes := #[] }
def k1m1 : Method := { name := "law", desc := "(IIIII)Z", sig := { parameters := [.int, .int, .int, .int, .int], returnType := some .boolean }, accessFlags := 9, code := some k1c1 }
/-- com/example/libpalin/libpalin/SpanEqualsPinLaw -/
def k1 : Class := { plain "com/example/libpalin/libpalin/SpanEqualsPinLaw" (some 0) with
  accessFlags := 49
  interfaces := #[]
  cf := some (fileOf pool1 32 #[] #[{ accessFlags := 1, nameIndex := 5, descriptorIndex := 6, attributes := #[] }, { accessFlags := 9, nameIndex := 36, descriptorIndex := 37, attributes := #[] }] 49 2 #[] #[])
  fields := #[]
  methods := #[k1m0, k1m1]
  instanceTypes := #[]
  staticTypes := #[]
  resolved := Array.replicate 41 none
  statics := none }

def pool2 : Array CpInfo := pool [(1, .class_ 2), (0, u "java/lang/Math"), (1, .class_ 6), (1, u "java/lang/Object"), (0, u "<init>"), (0, u "()V"), (89, .class_ 100), (1, u "java/lang/Math$RandomNumberGeneratorHolder"), (71, u "negativeZeroFloatBits"), (0, u "J"), (2, u "negativeZeroDoubleBits"), (21, u "max"), (2, u "min"), (43, u "$assertionsDisabled"), (0, u "Z"), (88, u "(II)I"), (2, u "twoToTheDoubleScaleDown"), (0, u "D"), (4, u "twoToTheDoubleScaleUp"), (9, u "E"), (3, u "PI"), (2, u "TAU"), (2, u "DEGREES_TO_RADIANS"), (0, u "RADIANS_TO_DEGREES")] 94

def k2m0 : Method := { name := "<init>", desc := "()V", sig := { parameters := [], returnType := none }, accessFlags := 2, code := none }
def k2c1 : Code := { maxStack := 2, maxLocals := 2, code := jdk_29_method_65_code, exceptionTable := #[], attributes := #[] }
def k2m1 : Method := { name := "max", desc := "(II)I", sig := { parameters := [.int, .int], returnType := some .int }, accessFlags := 9, code := some k2c1 }
def k2c2 : Code := { maxStack := 2, maxLocals := 2, code := jdk_29_method_69_code, exceptionTable := #[], attributes := #[] }
def k2m2 : Method := { name := "min", desc := "(II)I", sig := { parameters := [.int, .int], returnType := some .int }, accessFlags := 9, code := some k2c2 }
/-- java/lang/Math -/
def k2 : Class := { plain "java/lang/Math" (some 0) with
  accessFlags := 49
  interfaces := #[]
  cf := some (fileOf pool2 1 #[.nestMembers #[98]] #[{ accessFlags := 2, nameIndex := 7, descriptorIndex := 8, attributes := #[] }, { accessFlags := 9, nameIndex := 198, descriptorIndex := 335, attributes := #[] }, { accessFlags := 9, nameIndex := 201, descriptorIndex := 335, attributes := #[] }] 49 4 #[] #[{ accessFlags := 25, nameIndex := 354, descriptorIndex := 339, attributes := #[] }, { accessFlags := 25, nameIndex := 358, descriptorIndex := 339, attributes := #[] }, { accessFlags := 25, nameIndex := 361, descriptorIndex := 339, attributes := #[] }, { accessFlags := 26, nameIndex := 364, descriptorIndex := 339, attributes := #[] }, { accessFlags := 26, nameIndex := 365, descriptorIndex := 339, attributes := #[] }, { accessFlags := 26, nameIndex := 172, descriptorIndex := 173, attributes := #[] }, { accessFlags := 26, nameIndex := 176, descriptorIndex := 173, attributes := #[] }, { accessFlags := 8, nameIndex := 344, descriptorIndex := 339, attributes := #[] }, { accessFlags := 8, nameIndex := 338, descriptorIndex := 339, attributes := #[] }, { accessFlags := 4120, nameIndex := 245, descriptorIndex := 246, attributes := #[] }])
  fields := #[{ name := "E", type := .double, accessFlags := 25, slot := 0, constantValue := 0 }, { name := "PI", type := .double, accessFlags := 25, slot := 1, constantValue := 0 }, { name := "TAU", type := .double, accessFlags := 25, slot := 2, constantValue := 0 }, { name := "DEGREES_TO_RADIANS", type := .double, accessFlags := 26, slot := 3, constantValue := 0 }, { name := "RADIANS_TO_DEGREES", type := .double, accessFlags := 26, slot := 4, constantValue := 0 }, { name := "negativeZeroFloatBits", type := .long, accessFlags := 26, slot := 5, constantValue := 0 }, { name := "negativeZeroDoubleBits", type := .long, accessFlags := 26, slot := 6, constantValue := 0 }, { name := "twoToTheDoubleScaleUp", type := .double, accessFlags := 8, slot := 7, constantValue := 0 }, { name := "twoToTheDoubleScaleDown", type := .double, accessFlags := 8, slot := 8, constantValue := 0 }, { name := "$assertionsDisabled", type := .boolean, accessFlags := 4120, slot := 9, constantValue := 0 }]
  methods := #[k2m0, k2m1, k2m2]
  instanceTypes := #[]
  staticTypes := #[.double, .double, .double, .double, .double, .long, .long, .double, .double, .boolean]
  resolved := Array.replicate 460 none
  statics := none }

def pool3 : Array CpInfo := pool [(1, .methodref 2 3), (0, .class_ 4), (0, .nameAndType 5 6), (0, u "java/lang/Object"), (0, u "<init>"), (0, u "()V"), (9, .fieldref 17 18), (0, .class_ 19), (0, .nameAndType 20 21), (0, u "com/example/libpalin/libpalin/Span"), (0, u "start"), (0, u "I"), (0, .fieldref 17 23), (0, .nameAndType 24 21), (0, u "end"), (1, u "(II)V"), (5, u "equals"), (0, u "(Ljava/lang/Object;)Z")] 22

def k3c0 : Code := { maxStack := 4, maxLocals := 3, code := prog_34_method_1_code, exceptionTable := #[], attributes := #[] }
def k3m0 : Method := { name := "<init>", desc := "(II)V", sig := { parameters := [.int, .int], returnType := none }, accessFlags := 1, code := some k3c0 }
def k3c1 : Code := { maxStack := 2, maxLocals := 3, code := prog_34_method_5_code, exceptionTable := #[], attributes := #[] }
def k3m1 : Method := { name := "equals", desc := "(Ljava/lang/Object;)Z", sig := { parameters := [(.object "java/lang/Object")], returnType := some .boolean }, accessFlags := 1, code := some k3c1 }
/-- com/example/libpalin/libpalin/Span -/
def k3 : Class := { plain "com/example/libpalin/libpalin/Span" (some 0) with
  accessFlags := 49
  interfaces := #[]
  cf := some (fileOf pool3 17 #[] #[{ accessFlags := 1, nameIndex := 5, descriptorIndex := 26, attributes := #[] }, { accessFlags := 1, nameIndex := 32, descriptorIndex := 33, attributes := #[] }] 49 2 #[] #[{ accessFlags := 18, nameIndex := 20, descriptorIndex := 21, attributes := #[] }, { accessFlags := 18, nameIndex := 24, descriptorIndex := 21, attributes := #[] }])
  fields := #[{ name := "start", type := .int, accessFlags := 18, slot := 0, constantValue := 0 }, { name := "end", type := .int, accessFlags := 18, slot := 1, constantValue := 0 }]
  methods := #[k3m0, k3m1]
  instanceTypes := #[.int, .int]
  staticTypes := #[]
  resolved := Array.replicate 56 none
  statics := none }

def pool4 : Array CpInfo := pool [(1, .class_ 2), (0, u "java/io/Serializable"), (0, .class_ 4), (0, u "java/lang/Object")] 2

/-- java/io/Serializable -/
def k4 : Class := { plain "java/io/Serializable" (some 0) with
  accessFlags := 1537
  interfaces := #[]
  cf := some (fileOf pool4 1 #[] #[] 1537 3 #[] #[])
  fields := #[]
  methods := #[]
  instanceTypes := #[]
  staticTypes := #[]
  resolved := Array.replicate 7 none
  statics := none }

def pool5 : Array CpInfo := pool [(1, .methodref 2 3), (0, .class_ 4), (0, .nameAndType 5 6), (0, u "java/lang/Object"), (0, u "<init>"), (0, u "()V"), (1, .class_ 10), (1, u "java/lang/Number"), (2, .class_ 14), (0, u "java/io/Serializable"), (0, u "serialVersionUID"), (0, u "J")] 20

def k5c0 : Code := { maxStack := 1, maxLocals := 1, code := jdk_18_method_1_code, exceptionTable := #[], attributes := #[] }
def k5m0 : Method := { name := "<init>", desc := "()V", sig := { parameters := [], returnType := none }, accessFlags := 1, code := some k5c0 }
/-- java/lang/Number -/
def k5 : Class := { plain "java/lang/Number" (some 0) with
  accessFlags := 1057
  interfaces := #[4]
  cf := some (fileOf pool5 8 #[] #[{ accessFlags := 1, nameIndex := 5, descriptorIndex := 6, attributes := #[] }] 1057 2 #[13] #[{ accessFlags := 26, nameIndex := 15, descriptorIndex := 16, attributes := #[] }])
  fields := #[{ name := "serialVersionUID", type := .long, accessFlags := 26, slot := 0, constantValue := 0 }]
  methods := #[k5m0]
  instanceTypes := #[]
  staticTypes := #[.long]
  resolved := Array.replicate 37 none
  statics := none }

def pool6 : Array CpInfo := pool [(1, .class_ 2), (0, u "java/lang/Comparable"), (0, .class_ 4), (0, u "java/lang/Object")] 7

/-- java/lang/Comparable -/
def k6 : Class := { plain "java/lang/Comparable" (some 0) with
  accessFlags := 1537
  interfaces := #[]
  cf := some (fileOf pool6 1 #[] #[] 1537 3 #[] #[])
  fields := #[]
  methods := #[]
  instanceTypes := #[]
  staticTypes := #[]
  resolved := Array.replicate 12 none
  statics := none }

def pool7 : Array CpInfo := pool [(1, .class_ 2), (0, u "java/lang/constant/Constable"), (0, .class_ 4), (0, u "java/lang/Object")] 6

/-- java/lang/constant/Constable -/
def k7 : Class := { plain "java/lang/constant/Constable" (some 0) with
  accessFlags := 1537
  interfaces := #[]
  cf := some (fileOf pool7 1 #[] #[] 1537 3 #[] #[])
  fields := #[]
  methods := #[]
  instanceTypes := #[]
  staticTypes := #[]
  resolved := Array.replicate 11 none
  statics := none }

def pool8 : Array CpInfo := pool [(1, .class_ 2), (0, u "java/lang/constant/ConstantDesc"), (0, .class_ 4), (0, u "java/lang/Object")] 32

/-- java/lang/constant/ConstantDesc -/
def k8 : Class := { plain "java/lang/constant/ConstantDesc" (some 0) with
  accessFlags := 1537
  interfaces := #[]
  cf := some (fileOf pool8 1 #[] #[] 1537 3 #[] #[])
  fields := #[]
  methods := #[]
  instanceTypes := #[]
  staticTypes := #[]
  resolved := Array.replicate 37 none
  statics := none }

def pool9 : Array CpInfo := pool [(1, .class_ 2), (0, u "java/lang/Integer"), (16, u "digits"), (0, u "[C"), (46, u "<init>"), (17, u "DigitOnes"), (0, u "[B"), (2, u "DigitTens"), (10, .nameAndType 67 101), (0, u "()V"), (85, u "valueOf"), (0, u "(I)Ljava/lang/Integer;"), (0, .class_ 190), (0, u "java/lang/Integer$IntegerCache"), (0, .fieldref 189 192), (0, .nameAndType 193 194), (0, u "high"), (0, u "I"), (0, .fieldref 189 196), (0, .nameAndType 197 198), (0, u "cache"), (0, u "[Ljava/lang/Integer;"), (0, .methodref 1 200), (0, .nameAndType 67 201), (0, u "(I)V"), (0, .methodref 203 100), (0, .class_ 204), (0, u "java/lang/Number"), (0, .fieldref 1 206), (0, .nameAndType 207 194), (0, u "value"), (94, u "TYPE"), (0, u "Ljava/lang/Class;"), (0, .class_ 305), (0, u "java/lang/Comparable"), (0, .class_ 307), (0, u "java/lang/constant/Constable"), (0, .class_ 309), (0, u "java/lang/constant/ConstantDesc"), (0, u "MIN_VALUE"), (1, u "MAX_VALUE"), (3, u "SIZE"), (1, u "BYTES"), (1, u "serialVersionUID"), (0, u "J")] 131

def k9c0 : Code := { maxStack := 3, maxLocals := 1, code := jdk_33_method_22_code, exceptionTable := #[], attributes := #[] }
def k9m0 : Method := { name := "valueOf", desc := "(I)Ljava/lang/Integer;", sig := { parameters := [.int], returnType := some (.object "java/lang/Integer") }, accessFlags := 9, code := some k9c0 }
def k9c1 : Code := { maxStack := 2, maxLocals := 2, code := jdk_33_method_23_code, exceptionTable := #[], attributes := #[] }
def k9m1 : Method := { name := "<init>", desc := "(I)V", sig := { parameters := [.int], returnType := none }, accessFlags := 1, code := some k9c1 }
/-- java/lang/Integer -/
def k9 : Class := { plain "java/lang/Integer" (some 5) with
  accessFlags := 49
  interfaces := #[6, 7, 8]
  cf := some (fileOf pool9 1 #[.nestMembers #[189]] #[{ accessFlags := 9, nameIndex := 187, descriptorIndex := 188, attributes := #[] }, { accessFlags := 1, nameIndex := 67, descriptorIndex := 201, attributes := #[] }] 49 203 #[304, 306, 308] #[{ accessFlags := 25, nameIndex := 310, descriptorIndex := 194, attributes := #[] }, { accessFlags := 25, nameIndex := 312, descriptorIndex := 194, attributes := #[] }, { accessFlags := 25, nameIndex := 302, descriptorIndex := 303, attributes := #[] }, { accessFlags := 24, nameIndex := 19, descriptorIndex := 20, attributes := #[] }, { accessFlags := 24, nameIndex := 89, descriptorIndex := 86, attributes := #[] }, { accessFlags := 24, nameIndex := 85, descriptorIndex := 86, attributes := #[] }, { accessFlags := 18, nameIndex := 207, descriptorIndex := 194, attributes := #[] }, { accessFlags := 25, nameIndex := 316, descriptorIndex := 194, attributes := #[] }, { accessFlags := 25, nameIndex := 318, descriptorIndex := 194, attributes := #[] }, { accessFlags := 26, nameIndex := 320, descriptorIndex := 321, attributes := #[] }])
  fields := #[{ name := "MIN_VALUE", type := .int, accessFlags := 25, slot := 0, constantValue := 0 }, { name := "MAX_VALUE", type := .int, accessFlags := 25, slot := 1, constantValue := 0 }, { name := "TYPE", type := (.object "java/lang/Class"), accessFlags := 25, slot := 2, constantValue := 0 }, { name := "digits", type := (.array .char), accessFlags := 24, slot := 3, constantValue := 0 }, { name := "DigitTens", type := (.array .byte), accessFlags := 24, slot := 4, constantValue := 0 }, { name := "DigitOnes", type := (.array .byte), accessFlags := 24, slot := 5, constantValue := 0 }, { name := "value", type := .int, accessFlags := 18, slot := 0, constantValue := 0 }, { name := "SIZE", type := .int, accessFlags := 25, slot := 6, constantValue := 0 }, { name := "BYTES", type := .int, accessFlags := 25, slot := 7, constantValue := 0 }, { name := "serialVersionUID", type := .long, accessFlags := 26, slot := 8, constantValue := 0 }]
  methods := #[k9m0, k9m1]
  instanceTypes := #[.int]
  staticTypes := #[.int, .int, (.object "java/lang/Class"), (.array .char), (.array .byte), (.array .byte), .int, .int, .long]
  resolved := Array.replicate 453 none
  statics := none }

def pool10 : Array CpInfo := pool [(2, .class_ 4), (1, u "java/lang/Object"), (0, u "<init>"), (0, u "()V"), (0, .class_ 8), (0, u "java/lang/Integer"), (7, .class_ 18), (1, u "java/lang/Integer$IntegerCache"), (0, u "$assertionsDisabled"), (0, u "Z"), (26, u "high"), (0, u "I"), (8, u "archivedCache"), (0, u "[Ljava/lang/Integer;"), (12, u "cache"), (0, u "low")] 27

def k10m0 : Method := { name := "<init>", desc := "()V", sig := { parameters := [], returnType := none }, accessFlags := 2, code := none }
/-- java/lang/Integer$IntegerCache -/
def k10 : Class := { plain "java/lang/Integer$IntegerCache" (some 0) with
  accessFlags := 48
  interfaces := #[]
  cf := some (fileOf pool10 16 #[.nestHost 7] #[{ accessFlags := 2, nameIndex := 5, descriptorIndex := 6, attributes := #[] }] 48 2 #[] #[{ accessFlags := 24, nameIndex := 72, descriptorIndex := 48, attributes := #[] }, { accessFlags := 24, nameIndex := 47, descriptorIndex := 48, attributes := #[] }, { accessFlags := 24, nameIndex := 71, descriptorIndex := 58, attributes := #[] }, { accessFlags := 8, nameIndex := 57, descriptorIndex := 58, attributes := #[] }, { accessFlags := 4120, nameIndex := 19, descriptorIndex := 20, attributes := #[] }])
  fields := #[{ name := "low", type := .int, accessFlags := 24, slot := 0, constantValue := 0 }, { name := "high", type := .int, accessFlags := 24, slot := 1, constantValue := 0 }, { name := "cache", type := (.array (.object "java/lang/Integer")), accessFlags := 24, slot := 2, constantValue := 0 }, { name := "archivedCache", type := (.array (.object "java/lang/Integer")), accessFlags := 8, slot := 3, constantValue := 0 }, { name := "$assertionsDisabled", type := .boolean, accessFlags := 4120, slot := 4, constantValue := 0 }]
  methods := #[k10m0]
  instanceTypes := #[]
  staticTypes := #[.int, .int, (.array (.object "java/lang/Integer")), (.array (.object "java/lang/Integer")), .boolean]
  resolved := Array.replicate 100 none
  statics := some 0 }

def pool11 : Array CpInfo := pool [(1, u "java/lang/Cloneable"), (0, .class_ 1), (0, u "java/lang/Object"), (0, .class_ 3)] 3

/-- java/lang/Cloneable -/
def k11 : Class := { plain "java/lang/Cloneable" (some 0) with
  accessFlags := 1537
  interfaces := #[]
  cf := some (fileOf pool11 2 #[] #[] 1537 4 #[] #[])
  fields := #[]
  methods := #[]
  instanceTypes := #[]
  staticTypes := #[]
  resolved := Array.replicate 8 none
  statics := none }

/-- the primitive byte -/
def k12 : Class := { plain "byte" none with kind := .primitive 'B', accessFlags := 0x411 }
/-- [B -/
def k13 : Class := { plain "[B" (some 0) with kind := .array 12 .byte, interfaces := #[11, 4], accessFlags := 1041 }

/-- the primitive int -/
def k14 : Class := { plain "int" none with kind := .primitive 'I', accessFlags := 0x411 }
/-- [I -/
def k15 : Class := { plain "[I" (some 0) with kind := .array 14 .int, interfaces := #[11, 4], accessFlags := 1041 }

/-- [Ljava/lang/Integer; -/
def k16 : Class := { plain "[Ljava/lang/Integer;" (some 0) with kind := .array 9 (.object "java/lang/Integer"), interfaces := #[11, 4], accessFlags := 1041 }

def heap : Heap := #[{ cls := 10, slots := #[.int 0, .int 127, .ref 1, .null, .int 0], vm := .statics 10 },
  { cls := 16, slots := #[.ref 2, .ref 3, .ref 4, .ref 5, .ref 6, .ref 7, .ref 8, .ref 9, .ref 10, .ref 11, .ref 12, .ref 13, .ref 14, .ref 15, .ref 16, .ref 17, .ref 18, .ref 19, .ref 20, .ref 21, .ref 22, .ref 23, .ref 24, .ref 25, .ref 26, .ref 27, .ref 28, .ref 29, .ref 30, .ref 31, .ref 32, .ref 33, .ref 34, .ref 35, .ref 36, .ref 37, .ref 38, .ref 39, .ref 40, .ref 41, .ref 42, .ref 43, .ref 44, .ref 45, .ref 46, .ref 47, .ref 48, .ref 49, .ref 50, .ref 51, .ref 52, .ref 53, .ref 54, .ref 55, .ref 56, .ref 57, .ref 58, .ref 59, .ref 60, .ref 61, .ref 62, .ref 63, .ref 64, .ref 65, .ref 66, .ref 67, .ref 68, .ref 69, .ref 70, .ref 71, .ref 72, .ref 73, .ref 74, .ref 75, .ref 76, .ref 77, .ref 78, .ref 79, .ref 80, .ref 81, .ref 82, .ref 83, .ref 84, .ref 85, .ref 86, .ref 87, .ref 88, .ref 89, .ref 90, .ref 91, .ref 92, .ref 93, .ref 94, .ref 95, .ref 96, .ref 97, .ref 98, .ref 99, .ref 100, .ref 101, .ref 102, .ref 103, .ref 104, .ref 105, .ref 106, .ref 107, .ref 108, .ref 109, .ref 110, .ref 111, .ref 112, .ref 113, .ref 114, .ref 115, .ref 116, .ref 117, .ref 118, .ref 119, .ref 120, .ref 121, .ref 122, .ref 123, .ref 124, .ref 125, .ref 126, .ref 127, .ref 128, .ref 129, .ref 130, .ref 131, .ref 132, .ref 133, .ref 134, .ref 135, .ref 136, .ref 137, .ref 138, .ref 139, .ref 140, .ref 141, .ref 142, .ref 143, .ref 144, .ref 145, .ref 146, .ref 147, .ref 148, .ref 149, .ref 150, .ref 151, .ref 152, .ref 153, .ref 154, .ref 155, .ref 156, .ref 157, .ref 158, .ref 159, .ref 160, .ref 161, .ref 162, .ref 163, .ref 164, .ref 165, .ref 166, .ref 167, .ref 168, .ref 169, .ref 170, .ref 171, .ref 172, .ref 173, .ref 174, .ref 175, .ref 176, .ref 177, .ref 178, .ref 179, .ref 180, .ref 181, .ref 182, .ref 183, .ref 184, .ref 185, .ref 186, .ref 187, .ref 188, .ref 189, .ref 190, .ref 191, .ref 192, .ref 193, .ref 194, .ref 195, .ref 196, .ref 197, .ref 198, .ref 199, .ref 200, .ref 201, .ref 202, .ref 203, .ref 204, .ref 205, .ref 206, .ref 207, .ref 208, .ref 209, .ref 210, .ref 211, .ref 212, .ref 213, .ref 214, .ref 215, .ref 216, .ref 217, .ref 218, .ref 219, .ref 220, .ref 221, .ref 222, .ref 223, .ref 224, .ref 225, .ref 226, .ref 227, .ref 228, .ref 229, .ref 230, .ref 231, .ref 232, .ref 233, .ref 234, .ref 235, .ref 236, .ref 237, .ref 238, .ref 239, .ref 240, .ref 241, .ref 242, .ref 243, .ref 244, .ref 245, .ref 246, .ref 247, .ref 248, .ref 249, .ref 250, .ref 251, .ref 252, .ref 253, .ref 254, .ref 255, .ref 256, .ref 257], vm := .none },
  { cls := 9, slots := #[.int (-128)], vm := .none },
  { cls := 9, slots := #[.int (-127)], vm := .none },
  { cls := 9, slots := #[.int (-126)], vm := .none },
  { cls := 9, slots := #[.int (-125)], vm := .none },
  { cls := 9, slots := #[.int (-124)], vm := .none },
  { cls := 9, slots := #[.int (-123)], vm := .none },
  { cls := 9, slots := #[.int (-122)], vm := .none },
  { cls := 9, slots := #[.int (-121)], vm := .none },
  { cls := 9, slots := #[.int (-120)], vm := .none },
  { cls := 9, slots := #[.int (-119)], vm := .none },
  { cls := 9, slots := #[.int (-118)], vm := .none },
  { cls := 9, slots := #[.int (-117)], vm := .none },
  { cls := 9, slots := #[.int (-116)], vm := .none },
  { cls := 9, slots := #[.int (-115)], vm := .none },
  { cls := 9, slots := #[.int (-114)], vm := .none },
  { cls := 9, slots := #[.int (-113)], vm := .none },
  { cls := 9, slots := #[.int (-112)], vm := .none },
  { cls := 9, slots := #[.int (-111)], vm := .none },
  { cls := 9, slots := #[.int (-110)], vm := .none },
  { cls := 9, slots := #[.int (-109)], vm := .none },
  { cls := 9, slots := #[.int (-108)], vm := .none },
  { cls := 9, slots := #[.int (-107)], vm := .none },
  { cls := 9, slots := #[.int (-106)], vm := .none },
  { cls := 9, slots := #[.int (-105)], vm := .none },
  { cls := 9, slots := #[.int (-104)], vm := .none },
  { cls := 9, slots := #[.int (-103)], vm := .none },
  { cls := 9, slots := #[.int (-102)], vm := .none },
  { cls := 9, slots := #[.int (-101)], vm := .none },
  { cls := 9, slots := #[.int (-100)], vm := .none },
  { cls := 9, slots := #[.int (-99)], vm := .none },
  { cls := 9, slots := #[.int (-98)], vm := .none },
  { cls := 9, slots := #[.int (-97)], vm := .none },
  { cls := 9, slots := #[.int (-96)], vm := .none },
  { cls := 9, slots := #[.int (-95)], vm := .none },
  { cls := 9, slots := #[.int (-94)], vm := .none },
  { cls := 9, slots := #[.int (-93)], vm := .none },
  { cls := 9, slots := #[.int (-92)], vm := .none },
  { cls := 9, slots := #[.int (-91)], vm := .none },
  { cls := 9, slots := #[.int (-90)], vm := .none },
  { cls := 9, slots := #[.int (-89)], vm := .none },
  { cls := 9, slots := #[.int (-88)], vm := .none },
  { cls := 9, slots := #[.int (-87)], vm := .none },
  { cls := 9, slots := #[.int (-86)], vm := .none },
  { cls := 9, slots := #[.int (-85)], vm := .none },
  { cls := 9, slots := #[.int (-84)], vm := .none },
  { cls := 9, slots := #[.int (-83)], vm := .none },
  { cls := 9, slots := #[.int (-82)], vm := .none },
  { cls := 9, slots := #[.int (-81)], vm := .none },
  { cls := 9, slots := #[.int (-80)], vm := .none },
  { cls := 9, slots := #[.int (-79)], vm := .none },
  { cls := 9, slots := #[.int (-78)], vm := .none },
  { cls := 9, slots := #[.int (-77)], vm := .none },
  { cls := 9, slots := #[.int (-76)], vm := .none },
  { cls := 9, slots := #[.int (-75)], vm := .none },
  { cls := 9, slots := #[.int (-74)], vm := .none },
  { cls := 9, slots := #[.int (-73)], vm := .none },
  { cls := 9, slots := #[.int (-72)], vm := .none },
  { cls := 9, slots := #[.int (-71)], vm := .none },
  { cls := 9, slots := #[.int (-70)], vm := .none },
  { cls := 9, slots := #[.int (-69)], vm := .none },
  { cls := 9, slots := #[.int (-68)], vm := .none },
  { cls := 9, slots := #[.int (-67)], vm := .none },
  { cls := 9, slots := #[.int (-66)], vm := .none },
  { cls := 9, slots := #[.int (-65)], vm := .none },
  { cls := 9, slots := #[.int (-64)], vm := .none },
  { cls := 9, slots := #[.int (-63)], vm := .none },
  { cls := 9, slots := #[.int (-62)], vm := .none },
  { cls := 9, slots := #[.int (-61)], vm := .none },
  { cls := 9, slots := #[.int (-60)], vm := .none },
  { cls := 9, slots := #[.int (-59)], vm := .none },
  { cls := 9, slots := #[.int (-58)], vm := .none },
  { cls := 9, slots := #[.int (-57)], vm := .none },
  { cls := 9, slots := #[.int (-56)], vm := .none },
  { cls := 9, slots := #[.int (-55)], vm := .none },
  { cls := 9, slots := #[.int (-54)], vm := .none },
  { cls := 9, slots := #[.int (-53)], vm := .none },
  { cls := 9, slots := #[.int (-52)], vm := .none },
  { cls := 9, slots := #[.int (-51)], vm := .none },
  { cls := 9, slots := #[.int (-50)], vm := .none },
  { cls := 9, slots := #[.int (-49)], vm := .none },
  { cls := 9, slots := #[.int (-48)], vm := .none },
  { cls := 9, slots := #[.int (-47)], vm := .none },
  { cls := 9, slots := #[.int (-46)], vm := .none },
  { cls := 9, slots := #[.int (-45)], vm := .none },
  { cls := 9, slots := #[.int (-44)], vm := .none },
  { cls := 9, slots := #[.int (-43)], vm := .none },
  { cls := 9, slots := #[.int (-42)], vm := .none },
  { cls := 9, slots := #[.int (-41)], vm := .none },
  { cls := 9, slots := #[.int (-40)], vm := .none },
  { cls := 9, slots := #[.int (-39)], vm := .none },
  { cls := 9, slots := #[.int (-38)], vm := .none },
  { cls := 9, slots := #[.int (-37)], vm := .none },
  { cls := 9, slots := #[.int (-36)], vm := .none },
  { cls := 9, slots := #[.int (-35)], vm := .none },
  { cls := 9, slots := #[.int (-34)], vm := .none },
  { cls := 9, slots := #[.int (-33)], vm := .none },
  { cls := 9, slots := #[.int (-32)], vm := .none },
  { cls := 9, slots := #[.int (-31)], vm := .none },
  { cls := 9, slots := #[.int (-30)], vm := .none },
  { cls := 9, slots := #[.int (-29)], vm := .none },
  { cls := 9, slots := #[.int (-28)], vm := .none },
  { cls := 9, slots := #[.int (-27)], vm := .none },
  { cls := 9, slots := #[.int (-26)], vm := .none },
  { cls := 9, slots := #[.int (-25)], vm := .none },
  { cls := 9, slots := #[.int (-24)], vm := .none },
  { cls := 9, slots := #[.int (-23)], vm := .none },
  { cls := 9, slots := #[.int (-22)], vm := .none },
  { cls := 9, slots := #[.int (-21)], vm := .none },
  { cls := 9, slots := #[.int (-20)], vm := .none },
  { cls := 9, slots := #[.int (-19)], vm := .none },
  { cls := 9, slots := #[.int (-18)], vm := .none },
  { cls := 9, slots := #[.int (-17)], vm := .none },
  { cls := 9, slots := #[.int (-16)], vm := .none },
  { cls := 9, slots := #[.int (-15)], vm := .none },
  { cls := 9, slots := #[.int (-14)], vm := .none },
  { cls := 9, slots := #[.int (-13)], vm := .none },
  { cls := 9, slots := #[.int (-12)], vm := .none },
  { cls := 9, slots := #[.int (-11)], vm := .none },
  { cls := 9, slots := #[.int (-10)], vm := .none },
  { cls := 9, slots := #[.int (-9)], vm := .none },
  { cls := 9, slots := #[.int (-8)], vm := .none },
  { cls := 9, slots := #[.int (-7)], vm := .none },
  { cls := 9, slots := #[.int (-6)], vm := .none },
  { cls := 9, slots := #[.int (-5)], vm := .none },
  { cls := 9, slots := #[.int (-4)], vm := .none },
  { cls := 9, slots := #[.int (-3)], vm := .none },
  { cls := 9, slots := #[.int (-2)], vm := .none },
  { cls := 9, slots := #[.int (-1)], vm := .none },
  { cls := 9, slots := #[.int 0], vm := .none },
  { cls := 9, slots := #[.int 1], vm := .none },
  { cls := 9, slots := #[.int 2], vm := .none },
  { cls := 9, slots := #[.int 3], vm := .none },
  { cls := 9, slots := #[.int 4], vm := .none },
  { cls := 9, slots := #[.int 5], vm := .none },
  { cls := 9, slots := #[.int 6], vm := .none },
  { cls := 9, slots := #[.int 7], vm := .none },
  { cls := 9, slots := #[.int 8], vm := .none },
  { cls := 9, slots := #[.int 9], vm := .none },
  { cls := 9, slots := #[.int 10], vm := .none },
  { cls := 9, slots := #[.int 11], vm := .none },
  { cls := 9, slots := #[.int 12], vm := .none },
  { cls := 9, slots := #[.int 13], vm := .none },
  { cls := 9, slots := #[.int 14], vm := .none },
  { cls := 9, slots := #[.int 15], vm := .none },
  { cls := 9, slots := #[.int 16], vm := .none },
  { cls := 9, slots := #[.int 17], vm := .none },
  { cls := 9, slots := #[.int 18], vm := .none },
  { cls := 9, slots := #[.int 19], vm := .none },
  { cls := 9, slots := #[.int 20], vm := .none },
  { cls := 9, slots := #[.int 21], vm := .none },
  { cls := 9, slots := #[.int 22], vm := .none },
  { cls := 9, slots := #[.int 23], vm := .none },
  { cls := 9, slots := #[.int 24], vm := .none },
  { cls := 9, slots := #[.int 25], vm := .none },
  { cls := 9, slots := #[.int 26], vm := .none },
  { cls := 9, slots := #[.int 27], vm := .none },
  { cls := 9, slots := #[.int 28], vm := .none },
  { cls := 9, slots := #[.int 29], vm := .none },
  { cls := 9, slots := #[.int 30], vm := .none },
  { cls := 9, slots := #[.int 31], vm := .none },
  { cls := 9, slots := #[.int 32], vm := .none },
  { cls := 9, slots := #[.int 33], vm := .none },
  { cls := 9, slots := #[.int 34], vm := .none },
  { cls := 9, slots := #[.int 35], vm := .none },
  { cls := 9, slots := #[.int 36], vm := .none },
  { cls := 9, slots := #[.int 37], vm := .none },
  { cls := 9, slots := #[.int 38], vm := .none },
  { cls := 9, slots := #[.int 39], vm := .none },
  { cls := 9, slots := #[.int 40], vm := .none },
  { cls := 9, slots := #[.int 41], vm := .none },
  { cls := 9, slots := #[.int 42], vm := .none },
  { cls := 9, slots := #[.int 43], vm := .none },
  { cls := 9, slots := #[.int 44], vm := .none },
  { cls := 9, slots := #[.int 45], vm := .none },
  { cls := 9, slots := #[.int 46], vm := .none },
  { cls := 9, slots := #[.int 47], vm := .none },
  { cls := 9, slots := #[.int 48], vm := .none },
  { cls := 9, slots := #[.int 49], vm := .none },
  { cls := 9, slots := #[.int 50], vm := .none },
  { cls := 9, slots := #[.int 51], vm := .none },
  { cls := 9, slots := #[.int 52], vm := .none },
  { cls := 9, slots := #[.int 53], vm := .none },
  { cls := 9, slots := #[.int 54], vm := .none },
  { cls := 9, slots := #[.int 55], vm := .none },
  { cls := 9, slots := #[.int 56], vm := .none },
  { cls := 9, slots := #[.int 57], vm := .none },
  { cls := 9, slots := #[.int 58], vm := .none },
  { cls := 9, slots := #[.int 59], vm := .none },
  { cls := 9, slots := #[.int 60], vm := .none },
  { cls := 9, slots := #[.int 61], vm := .none },
  { cls := 9, slots := #[.int 62], vm := .none },
  { cls := 9, slots := #[.int 63], vm := .none },
  { cls := 9, slots := #[.int 64], vm := .none },
  { cls := 9, slots := #[.int 65], vm := .none },
  { cls := 9, slots := #[.int 66], vm := .none },
  { cls := 9, slots := #[.int 67], vm := .none },
  { cls := 9, slots := #[.int 68], vm := .none },
  { cls := 9, slots := #[.int 69], vm := .none },
  { cls := 9, slots := #[.int 70], vm := .none },
  { cls := 9, slots := #[.int 71], vm := .none },
  { cls := 9, slots := #[.int 72], vm := .none },
  { cls := 9, slots := #[.int 73], vm := .none },
  { cls := 9, slots := #[.int 74], vm := .none },
  { cls := 9, slots := #[.int 75], vm := .none },
  { cls := 9, slots := #[.int 76], vm := .none },
  { cls := 9, slots := #[.int 77], vm := .none },
  { cls := 9, slots := #[.int 78], vm := .none },
  { cls := 9, slots := #[.int 79], vm := .none },
  { cls := 9, slots := #[.int 80], vm := .none },
  { cls := 9, slots := #[.int 81], vm := .none },
  { cls := 9, slots := #[.int 82], vm := .none },
  { cls := 9, slots := #[.int 83], vm := .none },
  { cls := 9, slots := #[.int 84], vm := .none },
  { cls := 9, slots := #[.int 85], vm := .none },
  { cls := 9, slots := #[.int 86], vm := .none },
  { cls := 9, slots := #[.int 87], vm := .none },
  { cls := 9, slots := #[.int 88], vm := .none },
  { cls := 9, slots := #[.int 89], vm := .none },
  { cls := 9, slots := #[.int 90], vm := .none },
  { cls := 9, slots := #[.int 91], vm := .none },
  { cls := 9, slots := #[.int 92], vm := .none },
  { cls := 9, slots := #[.int 93], vm := .none },
  { cls := 9, slots := #[.int 94], vm := .none },
  { cls := 9, slots := #[.int 95], vm := .none },
  { cls := 9, slots := #[.int 96], vm := .none },
  { cls := 9, slots := #[.int 97], vm := .none },
  { cls := 9, slots := #[.int 98], vm := .none },
  { cls := 9, slots := #[.int 99], vm := .none },
  { cls := 9, slots := #[.int 100], vm := .none },
  { cls := 9, slots := #[.int 101], vm := .none },
  { cls := 9, slots := #[.int 102], vm := .none },
  { cls := 9, slots := #[.int 103], vm := .none },
  { cls := 9, slots := #[.int 104], vm := .none },
  { cls := 9, slots := #[.int 105], vm := .none },
  { cls := 9, slots := #[.int 106], vm := .none },
  { cls := 9, slots := #[.int 107], vm := .none },
  { cls := 9, slots := #[.int 108], vm := .none },
  { cls := 9, slots := #[.int 109], vm := .none },
  { cls := 9, slots := #[.int 110], vm := .none },
  { cls := 9, slots := #[.int 111], vm := .none },
  { cls := 9, slots := #[.int 112], vm := .none },
  { cls := 9, slots := #[.int 113], vm := .none },
  { cls := 9, slots := #[.int 114], vm := .none },
  { cls := 9, slots := #[.int 115], vm := .none },
  { cls := 9, slots := #[.int 116], vm := .none },
  { cls := 9, slots := #[.int 117], vm := .none },
  { cls := 9, slots := #[.int 118], vm := .none },
  { cls := 9, slots := #[.int 119], vm := .none },
  { cls := 9, slots := #[.int 120], vm := .none },
  { cls := 9, slots := #[.int 121], vm := .none },
  { cls := 9, slots := #[.int 122], vm := .none },
  { cls := 9, slots := #[.int 123], vm := .none },
  { cls := 9, slots := #[.int 124], vm := .none },
  { cls := 9, slots := #[.int 125], vm := .none },
  { cls := 9, slots := #[.int 126], vm := .none },
  { cls := 9, slots := #[.int 127], vm := .none }]
def classes : Array Class := #[k0, k1, k2, k3, k4, k5, k6, k7, k8, k9, k10, k11, k12, k13, k14, k15, k16]
def interned : List (Array UInt16 × Addr) := []
def slotsUsed : Nat := 517
def theMethod : MethodId := ⟨1, 1⟩
def args0 : Array Value := #[.int 5, .int 3, .int 7, .int 2, .int 1]
def aboutOver (below : List Frame) : State where
  vm := { classes := classes, interned := interned.toArray }
  heap := heap
  slotsUsed := slotsUsed
  threads := #[{ frames := .invoking theMethod args0 :: below }]
def below0 : List Frame := [.native { method := ⟨0, 0⟩, args := #[] }]
def about1 : State := aboutOver below0
def p0 : Program := .bare "" "" ""
def e0 : Env := launch0.env 0 0 0
theorem w_frames : about1.frames = Frame.invoking theMethod args0 :: below0 := rfl
set_option maxRecDepth 65536 in
theorem w_args : argsFit about1.vm theMethod args0 = true := by decide +kernel
set_option maxRecDepth 65536 in
theorem w_heap : heapFits about1 = true := by decide +kernel
set_option maxRecDepth 65536 in
theorem w_runnable : about1.curStatus? = some .runnable := by decide +kernel
set_option maxRecDepth 65536 in
theorem w_alone : about1.alone = true := by decide +kernel
set_option maxRecDepth 65536 in
theorem w_named : about1.methodNamed? x = some theMethod := by decide +kernel
set_option maxRecDepth 65536 in
theorem w_hears : about1.hears theMethod below0 = true := by decide +kernel
set_option maxRecDepth 65536 in
theorem w_ripe : about1.ripe theMethod args0 below0 = true := by decide +kernel
theorem w_running : about1.status = .running := rfl
set_option maxRecDepth 65536 in
theorem w_room : about1.hasRoom e0.platform room_1 = true :=
  launch0.hasRoom_least _ room_1 (by decide +kernel) (by decide +kernel) (by decide +kernel) (by decide +kernel) (by decide +kernel) (by decide +kernel)
theorem allAtoms_all (ts : List Jvm.Cond) (a : Array Jvm.Value) (st : Jvm.State) : (allAtoms ts).before a st = ts.all (fun c => c.before a st) := by
  induction ts with
  | nil => rfl
  | cons c t ih =>
    show (Jvm.Cond.and c (allAtoms t)).before a st = _
    rw [Jvm.Cond.before_and, ih, List.all_cons]
def words1 : List Jvm.Cond := Jvm.Cond.code x code maxLocals ret :: tables_1
/-- a 'code' word, met by the world's own term for the bytes: nothing is compared byte by byte -/
theorem code_word {y : MethodName} {bytes : ByteArray} {mx : Nat} {rt : Option FieldType} {a : Array Value} {s : State} {m : MethodId} {meth : Method} {c : Code} (h1 : s.methodNamed? y = some m) (h2 : s.vm.method? m = some meth) (h3 : meth.code = some c) (h4 : c.code = bytes)
    (h5 : (c.maxLocals == mx && c.exceptionTable.isEmpty && decide (c.maxStack ≤ mostOperands) && decide (meth.sig.returnType = rt) && !meth.locks && decide (parseMethodDescriptor y.desc = some meth.sig)) = true) : (Jvm.Cond.code y bytes mx rt).before a s = true := by
  simp only [Bool.and_eq_true, beq_iff_eq, Bool.not_eq_true', decide_eq_true_eq] at h5
  obtain ⟨⟨⟨⟨⟨g1, g2⟩, g3⟩, g4⟩, g5⟩, g6⟩ := h5
  simp [Cond.before, Cond.holds, Cond.value, h1, h2, h3, h4, g1, g2, g3, g4, g5, g6]
def isCode : Jvm.Cond → Bool
  | .code _ _ _ _ => true
  | _ => false
theorem all_split {L : List Jvm.Cond} {P : Jvm.Cond → Bool} (h1 : L.all (fun c => isCode c || P c) = true) (h2 : ∀ c ∈ L.filter isCode, P c = true) : L.all P = true := by
  refine List.all_eq_true.mpr fun c hc => ?_
  have h := List.all_eq_true.mp h1 c hc
  rcases Bool.eq_false_or_eq_true (isCode c) with hi | hi
  · exact h2 c (List.mem_filter.mpr ⟨hc, hi⟩)
  · simpa [hi] using h
set_option maxRecDepth 65536 in
theorem w_c0 : (Jvm.Cond.code x code maxLocals ret).before args0 about1 = true := code_word (m := ⟨1, 1⟩) (meth := k1m1) (c := k1c1) (by decide +kernel) rfl rfl rfl (by decide +kernel)
set_option maxRecDepth 65536 in
theorem w_c1 : (Jvm.Cond.code ({ cls := "java/lang/Math", name := "min", desc := "(II)I" } : Jvm.MethodName) jdk_29_method_69_code (2 : Nat) (Option.some Jvm.ClassFile.FieldType.int)).before args0 about1 = true := code_word (m := ⟨2, 2⟩) (meth := k2m2) (c := k2c2) (by decide +kernel) rfl rfl rfl (by decide +kernel)
set_option maxRecDepth 65536 in
theorem w_c2 : (Jvm.Cond.code ({ cls := "java/lang/Math", name := "max", desc := "(II)I" } : Jvm.MethodName) jdk_29_method_65_code (2 : Nat) (Option.some Jvm.ClassFile.FieldType.int)).before args0 about1 = true := code_word (m := ⟨2, 1⟩) (meth := k2m1) (c := k2c1) (by decide +kernel) rfl rfl rfl (by decide +kernel)
set_option maxRecDepth 65536 in
theorem w_c3 : (Jvm.Cond.code ({ cls := "com/example/libpalin/libpalin/Span", name := "<init>", desc := "(II)V" } : Jvm.MethodName) prog_34_method_1_code (3 : Nat) (Option.none : Option Jvm.ClassFile.FieldType)).before args0 about1 = true := code_word (m := ⟨3, 0⟩) (meth := k3m0) (c := k3c0) (by decide +kernel) rfl rfl rfl (by decide +kernel)
set_option maxRecDepth 65536 in
theorem w_c4 : (Jvm.Cond.code ({ cls := "java/lang/Object", name := "<init>", desc := "()V" } : Jvm.MethodName) object_method_1_code (1 : Nat) (Option.none : Option Jvm.ClassFile.FieldType)).before args0 about1 = true := code_word (m := ⟨0, 0⟩) (meth := k0m0) (c := k0c0) (by decide +kernel) rfl rfl rfl (by decide +kernel)
set_option maxRecDepth 65536 in
theorem w_c5 : (Jvm.Cond.code ({ cls := "com/example/libpalin/libpalin/Span", name := "equals", desc := "(Ljava/lang/Object;)Z" } : Jvm.MethodName) prog_34_method_5_code (3 : Nat) (Option.some Jvm.ClassFile.FieldType.boolean)).before args0 about1 = true := code_word (m := ⟨3, 1⟩) (meth := k3m1) (c := k3c1) (by decide +kernel) rfl rfl rfl (by decide +kernel)
set_option maxRecDepth 65536 in
theorem w_c6 : (Jvm.Cond.code ({ cls := "java/lang/Integer", name := "valueOf", desc := "(I)Ljava/lang/Integer;" } : Jvm.MethodName) jdk_33_method_22_code (1 : Nat) (Option.some (Jvm.ClassFile.FieldType.object "java/lang/Integer"))).before args0 about1 = true := code_word (m := ⟨9, 0⟩) (meth := k9m0) (c := k9c0) (by decide +kernel) rfl rfl rfl (by decide +kernel)
set_option maxRecDepth 65536 in
theorem w_c7 : (Jvm.Cond.code ({ cls := "java/lang/Integer", name := "<init>", desc := "(I)V" } : Jvm.MethodName) jdk_33_method_23_code (2 : Nat) (Option.none : Option Jvm.ClassFile.FieldType)).before args0 about1 = true := code_word (m := ⟨9, 1⟩) (meth := k9m1) (c := k9c1) (by decide +kernel) rfl rfl rfl (by decide +kernel)
set_option maxRecDepth 65536 in
theorem w_c8 : (Jvm.Cond.code ({ cls := "java/lang/Number", name := "<init>", desc := "()V" } : Jvm.MethodName) jdk_18_method_1_code (1 : Nat) (Option.none : Option Jvm.ClassFile.FieldType)).before args0 about1 = true := code_word (m := ⟨5, 0⟩) (meth := k5m0) (c := k5c0) (by decide +kernel) rfl rfl rfl (by decide +kernel)
def codes1 : List Jvm.Cond := [Jvm.Cond.code x code maxLocals ret, Jvm.Cond.code ({ cls := "java/lang/Math", name := "min", desc := "(II)I" } : Jvm.MethodName) jdk_29_method_69_code (2 : Nat) (Option.some Jvm.ClassFile.FieldType.int), Jvm.Cond.code ({ cls := "java/lang/Math", name := "max", desc := "(II)I" } : Jvm.MethodName) jdk_29_method_65_code (2 : Nat) (Option.some Jvm.ClassFile.FieldType.int), Jvm.Cond.code ({ cls := "com/example/libpalin/libpalin/Span", name := "<init>", desc := "(II)V" } : Jvm.MethodName) prog_34_method_1_code (3 : Nat) (Option.none : Option Jvm.ClassFile.FieldType), Jvm.Cond.code ({ cls := "java/lang/Object", name := "<init>", desc := "()V" } : Jvm.MethodName) object_method_1_code (1 : Nat) (Option.none : Option Jvm.ClassFile.FieldType), Jvm.Cond.code ({ cls := "com/example/libpalin/libpalin/Span", name := "equals", desc := "(Ljava/lang/Object;)Z" } : Jvm.MethodName) prog_34_method_5_code (3 : Nat) (Option.some Jvm.ClassFile.FieldType.boolean), Jvm.Cond.code ({ cls := "java/lang/Integer", name := "valueOf", desc := "(I)Ljava/lang/Integer;" } : Jvm.MethodName) jdk_33_method_22_code (1 : Nat) (Option.some (Jvm.ClassFile.FieldType.object "java/lang/Integer")), Jvm.Cond.code ({ cls := "java/lang/Integer", name := "<init>", desc := "(I)V" } : Jvm.MethodName) jdk_33_method_23_code (2 : Nat) (Option.none : Option Jvm.ClassFile.FieldType), Jvm.Cond.code ({ cls := "java/lang/Number", name := "<init>", desc := "()V" } : Jvm.MethodName) jdk_18_method_1_code (1 : Nat) (Option.none : Option Jvm.ClassFile.FieldType)]
set_option maxRecDepth 65536 in
theorem codes_eq : words1.filter isCode = codes1 := rfl
theorem w_codes : ∀ c ∈ words1.filter isCode, c.before args0 about1 = true := by
  rw [codes_eq]
  intro c hc
  simp only [codes1, List.mem_cons, List.not_mem_nil, or_false] at hc
  rcases hc with rfl | rfl | rfl | rfl | rfl | rfl | rfl | rfl | rfl
  · exact w_c0
  · exact w_c1
  · exact w_c2
  · exact w_c3
  · exact w_c4
  · exact w_c5
  · exact w_c6
  · exact w_c7
  · exact w_c8
set_option maxRecDepth 65536 in
theorem w_t1 : (words1.take 24).all (fun c => isCode c || c.before args0 about1) = true := by decide +kernel
set_option maxRecDepth 65536 in
theorem w_t2 : ((words1.drop 24).take 24).all (fun c => isCode c || c.before args0 about1) = true := by decide +kernel
set_option maxRecDepth 65536 in
theorem w_t3 : ((words1.drop 24).drop 24).all (fun c => isCode c || c.before args0 about1) = true := by decide +kernel
theorem w_tables : (allAtoms (Jvm.Cond.code x code maxLocals ret :: tables_1)).before args0 about1 = true := by
  rw [allAtoms_all]
  show words1.all (fun c => c.before args0 about1) = true
  refine all_split ?_ w_codes
  rw [← List.take_append_drop 24 words1, List.all_append, w_t1, ← List.take_append_drop 24 (words1.drop 24), List.all_append, w_t2, w_t3]
  rfl
set_option maxRecDepth 65536 in
theorem w_rest : rest_1_c.before args0 about1 = true := by decide +kernel
set_option maxRecDepth 65536 in
theorem w_case : (Jvm.Cond.and given_1 narrow_1).before args0 about1 = true := by decide +kernel
theorem w_applies : (headSpec (Jvm.Cond.code x code maxLocals ret :: tables_1) room_1).applies x e0.platform about1 = true :=
  (Spec.applies_iff w_frames).mpr ⟨w_running, w_runnable, w_alone, w_named, w_hears, w_ripe, w_room, w_tables⟩
theorem atStart : AtStart classFile x code maxLocals ret World_1 tables_1 room_1 Calls_1 rest_1 Pre_1 launch0 p0 e0 about1 theMethod args0 below0 :=
  ⟨lists_1, trivial, launch0.admits_env _ _ _, launch0.least_env, fairChoices_fair.cas, fairChoices_fair.clock, w_frames, w_args, w_heap, w_applies, trivial, w_rest, w_case⟩
end start1
theorem witness_1 : WitnessClaimed_1 := ⟨start1.p0, start1.e0, start1.about1, start1.theMethod, start1.args0, start1.below0, start1.atStart⟩
end Jvm.Pilot.@@N@@
