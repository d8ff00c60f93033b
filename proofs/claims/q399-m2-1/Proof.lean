import JvmDerived
import JvmDerived.Pilot.@@N@@Statement
import JvmDerived.Pilot.@@N@@Code
set_option linter.unusedVariables false
set_option linter.unusedSimpArgs false
namespace Jvm.OwnKit
open Sem ClassFile Op Lib Jvm.Stand Jvm.Free Jvm.LawKit Jvm.RoadKit
def Go (tb : Tables) (e : Env) (below : List Frame) (P : State → Outcome → Prop) (S : State) : Prop :=
  ∃ s₂ o, Steps tb e below S s₂ ∧ s₂.status = .running ∧ Ended s₂ below o ∧ P s₂ o
theorem go {tb : Tables} {e : Env} {below : List Frame} {P : State → Outcome → Prop} {S S' : State} (h : ∀ t, Steps tb e below S' t → Steps tb e below S t) (k : Go tb e below P S') : Go tb e below P S := by
  obtain ⟨s₂, o, h1, h2⟩ := k
  exact ⟨s₂, o, h _ h1, h2⟩
theorem goT {tb : Tables} {e : Env} {below : List Frame} {P : State → Outcome → Prop} {S S' : State} (h : Steps tb e below S S') (k : Go tb e below P S') : Go tb e below P S := go (fun _ q => h.trans q) k
def Done (s : State) (Q : Option Value → Heap → List Loc → Prop) (k n : Nat) (t : State) (o : Outcome) : Prop := ∃ v L, o = .returned v ∧ Q v t.heap L ∧ FrameEnd s o t L k n
/-- a body's contract: called with just these arguments, over this heap -/
def Con (l : Launch) (Z : State) (y : MethodName) (bytes : ByteArray) (maxL : Nat) (rt : Option FieldType) (ws : List Jvm.Cond) (rm : Room) (as' : Array Value) (h : Heap) (k n : Nat) (Q : Option Value → Heap → List Loc → Prop) : Prop :=
  MetFree l y (head1 (Jvm.Cond.code y bytes maxL rt :: ws) rm) (fun a U => a = as' ∧ Z.Warmed39 U.vm ∧ U.heap = h) (fun _ _ _ _ _ => True) (fun _ U o U' => ∃ v L, o = .returned v ∧ Q v U'.heap L ∧ FrameEnd U o U' L k n)
theorem Con.of {l : Launch} {Z : State} {y : MethodName} {bytes : ByteArray} {maxL : Nat} {rt : Option FieldType} {ws : List Jvm.Cond} {rm : Room} {as' : Array Value} {h : Heap} {k n : Nat} {Q : Option Value → Heap → List Loc → Prop} (hp : plainFor y = true)
    (body : ∀ (p : Program) (e : Env) (s : State) (m : MethodId) (below : List Frame) (meth : Method) (c : Code) (s₁ : State), p.tables.exec = Jvm.exec → c.code = bytes → c.maxLocals = maxL → s.vm.findClass y.cls = some m.cls → meth.name = y.name → meth.sig.returnType = rt → meth.locks = false → Z.Warmed39 s.vm →
      Stand p l e rm s m as' below meth c s₁ [] 0 0 → s₁.heap = h → Go p.tables e below (Done s Q k n) (s₁.setTop (entryFrame m as' maxL))) : Con l Z y bytes maxL rt ws rm as' h k n Q := by
  refine MetFree.of_bodySF hp hisR ?_
  intro p e s m args below meth c s₁ Bd hml0 hP hK
  obtain ⟨rfl, hZ, hh⟩ := hP
  exact body p e s m below meth c s₁ Bd.exec Bd.bytes hml0 (findClass_of_methodNamed Bd.named) (name_of_methodNamed Bd.named Bd.method).1 Bd.returns Bd.notSynchronized hZ (Stand.of_body Bd) (by rw [← hh, Bd.state]; rfl)
section Steps1
variable {p : Program} {l : Launch} {e : Env} {R : Room} {s : State} {m : MethodId} {args : Array Value} {below : List Frame} {meth : Method} {c : Code} {T : State} {locs : List Loc} {cells slots : Nat} {P : State → Outcome → Prop} {pc q : Nat} {L L' : Array Slot} {S : List Value}
theorem goE {args' : Array Value} {n : Nat} (hq : entryFrame m args' n = mkF m 0 L []) (K : Go p.tables e below P (T.setTop (mkF m 0 L []))) : Go p.tables e below P (T.setTop (entryFrame m args' n)) := go (fun _ k => castTop hq k) K
theorem gIloadN (X : Stand p l e R s m args below meth c T locs cells slots) (hx : p.tables.exec = Jvm.exec) {k : Fin 4} {v : Int32} (hd : decode c.code pc = .ok (.iload_n k, 1)) (hq : pc + 1 = q) (hl : L[k.val]? = some (.val (.int v))) (K : Go p.tables e below P (T.setTop (mkF m q L (.int v :: S)))) : Go p.tables e below P (T.setTop (mkF m pc L (S))) := by subst hq; exact go (fun t k => XS.iloadN X.here hx rfl hd hl k) K
theorem gIload (X : Stand p l e R s m args below meth c T locs cells slots) (hx : p.tables.exec = Jvm.exec) {k : Nat} {v : Int32} (hd : decode c.code pc = .ok (.iload k, 2)) (hq : pc + 2 = q) (hl : L[k]? = some (.val (.int v))) (K : Go p.tables e below P (T.setTop (mkF m q L (.int v :: S)))) : Go p.tables e below P (T.setTop (mkF m pc L (S))) := by subst hq; exact go (fun t k => XS.iload X.here hx rfl hd hl k) K
theorem gLloadN (X : Stand p l e R s m args below meth c T locs cells slots) (hx : p.tables.exec = Jvm.exec) {k : Fin 4} {v : Int64} (hd : decode c.code pc = .ok (.lload_n k, 1)) (hq : pc + 1 = q) (hl : L[k.val]? = some (.val (.long v))) (K : Go p.tables e below P (T.setTop (mkF m q L (.long v :: S)))) : Go p.tables e below P (T.setTop (mkF m pc L (S))) := by subst hq; exact go (fun t k => XT.lloadN X.here hx rfl hd hl k) K
theorem gLload (X : Stand p l e R s m args below meth c T locs cells slots) (hx : p.tables.exec = Jvm.exec) {k : Nat} {v : Int64} (hd : decode c.code pc = .ok (.lload k, 2)) (hq : pc + 2 = q) (hl : L[k]? = some (.val (.long v))) (K : Go p.tables e below P (T.setTop (mkF m q L (.long v :: S)))) : Go p.tables e below P (T.setTop (mkF m pc L (S))) := by subst hq; exact go (fun t k => XT.lload X.here hx rfl hd hl k) K
theorem gAloadN (X : Stand p l e R s m args below meth c T locs cells slots) (hx : p.tables.exec = Jvm.exec) {k : Fin 4} {v : Value} (hd : decode c.code pc = .ok (.aload_n k, 1)) (hq : pc + 1 = q) (hl : L[k.val]? = some (.val v)) (hv : v.isRef = true) (K : Go p.tables e below P (T.setTop (mkF m q L (v :: S)))) : Go p.tables e below P (T.setTop (mkF m pc L (S))) := by subst hq; exact go (fun t k => XS.aloadN X.here hx rfl hd hl hv k) K
theorem gAload (X : Stand p l e R s m args below meth c T locs cells slots) (hx : p.tables.exec = Jvm.exec) {k : Nat} {v : Value} (hd : decode c.code pc = .ok (.aload k, 2)) (hq : pc + 2 = q) (hl : L[k]? = some (.val v)) (hv : v.isRef = true) (K : Go p.tables e below P (T.setTop (mkF m q L (v :: S)))) : Go p.tables e below P (T.setTop (mkF m pc L (S))) := by subst hq; exact go (fun t k => XS.aload X.here hx rfl hd hl hv k) K
theorem gIconst (X : Stand p l e R s m args below meth c T locs cells slots) (hx : p.tables.exec = Jvm.exec) {i : Int} (v : Int32) (hd : decode c.code pc = .ok (.iconst i, 1)) (hq : pc + 1 = q) (hv : Int32.ofInt i = v) (K : Go p.tables e below P (T.setTop (mkF m q L (.int v :: S)))) : Go p.tables e below P (T.setTop (mkF m pc L (S))) := by subst hq; exact go (fun t k => XT.iconstV X.here hx rfl v hd hv k) K
theorem gBipush (X : Stand p l e R s m args below meth c T locs cells slots) (hx : p.tables.exec = Jvm.exec) {i : Int} (v : Int32) (hd : decode c.code pc = .ok (.bipush i, 2)) (hq : pc + 2 = q) (hv : (Int8.ofInt i).toInt32 = v) (K : Go p.tables e below P (T.setTop (mkF m q L (.int v :: S)))) : Go p.tables e below P (T.setTop (mkF m pc L (S))) := by subst hq; exact go (fun t k => XT.bipushV X.here hx rfl v hd hv k) K
theorem gSipush (X : Stand p l e R s m args below meth c T locs cells slots) (hx : p.tables.exec = Jvm.exec) {i : Int} (v : Int32) (hd : decode c.code pc = .ok (.sipush i, 3)) (hq : pc + 3 = q) (hv : (Int16.ofInt i).toInt32 = v) (K : Go p.tables e below P (T.setTop (mkF m q L (.int v :: S)))) : Go p.tables e below P (T.setTop (mkF m pc L (S))) := by subst hq; exact go (fun t k => XT.sipushV X.here hx rfl v hd hv k) K
theorem gLconst (X : Stand p l e R s m args below meth c T locs cells slots) (hx : p.tables.exec = Jvm.exec) {k : Fin 2} (v : Int64) (hd : decode c.code pc = .ok (.lconst k, 1)) (hq : pc + 1 = q) (hv : Int64.ofNat k = v) (K : Go p.tables e below P (T.setTop (mkF m q L (.long v :: S)))) : Go p.tables e below P (T.setTop (mkF m pc L (S))) := by subst hq; exact go (fun t k => XT.lconstV X.here hx rfl v hd hv k) K
theorem gNull (X : Stand p l e R s m args below meth c T locs cells slots) (hx : p.tables.exec = Jvm.exec)  (hd : decode c.code pc = .ok (.aconst_null, 1)) (hq : pc + 1 = q)  (K : Go p.tables e below P (T.setTop (mkF m q L (.null :: S)))) : Go p.tables e below P (T.setTop (mkF m pc L (S))) := by subst hq; exact go (fun t k => XS.aconstNull X.here hx rfl hd  k) K
theorem gLdc (X : Stand p l e R s m args below meth c T locs cells slots) (hx : p.tables.exec = Jvm.exec) {Z : State} {a0 : Array Value} (hZ : Z.Warmed39 s.vm) {own : String} {i : Nat} {v : Int32} (hown : s.vm.findClass own = some m.cls) (w : (Jvm.Cond.constant own i v).before a0 Z = true) (hd : decode c.code pc = .ok (.ldc i, 2)) (hq : pc + 2 = q) (K : Go p.tables e below P (T.setTop (mkF m q L (.int v :: S)))) : Go p.tables e below P (T.setTop (mkF m pc L (S))) := by subst hq; exact go (fun t k => Stand.ldcI X hx hown (mvT hZ w) rfl hd k) K
theorem gLdcW (X : Stand p l e R s m args below meth c T locs cells slots) (hx : p.tables.exec = Jvm.exec) {Z : State} {a0 : Array Value} (hZ : Z.Warmed39 s.vm) {own : String} {i : Nat} {v : Int32} (hown : s.vm.findClass own = some m.cls) (w : (Jvm.Cond.constant own i v).before a0 Z = true) (hd : decode c.code pc = .ok (.ldc_w i, 3)) (hq : pc + 3 = q) (K : Go p.tables e below P (T.setTop (mkF m q L (.int v :: S)))) : Go p.tables e below P (T.setTop (mkF m pc L (S))) := by subst hq; exact go (fun t k => Stand.ldcWI X hx hown (mvT hZ w) rfl hd k) K
theorem gLdc2 (X : Stand p l e R s m args below meth c T locs cells slots) (hx : p.tables.exec = Jvm.exec) {Z : State} {a0 : Array Value} (hZ : Z.Warmed39 s.vm) {own : String} {i : Nat} {v : Int64} (hown : s.vm.findClass own = some m.cls) (w : (Jvm.Cond.constantLong own i v).before a0 Z = true) (hd : decode c.code pc = .ok (.ldc2_w i, 3)) (hq : pc + 3 = q) (K : Go p.tables e below P (T.setTop (mkF m q L (.long v :: S)))) : Go p.tables e below P (T.setTop (mkF m pc L (S))) := by subst hq; exact go (fun t k => Stand.ldc2J X hx hown (mvT hZ w) rfl hd k) K
theorem gIadd (X : Stand p l e R s m args below meth c T locs cells slots) (hx : p.tables.exec = Jvm.exec) {x y : Int32} (hd : decode c.code pc = .ok (.iadd, 1)) (hq : pc + 1 = q)  (K : Go p.tables e below P (T.setTop (mkF m q L (.int (x + y) :: S)))) : Go p.tables e below P (T.setTop (mkF m pc L (.int y :: .int x :: S))) := by subst hq; exact go (fun t k => XS.iadd X.here hx rfl hd rfl  k) K
theorem gIsub (X : Stand p l e R s m args below meth c T locs cells slots) (hx : p.tables.exec = Jvm.exec) {x y : Int32} (hd : decode c.code pc = .ok (.isub, 1)) (hq : pc + 1 = q)  (K : Go p.tables e below P (T.setTop (mkF m q L (.int (x - y) :: S)))) : Go p.tables e below P (T.setTop (mkF m pc L (.int y :: .int x :: S))) := by subst hq; exact go (fun t k => XS.isub X.here hx rfl hd rfl  k) K
theorem gIand (X : Stand p l e R s m args below meth c T locs cells slots) (hx : p.tables.exec = Jvm.exec) {x y : Int32} (hd : decode c.code pc = .ok (.iand, 1)) (hq : pc + 1 = q)  (K : Go p.tables e below P (T.setTop (mkF m q L (.int (x &&& y) :: S)))) : Go p.tables e below P (T.setTop (mkF m pc L (.int y :: .int x :: S))) := by subst hq; exact go (fun t k => XS.iand X.here hx rfl hd rfl  k) K
theorem gImul (X : Stand p l e R s m args below meth c T locs cells slots) (hx : p.tables.exec = Jvm.exec) {x y : Int32} (hd : decode c.code pc = .ok (.imul, 1)) (hq : pc + 1 = q)  (K : Go p.tables e below P (T.setTop (mkF m q L (.int (x * y) :: S)))) : Go p.tables e below P (T.setTop (mkF m pc L (.int y :: .int x :: S))) := by subst hq; exact go (fun t k => XS.imul X.here hx rfl hd rfl  k) K
theorem gIxor (X : Stand p l e R s m args below meth c T locs cells slots) (hx : p.tables.exec = Jvm.exec) {x y : Int32} (hd : decode c.code pc = .ok (.ixor, 1)) (hq : pc + 1 = q)  (K : Go p.tables e below P (T.setTop (mkF m q L (.int (x ^^^ y) :: S)))) : Go p.tables e below P (T.setTop (mkF m pc L (.int y :: .int x :: S))) := by subst hq; exact go (fun t k => XT.ixor X.here hx rfl hd rfl  k) K
theorem gIor (X : Stand p l e R s m args below meth c T locs cells slots) (hx : p.tables.exec = Jvm.exec) {x y : Int32} (hd : decode c.code pc = .ok (.ior, 1)) (hq : pc + 1 = q)  (K : Go p.tables e below P (T.setTop (mkF m q L (.int (x ||| y) :: S)))) : Go p.tables e below P (T.setTop (mkF m pc L (.int y :: .int x :: S))) := by subst hq; exact go (fun t k => XT.ior X.here hx rfl hd rfl  k) K
theorem gIshl (X : Stand p l e R s m args below meth c T locs cells slots) (hx : p.tables.exec = Jvm.exec) {x y : Int32} (hd : decode c.code pc = .ok (.ishl, 1)) (hq : pc + 1 = q)  (K : Go p.tables e below P (T.setTop (mkF m q L (.int (x <<< (y &&& 31)) :: S)))) : Go p.tables e below P (T.setTop (mkF m pc L (.int y :: .int x :: S))) := by subst hq; exact go (fun t k => XT.ishl X.here hx rfl hd rfl  k) K
theorem gIshr (X : Stand p l e R s m args below meth c T locs cells slots) (hx : p.tables.exec = Jvm.exec) {x y : Int32} (hd : decode c.code pc = .ok (.ishr, 1)) (hq : pc + 1 = q)  (K : Go p.tables e below P (T.setTop (mkF m q L (.int (x >>> (y &&& 31)) :: S)))) : Go p.tables e below P (T.setTop (mkF m pc L (.int y :: .int x :: S))) := by subst hq; exact go (fun t k => XT.ishr X.here hx rfl hd rfl  k) K
theorem gIushr (X : Stand p l e R s m args below meth c T locs cells slots) (hx : p.tables.exec = Jvm.exec) {x y : Int32} (hd : decode c.code pc = .ok (.iushr, 1)) (hq : pc + 1 = q)  (K : Go p.tables e below P (T.setTop (mkF m q L (.int (XT.ushr x y) :: S)))) : Go p.tables e below P (T.setTop (mkF m pc L (.int y :: .int x :: S))) := by subst hq; exact go (fun t k => XT.iushr X.here hx rfl hd rfl  k) K
theorem gIdiv (X : Stand p l e R s m args below meth c T locs cells slots) (hx : p.tables.exec = Jvm.exec) {x y : Int32} (hd : decode c.code pc = .ok (.idiv, 1)) (hq : pc + 1 = q) (hy : y ≠ 0) (K : Go p.tables e below P (T.setTop (mkF m q L (.int (x / y) :: S)))) : Go p.tables e below P (T.setTop (mkF m pc L (.int y :: .int x :: S))) := by subst hq; exact go (fun t k => XS.idiv X.here hx rfl hd rfl hy k) K
theorem gIrem (X : Stand p l e R s m args below meth c T locs cells slots) (hx : p.tables.exec = Jvm.exec) {x y : Int32} (hd : decode c.code pc = .ok (.irem, 1)) (hq : pc + 1 = q) (hy : y ≠ 0) (K : Go p.tables e below P (T.setTop (mkF m q L (.int (x % y) :: S)))) : Go p.tables e below P (T.setTop (mkF m pc L (.int y :: .int x :: S))) := by subst hq; exact go (fun t k => iremM X hx rfl hd rfl hy k) K
theorem gIneg (X : Stand p l e R s m args below meth c T locs cells slots) (hx : p.tables.exec = Jvm.exec) {x : Int32} (hd : decode c.code pc = .ok (.ineg, 1)) (hq : pc + 1 = q)  (K : Go p.tables e below P (T.setTop (mkF m q L (.int (-x) :: S)))) : Go p.tables e below P (T.setTop (mkF m pc L (.int x :: S))) := by subst hq; exact go (fun t k => XS.ineg X.here hx rfl hd rfl  k) K
theorem gLadd (X : Stand p l e R s m args below meth c T locs cells slots) (hx : p.tables.exec = Jvm.exec) {x y : Int64} (hd : decode c.code pc = .ok (.ladd, 1)) (hq : pc + 1 = q)  (K : Go p.tables e below P (T.setTop (mkF m q L (.long (x + y) :: S)))) : Go p.tables e below P (T.setTop (mkF m pc L (.long y :: .long x :: S))) := by subst hq; exact go (fun t k => XT.ladd X.here hx rfl hd rfl  k) K
theorem gLsub (X : Stand p l e R s m args below meth c T locs cells slots) (hx : p.tables.exec = Jvm.exec) {x y : Int64} (hd : decode c.code pc = .ok (.lsub, 1)) (hq : pc + 1 = q)  (K : Go p.tables e below P (T.setTop (mkF m q L (.long (x - y) :: S)))) : Go p.tables e below P (T.setTop (mkF m pc L (.long y :: .long x :: S))) := by subst hq; exact go (fun t k => XT.lsub X.here hx rfl hd rfl  k) K
theorem gLmul (X : Stand p l e R s m args below meth c T locs cells slots) (hx : p.tables.exec = Jvm.exec) {x y : Int64} (hd : decode c.code pc = .ok (.lmul, 1)) (hq : pc + 1 = q)  (K : Go p.tables e below P (T.setTop (mkF m q L (.long (x * y) :: S)))) : Go p.tables e below P (T.setTop (mkF m pc L (.long y :: .long x :: S))) := by subst hq; exact go (fun t k => XT.lmul X.here hx rfl hd rfl  k) K
theorem gLand (X : Stand p l e R s m args below meth c T locs cells slots) (hx : p.tables.exec = Jvm.exec) {x y : Int64} (hd : decode c.code pc = .ok (.land, 1)) (hq : pc + 1 = q)  (K : Go p.tables e below P (T.setTop (mkF m q L (.long (x &&& y) :: S)))) : Go p.tables e below P (T.setTop (mkF m pc L (.long y :: .long x :: S))) := by subst hq; exact go (fun t k => XT.land X.here hx rfl hd rfl  k) K
theorem gLor (X : Stand p l e R s m args below meth c T locs cells slots) (hx : p.tables.exec = Jvm.exec) {x y : Int64} (hd : decode c.code pc = .ok (.lor, 1)) (hq : pc + 1 = q)  (K : Go p.tables e below P (T.setTop (mkF m q L (.long (x ||| y) :: S)))) : Go p.tables e below P (T.setTop (mkF m pc L (.long y :: .long x :: S))) := by subst hq; exact go (fun t k => XT.lor X.here hx rfl hd rfl  k) K
theorem gLxor (X : Stand p l e R s m args below meth c T locs cells slots) (hx : p.tables.exec = Jvm.exec) {x y : Int64} (hd : decode c.code pc = .ok (.lxor, 1)) (hq : pc + 1 = q)  (K : Go p.tables e below P (T.setTop (mkF m q L (.long (x ^^^ y) :: S)))) : Go p.tables e below P (T.setTop (mkF m pc L (.long y :: .long x :: S))) := by subst hq; exact go (fun t k => XT.lxor X.here hx rfl hd rfl  k) K
theorem gLcmp (X : Stand p l e R s m args below meth c T locs cells slots) (hx : p.tables.exec = Jvm.exec) {x y : Int64} (hd : decode c.code pc = .ok (.lcmp, 1)) (hq : pc + 1 = q)  (K : Go p.tables e below P (T.setTop (mkF m q L (.int (XT.cmpL x y) :: S)))) : Go p.tables e below P (T.setTop (mkF m pc L (.long y :: .long x :: S))) := by subst hq; exact go (fun t k => XT.lcmp X.here hx rfl hd rfl  k) K
theorem gLneg (X : Stand p l e R s m args below meth c T locs cells slots) (hx : p.tables.exec = Jvm.exec) {x : Int64} (hd : decode c.code pc = .ok (.lneg, 1)) (hq : pc + 1 = q)  (K : Go p.tables e below P (T.setTop (mkF m q L (.long (-x) :: S)))) : Go p.tables e below P (T.setTop (mkF m pc L (.long x :: S))) := by subst hq; exact go (fun t k => XT.lneg X.here hx rfl hd rfl  k) K
theorem gI2l (X : Stand p l e R s m args below meth c T locs cells slots) (hx : p.tables.exec = Jvm.exec) {x : Int32} (hd : decode c.code pc = .ok (.i2l, 1)) (hq : pc + 1 = q)  (K : Go p.tables e below P (T.setTop (mkF m q L (.long x.toInt64 :: S)))) : Go p.tables e below P (T.setTop (mkF m pc L (.int x :: S))) := by subst hq; exact go (fun t k => XT.i2l X.here hx rfl hd rfl  k) K
theorem gL2i (X : Stand p l e R s m args below meth c T locs cells slots) (hx : p.tables.exec = Jvm.exec) {x : Int64} (hd : decode c.code pc = .ok (.l2i, 1)) (hq : pc + 1 = q)  (K : Go p.tables e below P (T.setTop (mkF m q L (.int x.toInt32 :: S)))) : Go p.tables e below P (T.setTop (mkF m pc L (.long x :: S))) := by subst hq; exact go (fun t k => XT.l2i X.here hx rfl hd rfl  k) K
theorem gI2c (X : Stand p l e R s m args below meth c T locs cells slots) (hx : p.tables.exec = Jvm.exec) {x : Int32} (hd : decode c.code pc = .ok (.i2c, 1)) (hq : pc + 1 = q)  (K : Go p.tables e below P (T.setTop (mkF m q L (.int x.toUInt32.toUInt16.toUInt32.toInt32 :: S)))) : Go p.tables e below P (T.setTop (mkF m pc L (.int x :: S))) := by subst hq; exact go (fun t k => XT.i2c X.here hx rfl hd rfl  k) K
theorem gI2b (X : Stand p l e R s m args below meth c T locs cells slots) (hx : p.tables.exec = Jvm.exec) {x : Int32} (hd : decode c.code pc = .ok (.i2b, 1)) (hq : pc + 1 = q)  (K : Go p.tables e below P (T.setTop (mkF m q L (.int x.toInt8.toInt32 :: S)))) : Go p.tables e below P (T.setTop (mkF m pc L (.int x :: S))) := by subst hq; exact go (fun t k => XT.i2b X.here hx rfl hd rfl  k) K
theorem gLdiv (X : Stand p l e R s m args below meth c T locs cells slots) (hx : p.tables.exec = Jvm.exec) {x y : Int64} (hd : decode c.code pc = .ok (.ldiv, 1)) (hq : pc + 1 = q) (hy : y ≠ 0) (K : Go p.tables e below P (T.setTop (mkF m q L (.long (x / y) :: S)))) : Go p.tables e below P (T.setTop (mkF m pc L (.long y :: .long x :: S))) := by subst hq; exact go (fun t k => XT.ldiv X.here hx rfl hd rfl hy k) K
theorem gLshl (X : Stand p l e R s m args below meth c T locs cells slots) (hx : p.tables.exec = Jvm.exec) {x : Int64} {y : Int32} (hd : decode c.code pc = .ok (.lshl, 1)) (hq : pc + 1 = q)  (K : Go p.tables e below P (T.setTop (mkF m q L (.long (x <<< (y.toInt64 &&& 63)) :: S)))) : Go p.tables e below P (T.setTop (mkF m pc L (.int y :: .long x :: S))) := by subst hq; exact go (fun t k => XT.lshl X.here hx rfl hd rfl  k) K
theorem gLshr (X : Stand p l e R s m args below meth c T locs cells slots) (hx : p.tables.exec = Jvm.exec) {x : Int64} {y : Int32} (hd : decode c.code pc = .ok (.lshr, 1)) (hq : pc + 1 = q)  (K : Go p.tables e below P (T.setTop (mkF m q L (.long (x >>> (y.toInt64 &&& 63)) :: S)))) : Go p.tables e below P (T.setTop (mkF m pc L (.int y :: .long x :: S))) := by subst hq; exact go (fun t k => XT.lshr X.here hx rfl hd rfl  k) K
theorem gLushr (X : Stand p l e R s m args below meth c T locs cells slots) (hx : p.tables.exec = Jvm.exec) {x : Int64} {y : Int32} (hd : decode c.code pc = .ok (.lushr, 1)) (hq : pc + 1 = q)  (K : Go p.tables e below P (T.setTop (mkF m q L (.long (XT.ushrL x y) :: S)))) : Go p.tables e below P (T.setTop (mkF m pc L (.int y :: .long x :: S))) := by subst hq; exact go (fun t k => XT.lushr X.here hx rfl hd rfl  k) K
theorem gLrem (X : Stand p l e R s m args below meth c T locs cells slots) (hx : p.tables.exec = Jvm.exec) {x y : Int64} (hd : decode c.code pc = .ok (.lrem, 1)) (hq : pc + 1 = q) (hy : y ≠ 0) (K : Go p.tables e below P (T.setTop (mkF m q L (.long (x - (x / y) * y) :: S)))) : Go p.tables e below P (T.setTop (mkF m pc L (.long y :: .long x :: S))) := by subst hq; exact go (fun t k => XT.lrem X.here hx rfl hd rfl hy k) K
theorem gIstoreN (X : Stand p l e R s m args below meth c T locs cells slots) (hx : p.tables.exec = Jvm.exec) {k : Fin 4} {x : Int32} (hd : decode c.code pc = .ok (.istore_n k, 1)) (hq : pc + 1 = q) (hl : storeLocals L k.val (.int x) = some L') (K : Go p.tables e below P (T.setTop (mkF m q L' (S)))) : Go p.tables e below P (T.setTop (mkF m pc L (.int x :: S))) := by subst hq; exact go (fun t k => XS.istoreN X.here hx rfl hd rfl hl k) K
theorem gIstore (X : Stand p l e R s m args below meth c T locs cells slots) (hx : p.tables.exec = Jvm.exec) {k : Nat} {x : Int32} (hd : decode c.code pc = .ok (.istore k, 2)) (hq : pc + 2 = q) (hl : storeLocals L k (.int x) = some L') (K : Go p.tables e below P (T.setTop (mkF m q L' (S)))) : Go p.tables e below P (T.setTop (mkF m pc L (.int x :: S))) := by subst hq; exact go (fun t k => XS.istore X.here hx rfl hd rfl hl k) K
theorem gLstoreN (X : Stand p l e R s m args below meth c T locs cells slots) (hx : p.tables.exec = Jvm.exec) {k : Fin 4} {x : Int64} (hd : decode c.code pc = .ok (.lstore_n k, 1)) (hq : pc + 1 = q) (hl : storeLocals L k.val (.long x) = some L') (K : Go p.tables e below P (T.setTop (mkF m q L' (S)))) : Go p.tables e below P (T.setTop (mkF m pc L (.long x :: S))) := by subst hq; exact go (fun t k => XT.lstoreN X.here hx rfl hd rfl hl k) K
theorem gLstore (X : Stand p l e R s m args below meth c T locs cells slots) (hx : p.tables.exec = Jvm.exec) {k : Nat} {x : Int64} (hd : decode c.code pc = .ok (.lstore k, 2)) (hq : pc + 2 = q) (hl : storeLocals L k (.long x) = some L') (K : Go p.tables e below P (T.setTop (mkF m q L' (S)))) : Go p.tables e below P (T.setTop (mkF m pc L (.long x :: S))) := by subst hq; exact go (fun t k => XT.lstore X.here hx rfl hd rfl hl k) K
theorem gAstoreN (X : Stand p l e R s m args below meth c T locs cells slots) (hx : p.tables.exec = Jvm.exec) {k : Fin 4} {x : Value} (hd : decode c.code pc = .ok (.astore_n k, 1)) (hq : pc + 1 = q) (hv : x.isRef = true) (hl : storeLocals L k.val x = some L') (K : Go p.tables e below P (T.setTop (mkF m q L' (S)))) : Go p.tables e below P (T.setTop (mkF m pc L (x :: S))) := by subst hq; exact go (fun t k => XS.astoreN X.here hx rfl hd rfl hv hl k) K
theorem gAstore (X : Stand p l e R s m args below meth c T locs cells slots) (hx : p.tables.exec = Jvm.exec) {k : Nat} {x : Value} (hd : decode c.code pc = .ok (.astore k, 2)) (hq : pc + 2 = q) (hv : x.isRef = true) (hl : storeLocals L k x = some L') (K : Go p.tables e below P (T.setTop (mkF m q L' (S)))) : Go p.tables e below P (T.setTop (mkF m pc L (x :: S))) := by subst hq; exact go (fun t k => XS.astore X.here hx rfl hd rfl hv hl k) K
theorem gIinc (X : Stand p l e R s m args below meth c T locs cells slots) (hx : p.tables.exec = Jvm.exec) {k : Nat} {cst : Int} {x : Int32} (v : Int32) (hd : decode c.code pc = .ok (.iinc k cst, 3)) (hq : pc + 3 = q) (hv : Int32.ofInt cst = v) (hl : L[k]? = some (.val (.int x))) (hl' : storeLocals L k (.int (x + v)) = some L') (K : Go p.tables e below P (T.setTop (mkF m q L' (S)))) : Go p.tables e below P (T.setTop (mkF m pc L (S))) := by subst hq; exact go (fun t k => XT.iincV X.here hx rfl v hd hv hl hl' k) K
theorem gDup (X : Stand p l e R s m args below meth c T locs cells slots) (hx : p.tables.exec = Jvm.exec) {x : Value} (hd : decode c.code pc = .ok (.dup, 1)) (hq : pc + 1 = q) (hc : x.category = 1) (K : Go p.tables e below P (T.setTop (mkF m q L (x :: x :: S)))) : Go p.tables e below P (T.setTop (mkF m pc L (x :: S))) := by subst hq; exact go (fun t k => XS.dup X.here hx rfl hd rfl hc k) K
theorem gPop (X : Stand p l e R s m args below meth c T locs cells slots) (hx : p.tables.exec = Jvm.exec) {x : Value} (hd : decode c.code pc = .ok (.pop, 1)) (hq : pc + 1 = q) (hc : x.category = 1) (K : Go p.tables e below P (T.setTop (mkF m q L (S)))) : Go p.tables e below P (T.setTop (mkF m pc L (x :: S))) := by subst hq; exact go (fun t k => XT.pop X.here hx rfl hd rfl hc k) K
theorem gDupX1 (X : Stand p l e R s m args below meth c T locs cells slots) (hx : p.tables.exec = Jvm.exec) {x y : Value} (hd : decode c.code pc = .ok (.dup_x1, 1)) (hq : pc + 1 = q) (hc : x.category = 1) (hc' : y.category = 1) (K : Go p.tables e below P (T.setTop (mkF m q L (x :: y :: x :: S)))) : Go p.tables e below P (T.setTop (mkF m pc L (x :: y :: S))) := by subst hq; exact go (fun t k => XT.dupX1 X.here hx rfl hd rfl hc hc' k) K
theorem gDup2 (X : Stand p l e R s m args below meth c T locs cells slots) (hx : p.tables.exec = Jvm.exec) {x y : Value} (hd : decode c.code pc = .ok (.dup2, 1)) (hq : pc + 1 = q) (hc : x.category = 1) (hc' : y.category = 1) (K : Go p.tables e below P (T.setTop (mkF m q L (x :: y :: x :: y :: S)))) : Go p.tables e below P (T.setTop (mkF m pc L (x :: y :: S))) := by subst hq; exact go (fun t k => XT.dup2 X.here hx rfl hd rfl hc hc' k) K
theorem gDup2L (X : Stand p l e R s m args below meth c T locs cells slots) (hx : p.tables.exec = Jvm.exec) {x : Int64} (hd : decode c.code pc = .ok (.dup2, 1)) (hq : pc + 1 = q)  (K : Go p.tables e below P (T.setTop (mkF m q L (.long x :: .long x :: S)))) : Go p.tables e below P (T.setTop (mkF m pc L (.long x :: S))) := by subst hq; exact go (fun t k => XT.dup2L X.here hx rfl hd rfl  k) K
theorem gGoto (X : Stand p l e R s m args below meth c T locs cells slots) (hx : p.tables.exec = Jvm.exec) {o : Int} (hd : decode c.code pc = .ok (.goto o, 3)) (ho : 0 ≤ (pc : Int) + o) (hq : ((pc : Int) + o).toNat = q) (K : Go p.tables e below P (T.setTop (mkF m q L (S)))) : Go p.tables e below P (T.setTop (mkF m pc L (S))) := go (fun t k => XS.goto X.here hx rfl rfl hd ho hq k) K
theorem gIfY (X : Stand p l e R s m args below meth c T locs cells slots) (hx : p.tables.exec = Jvm.exec) {cd : ClassFile.Cond} {x : Int32} {o : Int} (hd : decode c.code pc = .ok (.ifCond cd o, 3)) (ho : 0 ≤ (pc : Int) + o) (hq : ((pc : Int) + o).toNat = q) (hc : ifCond.holds cd x = true) (K : Go p.tables e below P (T.setTop (mkF m q L (S)))) : Go p.tables e below P (T.setTop (mkF m pc L (.int x :: S))) := go (fun t k => XS.ifYes X.here hx rfl rfl hd rfl hc ho hq k) K
theorem gIfN (X : Stand p l e R s m args below meth c T locs cells slots) (hx : p.tables.exec = Jvm.exec) {cd : ClassFile.Cond} {x : Int32} {o : Int} (hd : decode c.code pc = .ok (.ifCond cd o, 3)) (hq : pc + 3 = q) (hc : ifCond.holds cd x = false) (K : Go p.tables e below P (T.setTop (mkF m q L (S)))) : Go p.tables e below P (T.setTop (mkF m pc L (.int x :: S))) := by subst hq; exact go (fun t k => XS.ifNo X.here hx rfl hd rfl hc k) K
theorem gIcmpY (X : Stand p l e R s m args below meth c T locs cells slots) (hx : p.tables.exec = Jvm.exec) {cd : ClassFile.Cond} {x y : Int32} {o : Int} (hd : decode c.code pc = .ok (.if_icmp cd o, 3)) (ho : 0 ≤ (pc : Int) + o) (hq : ((pc : Int) + o).toNat = q) (hc : if_icmp.holds cd x y = true) (K : Go p.tables e below P (T.setTop (mkF m q L (S)))) : Go p.tables e below P (T.setTop (mkF m pc L (.int y :: .int x :: S))) := go (fun t k => XS.icmpYes X.here hx rfl rfl hd rfl hc ho hq k) K
theorem gIcmpN (X : Stand p l e R s m args below meth c T locs cells slots) (hx : p.tables.exec = Jvm.exec) {cd : ClassFile.Cond} {x y : Int32} {o : Int} (hd : decode c.code pc = .ok (.if_icmp cd o, 3)) (hq : pc + 3 = q) (hc : if_icmp.holds cd x y = false) (K : Go p.tables e below P (T.setTop (mkF m q L (S)))) : Go p.tables e below P (T.setTop (mkF m pc L (.int y :: .int x :: S))) := by subst hq; exact go (fun t k => XS.icmpNo X.here hx rfl hd rfl hc k) K
theorem gAcmpY (X : Stand p l e R s m args below meth c T locs cells slots) (hx : p.tables.exec = Jvm.exec) {cd : ClassFile.ACond} {x y : Value} {o : Int} (hd : decode c.code pc = .ok (.if_acmp cd o, 3)) (ho : 0 ≤ (pc : Int) + o) (hq : ((pc : Int) + o).toNat = q) (h1 : x.isRef = true) (h2 : y.isRef = true) (hc : XT.acmp cd x y = true) (K : Go p.tables e below P (T.setTop (mkF m q L (S)))) : Go p.tables e below P (T.setTop (mkF m pc L (y :: x :: S))) := go (fun t k => XT.acmpYes X.here hx rfl rfl hd rfl h1 h2 hc ho hq k) K
theorem gAcmpN (X : Stand p l e R s m args below meth c T locs cells slots) (hx : p.tables.exec = Jvm.exec) {cd : ClassFile.ACond} {x y : Value} {o : Int} (hd : decode c.code pc = .ok (.if_acmp cd o, 3)) (hq : pc + 3 = q) (h1 : x.isRef = true) (h2 : y.isRef = true) (hc : XT.acmp cd x y = false) (K : Go p.tables e below P (T.setTop (mkF m q L (S)))) : Go p.tables e below P (T.setTop (mkF m pc L (y :: x :: S))) := by subst hq; exact go (fun t k => XT.acmpNo X.here hx rfl hd rfl h1 h2 hc k) K
theorem gNullY (X : Stand p l e R s m args below meth c T locs cells slots) (hx : p.tables.exec = Jvm.exec) {v : Value} {o : Int} (hd : decode c.code pc = .ok (.ifnull o, 3)) (ho : 0 ≤ (pc : Int) + o) (hq : ((pc : Int) + o).toNat = q) (hv : v = .null) (K : Go p.tables e below P (T.setTop (mkF m q L (S)))) : Go p.tables e below P (T.setTop (mkF m pc L (v :: S))) := go (fun t k => XT.nullYes X.here hx rfl rfl hd rfl hv ho hq k) K
theorem gNullN (X : Stand p l e R s m args below meth c T locs cells slots) (hx : p.tables.exec = Jvm.exec) {v : Value} {o : Int} (hd : decode c.code pc = .ok (.ifnull o, 3)) (hq : pc + 3 = q) (hr : v.isRef = true) (hv : ¬ v = .null) (K : Go p.tables e below P (T.setTop (mkF m q L (S)))) : Go p.tables e below P (T.setTop (mkF m pc L (v :: S))) := by subst hq; exact go (fun t k => XT.nullNo X.here hx rfl hd rfl hr hv k) K
theorem gNonY (X : Stand p l e R s m args below meth c T locs cells slots) (hx : p.tables.exec = Jvm.exec) {v : Value} {o : Int} (hd : decode c.code pc = .ok (.ifnonnull o, 3)) (ho : 0 ≤ (pc : Int) + o) (hq : ((pc : Int) + o).toNat = q) (hr : v.isRef = true) (hv : ¬ v = .null) (K : Go p.tables e below P (T.setTop (mkF m q L (S)))) : Go p.tables e below P (T.setTop (mkF m pc L (v :: S))) := go (fun t k => XT.nonnullYes X.here hx rfl rfl hd rfl hr hv ho hq k) K
theorem gNonN (X : Stand p l e R s m args below meth c T locs cells slots) (hx : p.tables.exec = Jvm.exec) {v : Value} {o : Int} (hd : decode c.code pc = .ok (.ifnonnull o, 3)) (hq : pc + 3 = q) (hv : v = .null) (K : Go p.tables e below P (T.setTop (mkF m q L (S)))) : Go p.tables e below P (T.setTop (mkF m pc L (v :: S))) := by subst hq; exact go (fun t k => XT.nonnullNo X.here hx rfl hd rfl hv k) K
theorem gRet (X : Stand p l e R s m args below meth c T locs cells slots) (hx : p.tables.exec = Jvm.exec) {Q : Option Value → Heap → List Loc → Prop} {k n : Nat} {w : Value} {t : FieldType} {i : Instr} (hlk : meth.locks = false) (hret : meth.sig.returnType = some t) (hn : narrow t w = w)
    (hi : (i = .ireturn ∧ (t = .int ∨ t = .boolean ∨ t = .byte ∨ t = .char ∨ t = .short) ∧ ∃ z, w = .int z) ∨ (i = .lreturn ∧ t = .long ∧ ∃ z, w = .long z) ∨ (i = .dreturn ∧ t = .double ∧ ∃ z, w = .double z) ∨ (i = .freturn ∧ t = .float ∧ ∃ z, w = .float z) ∨ (i = .areturn ∧ t.isReference = true ∧ w.isRef = true))
    (hd : decode c.code pc = .ok (i, 1)) (hk : cells ≤ k) (hs : slots ≤ n) (hQ : Q (some w) T.heap locs) : Go p.tables e below (Done s Q k n) (T.setTop (mkF m pc L (w :: S))) := by
  obtain ⟨fs, hr, hrun, hended, hW, hsame⟩ := X.leave (v := some w) (fun h => by rw [hret] at h; cases h) hlk
  exact ⟨_, _, retOut X hx hret hn hi hd hr, hrun, hended, _, _, rfl, hQ, ⟨_, rfl⟩, hW, hsame.mono hk hs⟩
theorem gRetI (X : Stand p l e R s m args below meth c T locs cells slots) (hx : p.tables.exec = Jvm.exec) {Q : Option Value → Heap → List Loc → Prop} {k n : Nat} {z : Int32} (hlk : meth.locks = false) (hret : meth.sig.returnType = some .int) (hd : decode c.code pc = .ok (.ireturn, 1)) (hk : cells ≤ k) (hs : slots ≤ n) (hQ : Q (some (.int z)) T.heap locs) : Go p.tables e below (Done s Q k n) (T.setTop (mkF m pc L (.int z :: S))) :=
  gRet X hx hlk hret rfl (Or.inl ⟨rfl, Or.inl rfl, _, rfl⟩) hd hk hs hQ
theorem gRetZ (X : Stand p l e R s m args below meth c T locs cells slots) (hx : p.tables.exec = Jvm.exec) {Q : Option Value → Heap → List Loc → Prop} {k n : Nat} {z : Int32} (hlk : meth.locks = false) (hret : meth.sig.returnType = some .boolean) (hd : decode c.code pc = .ok (.ireturn, 1)) (hk : cells ≤ k) (hs : slots ≤ n) (hz : z = 0 ∨ z = 1) (hQ : Q (some (.int z)) T.heap locs) : Go p.tables e below (Done s Q k n) (T.setTop (mkF m pc L (.int z :: S))) :=
  gRet X hx hlk hret (by rcases hz with rfl | rfl <;> rfl) (Or.inl ⟨rfl, Or.inr (Or.inl rfl), _, rfl⟩) hd hk hs hQ
theorem gRetJ (X : Stand p l e R s m args below meth c T locs cells slots) (hx : p.tables.exec = Jvm.exec) {Q : Option Value → Heap → List Loc → Prop} {k n : Nat} {z : Int64} (hlk : meth.locks = false) (hret : meth.sig.returnType = some .long) (hd : decode c.code pc = .ok (.lreturn, 1)) (hk : cells ≤ k) (hs : slots ≤ n) (hQ : Q (some (.long z)) T.heap locs) : Go p.tables e below (Done s Q k n) (T.setTop (mkF m pc L (.long z :: S))) :=
  gRet X hx hlk hret rfl (Or.inr (Or.inl ⟨rfl, rfl, _, rfl⟩)) hd hk hs hQ
theorem gRetA (X : Stand p l e R s m args below meth c T locs cells slots) (hx : p.tables.exec = Jvm.exec) {Q : Option Value → Heap → List Loc → Prop} {k n : Nat} {w : Value} {t : FieldType} (hlk : meth.locks = false) (hret : meth.sig.returnType = some t) (ht : t.isReference = true) (hw : w.isRef = true) (hd : decode c.code pc = .ok (.areturn, 1)) (hk : cells ≤ k) (hs : slots ≤ n) (hQ : Q (some w) T.heap locs) : Go p.tables e below (Done s Q k n) (T.setTop (mkF m pc L (w :: S))) :=
  gRet X hx hlk hret (by cases t <;> simp [FieldType.isReference] at ht <;> cases w <;> simp [Value.isRef] at hw <;> rfl) (Or.inr (Or.inr (Or.inr (Or.inr ⟨rfl, ht, hw⟩)))) hd hk hs hQ
theorem gRetV (X : Stand p l e R s m args below meth c T locs cells slots) (hx : p.tables.exec = Jvm.exec) {Q : Option Value → Heap → List Loc → Prop} {k n : Nat} (hlk : meth.locks = false) (hret : meth.sig.returnType = none) (hd : decode c.code pc = .ok (.return_, 1)) (hk : cells ≤ k) (hs : slots ≤ n) (hQ : Q none T.heap locs) : Go p.tables e below (Done s Q k n) (T.setTop (mkF m pc L [])) := by
  obtain ⟨fs, hr, hrun, hended, hW, hsame⟩ := X.leave (v := none) (fun _ => rfl) hlk
  exact ⟨_, _, X.returnOut hx hret hd hr, hrun, hended, _, _, rfl, hQ, ⟨_, rfl⟩, hW, hsame.mono hk hs⟩
end Steps1
section Steps2
variable {p : Program} {l : Launch} {e : Env} {R : Room} {s : State} {m : MethodId} {args : Array Value} {below : List Frame} {meth : Method} {c : Code} {T : State} {locs : List Loc} {cells slots : Nat} {P : State → Outcome → Prop} {pc q : Nat} {L L' : Array Slot} {S : List Value} {Z : State} {a0 : Array Value} {h : Heap}
theorem gGetF (X : Stand p l e R s m args below meth c T locs cells slots) (hx : p.tables.exec = Jvm.exec) (hZ : Z.Warmed39 s.vm) {own R0 O n d host : String} {i : Nat} (hown : s.vm.findClass own = some m.cls) (w : (Jvm.Cond.fieldLink own i R0 n d).before a0 Z = true ∨ (Jvm.Cond.fieldLinkNest own i R0 n d host).before a0 Z = true) (via : Via Z R0 O n d)
    (eT : T.heap = h) {a : Addr} {v : Value} (F : Fld Z h a O n d v) (hd : decode c.code pc = .ok (.getfield i, 3)) (hq : pc + 3 = q)
    (K : ∀ T', Stand p l e R s m args below meth c T' locs cells slots → T'.heap = h → Go p.tables e below P (T'.setTop (mkF m q L (v :: S)))) : Go p.tables e below P (T.setTop (mkF m pc L (.ref a :: S))) := by
  subst hq
  obtain ⟨T', X', e', st⟩ := getF X hx hZ hown w via eT F (g := mkF m pc L (.ref a :: S)) rfl rfl hd
  exact go st (K T' X' e')
theorem gGetS (X : Stand p l e R s m args below meth c T locs cells slots) (hx : p.tables.exec = Jvm.exec) (hZ : Z.Warmed39 s.vm) {own R0 O n d : String} {i : Nat} (hown : s.vm.findClass own = some m.cls) (w : (Jvm.Cond.fieldLink own i R0 n d).before a0 Z = true) (via : Via Z R0 O n d)
    (eT : T.heap = h) {v : Value} (F : Sta Z h O n d v) (hd : decode c.code pc = .ok (.getstatic i, 3)) (hq : pc + 3 = q)
    (K : ∀ T', Stand p l e R s m args below meth c T' locs cells slots → T'.heap = h → Go p.tables e below P (T'.setTop (mkF m q L (v :: S)))) : Go p.tables e below P (T.setTop (mkF m pc L S)) := by
  subst hq
  obtain ⟨T', X', e', st⟩ := getS X hx hZ (host := "") hown w via eT F (g := mkF m pc L S) rfl hd
  exact go st (K T' X' e')
theorem gPutF (X : Stand p l e R s m args below meth c T locs cells slots) (hx : p.tables.exec = Jvm.exec) (hZ : Z.Warmed39 s.vm) {own R0 O n d host C : String} {i kk : Nat} {ty : FieldType} (hown : s.vm.findClass own = some m.cls) (w : (Jvm.Cond.fieldLink own i R0 n d).before a0 Z = true ∨ (Jvm.Cond.fieldLinkNest own i R0 n d host).before a0 Z = true) (via : Via Z R0 O n d)
    (eT : T.heap = h) {a : Addr} {v old : Value} (F : Fld Z h a O n d old) (E : Exa Z h a C) (Ly : (Jvm.Cond.lays C O n d).before a0 Z = true ∨ ((Jvm.Cond.laysFinal C O n d).before a0 Z = true ∧ own = O ∧ meth.name = "<init>")) (wi : (Jvm.Cond.instantiable C kk).before a0 Z = true)
    (hty : parseFieldDescriptor d = some ty) (hn : narrow ty v = v) (hf : fits ty v = true) (hd : decode c.code pc = .ok (.putfield i, 3)) (hq : pc + 3 = q)
    (K : ∀ T' h', Stand p l e R s m args below meth c T' (locs ++ [⟨a, Jvm.RoadKit.slotOf Z O n d⟩]) cells slots → T'.heap = h' → Wr h h' a (Jvm.RoadKit.slotOf Z O n d) v → Go p.tables e below P (T'.setTop (mkF m q L S))) : Go p.tables e below P (T.setTop (mkF m pc L (v :: .ref a :: S))) := by
  subst hq
  obtain ⟨T', h', X', e', W', st⟩ := putF X hx hZ hown w via eT F E Ly wi hty hn hf (g := mkF m pc L (v :: .ref a :: S)) rfl rfl hd
  exact go st (K T' h' X' e' W')
theorem gNewO (X : Stand p l e R s m args below meth c T locs cells slots) (hx : p.tables.exec = Jvm.exec) (hZ : Z.Warmed39 s.vm) {own C : String} {i n : Nat} (hown : s.vm.findClass own = some m.cls) (w : (Jvm.Cond.classLink own i C).before a0 Z = true) (wi : (Jvm.Cond.instantiable C n).before a0 Z = true) (wz : (Jvm.Cond.initialized C).before a0 Z = true) (eT : T.heap = h)
    (hd : decode c.code pc = .ok (.new i, 3)) (hq : pc + 3 = q) (hc : cells + 1 ≤ R.cells) (hl : slots + n ≤ R.slots)
    (K : ∀ T' h' a, Stand p l e R s m args below meth c T' locs (cells + 1) (slots + n) → T'.heap = h' → a = h.size → Ext h h' → Exa Z h' a C → (∀ {O nm d : String} {ty : FieldType}, Laid Z a0 C O nm d → parseFieldDescriptor d = some ty → Fld Z h' a O nm d (defaultValue ty)) → Go p.tables e below P (T'.setTop (mkF m q L (.ref a :: S)))) : Go p.tables e below P (T.setTop (mkF m pc L S)) := by
  subst hq
  obtain ⟨T', h', X', e', E', A', D', -, st⟩ := newO X hx hZ hown w wi wz eT (g := mkF m pc L S) rfl hd hc hl
  exact go st (K T' h' _ X' e' rfl E' A' D')
theorem gInitO (X : Stand p l e R s m args below meth c T locs cells slots) (hx : p.tables.exec = Jvm.exec) (hZ : Z.Warmed39 s.vm) {own : String} {i : Nat} (hown : s.vm.findClass own = some m.cls) (w1 : (Jvm.Cond.methodLink own i Lib.objectInit).before a0 Z = true) (w2 : (Jvm.Cond.instanceMethod Lib.objectInit).before a0 Z = true) (w3 : (Jvm.Cond.code Lib.objectInit ⟨#[0xb1]⟩ 1 none).before a0 Z = true) (eT : T.heap = h)
    (hsize : L.size = c.maxLocals) {a : Addr} (hd : decode c.code pc = .ok (.invokespecial i, 3)) (hq : pc + 3 = q) (hf : 1 ≤ R.frames) {W : Nat} (hW : (S.map fun v => v.category).sum ≤ W) (hl : W + 12 ≤ R.locals)
    (K : ∀ T', Stand p l e R s m args below meth c T' locs cells slots → T'.heap = h → Go p.tables e below P (T'.setTop (mkF m q L S))) : Go p.tables e below P (T.setTop (mkF m pc L (.ref a :: S))) := by
  subst hq
  obtain ⟨T', X', e', st⟩ := initO X hx hZ hown w1 w2 w3 eT (g := mkF m pc L (.ref a :: S)) rfl hsize rfl hd hf (W := W) (by show 2 * 0 + _ ≤ _; rw [Nat.mul_zero, Nat.zero_add]; exact hW) hl
  exact go st (K T' X' e')
/-! calls by a contract -/
theorem gCallS (X : Stand p l e R s m args below meth c T locs cells slots) (hx : p.tables.exec = Jvm.exec) (hZ : Z.Warmed39 s.vm) {own : String} {i : Nat} {y : MethodName} {bytes : ByteArray} {maxL : Nat} {rt : Option FieldType} {rm : Room} {as' : Array Value} {Q : Option Value → Heap → List Loc → Prop} (hown : s.vm.findClass own = some m.cls)
    (w1 : (Jvm.Cond.methodLink own i y).before a0 Z = true) (w2 : (Jvm.Cond.static y).before a0 Z = true) (w3 : (Jvm.Cond.initialized y.cls).before a0 Z = true) (w4 : (Jvm.Cond.code y bytes maxL rt).before a0 Z = true) (hy : y.cls ≠ "java/lang/invoke/MethodHandle" ∧ y.cls ≠ "java/lang/invoke/VarHandle")
    (hM : Con l Z y bytes maxL rt [] rm as' h rm.cells rm.slots Q) {W : Nat} (hf : rm.frames + 1 ≤ R.frames) (hlo : W + (maxL + 11) + rm.locals ≤ R.locals) (eT : T.heap = h) (hsize : L.size = c.maxLocals)
    {S0 : List Value} (argsL : List Value) (hlen : ∀ sig, parseMethodDescriptor y.desc = some sig → argsL.length = sig.parameters.length) (has : argsL.toArray = as') (hst : S0 = argsL.reverse ++ S) (hW : (S.map fun v => v.category).sum ≤ W) (hd : decode c.code pc = .ok (.invokestatic i, 3)) (hq : pc + 3 = q)
    (hc : cells + rm.cells ≤ R.cells) (hs : slots + rm.slots ≤ R.slots)
    (K : ∀ v T' Lc, Stand p l e R s m args below meth c T' (locs ++ Lc) (cells + rm.cells) (slots + rm.slots) → Q v T'.heap Lc → Go p.tables e below P (T'.setTop (mkF m q L (v.toList ++ S)))) : Go p.tables e below P (T.setTop (mkF m pc L S0)) := by
  subst hq has hst
  obtain ⟨v, _, ⟨T', L1, k1, n1⟩, -, X', ⟨Lc, hQ, h1, h2, h3⟩, st⟩ := Jvm.LawKit.callS X hx hown (mvT hZ w1) (mvT hZ w2) (mvT hZ w3) (mvT hZ w4) hy (backOf (W := W) hM hZ w4 w3 hf hlo) (g := mkF m pc L (argsL.reverse ++ S)) rfl hsize (argsL := argsL) (rest := S) hlen rfl (by show 2 * 0 + _ ≤ _; rw [Nat.mul_zero, Nat.zero_add]; exact hW) hd (fun _ _ => ⟨rfl, eT, hc, hs⟩)
  dsimp only [Pt.U, Pt.locs, Pt.cells, Pt.slots] at X' h1 h2 h3 st hQ
  subst h1 h2 h3
  exact go st (K v T' Lc X' hQ)
theorem gCallSN (X : Stand p l e R s m args below meth c T locs cells slots) (hx : p.tables.exec = Jvm.exec) (hZ : Z.Warmed39 s.vm) {own host : String} {i : Nat} {y : MethodName} {bytes : ByteArray} {maxL : Nat} {rt : Option FieldType} {rm : Room} {as' : Array Value} {Q : Option Value → Heap → List Loc → Prop} (hown : s.vm.findClass own = some m.cls)
    (w1 : (Jvm.Cond.methodLinkNest own i y host).before a0 Z = true) (w2 : (Jvm.Cond.static y).before a0 Z = true) (w3 : (Jvm.Cond.initialized y.cls).before a0 Z = true) (w4 : (Jvm.Cond.code y bytes maxL rt).before a0 Z = true) (hy : y.cls ≠ "java/lang/invoke/MethodHandle" ∧ y.cls ≠ "java/lang/invoke/VarHandle")
    (hM : Con l Z y bytes maxL rt [] rm as' h rm.cells rm.slots Q) {W : Nat} (hf : rm.frames + 1 ≤ R.frames) (hlo : W + (maxL + 11) + rm.locals ≤ R.locals) (eT : T.heap = h) (hsize : L.size = c.maxLocals)
    {S0 : List Value} (argsL : List Value) (hlen : ∀ sig, parseMethodDescriptor y.desc = some sig → argsL.length = sig.parameters.length) (has : argsL.toArray = as') (hst : S0 = argsL.reverse ++ S) (hW : (S.map fun v => v.category).sum ≤ W) (hd : decode c.code pc = .ok (.invokestatic i, 3)) (hq : pc + 3 = q)
    (hc : cells + rm.cells ≤ R.cells) (hs : slots + rm.slots ≤ R.slots)
    (K : ∀ v T' Lc, Stand p l e R s m args below meth c T' (locs ++ Lc) (cells + rm.cells) (slots + rm.slots) → Q v T'.heap Lc → Go p.tables e below P (T'.setTop (mkF m q L (v.toList ++ S)))) : Go p.tables e below P (T.setTop (mkF m pc L S0)) := by
  subst hq has hst
  obtain ⟨v, _, ⟨T', L1, k1, n1⟩, -, X', ⟨Lc, hQ, h1, h2, h3⟩, st⟩ := callSN X hx hown (Cond.methodLinkNest_wide hZ w1 :) (mvT hZ w2) (mvT hZ w3) (mvT hZ w4) hy (backOf (W := W) hM hZ w4 w3 hf hlo) (g := mkF m pc L (argsL.reverse ++ S)) rfl hsize (argsL := argsL) (rest := S) hlen rfl (by show 2 * 0 + _ ≤ _; rw [Nat.mul_zero, Nat.zero_add]; exact hW) hd (fun _ _ => ⟨rfl, eT, hc, hs⟩)
  dsimp only [Pt.U, Pt.locs, Pt.cells, Pt.slots] at X' h1 h2 h3 st hQ
  subst h1 h2 h3
  exact goT st (K v T' Lc X' hQ)
theorem gCallN (X : Stand p l e R s m args below meth c T locs cells slots) (hx : p.tables.exec = Jvm.exec) (hZ : Z.Warmed39 s.vm) {own : String} {i : Nat} {y : MethodName} {bytes : ByteArray} {maxL : Nat} {rm : Room} {as' : Array Value} {Q : Option Value → Heap → List Loc → Prop} (hy1 : y.name = "<init>") (hown : s.vm.findClass own = some m.cls)
    (w1 : (Jvm.Cond.methodLink own i y).before a0 Z = true) (w2 : (Jvm.Cond.instanceMethod y).before a0 Z = true) (w3 : (Jvm.Cond.initialized y.cls).before a0 Z = true) (w4 : (Jvm.Cond.code y bytes maxL none).before a0 Z = true) (hy : y.cls ≠ "java/lang/invoke/MethodHandle" ∧ y.cls ≠ "java/lang/invoke/VarHandle")
    (hM : Con l Z y bytes maxL none [] rm as' h rm.cells rm.slots Q) {W : Nat} (hf : rm.frames + 1 ≤ R.frames) (hlo : W + (maxL + 11) + rm.locals ≤ R.locals) (eT : T.heap = h) (hsize : L.size = c.maxLocals)
    {S0 : List Value} {a : Addr} (argsL : List Value) (hlen : ∀ sig, parseMethodDescriptor y.desc = some sig → argsL.length = sig.parameters.length) (has : (.ref a :: argsL).toArray = as') (hst : S0 = argsL.reverse ++ .ref a :: S) (hW : (S.map fun v => v.category).sum ≤ W) (hd : decode c.code pc = .ok (.invokespecial i, 3)) (hq : pc + 3 = q)
    (hc : cells + rm.cells ≤ R.cells) (hs : slots + rm.slots ≤ R.slots)
    (K : ∀ v T' Lc, Stand p l e R s m args below meth c T' (locs ++ Lc) (cells + rm.cells) (slots + rm.slots) → Q v T'.heap Lc → Go p.tables e below P (T'.setTop (mkF m q L (v.toList ++ S)))) : Go p.tables e below P (T.setTop (mkF m pc L S0)) := by
  subst hq has hst
  obtain ⟨v, _, ⟨T', L1, k1, n1⟩, -, X', ⟨Lc, hQ, h1, h2, h3⟩, st⟩ := X.specialBack hx hy1 hown (mvT hZ w1) (mvT hZ w2) (mvT hZ w4) hy (backOf (W := W) hM hZ w4 w3 hf hlo) (g := mkF m pc L (argsL.reverse ++ .ref a :: S)) rfl hsize (Steps.refl _) (a := a) (argsL := argsL) (rest := S) hlen rfl (by show 2 * 0 + _ ≤ _; rw [Nat.mul_zero, Nat.zero_add]; exact hW) hd (fun _ _ => ⟨rfl, eT, hc, hs⟩)
  dsimp only [Pt.U, Pt.locs, Pt.cells, Pt.slots] at X' h1 h2 h3 st hQ
  subst h1 h2 h3
  exact goT st (K v T' Lc X' hQ)
theorem gCallV (X : Stand p l e R s m args below meth c T locs cells slots) (hx : p.tables.exec = Jvm.exec) (hZ : Z.Warmed39 s.vm) {own C : String} {i : Nat} {y z : MethodName} {bytes : ByteArray} {maxL : Nat} {rt : Option FieldType} {rm : Room} {as' : Array Value} {Q : Option Value → Heap → List Loc → Prop} (hown : s.vm.findClass own = some m.cls)
    (w1 : (Jvm.Cond.methodLink own i y).before a0 Z = true) (w2 : (Jvm.Cond.declares y).before a0 Z = true) (w5 : (Jvm.Cond.selects C y z).before a0 Z = true) (w6 : (Jvm.Cond.instanceMethod z).before a0 Z = true) (w3 : (Jvm.Cond.initialized z.cls).before a0 Z = true) (w4 : (Jvm.Cond.code z bytes maxL rt).before a0 Z = true) (hnf : NotFace s y) (hy : y.cls ≠ "java/lang/invoke/MethodHandle" ∧ y.cls ≠ "java/lang/invoke/VarHandle")
    (hM : Con l Z z bytes maxL rt [] rm as' h rm.cells rm.slots Q) {W : Nat} (hf : rm.frames + 1 ≤ R.frames) (hlo : W + (maxL + 11) + rm.locals ≤ R.locals) (eT : T.heap = h) (hsize : L.size = c.maxLocals)
    {S0 : List Value} {a : Addr} (E : Exa Z h a C) (argsL : List Value) (hlen : ∀ sig, parseMethodDescriptor y.desc = some sig → argsL.length = sig.parameters.length) (has : (.ref a :: argsL).toArray = as') (hst : S0 = argsL.reverse ++ .ref a :: S) (hW : (S.map fun v => v.category).sum ≤ W) (hd : decode c.code pc = .ok (.invokevirtual i, 3)) (hq : pc + 3 = q)
    (hc : cells + rm.cells ≤ R.cells) (hs : slots + rm.slots ≤ R.slots)
    (K : ∀ v T' Lc, Stand p l e R s m args below meth c T' (locs ++ Lc) (cells + rm.cells) (slots + rm.slots) → Q v T'.heap Lc → Go p.tables e below P (T'.setTop (mkF m q L (v.toList ++ S)))) : Go p.tables e below P (T.setTop (mkF m pc L S0)) := by
  subst hq has hst
  obtain ⟨cq, kq, q1, q2, q3⟩ := isOf hZ eT E
  obtain ⟨v, _, ⟨T', L1, k1, n1⟩, -, X', ⟨Lc, hQ, h1, h2, h3⟩, st⟩ := X.virtualBack hx hown (mvT hZ w1) (mvT hZ w2) hnf (mvT hZ w5) (mvT hZ w6) hy (backOf (W := W) hM hZ w4 w3 hf hlo) q1 q3 (g := mkF m pc L (argsL.reverse ++ .ref a :: S)) rfl hsize (Steps.refl _) (argsL := argsL) (rest := S) hlen rfl (by show 2 * 0 + _ ≤ _; rw [Nat.mul_zero, Nat.zero_add]; exact hW) hd (fun _ _ => ⟨rfl, eT, hc, hs⟩)
  dsimp only [Pt.U, Pt.locs, Pt.cells, Pt.slots] at X' h1 h2 h3 st hQ
  subst h1 h2 h3
  exact goT st (K v T' Lc X' hQ)
end Steps2
end Jvm.OwnKit
namespace Jvm.OwnKit
open Sem ClassFile Op Lib Jvm.Stand Jvm.Free Jvm.LawKit Jvm.RoadKit
/-- the array at a: its class, its element type, its values -/
def Ary (Z : State) (h : Heap) (a : Addr) (k : ClassId) (ty : FieldType) (vs : List Value) : Prop := ∃ c : Cell, Arr Z h a c ty ∧ c.cls = k ∧ c.slots.toList = vs
section Ary
variable {Z : State} {h h' : Heap} {a b : Addr} {k : ClassId} {ty : FieldType} {vs : List Value} {sl : Nat} {v : Value} {ws : List Addr}
theorem Ary.ext (E : Ext h h') (F : Ary Z h a k ty vs) : Ary Z h' a k ty vs := by obtain ⟨c, A, r⟩ := F; exact ⟨c, A.ext E, r⟩
theorem Ary.other (W : Wr h h' a sl v) (F : Ary Z h b k ty vs) (q : b ≠ a) : Ary Z h' b k ty vs := by obtain ⟨c, A, r⟩ := F; exact ⟨c, A.other W q, r⟩
theorem Ary.keep (F : Ary Z h a k ty vs) (K : Keep h h' ws) (q : a ∉ ws) : Ary Z h' a k ty vs := by obtain ⟨c, A, r⟩ := F; exact ⟨c, ⟨K.2.1 a c A.1 q, A.2⟩, r⟩
theorem Ary.lt (F : Ary Z h a k ty vs) : a < h.size := by obtain ⟨c, A, -⟩ := F; exact A.lt
theorem Ary.same (W : Wr h h' a sl v) (F : Ary Z h a k ty vs) : Ary Z h' a k ty (vs.set sl v) := by
  obtain ⟨c, A, r1, r2⟩ := F
  exact ⟨_, A.same W, r1, by subst r2; simp [Cell.setSlot]⟩
theorem Ary.new {n : Int32} (A : Arr Z h a (newA k ty n) ty) : Ary Z h a k ty (List.replicate n.toNatClampNeg (defaultValue ty)) := ⟨_, A, rfl, by simp [newA]⟩
theorem Ary.ne_exa {a0 : Array Value} {C : String} {n : Nat} (F : Ary Z h a k ty vs) (E : Exa Z h b C) (wi : (Jvm.Cond.instantiable C n).before a0 Z = true) : a ≠ b := by obtain ⟨c, A, -⟩ := F; exact (ne_arr E wi A).symm
end Ary
section Steps3
variable {p : Program} {l : Launch} {e : Env} {R : Room} {s : State} {m : MethodId} {args : Array Value} {below : List Frame} {meth : Method} {c : Code} {T : State} {locs : List Loc} {cells slots : Nat} {P : State → Outcome → Prop} {pc q : Nat} {L L' : Array Slot} {S : List Value} {Z : State} {a0 : Array Value} {h : Heap} {a : Addr} {k : ClassId} {vs : List Value}
theorem gIaload (X : Stand p l e R s m args below meth c T locs cells slots) (hx : p.tables.exec = Jvm.exec) (hZ : Z.Warmed39 s.vm) (eT : T.heap = h) (A : Ary Z h a k .int vs) {j : Int32} {v : Value} (hd : decode c.code pc = .ok (.iaload, 1)) (hq : pc + 1 = q) (hj : ¬ (j < 0 ∨ vs.length ≤ j.toNatClampNeg)) (hv : vs[j.toNatClampNeg]? = some v) (K : Go p.tables e below P (T.setTop (mkF m q L (v :: S)))) : Go p.tables e below P (T.setTop (mkF m pc L (.int j :: .ref a :: S))) := by
  subst hq eT
  obtain ⟨cl, A, -, rfl⟩ := A
  exact go (fun t k => X.iaload hx (j := j) (v := v) A.1 (State.isArrayOf_alike hZ.alike A.2.1) A.2.2 (by simpa using hj) (by simpa using hv) (g := mkF m pc L (.int j :: .ref a :: S)) rfl rfl hd _ k) K
theorem gLaload (X : Stand p l e R s m args below meth c T locs cells slots) (hx : p.tables.exec = Jvm.exec) (hZ : Z.Warmed39 s.vm) (eT : T.heap = h) (A : Ary Z h a k .long vs) {j : Int32} {v : Value} (hd : decode c.code pc = .ok (.laload, 1)) (hq : pc + 1 = q) (hj : ¬ (j < 0 ∨ vs.length ≤ j.toNatClampNeg)) (hv : vs[j.toNatClampNeg]? = some v) (K : Go p.tables e below P (T.setTop (mkF m q L (v :: S)))) : Go p.tables e below P (T.setTop (mkF m pc L (.int j :: .ref a :: S))) := by
  subst hq eT
  obtain ⟨cl, A, -, rfl⟩ := A
  exact go (fun t k => X.laload hx (j := j) (v := v) A.1 (State.isArrayOf_alike hZ.alike A.2.1) A.2.2 (by simpa using hj) (by simpa using hv) (g := mkF m pc L (.int j :: .ref a :: S)) rfl rfl hd _ k) K
theorem gCaload (X : Stand p l e R s m args below meth c T locs cells slots) (hx : p.tables.exec = Jvm.exec) (hZ : Z.Warmed39 s.vm) (eT : T.heap = h) (A : Ary Z h a k .char vs) {j : Int32} {v : Value} (hd : decode c.code pc = .ok (.caload, 1)) (hq : pc + 1 = q) (hj : ¬ (j < 0 ∨ vs.length ≤ j.toNatClampNeg)) (hv : vs[j.toNatClampNeg]? = some v) (K : Go p.tables e below P (T.setTop (mkF m q L (v :: S)))) : Go p.tables e below P (T.setTop (mkF m pc L (.int j :: .ref a :: S))) := by
  subst hq eT
  obtain ⟨cl, A, -, rfl⟩ := A
  exact go (fun t k => X.caload hx (j := j) (v := v) A.1 (State.isArrayOf_alike hZ.alike A.2.1) A.2.2 (by simpa using hj) (by simpa using hv) (g := mkF m pc L (.int j :: .ref a :: S)) rfl rfl hd _ k) K
theorem gAaload (X : Stand p l e R s m args below meth c T locs cells slots) (hx : p.tables.exec = Jvm.exec) (hZ : Z.Warmed39 s.vm) (eT : T.heap = h) {ty : FieldType} (A : Ary Z h a k ty vs) (ht : ty.isReference = true) {j : Int32} {v : Value} (hd : decode c.code pc = .ok (.aaload, 1)) (hq : pc + 1 = q) (hj : ¬ (j < 0 ∨ vs.length ≤ j.toNatClampNeg)) (hv : vs[j.toNatClampNeg]? = some v) (K : Go p.tables e below P (T.setTop (mkF m q L (v :: S)))) : Go p.tables e below P (T.setTop (mkF m pc L (.int j :: .ref a :: S))) := by
  subst hq eT
  obtain ⟨cl, A, -, rfl⟩ := A
  exact go (fun t k => X.aaload hx (j := j) (v := v) A.1 (State.isArrayOf_alike hZ.alike A.2.1) ht A.2.2 (by simpa using hj) (by simpa using hv) (g := mkF m pc L (.int j :: .ref a :: S)) rfl rfl hd _ k) K
theorem gLen (X : Stand p l e R s m args below meth c T locs cells slots) (hx : p.tables.exec = Jvm.exec) (hZ : Z.Warmed39 s.vm) (eT : T.heap = h) {ty : FieldType} (A : Ary Z h a k ty vs) {n : Int32} (hn : vs.length.toInt32 = n) (hd : decode c.code pc = .ok (.arraylength, 1)) (hq : pc + 1 = q) (K : Go p.tables e below P (T.setTop (mkF m q L (.int n :: S)))) : Go p.tables e below P (T.setTop (mkF m pc L (.ref a :: S))) := by
  subst hq eT hn
  obtain ⟨cl, A, -, rfl⟩ := A
  exact go (fun t k => X.arraylength hx A.1 (State.isArrayOf_alike hZ.alike A.2.1) (g := mkF m pc L (.ref a :: S)) rfl rfl hd _ (by simpa using k)) K
theorem gIastore (X : Stand p l e R s m args below meth c T locs cells slots) (hx : p.tables.exec = Jvm.exec) (hZ : Z.Warmed39 s.vm) (eT : T.heap = h) (A : Ary Z h a k .int vs) {j : Int32} {x : Int32} (hd : decode c.code pc = .ok (.iastore, 1)) (hq : pc + 1 = q) (hj : ¬ (j < 0 ∨ vs.length ≤ j.toNatClampNeg))
    (K : ∀ T' h', Stand p l e R s m args below meth c T' (locs ++ [⟨a, j.toNatClampNeg⟩]) cells slots → T'.heap = h' → Wr h h' a j.toNatClampNeg (.int x) → Ary Z h' a k .int (vs.set j.toNatClampNeg (.int x)) → Go p.tables e below P (T'.setTop (mkF m q L (S)))) : Go p.tables e below P (T.setTop (mkF m pc L (.int x :: .int j :: .ref a :: S))) := by
  subst hq
  have A' := A
  obtain ⟨cl, Ac, r1, r2⟩ := A'
  obtain ⟨T', h', X', e', W', st⟩ := stI X hx hZ eT Ac (j := j) (x := x) (by subst r2; simpa using hj) (g := mkF m pc L (.int x :: .int j :: .ref a :: S)) rfl rfl hd
  exact go st (K T' h' X' e' W' (Ary.same W' A))
theorem gLastore (X : Stand p l e R s m args below meth c T locs cells slots) (hx : p.tables.exec = Jvm.exec) (hZ : Z.Warmed39 s.vm) (eT : T.heap = h) (A : Ary Z h a k .long vs) {j : Int32} {x : Int64} (hd : decode c.code pc = .ok (.lastore, 1)) (hq : pc + 1 = q) (hj : ¬ (j < 0 ∨ vs.length ≤ j.toNatClampNeg))
    (K : ∀ T' h', Stand p l e R s m args below meth c T' (locs ++ [⟨a, j.toNatClampNeg⟩]) cells slots → T'.heap = h' → Wr h h' a j.toNatClampNeg (.long x) → Ary Z h' a k .long (vs.set j.toNatClampNeg (.long x)) → Go p.tables e below P (T'.setTop (mkF m q L (S)))) : Go p.tables e below P (T.setTop (mkF m pc L (.long x :: .int j :: .ref a :: S))) := by
  subst hq
  have A' := A
  obtain ⟨cl, Ac, r1, r2⟩ := A'
  obtain ⟨T', h', X', e', W', st⟩ := stJ X hx hZ eT Ac (j := j) (x := x) (by subst r2; simpa using hj) (g := mkF m pc L (.long x :: .int j :: .ref a :: S)) rfl rfl hd
  exact go st (K T' h' X' e' W' (Ary.same W' A))
theorem gCastore (X : Stand p l e R s m args below meth c T locs cells slots) (hx : p.tables.exec = Jvm.exec) (hZ : Z.Warmed39 s.vm) (eT : T.heap = h) (A : Ary Z h a k .char vs) {j x : Int32} (hd : decode c.code pc = .ok (.castore, 1)) (hq : pc + 1 = q) (hj : ¬ (j < 0 ∨ vs.length ≤ j.toNatClampNeg))
    (K : ∀ T' h', Stand p l e R s m args below meth c T' (locs ++ [⟨a, j.toNatClampNeg⟩]) cells slots → T'.heap = h' → Wr h h' a j.toNatClampNeg (.int (nar .char x)) → Ary Z h' a k .char (vs.set j.toNatClampNeg (.int (nar .char x))) → Go p.tables e below P (T'.setTop (mkF m q L (S)))) : Go p.tables e below P (T.setTop (mkF m pc L (.int x :: .int j :: .ref a :: S))) := by
  subst hq
  have A' := A
  obtain ⟨cl, Ac, r1, r2⟩ := A'
  obtain ⟨T', h', X', e', W', st⟩ := stC X hx hZ eT Ac (j := j) (x := x) (by subst r2; simpa using hj) (g := mkF m pc L (.int x :: .int j :: .ref a :: S)) rfl rfl hd
  exact go st (K T' h' X' e' W' (Ary.same W' A))
theorem gAastore (X : Stand p l e R s m args below meth c T locs cells slots) (hx : p.tables.exec = Jvm.exec) (hZ : Z.Warmed39 s.vm) (eT : T.heap = h) {ty : FieldType} (A : Ary Z h a k ty vs) (ht : ty.isReference = true) {j : Int32} {v : Value} (F : Sto Z h a v) (hd : decode c.code pc = .ok (.aastore, 1)) (hq : pc + 1 = q) (hj : ¬ (j < 0 ∨ vs.length ≤ j.toNatClampNeg))
    (K : ∀ T' h', Stand p l e R s m args below meth c T' (locs ++ [⟨a, j.toNatClampNeg⟩]) cells slots → T'.heap = h' → Wr h h' a j.toNatClampNeg v → Ary Z h' a k ty (vs.set j.toNatClampNeg v) → Go p.tables e below P (T'.setTop (mkF m q L (S)))) : Go p.tables e below P (T.setTop (mkF m pc L (v :: .int j :: .ref a :: S))) := by
  subst hq
  have A' := A
  obtain ⟨cl, Ac, r1, r2⟩ := A'
  obtain ⟨T', h', X', e', W', st⟩ := stR X hx hZ eT Ac (j := j) (by subst r2; simpa using hj) ht F (g := mkF m pc L (v :: .int j :: .ref a :: S)) rfl rfl hd
  exact go st (K T' h' X' e' W' (Ary.same W' A))
theorem Sto.ofA {Z : State} {h : Heap} {a y : Addr} {k : ClassId} {ty : FieldType} {vs : List Value} {C : String} (A : Ary Z h a k ty vs) (O : Ovr Z k C) (I : Ins Z h y C true) : Sto Z h a (.ref y) := by obtain ⟨c, Ac, r, -⟩ := A; exact Sto.ofV Ac r O I
theorem gNewP (X : Stand p l e R s m args below meth c T locs cells slots) (hx : p.tables.exec = Jvm.exec) (hZ : Z.Warmed39 s.vm) {aty : ArrayType} (w : (Jvm.Cond.arrayClass (newarray.typeOf aty)).before a0 Z = true) (eT : T.heap = h) (hd : decode c.code pc = .ok (.newarray aty, 2)) (hq : pc + 2 = q) {n : Int32} (hn : ¬ n < 0) {cap : Nat} (hcap : n.toNatClampNeg ≤ cap) (hb : cap * 8 ≤ 536870912) (hc : cells + 1 ≤ R.cells) (hl : slots + cap ≤ R.slots)
    (K : ∀ T' h' a cA, Stand p l e R s m args below meth c T' locs (cells + 1) (slots + cap) → T'.heap = h' → a = h.size → Ext h h' → Ary Z h' a cA (newarray.typeOf aty) (List.replicate n.toNatClampNeg (defaultValue (newarray.typeOf aty))) → Go p.tables e below P (T'.setTop (mkF m q L (.ref a :: S)))) : Go p.tables e below P (T.setTop (mkF m pc L (.int n :: S))) := by
  subst hq
  obtain ⟨T', h', cA, X', e', E', A', st⟩ := newP X hx hZ w eT (g := mkF m pc L (.int n :: S)) rfl hd rfl hn hcap hb hc hl
  exact go st (K T' h' _ cA X' e' rfl E' (Ary.new A'))
theorem gNewR (X : Stand p l e R s m args below meth c T locs cells slots) (hx : p.tables.exec = Jvm.exec) (hZ : Z.Warmed39 s.vm) {own C : String} {i : Nat} (hown : s.vm.findClass own = some m.cls) (w1 : (Jvm.Cond.classLink own i C).before a0 Z = true) (w2 : (Jvm.Cond.arrayOver (.object C)).before a0 Z = true) (eT : T.heap = h) (hd : decode c.code pc = .ok (.anewarray i, 3)) (hq : pc + 3 = q) {n : Int32} (hn : ¬ n < 0) {cap : Nat} (hcap : n.toNatClampNeg ≤ cap) (hb : cap * 8 ≤ 536870912) (hc : cells + 1 ≤ R.cells) (hl : slots + cap ≤ R.slots)
    (K : ∀ T' h' a cA, Stand p l e R s m args below meth c T' locs (cells + 1) (slots + cap) → T'.heap = h' → a = h.size → Ext h h' → Ary Z h' a cA (.object C) (List.replicate n.toNatClampNeg .null) → Ovr Z cA C → Go p.tables e below P (T'.setTop (mkF m q L (.ref a :: S)))) : Go p.tables e below P (T.setTop (mkF m pc L (.int n :: S))) := by
  subst hq
  obtain ⟨T', h', cA, X', e', E', A', O', st⟩ := newR X hx hZ hown w1 w2 eT (g := mkF m pc L (.int n :: S)) rfl hd rfl hn hcap hb hc hl
  exact go st (K T' h' _ cA X' e' rfl E' (Ary.new A') O')
end Steps3
end Jvm.OwnKit
namespace Jvm.OwnKit
open Sem ClassFile Op Lib Jvm.Stand Jvm.Free Jvm.LawKit Jvm.RoadKit
theorem own_inst {Z : State} {a0 : Array Value} {K : String} {n : Nat} (w : (Jvm.Cond.instantiable K n).before a0 Z = true) : ∃ t k, Z.vm.findClass K = some t ∧ Z.vm.classes[t]? = some k ∧ k.kind = .ordinary ∧ k.isInterface = false := by
  obtain ⟨t, k, h1, h2, h3, h4, -⟩ := Cond.instantiable_spec w
  exact ⟨t, k, h1, h2, h3, by simp only [Bool.or_eq_false_iff] at h4; exact h4.1⟩
theorem own_nsRoot {Z : State} {a0 : Array Value} {O K : String} {n : Nat} (w : (Jvm.Cond.noSuperclass O).before a0 Z = true) (wk : (Jvm.Cond.instantiable K n).before a0 Z = true) (hn : O ≠ K) : NS Z O K := by
  obtain ⟨c, k, h1, h2, h3, -, -⟩ := Cond.noSuperclass_spec w
  obtain ⟨t, k', g1, -⟩ := own_inst wk
  have ne := ids_ne h1 g1 hn
  refine ⟨c, t, h1, g1, fun fuel => ?_⟩
  cases fuel with
  | zero => rfl
  | succ f => simp [Vm.isSubclassAux, ne, h2, h3]
theorem own_nsNo {Z : State} {a0 : Array Value} {C S K : String} {n : Nat} (w : (Jvm.Cond.superclass C S).before a0 Z = true) (wk : (Jvm.Cond.instantiable K n).before a0 Z = true) (m : NS Z C K) (hn : C ≠ K) : ∃ c t, Z.vm.findClass C = some c ∧ Z.vm.findClass K = some t ∧ Z.vm.assignable c t = false := by
  obtain ⟨c, t, h0, g0, n3⟩ := m
  obtain ⟨p, k, kp, h1, h2, h3, h4, h5, -, h7⟩ := Cond.superclass_spec h0 w
  obtain ⟨t', k', g1, g2, g3, g4⟩ := own_inst wk
  cases g0.symm.trans g1
  have ne := ids_ne h0 g0 hn
  refine ⟨c, t, h0, g0, ?_⟩
  show Z.vm.assignableAux (255 + 1) c t = false
  simp [Vm.assignableAux, ne, h2, g2, h5, g3, g4, Vm.isSubclass, n3]
section Steps4
variable {p : Program} {l : Launch} {e : Env} {R : Room} {s : State} {m : MethodId} {args : Array Value} {below : List Frame} {meth : Method} {c : Code} {T : State} {locs : List Loc} {cells slots : Nat} {P : State → Outcome → Prop} {pc q : Nat} {L L' : Array Slot} {S : List Value} {Z : State} {a0 : Array Value} {h : Heap} {a : Addr}
theorem gInstY (X : Stand p l e R s m args below meth c T locs cells slots) (hx : p.tables.exec = Jvm.exec) (hZ : Z.Warmed39 s.vm) {own K : String} {i : Nat} (hown : s.vm.findClass own = some m.cls) (w : (Jvm.Cond.classLink own i K).before a0 Z = true) (eT : T.heap = h) (F : Ins Z h a K true) (hd : decode c.code pc = .ok (.instanceof i, 3)) (hq : pc + 3 = q)
    (K1 : ∀ T', Stand p l e R s m args below meth c T' locs cells slots → T'.heap = h → Go p.tables e below P (T'.setTop (mkF m q L (.int 1 :: S)))) : Go p.tables e below P (T.setTop (mkF m pc L (.ref a :: S))) := by
  subst hq
  obtain ⟨T', X', e', st⟩ := instY X hx hZ hown w eT F (g := mkF m pc L (.ref a :: S)) rfl rfl hd
  exact go st (K1 T' X' e')
theorem gInstNo (X : Stand p l e R s m args below meth c T locs cells slots) (hx : p.tables.exec = Jvm.exec) (hZ : Z.Warmed39 s.vm) {own K C : String} {i : Nat} (hown : s.vm.findClass own = some m.cls) (w : (Jvm.Cond.classLink own i K).before a0 Z = true) (eT : T.heap = h) (E : Exa Z h a C) (F : ∃ c t, Z.vm.findClass C = some c ∧ Z.vm.findClass K = some t ∧ Z.vm.assignable c t = false) (hd : decode c.code pc = .ok (.instanceof i, 3)) (hq : pc + 3 = q)
    (K1 : ∀ T', Stand p l e R s m args below meth c T' locs cells slots → T'.heap = h → Go p.tables e below P (T'.setTop (mkF m q L (.int 0 :: S)))) : Go p.tables e below P (T.setTop (mkF m pc L (.ref a :: S))) := by
  subst hq
  obtain ⟨T', X', e', st⟩ := instNo X hx hZ hown w eT E F (g := mkF m pc L (.ref a :: S)) rfl rfl hd
  exact go st (K1 T' X' e')
theorem gInstNull (X : Stand p l e R s m args below meth c T locs cells slots) (hx : p.tables.exec = Jvm.exec) {i : Nat} (hd : decode c.code pc = .ok (.instanceof i, 3)) (hq : pc + 3 = q) (K1 : Go p.tables e below P (T.setTop (mkF m q L (.int 0 :: S)))) : Go p.tables e below P (T.setTop (mkF m pc L (.null :: S))) := by
  subst hq
  exact go (fun t k => X.instanceofNull hx (g := mkF m pc L (.null :: S)) rfl rfl hd _ k) K1
theorem gCastY (X : Stand p l e R s m args below meth c T locs cells slots) (hx : p.tables.exec = Jvm.exec) (hZ : Z.Warmed39 s.vm) {own K : String} {i : Nat} (hown : s.vm.findClass own = some m.cls) (w : (Jvm.Cond.classLink own i K).before a0 Z = true) (eT : T.heap = h) (F : Ins Z h a K true) (hd : decode c.code pc = .ok (.checkcast i, 3)) (hq : pc + 3 = q)
    (K1 : ∀ T', Stand p l e R s m args below meth c T' locs cells slots → T'.heap = h → Go p.tables e below P (T'.setTop (mkF m q L (.ref a :: S)))) : Go p.tables e below P (T.setTop (mkF m pc L (.ref a :: S))) := by
  subst hq
  obtain ⟨T', X', e', st⟩ := castY X hx hZ hown w eT F (g := mkF m pc L (.ref a :: S)) rfl rfl hd
  exact go st (K1 T' X' e')
theorem gLdcF (X : Stand p l e R s m args below meth c T locs cells slots) (hx : p.tables.exec = Jvm.exec) (hZ : Z.Warmed39 s.vm) {own : String} {i : Nat} {b : UInt32} (hown : s.vm.findClass own = some m.cls) (w : (Jvm.Cond.constantFloat own i b).before a0 Z = true) (hd : decode c.code pc = .ok (.ldc i, 2)) (hq : pc + 2 = q) (K1 : Go p.tables e below P (T.setTop (mkF m q L (.float b :: S)))) : Go p.tables e below P (T.setTop (mkF m pc L (S))) := by
  subst hq; exact go (X.ldcFloatC hx hown (mvT hZ w) (g := mkF m pc L S) rfl hd) K1
end Steps4
end Jvm.OwnKit
namespace Jvm.OwnKit
open Sem ClassFile Op Lib Jvm.Stand Jvm.Free Jvm.LawKit Jvm.RoadKit
section Steps8
variable {p : Program} {l : Launch} {e : Env} {R : Room} {s : State} {m : MethodId} {args : Array Value} {below : List Frame} {meth : Method} {c : Code} {T : State} {locs : List Loc} {cells slots : Nat} {P : State → Outcome → Prop} {pc q : Nat} {L L' : Array Slot} {S : List Value} {Z : State} {a0 : Array Value} {h : Heap}
theorem gCallP (X : Stand p l e R s m args below meth c T locs cells slots) (hx : p.tables.exec = Jvm.exec) (hZ : Z.Warmed39 s.vm) {own C : String} {i kk : Nat} {y : MethodName} {bytes : ByteArray} {maxL : Nat} {rt : Option FieldType} {rm : Room} {as' : Array Value} {Q : Option Value → Heap → List Loc → Prop} (hown : s.vm.findClass own = some m.cls)
    (w1 : (Jvm.Cond.methodLink own i y).before a0 Z = true) (w2 : (Jvm.Cond.instanceMethod y).before a0 Z = true) (w5 : (Jvm.Cond.privateMethod y).before a0 Z = true) (wi : (Jvm.Cond.instantiable y.cls kk).before a0 Z = true) (w3 : (Jvm.Cond.initialized y.cls).before a0 Z = true) (w4 : (Jvm.Cond.code y bytes maxL rt).before a0 Z = true) (hy : y.cls ≠ "java/lang/invoke/MethodHandle" ∧ y.cls ≠ "java/lang/invoke/VarHandle")
    (hM : Con l Z y bytes maxL rt [] rm as' h rm.cells rm.slots Q) {W : Nat} (hf : rm.frames + 1 ≤ R.frames) (hlo : W + (maxL + 11) + rm.locals ≤ R.locals) (eT : T.heap = h) (hsize : L.size = c.maxLocals)
    {S0 : List Value} {a : Addr} (E : Exa Z h a C) (argsL : List Value) (hlen : ∀ sig, parseMethodDescriptor y.desc = some sig → argsL.length = sig.parameters.length) (has : (.ref a :: argsL).toArray = as') (hst : S0 = argsL.reverse ++ .ref a :: S) (hW : (S.map fun v => v.category).sum ≤ W) (hd : decode c.code pc = .ok (.invokevirtual i, 3)) (hq : pc + 3 = q)
    (hc : cells + rm.cells ≤ R.cells) (hs : slots + rm.slots ≤ R.slots)
    (K : ∀ v T' Lc, Stand p l e R s m args below meth c T' (locs ++ Lc) (cells + rm.cells) (slots + rm.slots) → Q v T'.heap Lc → Go p.tables e below P (T'.setTop (mkF m q L (v.toList ++ S)))) : Go p.tables e below P (T.setTop (mkF m pc L S0)) := by
  subst hq has hst
  obtain ⟨cell, hcell, hobj⟩ := E.cell
  rw [← eT] at hcell
  have hpr : s.PrivateAt y := Cond.privateMethod_at (mvP (args := args) hZ w5)
  have hin : (Jvm.Cond.instanceMethod y).before args s = true := mvT hZ w2
  have hins : (Jvm.Cond.instantiable y.cls kk).before args s = true := mvT hZ wi
  obtain ⟨c1, k1, hc1, hk1, -, hni, -, -⟩ := Cond.instantiable_spec hins
  have hsel := selects_self_of_private (args := args) hc1 hk1 (Bool.or_eq_false_iff.mp hni).1 hpr hin hy
  obtain ⟨v, _, ⟨T', L1, k1, n1⟩, -, X', ⟨Lc, hQ, h1, h2, h3⟩, st⟩ := X.privateBack hx hown (mvT hZ w1) hin hsel hpr (mvT hZ w4) hy (backOf (W := W) hM hZ w4 w3 hf hlo) (g := mkF m pc L (argsL.reverse ++ .ref a :: S)) rfl hsize (Steps.refl _) hcell hobj (argsL := argsL) (rest := S) hlen rfl (by show 2 * 0 + _ ≤ _; rw [Nat.mul_zero, Nat.zero_add]; exact hW) hd (fun _ _ => ⟨rfl, eT, hc, hs⟩)
  dsimp only [Pt.U, Pt.locs, Pt.cells, Pt.slots] at X' h1 h2 h3 st hQ
  subst h1 h2 h3
  exact goT st (K v T' Lc X' hQ)
theorem gCallNN (X : Stand p l e R s m args below meth c T locs cells slots) (hx : p.tables.exec = Jvm.exec) (hZ : Z.Warmed39 s.vm) {own host : String} {i : Nat} {y : MethodName} {bytes : ByteArray} {maxL : Nat} {rm : Room} {as' : Array Value} {Q : Option Value → Heap → List Loc → Prop} (hy1 : y.name = "<init>") (hown : s.vm.findClass own = some m.cls)
    (w1 : (Jvm.Cond.methodLinkNest own i y host).before a0 Z = true) (w2 : (Jvm.Cond.instanceMethod y).before a0 Z = true) (w3 : (Jvm.Cond.initialized y.cls).before a0 Z = true) (w4 : (Jvm.Cond.code y bytes maxL none).before a0 Z = true) (hy : y.cls ≠ "java/lang/invoke/MethodHandle" ∧ y.cls ≠ "java/lang/invoke/VarHandle")
    (hM : Con l Z y bytes maxL none [] rm as' h rm.cells rm.slots Q) {W : Nat} (hf : rm.frames + 1 ≤ R.frames) (hlo : W + (maxL + 11) + rm.locals ≤ R.locals) (eT : T.heap = h) (hsize : L.size = c.maxLocals)
    {S0 : List Value} {a : Addr} (argsL : List Value) (hlen : ∀ sig, parseMethodDescriptor y.desc = some sig → argsL.length = sig.parameters.length) (has : (.ref a :: argsL).toArray = as') (hst : S0 = argsL.reverse ++ .ref a :: S) (hW : (S.map fun v => v.category).sum ≤ W) (hd : decode c.code pc = .ok (.invokespecial i, 3)) (hq : pc + 3 = q)
    (hc : cells + rm.cells ≤ R.cells) (hs : slots + rm.slots ≤ R.slots)
    (K : ∀ v T' Lc, Stand p l e R s m args below meth c T' (locs ++ Lc) (cells + rm.cells) (slots + rm.slots) → Q v T'.heap Lc → Go p.tables e below P (T'.setTop (mkF m q L (v.toList ++ S)))) : Go p.tables e below P (T.setTop (mkF m pc L S0)) := by
  subst hq has hst
  obtain ⟨v, _, ⟨T', L1, k1, n1⟩, -, X', ⟨Lc, hQ, h1, h2, h3⟩, st⟩ := X.specialBackNest hx hy1 hown (Cond.methodLinkNest_wide hZ w1 :) (mvT hZ w2) (mvT hZ w4) hy (backOf (W := W) hM hZ w4 w3 hf hlo) (g := mkF m pc L (argsL.reverse ++ .ref a :: S)) rfl hsize (Steps.refl _) (a := a) (argsL := argsL) (rest := S) hlen rfl (by show 2 * 0 + _ ≤ _; rw [Nat.mul_zero, Nat.zero_add]; exact hW) hd (fun _ _ => ⟨rfl, eT, hc, hs⟩)
  dsimp only [Pt.U, Pt.locs, Pt.cells, Pt.slots] at X' h1 h2 h3 st hQ
  subst h1 h2 h3
  exact goT st (K v T' Lc X' hQ)
end Steps8
end Jvm.OwnKit
namespace Jvm.Pilot.@@N@@
open Jvm Jvm.ClassFile Sem Op Lib Jvm.Free Jvm.Stand Jvm.LawKit Jvm.RoadKit Bundle Jvm.OwnKit Jvm.Pilot.@@N@@.Jvm.D
def own_l (F : Nat → Int32) : List Value := (List.range 24).map fun p => Value.int (F p)
def own_st (F : Nat → Int32) (p : Nat) (x : Int32) : Nat → Int32 := fun q => if q = p then x else F q
theorem own_l_len (F : Nat → Int32) : (own_l F).length = 24 := by simp [own_l]
theorem own_l_get (F : Nat → Int32) (n : Nat) (h : n < 24) : (own_l F)[n]? = some (Value.int (F n)) := by
  simp [own_l, h]
theorem own_l_set (F : Nat → Int32) (n : Nat) (h : n < 24) (x : Int32) : (own_l F).set n (Value.int x) = own_l (own_st F n x) := by
  apply List.ext_getElem?
  intro i
  rw [List.getElem?_set, own_l_len]
  by_cases hi : i < 24
  · rw [own_l_get _ i hi, own_l_get _ i hi]
    by_cases hn : n = i
    · subst hn; simp [own_st, h]
    · have : ¬ i = n := fun z => hn z.symm
      simp [own_st, hn, this]
  · have e1 : (own_l F)[i]? = none := by rw [List.getElem?_eq_none_iff, own_l_len]; omega
    have e2 : (own_l (own_st F n x))[i]? = none := by rw [List.getElem?_eq_none_iff, own_l_len]; omega
    rw [e1, e2]
    by_cases hn : n = i
    · omega
    · simp [hn]
theorem own_idx {F : Nat → Int32} {j : Int32} {n : Nat} (hj : j.toInt = n) (hn : n < 24) : ¬ (j < 0 ∨ (own_l F).length ≤ j.toNatClampNeg) ∧ j.toNatClampNeg = n := by
  have hz : (0 : Int32).toInt = 0 := rfl
  have hnn : ¬ j < 0 := by rw [Int32.lt_iff_toInt_lt]; omega
  have e := nat_of hnn
  rw [own_l_len]
  refine ⟨fun z => z.elim hnn fun y => ?_, ?_⟩ <;> omega
def own_bc (x : Int32) : Int32 :=
  let y1 := x - ((XT.ushr x 1) &&& 1431655765)
  let y2 := (y1 &&& 858993459) + ((XT.ushr y1 2) &&& 858993459)
  let y3 := (y2 + XT.ushr y2 4) &&& 252645135
  let y4 := y3 + XT.ushr y3 8
  let y5 := y4 + XT.ushr y4 16
  y5 &&& 63
set_option maxRecDepth 100000 in
theorem bc_two : ∀ a b : Fin 32, own_bc (((1 : Int32) <<< (Int32.ofNat a.val)) ||| ((1 : Int32) <<< (Int32.ofNat b.val))) = if a = b then 1 else 2 := by decide +kernel
def own_bcL (x : Int64) : Int32 :=
  let y1 := x - ((XT.ushrL x 1) &&& 6148914691236517205)
  let y2 := (y1 &&& 3689348814741910323) + ((XT.ushrL y1 2) &&& 3689348814741910323)
  let y3 := (y2 + XT.ushrL y2 4) &&& 1085102592571150095
  let y4 := y3 + XT.ushrL y3 8
  let y5 := y4 + XT.ushrL y4 16
  let y6 := y5 + XT.ushrL y5 32
  y6.toInt32 &&& 127
set_option maxRecDepth 100000 in
theorem bcL_two : ∀ a b : Fin 64, own_bcL (((1 : Int64) <<< (Int64.ofNat a.val)) ||| ((1 : Int64) <<< (Int64.ofNat b.val))) = if a = b then 1 else 2 := by decide +kernel
-- bitsFrom of three words
def own_bf (w0 w1 w2 sh : Int32) : Int64 :=
  (XT.ushrL ((w0.toInt64 &&& 4294967295) ||| (w1.toInt64 <<< ((32 : Int32).toInt64 &&& 63))) sh) ||| ((w2.toInt64 <<< ((32 : Int32).toInt64 &&& 63)) <<< (((32 : Int32) - sh).toInt64 &&& 63))
def own_w (d : Nat) (p : Nat) (r : Nat) : Int32 := if d = p then (1 : Int32) <<< (Int32.ofNat r) else 0
set_option maxRecDepth 100000 in
theorem bf_one : ∀ d : Fin 3, ∀ r s : Fin 32, own_bf (own_w d 0 r) (own_w d 1 r) (own_w d 2 r) (Int32.ofNat s) = (if s.val ≤ 32 * d.val + r.val ∧ 32 * d.val + r.val - s.val < 64 then (1 : Int64) <<< (Int64.ofNat (32 * d.val + r.val - s.val)) else 0) := by decide +kernel
theorem own_sxor (x y : Int32) : (x ||| y).toInt64 = x.toInt64 ||| y.toInt64 := by
  apply Int64.toBitVec_inj.mp
  simp only [Int64.toBitVec_or, Int32.toBitVec_toInt64, Int32.toBitVec_or]
  apply BitVec.eq_of_getLsbD_eq
  intro i hi
  simp only [BitVec.getLsbD_or, BitVec.getLsbD_signExtend, BitVec.msb_or]
  by_cases h : i < 32 <;> simp [h, hi]
theorem own_shlor (x y : Int64) (s : Int64) : (x ||| y) <<< s = (x <<< s) ||| (y <<< s) := by
  apply Int64.toBitVec_inj.mp
  simp only [Int64.toBitVec_or, Int64.toBitVec_shiftLeft]
  apply BitVec.eq_of_getLsbD_eq
  intro i hi
  simp only [BitVec.getLsbD_or, BitVec.shiftLeft_eq', BitVec.getLsbD_shiftLeft]
  cases decide (i < 64) <;> simp [Bool.and_or_distrib_left]
theorem own_shror (x y : Int64) (s : Int32) : XT.ushrL (x ||| y) s = XT.ushrL x s ||| XT.ushrL y s := by
  unfold XT.ushrL
  apply Int64.toBitVec_inj.mp
  simp [BitVec.ushiftRight_or_distrib]
theorem own_andor (x y m : Int64) : (x ||| y) &&& m = (x &&& m) ||| (y &&& m) := by
  apply Int64.toBitVec_inj.mp
  simp only [Int64.toBitVec_or, Int64.toBitVec_and]
  apply BitVec.eq_of_getLsbD_eq
  intro i hi
  simp [Bool.and_or_distrib_right]
theorem own_orswap (a b c d : Int64) : (a ||| b) ||| (c ||| d) = (a ||| c) ||| (b ||| d) := by
  apply Int64.toBitVec_inj.mp
  simp only [Int64.toBitVec_or]
  apply BitVec.eq_of_getLsbD_eq
  intro i hi
  simp only [BitVec.getLsbD_or]
  cases a.toBitVec.getLsbD i <;> cases b.toBitVec.getLsbD i <;> cases c.toBitVec.getLsbD i <;> cases d.toBitVec.getLsbD i <;> rfl
theorem own_bf_or (a0 a1 a2 b0 b1 b2 s : Int32) : own_bf (a0 ||| b0) (a1 ||| b1) (a2 ||| b2) s = own_bf a0 a1 a2 s ||| own_bf b0 b1 b2 s := by
  unfold own_bf
  rw [own_sxor, own_sxor, own_sxor, own_andor, own_shlor, own_shlor, own_shlor, own_orswap, own_shror, own_orswap]
def own_z : Nat → Int32 := fun _ => 0
theorem own_st0 (n : Nat) : own_st own_z n (0 : Int32) = own_z := by
  funext q; simp [own_st, own_z]
theorem own_ofI {n : Nat} (h : n < 2147483648) : (Int32.ofNat n).toInt = ((n : Nat) : Int) := Int32.toInt_ofNat_of_lt h
theorem own_ofS (t : Nat) : ((Int32.ofNat t) + (1 : Int32)) = (Int32.ofNat (t + 1)) := (Int32.ofNat_add t 1).symm
theorem own_ofN {x : Int32} (h : 0 ≤ x.toInt) : x = (Int32.ofNat x.toInt.toNat) := by
  have r := rng32 x
  apply Int32.toInt_inj.mp
  rw [own_ofI (n := x.toInt.toNat) (by omega)]; omega
theorem own_ad1 {x : Int32} {n : Nat} (h : x.toInt = ((n : Nat) : Int)) (hn : n < 1000) : (x + (1 : Int32)).toInt = ((n + 1 : Nat) : Int) := by
  have z : (1 : Int32).toInt = 1 := rfl
  have c := c_iadd x 1
  have r := rng32 (x + 1)
  omega
theorem own_ad2 {x : Int32} {n : Nat} (h : x.toInt = ((n : Nat) : Int)) (hn : n < 1000) : (x + (2 : Int32)).toInt = ((n + 2 : Nat) : Int) := by
  have z : (2 : Int32).toInt = 2 := rfl
  have c := c_iadd x 2
  have r := rng32 (x + 2)
  omega
theorem own_sum {x : Int32} {n t : Nat} (h : x.toInt = ((n : Nat) : Int)) (hn : n + t < 1000) : (x + (Int32.ofNat t)).toInt = ((n + t : Nat) : Int) := by
  have z := own_ofI (n := t) (by omega)
  have c := c_iadd x (Int32.ofNat t)
  have r := rng32 (x + (Int32.ofNat t))
  omega
theorem own_dbl {x : Int32} {n t : Nat} (h : x.toInt = ((n : Nat) : Int)) (hn : n + t < 1000) : (x + ((Int32.ofNat t) * (2 : Int32))).toInt = ((n + 2 * t : Nat) : Int) := by
  have z := own_ofI (n := t) (by omega)
  have z2 : (2 : Int32).toInt = 2 := rfl
  have c := c_iadd x ((Int32.ofNat t) * 2)
  have r := rng32 (x + (Int32.ofNat t) * 2)
  have r2 := rng32 ((Int32.ofNat t) * 2)
  have c2 := c_imul (Int32.ofNat t) 2
  rw [z, z2] at c2
  omega
theorem own_toz {Z : State} {h : Heap} {a : Addr} {k : ClassId} (A : Ary Z h a k .int [.int (0 : Int32), .int (0 : Int32), .int (0 : Int32), .int (0 : Int32), .int (0 : Int32), .int (0 : Int32), .int (0 : Int32), .int (0 : Int32), .int (0 : Int32), .int (0 : Int32), .int (0 : Int32), .int (0 : Int32), .int (0 : Int32), .int (0 : Int32), .int (0 : Int32), .int (0 : Int32), .int (0 : Int32), .int (0 : Int32), .int (0 : Int32), .int (0 : Int32), .int (0 : Int32), .int (0 : Int32), .int (0 : Int32), .int (0 : Int32)]) : Ary Z h a k .int (own_l own_z) := A
def own_C (F : Nat → Int32) (fr : Nat) : Nat → Int32
  | 0 => 0
  | t + 1 => own_C F fr t + (own_bc (F (fr + 2 * t)) + own_bc (F (fr + 2 * t + 1)))
def own_cnt (F : Nat → Int32) (fr nc : Nat) : Nat → (Nat → Int32)
  | 0 => F
  | t + 1 => own_st (own_cnt F fr nc t) (nc + t) (own_C F fr t)
theorem own_cnt_lo (F : Nat → Int32) (fr nc t p : Nat) (h : p < nc) : own_cnt F fr nc t p = F p := by
  induction t with
  | zero => rfl
  | succ t ih =>
    show own_st (own_cnt F fr nc t) (nc + t) (own_C F fr t) p = F p
    rw [own_st, if_neg (by omega), ih]
theorem own_cnt_hi (F : Nat → Int32) (fr nc t q : Nat) (h : q < t) : own_cnt F fr nc t (nc + q) = own_C F fr q := by
  induction t with
  | zero => omega
  | succ t ih =>
    show own_st (own_cnt F fr nc t) (nc + t) (own_C F fr t) (nc + q) = _
    by_cases e : q = t
    · subst e; rw [own_st, if_pos rfl]
    · rw [own_st, if_neg (by omega)]; exact ih (by omega)
def own_W (fr i j p : Nat) : Int32 := own_w (fr + i / 32) p (i % 32) ||| own_w (fr + j / 32) p (j % 32)
def own_bit (i k : Nat) : Int64 := if k ≤ i ∧ i - k < 64 then (1 : Int64) <<< (Int64.ofNat (i - k)) else 0
def own_ba (x y : Int32) : Int64 := if x < y then (0 : Int64) else if (x - y) < (64 : Int32) then ((1 : Int64) <<< ((x - y).toInt64 &&& 63)) else (0 : Int64)
def own_N (i j m : Nat) : Nat := (if i < m then 1 else 0) + (if j < m ∧ ¬ i = j then 1 else 0)
set_option maxRecDepth 100000 in
theorem dec_sh : ∀ i : Fin 256, ((1 : Int32) <<< (((Int32.ofNat i.val) % (32 : Int32)) &&& 31)) = (1 : Int32) <<< (Int32.ofNat (i.val % 32)) := by decide +kernel
set_option maxRecDepth 100000 in
theorem dec_m32 : ∀ i : Fin 256, ((Int32.ofNat i.val) % (32 : Int32)) = (Int32.ofNat (i.val % 32)) := by decide +kernel
set_option maxRecDepth 100000 in
theorem dec_kb : ∀ i : Fin 256, ((Int32.ofNat i.val) - ((Int32.ofNat i.val) % (64 : Int32))) = (Int32.ofNat (i.val - i.val % 64)) := by decide +kernel
set_option maxRecDepth 100000 in
theorem dec_mk : ∀ i : Fin 256, ((1 : Int64) <<< (((Int32.ofNat i.val) % (64 : Int32)).toInt64 &&& 63)) = (1 : Int64) <<< (Int64.ofNat (i.val % 64)) := by decide +kernel
set_option maxRecDepth 100000 in
theorem dec_d32 : ∀ i : Fin 256, ((Int32.ofNat i.val) / (32 : Int32)) = (Int32.ofNat (i.val / 32)) := by decide +kernel
set_option maxRecDepth 100000 in
theorem dec_d64 : ∀ i : Fin 256, ((Int32.ofNat i.val) / (64 : Int32)) = (Int32.ofNat (i.val / 64)) := by decide +kernel
set_option maxRecDepth 100000 in
theorem dec_g : ∀ i : Fin 256, (((Int32.ofNat i.val) / (64 : Int32)) + (1 : Int32)) = (Int32.ofNat (i.val / 64 + 1)) := by decide +kernel
set_option maxRecDepth 100000 in
theorem dec_s : ∀ d : Fin 64, ((Int32.ofNat d.val).toInt64 &&& 63) = Int64.ofNat d.val := by decide +kernel
set_option maxRecDepth 100000 in
theorem dec_msk : ∀ a r : Fin 64, ((1 : Int64) <<< (Int64.ofNat a.val)) &&& (((1 : Int64) <<< (Int64.ofNat r.val)) - 1) = if a.val < r.val then (1 : Int64) <<< (Int64.ofNat a.val) else 0 := by decide +kernel
theorem bc_l : ∀ a : Fin 32, own_bc (((1 : Int32) <<< (Int32.ofNat a.val)) ||| 0) = 1 := by decide +kernel
theorem bc_r : ∀ a : Fin 32, own_bc (0 ||| ((1 : Int32) <<< (Int32.ofNat a.val))) = 1 := by decide +kernel
theorem bcL_l : ∀ a : Fin 64, own_bcL (((1 : Int64) <<< (Int64.ofNat a.val)) ||| 0) = 1 := by decide +kernel
theorem bcL_r : ∀ a : Fin 64, own_bcL (0 ||| ((1 : Int64) <<< (Int64.ofNat a.val))) = 1 := by decide +kernel
theorem bf_0 : ∀ s : Fin 32, own_bf 0 0 0 (Int32.ofNat s.val) = 0 := by decide +kernel
theorem w_sh (i : Nat) (h : i < 256) : ((1 : Int32) <<< (((Int32.ofNat i) % (32 : Int32)) &&& 31)) = (1 : Int32) <<< (Int32.ofNat (i % 32)) := dec_sh ⟨i, h⟩
theorem w_m32 (i : Nat) (h : i < 256) : ((Int32.ofNat i) % (32 : Int32)) = (Int32.ofNat (i % 32)) := dec_m32 ⟨i, h⟩
theorem w_kb (i : Nat) (h : i < 256) : ((Int32.ofNat i) - ((Int32.ofNat i) % (64 : Int32))) = (Int32.ofNat (i - i % 64)) := dec_kb ⟨i, h⟩
theorem w_mk (i : Nat) (h : i < 256) : ((1 : Int64) <<< (((Int32.ofNat i) % (64 : Int32)).toInt64 &&& 63)) = (1 : Int64) <<< (Int64.ofNat (i % 64)) := dec_mk ⟨i, h⟩
theorem w_d32 (i : Nat) (h : i < 256) : ((Int32.ofNat i) / (32 : Int32)) = (Int32.ofNat (i / 32)) := dec_d32 ⟨i, h⟩
theorem w_d64 (i : Nat) (h : i < 256) : ((Int32.ofNat i) / (64 : Int32)) = (Int32.ofNat (i / 64)) := dec_d64 ⟨i, h⟩
theorem w_im (f i : Nat) (h1 : f < 32) (h : i < 256) : ((Int32.ofNat f) + ((Int32.ofNat i) / (64 : Int32))) = (Int32.ofNat (f + i / 64)) := by rw [w_d64 i h, ← Int32.ofNat_add]
theorem w_ix (f i : Nat) (h1 : f < 8) (h : i < 256) : ((Int32.ofNat f) + ((Int32.ofNat i) / (32 : Int32))) = (Int32.ofNat (f + i / 32)) := by rw [w_d32 i h, ← Int32.ofNat_add]
theorem w_bd (f i : Nat) (h1 : f < 8) (h : i < 256) : ((Int32.ofNat f) + (((Int32.ofNat i) / (32 : Int32)) + (3 : Int32))) = (Int32.ofNat (f + (i / 32 + 3))) := by rw [w_d32 i h, show (3 : Int32) = Int32.ofNat 3 from rfl, ← Int32.ofNat_add, ← Int32.ofNat_add]
theorem w_g (i : Nat) (h : i < 256) : (((Int32.ofNat i) / (64 : Int32)) + (1 : Int32)) = (Int32.ofNat (i / 64 + 1)) := dec_g ⟨i, h⟩
theorem w_s (d : Nat) (h : d < 64) : ((Int32.ofNat d).toInt64 &&& 63) = Int64.ofNat d := dec_s ⟨d, h⟩
theorem w_msk (a r : Nat) (h1 : a < 64) (h2 : r < 64) : ((1 : Int64) <<< (Int64.ofNat a)) &&& (((1 : Int64) <<< (Int64.ofNat r)) - 1) = if a < r then (1 : Int64) <<< (Int64.ofNat a) else 0 := dec_msk ⟨a, h1⟩ ⟨r, h2⟩
theorem w_bc2 (a b : Nat) (h1 : a < 32) (h2 : b < 32) : own_bc (((1 : Int32) <<< (Int32.ofNat a)) ||| ((1 : Int32) <<< (Int32.ofNat b))) = if a = b then 1 else 2 := by
  refine (bc_two ⟨a, h1⟩ ⟨b, h2⟩).trans ?_
  by_cases h : a = b
  · subst h; rw [if_pos rfl, if_pos rfl]
  · rw [if_neg (fun z => h (congrArg Fin.val z)), if_neg h]
theorem w_bcL2 (a b : Nat) (h1 : a < 64) (h2 : b < 64) : own_bcL (((1 : Int64) <<< (Int64.ofNat a)) ||| ((1 : Int64) <<< (Int64.ofNat b))) = if a = b then 1 else 2 := by
  refine (bcL_two ⟨a, h1⟩ ⟨b, h2⟩).trans ?_
  by_cases h : a = b
  · subst h; rw [if_pos rfl, if_pos rfl]
  · rw [if_neg (fun z => h (congrArg Fin.val z)), if_neg h]
theorem w_bcl (a : Nat) (h : a < 32) : own_bc (((1 : Int32) <<< (Int32.ofNat a)) ||| 0) = 1 := bc_l ⟨a, h⟩
theorem w_bcr (a : Nat) (h : a < 32) : own_bc (0 ||| ((1 : Int32) <<< (Int32.ofNat a))) = 1 := bc_r ⟨a, h⟩
theorem w_bcLl (a : Nat) (h : a < 64) : own_bcL (((1 : Int64) <<< (Int64.ofNat a)) ||| 0) = 1 := bcL_l ⟨a, h⟩
theorem w_bcLr (a : Nat) (h : a < 64) : own_bcL (0 ||| ((1 : Int64) <<< (Int64.ofNat a))) = 1 := bcL_r ⟨a, h⟩
theorem w_bf1 (d r s : Nat) (h1 : d < 3) (h2 : r < 32) (h3 : s < 32) : own_bf (own_w d 0 r) (own_w d 1 r) (own_w d 2 r) (Int32.ofNat s) = (if s ≤ 32 * d + r ∧ 32 * d + r - s < 64 then (1 : Int64) <<< (Int64.ofNat (32 * d + r - s)) else 0) := bf_one ⟨d, h1⟩ ⟨r, h2⟩ ⟨s, h3⟩
theorem own_rng (fr sz : Nat) (h1 : fr < 8) (h2 : sz < 256) : ¬ ((Int32.ofNat fr) + (((Int32.ofNat sz) / (32 : Int32)) + (3 : Int32))) < (Int32.ofNat fr) ∧ ¬ (Int32.ofNat fr) < (0 : Int32) ∧ ¬ (24 : Int32) < ((Int32.ofNat fr) + (((Int32.ofNat sz) / (32 : Int32)) + (3 : Int32))) := by
  have z : (0 : Int32).toInt = 0 := rfl
  have z24 : (24 : Int32).toInt = 24 := rfl
  rw [w_bd fr sz h1 h2]
  simp only [Int32.lt_iff_toInt_lt, z, z24]
  rw [own_ofI (n := fr) (by omega), own_ofI (n := fr + (sz / 32 + 3)) (by omega)]
  omega
theorem own_ix' (fr i : Nat) (h1 : fr < 8) (h2 : i < 256) : ((Int32.ofNat fr) + ((Int32.ofNat i) / (32 : Int32))) = (Int32.ofNat (fr + i / 32)) := w_ix fr i h1 h2
theorem own_ix (fr i : Nat) (h1 : fr < 8) (h2 : i < 256) : ((Int32.ofNat fr) + ((Int32.ofNat i) / (32 : Int32))).toInt = ((fr + i / 32 : Nat) : Int) := by rw [own_ix' fr i h1 h2]; exact own_ofI (by omega)
theorem own_ixb (fr k : Nat) (h1 : fr < 8) (h2 : k < 256) : ((Int32.ofNat fr) + (((Int32.ofNat k) - ((Int32.ofNat k) % (64 : Int32))) / (32 : Int32))) = (Int32.ofNat (fr + (k - k % 64) / 32)) := by rw [w_kb k h2]; exact own_ix' fr (k - k % 64) h1 (by omega)
theorem own_ixm (fr sz k : Nat) (h1 : fr < 8) (h2 : sz < 256) (h3 : k < 256) : ((Int32.ofNat (fr + (sz / 32 + 3))) + ((Int32.ofNat k) / (64 : Int32))).toInt = (((fr + (sz / 32 + 3)) + k / 64 : Nat) : Int) := by rw [w_im (fr + (sz / 32 + 3)) k (by omega) h3]; exact own_ofI (by omega)
theorem own_bdf (fr sz : Nat) (h1 : fr < 8) (h0 : 1 ≤ sz) (h2 : sz < 256) : ((Int32.ofNat fr) + (((Int32.ofNat sz) / (32 : Int32)) + (3 : Int32))) = (Int32.ofNat (fr + (sz / 32 + 3))) ∧ (((Int32.ofNat sz) / (64 : Int32)) + (1 : Int32)) = (Int32.ofNat (sz / 64 + 1)) ∧ (0 : Int32) < (Int32.ofNat (sz / 64 + 1)) ∧ ¬ (16 : Int32) < (Int32.ofNat (sz / 64 + 1)) ∧ (Int32.ofNat (sz / 64 + 1)) < (16 : Int32) := by
  have z : (0 : Int32).toInt = 0 := rfl
  have z16 : (16 : Int32).toInt = 16 := rfl
  refine ⟨w_bd fr sz h1 h2, w_g sz h2, ?_⟩
  simp only [Int32.lt_iff_toInt_lt, z, z16]
  rw [own_ofI (n := (sz / 64 + 1)) (by omega)]
  omega
theorem own_size {x u : Int32} (e : (x &&& (255 : Int32)) = u) (h : ¬ u = (0 : Int32)) : ∃ sz, 1 ≤ sz ∧ sz < 256 ∧ u = (Int32.ofNat sz) := by
  have c := c_mask x 255 8 (by decide) (by decide)
  rw [e] at c
  have z : (0 : Int32).toInt = 0 := rfl
  rw [← Int32.toInt_inj] at h
  exact ⟨u.toInt.toNat, by omega, by omega, own_ofN (by omega)⟩
theorem own_from {x u : Int32} (e : (x &&& (7 : Int32)) = u) : ∃ fr, fr < 8 ∧ u = (Int32.ofNat fr) := by
  have c := c_mask x 7 3 (by decide) (by decide)
  rw [e] at c
  exact ⟨u.toInt.toNat, by omega, own_ofN (by omega)⟩
theorem own_rem {x u : Int32} {sz : Nat} (h1 : 1 ≤ sz) (h2 : sz < 256) (e : ((x &&& (2147483647 : Int32)) % (Int32.ofNat sz)) = u) : ∃ i, i < sz ∧ u = (Int32.ofNat i) := by
  have c := c_mask x 2147483647 31 (by decide) (by decide)
  have d := (c_irem (x &&& 2147483647) (Int32.ofNat sz) sz (own_ofI (by omega))).1 (by omega)
  have b1 := Int.emod_nonneg (x &&& (2147483647 : Int32)).toInt (show (sz : Int) ≠ 0 by omega)
  have b2 := Int.emod_lt_of_pos (x &&& (2147483647 : Int32)).toInt (show (0 : Int) < (sz : Int) by omega)
  rw [e] at d
  exact ⟨u.toInt.toNat, by omega, own_ofN (by omega)⟩
theorem own_rem1 {x u : Int32} {sz : Nat} (h2 : sz < 256) (e : ((x &&& (2147483647 : Int32)) % ((Int32.ofNat sz) + (1 : Int32))) = u) : ∃ i, i ≤ sz ∧ u = (Int32.ofNat i) := by
  rw [own_ofS] at e
  have c := c_mask x 2147483647 31 (by decide) (by decide)
  have d := (c_irem (x &&& 2147483647) (Int32.ofNat (sz + 1)) ((sz + 1 : Nat) : Int) (own_ofI (by omega))).1 (by omega)
  have b1 := Int.emod_nonneg (x &&& (2147483647 : Int32)).toInt (show ((sz + 1 : Nat) : Int) ≠ 0 by omega)
  have b2 := Int.emod_lt_of_pos (x &&& (2147483647 : Int32)).toInt (show (0 : Int) < ((sz + 1 : Nat) : Int) by omega)
  rw [e] at d
  exact ⟨u.toInt.toNat, by omega, own_ofN (by omega)⟩
theorem own_nz {sz : Nat} (h1 : 1 ≤ sz) (h2 : sz < 256) : (Int32.ofNat sz) ≠ 0 := by
  intro h
  have := congrArg Int32.toInt h
  rw [own_ofI (n := sz) (by omega), show (0 : Int32).toInt = 0 from rfl] at this
  omega
theorem own_nz1 {sz : Nat} (h2 : sz < 256) : ((Int32.ofNat sz) + (1 : Int32)) ≠ 0 := by
  rw [own_ofS]
  intro h
  have := congrArg Int32.toInt h
  rw [own_ofI (n := sz + 1) (by omega), show (0 : Int32).toInt = 0 from rfl] at this
  omega
theorem own_F2 (fr i j : Nat) (h1 : i < 256) (h2 : j < 256) : (own_st (own_st own_z (fr + i / 32) ((own_z (fr + i / 32)) ||| ((1 : Int32) <<< (((Int32.ofNat i) % (32 : Int32)) &&& 31)))) (fr + j / 32) (((own_st own_z (fr + i / 32) ((own_z (fr + i / 32)) ||| ((1 : Int32) <<< (((Int32.ofNat i) % (32 : Int32)) &&& 31)))) (fr + j / 32)) ||| ((1 : Int32) <<< (((Int32.ofNat j) % (32 : Int32)) &&& 31)))) = own_W fr i j := by
  rw [w_sh i h1, w_sh j h2]
  funext p
  show (if p = fr + j / 32 then ((if fr + j / 32 = fr + i / 32 then ((0 : Int32) ||| ((1 : Int32) <<< (Int32.ofNat (i % 32)))) else (0 : Int32)) ||| ((1 : Int32) <<< (Int32.ofNat (j % 32)))) else (if p = fr + i / 32 then ((0 : Int32) ||| ((1 : Int32) <<< (Int32.ofNat (i % 32)))) else (0 : Int32))) = ((if fr + i / 32 = p then ((1 : Int32) <<< (Int32.ofNat (i % 32))) else (0 : Int32)) ||| (if fr + j / 32 = p then ((1 : Int32) <<< (Int32.ofNat (j % 32))) else (0 : Int32)))
  by_cases b : p = fr + j / 32
  · rw [if_pos b, if_pos b.symm]
    by_cases a : p = fr + i / 32
    · rw [if_pos (b.symm.trans a), if_pos a.symm, Int32.zero_or]
    · rw [if_neg (fun z => a (b.trans z)), if_neg (fun z => a z.symm)]
  · rw [if_neg b, if_neg (show ¬ fr + j / 32 = p from fun z => b z.symm), Int32.or_zero]
    by_cases a : p = fr + i / 32
    · rw [if_pos a, if_pos a.symm, Int32.zero_or]
    · rw [if_neg a, if_neg (fun z => a z.symm)]
theorem own_wc {a b c d r : Nat} (h : a = b ↔ c = d) : own_w a b r = own_w c d r := by
  unfold own_w
  by_cases e : a = b
  · rw [if_pos e, if_pos (h.mp e)]
  · rw [if_neg e, if_neg fun z => e (h.mpr z)]
theorem own_w0 {a b r : Nat} (h : ¬ a = b) : own_w a b r = 0 := if_neg h
theorem own_bfw (fr i k : Nat) : own_bf (own_w (fr + i / 32) (fr + k / 32) (i % 32)) (own_w (fr + i / 32) (fr + k / 32 + 1) (i % 32)) (own_w (fr + i / 32) (fr + k / 32 + 2) (i % 32)) (Int32.ofNat (k % 32)) = own_bit i k := by
  by_cases h : k / 32 ≤ i / 32 ∧ i / 32 ≤ k / 32 + 2
  · rw [own_wc (a := fr + i / 32) (b := fr + k / 32) (c := i / 32 - k / 32) (d := 0) (by omega), own_wc (a := fr + i / 32) (b := fr + k / 32 + 1) (c := i / 32 - k / 32) (d := 1) (by omega), own_wc (a := fr + i / 32) (b := fr + k / 32 + 2) (c := i / 32 - k / 32) (d := 2) (by omega)]
    rw [w_bf1 (i / 32 - k / 32) (i % 32) (k % 32) (by omega) (by omega) (by omega), own_bit]
    by_cases c : k ≤ i ∧ i - k < 64
    · rw [if_pos c, if_pos (by omega), show 32 * (i / 32 - k / 32) + i % 32 - k % 32 = i - k by omega]
    · rw [if_neg c, if_neg (by omega)]
  · rw [own_w0 (a := fr + i / 32) (b := fr + k / 32) (by omega), own_w0 (a := fr + i / 32) (b := fr + k / 32 + 1) (by omega), own_w0 (a := fr + i / 32) (b := fr + k / 32 + 2) (by omega), own_bit, if_neg (by omega)]
    exact bf_0 ⟨k % 32, by omega⟩
theorem own_ba_bit (i k : Nat) (h1 : i < 256) (h2 : k < 256) : own_ba (Int32.ofNat i) (Int32.ofNat k) = own_bit i k := by
  have z64 : (64 : Int32).toInt = 64 := rfl
  have ei := own_ofI (n := i) (by omega)
  have ek := own_ofI (n := k) (by omega)
  unfold own_ba own_bit
  by_cases a : i < k
  · rw [if_pos (by rw [Int32.lt_iff_toInt_lt, ei, ek]; omega), if_neg (by omega)]
  · rw [if_neg (by rw [Int32.lt_iff_toInt_lt, ei, ek]; omega)]
    have es : (Int32.ofNat i) - (Int32.ofNat k) = (Int32.ofNat (i - k)) := by
      apply Int32.toInt_inj.mp
      have c := c_isub (Int32.ofNat i) (Int32.ofNat k)
      have r := rng32 ((Int32.ofNat i) - (Int32.ofNat k))
      rw [ei, ek] at c
      rw [own_ofI (n := i - k) (by omega)]
      omega
    rw [es]
    have ed := own_ofI (n := i - k) (by omega)
    by_cases b : i - k < 64
    · rw [if_pos (by rw [Int32.lt_iff_toInt_lt, ed, z64]; omega), if_pos (by omega), w_s (i - k) b]
    · rw [if_neg (by rw [Int32.lt_iff_toInt_lt, ed, z64]; omega), if_neg (by omega)]
theorem own_bfW (F : Nat → Int32) (fr sz i j k : Nat) (hF : ∀ p, p < (fr + (sz / 32 + 3)) → F p = own_W fr i j p) (hk : k / 32 < sz / 32 + 1) (h3 : k < 256) : (own_bf (F (fr + k / 32)) (F ((fr + k / 32) + 1)) (F ((fr + k / 32) + 2)) ((Int32.ofNat k) % (32 : Int32))) = own_bit i k ||| own_bit j k := by
  rw [hF (fr + k / 32) (by omega), hF (fr + k / 32 + 1) (by omega), hF (fr + k / 32 + 2) (by omega), w_m32 k h3]
  unfold own_W
  rw [own_bf_or, own_bfw, own_bfw]
theorem own_lawB (fr sz i j k : Nat) (h1 : fr < 8) (h2 : sz < 256) (hi : i < sz) (hj : j < sz) (hk : k ≤ sz) : (own_bf ((own_cnt (own_W fr i j) fr (fr + (sz / 32 + 3)) (sz / 64 + 1)) (fr + k / 32)) ((own_cnt (own_W fr i j) fr (fr + (sz / 32 + 3)) (sz / 64 + 1)) ((fr + k / 32) + 1)) ((own_cnt (own_W fr i j) fr (fr + (sz / 32 + 3)) (sz / 64 + 1)) ((fr + k / 32) + 2)) ((Int32.ofNat k) % (32 : Int32))) = (own_ba (Int32.ofNat i) (Int32.ofNat k) ||| own_ba (Int32.ofNat j) (Int32.ofNat k)) := by
  rw [own_bfW (own_cnt (own_W fr i j) fr (fr + (sz / 32 + 3)) (sz / 64 + 1)) fr sz i j k (fun p hp => own_cnt_lo _ _ _ _ _ hp) (by omega) (by omega), own_ba_bit i k (by omega) (by omega), own_ba_bit j k (by omega) (by omega)]
theorem own_bcw (a b p r s : Nat) (hr : r < 32) (hs : s < 32) : own_bc (own_w a p r ||| own_w b p s) = (Int32.ofNat ((if a = p then 1 else 0) + (if b = p ∧ ¬ (a = p ∧ r = s) then 1 else 0))) := by
  unfold own_w
  by_cases ha : a = p
  · by_cases hb : b = p
    · rw [if_pos ha, if_pos hb, w_bc2 r s hr hs]
      by_cases e : r = s
      · subst e; simp [ha, hb]
      · simp [ha, hb, e]
    · rw [if_pos ha, if_neg hb, w_bcl r hr]
      simp [ha, hb]
  · by_cases hb : b = p
    · rw [if_neg ha, if_pos hb, w_bcr s hs]
      simp [ha, hb]
    · rw [if_neg ha, if_neg hb, if_neg ha, if_neg (fun z => hb z.1)]
      decide +kernel
set_option maxHeartbeats 4000000 in
theorem own_C_N (fr i j q : Nat) : own_C (own_W fr i j) fr q = (Int32.ofNat (own_N i j (64 * q))) := by
  induction q with
  | zero => simp [own_C, own_N]
  | succ q ih =>
    show own_C (own_W fr i j) fr q + (own_bc (own_W fr i j (fr + 2 * q)) + own_bc (own_W fr i j (fr + 2 * q + 1))) = _
    rw [ih]
    unfold own_W
    rw [own_bcw (fr + i / 32) (fr + j / 32) (fr + 2 * q) (i % 32) (j % 32) (by omega) (by omega), own_bcw (fr + i / 32) (fr + j / 32) (fr + 2 * q + 1) (i % 32) (j % 32) (by omega) (by omega), ← Int32.ofNat_add, ← Int32.ofNat_add]
    congr 1
    unfold own_N
    have k1 : (if i < 64 * q then 1 else 0) + (if fr + i / 32 = fr + 2 * q then 1 else 0) + (if fr + i / 32 = fr + 2 * q + 1 then 1 else 0) = (if i < 64 * (q + 1) then 1 else 0) := by (repeat' split) <;> omega
    have k2 : (if j < 64 * q ∧ ¬ i = j then 1 else 0) + (if fr + j / 32 = fr + 2 * q ∧ ¬ (fr + i / 32 = fr + 2 * q ∧ i % 32 = j % 32) then 1 else 0) + (if fr + j / 32 = fr + 2 * q + 1 ∧ ¬ (fr + i / 32 = fr + 2 * q + 1 ∧ i % 32 = j % 32) then 1 else 0) = (if j < 64 * (q + 1) ∧ ¬ i = j then 1 else 0) := by (repeat' split) <;> omega
    first | omega | ((repeat' split) <;> omega)
theorem own_bitm (i k : Nat) : own_bit i (k - k % 64) &&& (((1 : Int64) <<< (Int64.ofNat (k % 64))) - 1) = if k - k % 64 ≤ i ∧ i < k then (1 : Int64) <<< (Int64.ofNat (i - (k - k % 64))) else 0 := by
  unfold own_bit
  by_cases a : k - k % 64 ≤ i ∧ i - (k - k % 64) < 64
  · rw [if_pos a, w_msk (i - (k - k % 64)) (k % 64) a.2 (by omega)]
    by_cases b : i < k
    · rw [if_pos (by omega), if_pos ⟨a.1, b⟩]
    · rw [if_neg (by omega), if_neg (by omega)]
  · rw [if_neg a, if_neg (by omega)]
    simp
theorem own_bcm (i j k : Nat) : own_bcL ((if k - k % 64 ≤ i ∧ i < k then (1 : Int64) <<< (Int64.ofNat (i - (k - k % 64))) else 0) ||| (if k - k % 64 ≤ j ∧ j < k then (1 : Int64) <<< (Int64.ofNat (j - (k - k % 64))) else 0)) = (Int32.ofNat ((if k - k % 64 ≤ i ∧ i < k then 1 else 0) + (if (k - k % 64 ≤ j ∧ j < k) ∧ ¬ i = j then 1 else 0))) := by
  by_cases ha : k - k % 64 ≤ i ∧ i < k
  · by_cases hb : k - k % 64 ≤ j ∧ j < k
    · rw [if_pos ha, if_pos hb, w_bcL2 (i - (k - k % 64)) (j - (k - k % 64)) (by omega) (by omega), if_pos ha]
      by_cases e : i = j
      · subst e; simp
      · rw [if_neg (by omega), if_pos ⟨hb, e⟩]
        rfl
    · rw [if_pos ha, if_neg hb, w_bcLl (i - (k - k % 64)) (by omega), if_pos ha, if_neg fun z => hb z.1]
      rfl
  · by_cases hb : k - k % 64 ≤ j ∧ j < k
    · rw [if_neg ha, if_pos hb, w_bcLr (j - (k - k % 64)) (by omega), if_neg ha, if_pos ⟨hb, by rintro rfl; exact ha hb⟩]
      rfl
    · rw [if_neg ha, if_neg hb, if_neg ha, if_neg fun z => hb z.1]
      decide +kernel
set_option maxHeartbeats 4000000 in
theorem own_lawS (fr sz i j k : Nat) (h1 : fr < 8) (h2 : sz < 256) (hi : i < sz) (hj : j < sz) (hk : k ≤ sz) : (((own_cnt (own_W fr i j) fr (fr + (sz / 32 + 3)) (sz / 64 + 1)) ((fr + (sz / 32 + 3)) + k / 64)) + (own_bcL ((own_bf ((own_cnt (own_W fr i j) fr (fr + (sz / 32 + 3)) (sz / 64 + 1)) (fr + (k - k % 64) / 32)) ((own_cnt (own_W fr i j) fr (fr + (sz / 32 + 3)) (sz / 64 + 1)) ((fr + (k - k % 64) / 32) + 1)) ((own_cnt (own_W fr i j) fr (fr + (sz / 32 + 3)) (sz / 64 + 1)) ((fr + (k - k % 64) / 32) + 2)) (((Int32.ofNat k) - ((Int32.ofNat k) % (64 : Int32))) % (32 : Int32))) &&& (((1 : Int64) <<< (((Int32.ofNat k) % (64 : Int32)).toInt64 &&& 63)) - (1 : Int64))))) = (Int32.ofNat (own_N i j k)) := by
  rw [w_kb k (by omega), w_mk k (by omega)]
  rw [own_bfW (own_cnt (own_W fr i j) fr (fr + (sz / 32 + 3)) (sz / 64 + 1)) fr sz i j (k - k % 64) (fun p hp => own_cnt_lo _ _ _ _ _ hp) (by omega) (by omega), own_cnt_hi (own_W fr i j) fr (fr + (sz / 32 + 3)) (sz / 64 + 1) (k / 64) (by omega), own_C_N, own_andor, own_bitm, own_bitm, own_bcm, ← Int32.ofNat_add]
  congr 1
  unfold own_N
  have k1 : (if i < 64 * (k / 64) then 1 else 0) + (if k - k % 64 ≤ i ∧ i < k then 1 else 0) = (if i < k then 1 else 0) := by (repeat' split) <;> omega
  have k2 : (if j < 64 * (k / 64) ∧ ¬ i = j then 1 else 0) + (if (k - k % 64 ≤ j ∧ j < k) ∧ ¬ i = j then 1 else 0) = (if j < k ∧ ¬ i = j then 1 else 0) := by (repeat' split) <;> omega
  first | omega | ((repeat' split) <;> omega)
theorem own_exp1 (i j k : Nat) (h1 : i < 256) (h2 : j < 256) (h3 : k < 256) : (Int32.ofNat (own_N i j k)) = ((if (Int32.ofNat i) < (Int32.ofNat k) then (1 : Int32) else (0 : Int32)) + (if (Int32.ofNat j) < (Int32.ofNat k) then (if (Int32.ofNat j) = (Int32.ofNat i) then (0 : Int32) else (1 : Int32)) else (0 : Int32))) := by
  have ei := own_ofI (n := i) (by omega)
  have ej := own_ofI (n := j) (by omega)
  have ek := own_ofI (n := k) (by omega)
  have eji : (Int32.ofNat j) = (Int32.ofNat i) ↔ j = i := by rw [← Int32.toInt_inj, ei, ej]; omega
  simp only [Int32.lt_iff_toInt_lt, ei, ej, ek, eji]
  unfold own_N
  by_cases a : i < k <;> by_cases b : j < k <;> by_cases c : j = i
  all_goals simp only [show ((i : Int) < (k : Int)) = (i < k) from propext (by omega), show ((j : Int) < (k : Int)) = (j < k) from propext (by omega), show (i = j) = (j = i) from propext eq_comm]
  all_goals simp [a, b, c]
theorem own_exp2 (i j k : Nat) (h1 : i < k) (h2 : j < k) (h3 : k < 256) : (Int32.ofNat (own_N i j k)) = (if (Int32.ofNat i) = (Int32.ofNat j) then (1 : Int32) else (2 : Int32)) := by
  have ei := own_ofI (n := i) (by omega)
  have ej := own_ofI (n := j) (by omega)
  have eij : (Int32.ofNat i) = (Int32.ofNat j) ↔ i = j := by rw [← Int32.toInt_inj, ei, ej]; omega
  unfold own_N
  rw [if_pos h1]
  by_cases c : i = j
  · subst c; simp
  · rw [if_pos ⟨h2, c⟩, if_neg (by rw [eij]; exact c)]
    rfl
theorem d3_0 : decode prog_33_method_5_code 0 = .ok (.iload_n 0, 1) := by decide +kernel
theorem d3_1 : decode prog_33_method_5_code 1 = .ok (.bipush 32, 2) := by decide +kernel
theorem d3_3 : decode prog_33_method_5_code 3 = .ok (.idiv, 1) := by decide +kernel
theorem d3_4 : decode prog_33_method_5_code 4 = .ok (.iconst 3, 1) := by decide +kernel
theorem d3_5 : decode prog_33_method_5_code 5 = .ok (.iadd, 1) := by decide +kernel
theorem d3_6 : decode prog_33_method_5_code 6 = .ok (.ireturn, 1) := by decide +kernel
theorem pn0 : plainName "com/example/libpalin/libpalin/RankedBits" = true := by first | (simp [plainName, overriddenIn]; done) | decide +kernel
theorem ef0 (m : MethodId) (x0 : Int32) : entryFrame m #[(.int x0)] 1 = mkF m 0 #[.val (.int x0)] [] := by first | (simp [entryFrame, mkF, argsToLocals, Value.category]; done) | rfl
def Q_rmBI (Z : State) (x0 : Int32) (h0 : Heap) (n0 : Nat) (v : Option Value) (h : Heap) (L : List Loc) : Prop := v = some (.int ((x0 / (32 : Int32)) + (3 : Int32))) ∧ Fr n0 L ∧ h = h0
set_option maxRecDepth 65536 in
set_option maxHeartbeats 40000000 in
theorem rmBI (l : Launch) (Z : State) (a0 : Array Value) (hw : ∀ d ∈ tables_1, d.before a0 Z = true) (ws : List Jvm.Cond) (x0 : Int32) (h0 : Heap) (n0 : Nat) (Z0 : n0 ≤ h0.size)  :
    Con l Z (⟨"com/example/libpalin/libpalin/RankedBits", "bitInts", "(I)I"⟩ : MethodName) prog_33_method_5_code 1 (some (.int)) ws ({ frames := 0, cells := 0, slots := 0, locals := 0 } : Room) #[(.int x0)] h0 (({ frames := 0, cells := 0, slots := 0, locals := 0 } : Room).cells) (({ frames := 0, cells := 0, slots := 0, locals := 0 } : Room).slots) (Q_rmBI Z x0 h0 n0) := by
  refine Con.of (plainFor_of_name pn0) ?_
  intro p e s m below meth c s₁ hx hby hml hown hnm hret hlk hZ X0 e0
  have N0 := Fr.nil n0
  refine goE (L := #[.val (.int x0)]) (ef0 m x0) ?_
  refine gIloadN X0 hx (hb hby d3_0) (q := 1) rfl rfl ?_
  refine gBipush X0 hx (32 : Int32) (hb hby d3_1) (q := 3) rfl (by decide) ?_
  refine gIdiv X0 hx (hb hby d3_3) (q := 4) rfl (by decide) ?_
  refine gIconst X0 hx (3 : Int32) (hb hby d3_4) (q := 5) rfl (by decide) ?_
  refine gIadd X0 hx (hb hby d3_5) (q := 6) rfl ?_
  exact gRetI X0 hx hlk hret (hb hby d3_6) (by decide) (by decide) ⟨rfl, N0, e0⟩
theorem d8_0 : decode jdk_29_method_69_code 0 = .ok (.iload_n 0, 1) := by decide +kernel
theorem d8_1 : decode jdk_29_method_69_code 1 = .ok (.iload_n 1, 1) := by decide +kernel
theorem d8_2 : decode jdk_29_method_69_code 2 = .ok (.if_icmp .gt 7, 3) := by decide +kernel
theorem d8_5 : decode jdk_29_method_69_code 5 = .ok (.iload_n 0, 1) := by decide +kernel
theorem d8_6 : decode jdk_29_method_69_code 6 = .ok (.goto 4, 3) := by decide +kernel
theorem d8_9 : decode jdk_29_method_69_code 9 = .ok (.iload_n 1, 1) := by decide +kernel
theorem d8_10 : decode jdk_29_method_69_code 10 = .ok (.ireturn, 1) := by decide +kernel
theorem pn1 : plainFor (⟨"java/lang/Math", "min", "(II)I"⟩ : MethodName) = true := by decide +kernel
theorem ef1 (m : MethodId) (x0 : Int32) (x1 : Int32) : entryFrame m #[(.int x0), (.int x1)] 2 = mkF m 0 #[.val (.int x0), .val (.int x1)] [] := by first | (simp [entryFrame, mkF, argsToLocals, Value.category]; done) | rfl
def Q_rmMin (Z : State) (x0 : Int32) (x1 : Int32) (h0 : Heap) (n0 : Nat) (v : Option Value) (h : Heap) (L : List Loc) : Prop := v = some (.int (if x1 < x0 then x1 else x0)) ∧ Fr n0 L ∧ h = h0
set_option maxRecDepth 65536 in
set_option maxHeartbeats 40000000 in
theorem rmMin (l : Launch) (Z : State) (a0 : Array Value) (hw : ∀ d ∈ tables_1, d.before a0 Z = true) (ws : List Jvm.Cond) (x0 : Int32) (x1 : Int32) (h0 : Heap) (n0 : Nat) (Z0 : n0 ≤ h0.size)  :
    Con l Z (⟨"java/lang/Math", "min", "(II)I"⟩ : MethodName) jdk_29_method_69_code 2 (some (.int)) ws ({ frames := 0, cells := 0, slots := 0, locals := 0 } : Room) #[(.int x0), (.int x1)] h0 (({ frames := 0, cells := 0, slots := 0, locals := 0 } : Room).cells) (({ frames := 0, cells := 0, slots := 0, locals := 0 } : Room).slots) (Q_rmMin Z x0 x1 h0 n0) := by
  refine Con.of pn1 ?_
  intro p e s m below meth c s₁ hx hby hml hown hnm hret hlk hZ X0 e0
  have N0 := Fr.nil n0
  refine goE (L := #[.val (.int x0), .val (.int x1)]) (ef1 m x0 x1) ?_
  refine gIloadN X0 hx (hb hby d8_0) (q := 1) rfl rfl ?_
  refine gIloadN X0 hx (hb hby d8_1) (q := 2) rfl rfl ?_
  have J2_3 : ∀ v2 : Int32, v2 = (if x1 < x0 then x1 else x0) → Go p.tables e below (Done s (Q_rmMin Z x0 x1 h0 n0) (({ frames := 0, cells := 0, slots := 0, locals := 0 } : Room).cells) (({ frames := 0, cells := 0, slots := 0, locals := 0 } : Room).slots)) (s₁.setTop (mkF m 10 #[.val (.int x0), .val (.int x1)] [(.int v2)])) := by
    intro v2 hv2
    exact gRetI X0 hx hlk hret (hb hby d8_10) (by decide) (by decide) ⟨by rw [hv2], N0, e0⟩
  by_cases c1 : x1 < x0
  · refine gIcmpY X0 hx (hb hby d8_2) (q := 9) (by decide) (by decide) (XT.ii_gt_t c1) ?_
    refine gIloadN X0 hx (hb hby d8_9) (q := 10) rfl rfl ?_
    exact J2_3 _ (by first | rfl | (rw [if_pos c1]; done) | (simp only [if_pos c1]; done) | (simp only [if_pos c1]; done) | (simp only [if_pos c1, if_true, if_false]; done) | (exfalso; simp at c1; done))
  · refine gIcmpN X0 hx (hb hby d8_2) (q := 5) rfl (XT.ii_gt_f c1) ?_
    refine gIloadN X0 hx (hb hby d8_5) (q := 6) rfl rfl ?_
    refine gGoto X0 hx (hb hby d8_6) (q := 10) (by decide) (by decide) ?_
    exact J2_3 _ (by first | rfl | (rw [if_neg c1]; done) | (simp only [if_neg c1]; done) | (simp only [if_neg c1]; done) | (simp only [if_neg c1, if_true, if_false]; done) | (exfalso; simp at c1; done))
theorem d5_0 : decode jdk_65_method_30_code 0 = .ok (.iload_n 1, 1) := by decide +kernel
theorem d5_1 : decode jdk_65_method_30_code 1 = .ok (.iload_n 2, 1) := by decide +kernel
theorem d5_2 : decode jdk_65_method_30_code 2 = .ok (.if_icmp .le 44, 3) := by decide +kernel
theorem d5_5 : decode jdk_65_method_30_code 5 = .ok (.new 43, 3) := by decide +kernel
theorem d5_8 : decode jdk_65_method_30_code 8 = .ok (.dup, 1) := by decide +kernel
theorem d5_9 : decode jdk_65_method_30_code 9 = .ok (.new 45, 3) := by decide +kernel
theorem d5_12 : decode jdk_65_method_30_code 12 = .ok (.dup, 1) := by decide +kernel
theorem d5_13 : decode jdk_65_method_30_code 13 = .ok (.invokespecial 47, 3) := by decide +kernel
theorem d5_16 : decode jdk_65_method_30_code 16 = .ok (.ldc 48, 2) := by decide +kernel
theorem d5_18 : decode jdk_65_method_30_code 18 = .ok (.invokevirtual 50, 3) := by decide +kernel
theorem d5_21 : decode jdk_65_method_30_code 21 = .ok (.iload_n 1, 1) := by decide +kernel
theorem d5_22 : decode jdk_65_method_30_code 22 = .ok (.invokevirtual 54, 3) := by decide +kernel
theorem d5_25 : decode jdk_65_method_30_code 25 = .ok (.ldc 57, 2) := by decide +kernel
theorem d5_27 : decode jdk_65_method_30_code 27 = .ok (.invokevirtual 50, 3) := by decide +kernel
theorem d5_30 : decode jdk_65_method_30_code 30 = .ok (.iload_n 2, 1) := by decide +kernel
theorem d5_31 : decode jdk_65_method_30_code 31 = .ok (.invokevirtual 54, 3) := by decide +kernel
theorem d5_34 : decode jdk_65_method_30_code 34 = .ok (.ldc 59, 2) := by decide +kernel
theorem d5_36 : decode jdk_65_method_30_code 36 = .ok (.invokevirtual 50, 3) := by decide +kernel
theorem d5_39 : decode jdk_65_method_30_code 39 = .ok (.invokevirtual 61, 3) := by decide +kernel
theorem d5_42 : decode jdk_65_method_30_code 42 = .ok (.invokespecial 65, 3) := by decide +kernel
theorem d5_45 : decode jdk_65_method_30_code 45 = .ok (.athrow, 1) := by decide +kernel
theorem d5_46 : decode jdk_65_method_30_code 46 = .ok (.iload_n 1, 1) := by decide +kernel
theorem d5_47 : decode jdk_65_method_30_code 47 = .ok (.ifCond .ge 12, 3) := by decide +kernel
theorem d5_50 : decode jdk_65_method_30_code 50 = .ok (.new 68, 3) := by decide +kernel
theorem d5_53 : decode jdk_65_method_30_code 53 = .ok (.dup, 1) := by decide +kernel
theorem d5_54 : decode jdk_65_method_30_code 54 = .ok (.iload_n 1, 1) := by decide +kernel
theorem d5_55 : decode jdk_65_method_30_code 55 = .ok (.invokespecial 70, 3) := by decide +kernel
theorem d5_58 : decode jdk_65_method_30_code 58 = .ok (.athrow, 1) := by decide +kernel
theorem d5_59 : decode jdk_65_method_30_code 59 = .ok (.iload_n 2, 1) := by decide +kernel
theorem d5_60 : decode jdk_65_method_30_code 60 = .ok (.iload_n 0, 1) := by decide +kernel
theorem d5_61 : decode jdk_65_method_30_code 61 = .ok (.if_icmp .le 12, 3) := by decide +kernel
theorem d5_64 : decode jdk_65_method_30_code 64 = .ok (.new 68, 3) := by decide +kernel
theorem d5_67 : decode jdk_65_method_30_code 67 = .ok (.dup, 1) := by decide +kernel
theorem d5_68 : decode jdk_65_method_30_code 68 = .ok (.iload_n 2, 1) := by decide +kernel
theorem d5_69 : decode jdk_65_method_30_code 69 = .ok (.invokespecial 70, 3) := by decide +kernel
theorem d5_72 : decode jdk_65_method_30_code 72 = .ok (.athrow, 1) := by decide +kernel
theorem d5_73 : decode jdk_65_method_30_code 73 = .ok (.return_, 1) := by decide +kernel
theorem pn2 : plainName "java/util/Arrays" = true := by first | (simp [plainName, overriddenIn]; done) | decide +kernel
theorem ef2 (m : MethodId) (x0 : Int32) (x1 : Int32) (x2 : Int32) : entryFrame m #[(.int x0), (.int x1), (.int x2)] 3 = mkF m 0 #[.val (.int x0), .val (.int x1), .val (.int x2)] [] := by first | (simp [entryFrame, mkF, argsToLocals, Value.category]; done) | rfl
def Q_rmRC (Z : State) (x1 : Int32) (x2 : Int32) (h0 : Heap) (n0 : Nat) (v : Option Value) (h : Heap) (L : List Loc) : Prop := v = none ∧ Fr n0 L ∧ h = h0
set_option maxRecDepth 65536 in
set_option maxHeartbeats 40000000 in
theorem rmRC (l : Launch) (Z : State) (a0 : Array Value) (hw : ∀ d ∈ tables_1, d.before a0 Z = true) (ws : List Jvm.Cond) (x1 : Int32) (x2 : Int32) (h0 : Heap) (n0 : Nat) (Z0 : n0 ≤ h0.size) (hp1 : ¬ x2 < x1) (hp2 : ¬ x1 < (0 : Int32)) (hp3 : ¬ (24 : Int32) < x2) :
    Con l Z (⟨"java/util/Arrays", "rangeCheck", "(III)V"⟩ : MethodName) jdk_65_method_30_code 3 none ws ({ frames := 0, cells := 0, slots := 0, locals := 0 } : Room) #[(.int (24 : Int32)), (.int x1), (.int x2)] h0 (({ frames := 0, cells := 0, slots := 0, locals := 0 } : Room).cells) (({ frames := 0, cells := 0, slots := 0, locals := 0 } : Room).slots) (Q_rmRC Z x1 x2 h0 n0) := by
  refine Con.of (plainFor_of_name pn2) ?_
  intro p e s m below meth c s₁ hx hby hml hown hnm hret hlk hZ X0 e0
  have N0 := Fr.nil n0
  refine goE (L := #[.val (.int (24 : Int32)), .val (.int x1), .val (.int x2)]) (ef2 m (24 : Int32) x1 x2) ?_
  refine gIloadN X0 hx (hb hby d5_0) (q := 1) rfl rfl ?_
  refine gIloadN X0 hx (hb hby d5_1) (q := 2) rfl rfl ?_
  refine gIcmpY X0 hx (hb hby d5_2) (q := 46) (by decide) (by decide) (XT.ii_le_t hp1) ?_
  refine gIloadN X0 hx (hb hby d5_46) (q := 47) rfl rfl ?_
  refine gIfY X0 hx (hb hby d5_47) (q := 59) (by decide) (by decide) (XT.i0_ge_t hp2) ?_
  refine gIloadN X0 hx (hb hby d5_59) (q := 60) rfl rfl ?_
  refine gIloadN X0 hx (hb hby d5_60) (q := 61) rfl rfl ?_
  refine gIcmpY X0 hx (hb hby d5_61) (q := 73) (by decide) (by decide) (XT.ii_le_t hp3) ?_
  exact gRetV X0 hx hlk hret (hb hby d5_73) (by decide) (by decide) ⟨rfl, N0, e0⟩
theorem d10_0 : decode jdk_33_method_49_code 0 = .ok (.iload_n 0, 1) := by decide +kernel
theorem d10_1 : decode jdk_33_method_49_code 1 = .ok (.iload_n 0, 1) := by decide +kernel
theorem d10_2 : decode jdk_33_method_49_code 2 = .ok (.iconst 1, 1) := by decide +kernel
theorem d10_3 : decode jdk_33_method_49_code 3 = .ok (.iushr, 1) := by decide +kernel
theorem d10_4 : decode jdk_33_method_49_code 4 = .ok (.ldc_w 265, 3) := by decide +kernel
theorem d10_7 : decode jdk_33_method_49_code 7 = .ok (.iand, 1) := by decide +kernel
theorem d10_8 : decode jdk_33_method_49_code 8 = .ok (.isub, 1) := by decide +kernel
theorem d10_9 : decode jdk_33_method_49_code 9 = .ok (.istore_n 0, 1) := by decide +kernel
theorem d10_10 : decode jdk_33_method_49_code 10 = .ok (.iload_n 0, 1) := by decide +kernel
theorem d10_11 : decode jdk_33_method_49_code 11 = .ok (.ldc_w 266, 3) := by decide +kernel
theorem d10_14 : decode jdk_33_method_49_code 14 = .ok (.iand, 1) := by decide +kernel
theorem d10_15 : decode jdk_33_method_49_code 15 = .ok (.iload_n 0, 1) := by decide +kernel
theorem d10_16 : decode jdk_33_method_49_code 16 = .ok (.iconst 2, 1) := by decide +kernel
theorem d10_17 : decode jdk_33_method_49_code 17 = .ok (.iushr, 1) := by decide +kernel
theorem d10_18 : decode jdk_33_method_49_code 18 = .ok (.ldc_w 266, 3) := by decide +kernel
theorem d10_21 : decode jdk_33_method_49_code 21 = .ok (.iand, 1) := by decide +kernel
theorem d10_22 : decode jdk_33_method_49_code 22 = .ok (.iadd, 1) := by decide +kernel
theorem d10_23 : decode jdk_33_method_49_code 23 = .ok (.istore_n 0, 1) := by decide +kernel
theorem d10_24 : decode jdk_33_method_49_code 24 = .ok (.iload_n 0, 1) := by decide +kernel
theorem d10_25 : decode jdk_33_method_49_code 25 = .ok (.iload_n 0, 1) := by decide +kernel
theorem d10_26 : decode jdk_33_method_49_code 26 = .ok (.iconst 4, 1) := by decide +kernel
theorem d10_27 : decode jdk_33_method_49_code 27 = .ok (.iushr, 1) := by decide +kernel
theorem d10_28 : decode jdk_33_method_49_code 28 = .ok (.iadd, 1) := by decide +kernel
theorem d10_29 : decode jdk_33_method_49_code 29 = .ok (.ldc_w 267, 3) := by decide +kernel
theorem d10_32 : decode jdk_33_method_49_code 32 = .ok (.iand, 1) := by decide +kernel
theorem d10_33 : decode jdk_33_method_49_code 33 = .ok (.istore_n 0, 1) := by decide +kernel
theorem d10_34 : decode jdk_33_method_49_code 34 = .ok (.iload_n 0, 1) := by decide +kernel
theorem d10_35 : decode jdk_33_method_49_code 35 = .ok (.iload_n 0, 1) := by decide +kernel
theorem d10_36 : decode jdk_33_method_49_code 36 = .ok (.bipush 8, 2) := by decide +kernel
theorem d10_38 : decode jdk_33_method_49_code 38 = .ok (.iushr, 1) := by decide +kernel
theorem d10_39 : decode jdk_33_method_49_code 39 = .ok (.iadd, 1) := by decide +kernel
theorem d10_40 : decode jdk_33_method_49_code 40 = .ok (.istore_n 0, 1) := by decide +kernel
theorem d10_41 : decode jdk_33_method_49_code 41 = .ok (.iload_n 0, 1) := by decide +kernel
theorem d10_42 : decode jdk_33_method_49_code 42 = .ok (.iload_n 0, 1) := by decide +kernel
theorem d10_43 : decode jdk_33_method_49_code 43 = .ok (.bipush 16, 2) := by decide +kernel
theorem d10_45 : decode jdk_33_method_49_code 45 = .ok (.iushr, 1) := by decide +kernel
theorem d10_46 : decode jdk_33_method_49_code 46 = .ok (.iadd, 1) := by decide +kernel
theorem d10_47 : decode jdk_33_method_49_code 47 = .ok (.istore_n 0, 1) := by decide +kernel
theorem d10_48 : decode jdk_33_method_49_code 48 = .ok (.iload_n 0, 1) := by decide +kernel
theorem d10_49 : decode jdk_33_method_49_code 49 = .ok (.bipush 63, 2) := by decide +kernel
theorem d10_51 : decode jdk_33_method_49_code 51 = .ok (.iand, 1) := by decide +kernel
theorem d10_52 : decode jdk_33_method_49_code 52 = .ok (.ireturn, 1) := by decide +kernel
theorem pn3 : plainName "java/lang/Integer" = true := by first | (simp [plainName, overriddenIn]; done) | decide +kernel
theorem ef3 (m : MethodId) (x0 : Int32) : entryFrame m #[(.int x0)] 1 = mkF m 0 #[.val (.int x0)] [] := by first | (simp [entryFrame, mkF, argsToLocals, Value.category]; done) | rfl
def Q_rmBC (Z : State) (x0 : Int32) (h0 : Heap) (n0 : Nat) (v : Option Value) (h : Heap) (L : List Loc) : Prop := v = some (.int (own_bc x0)) ∧ Fr n0 L ∧ h = h0
set_option maxRecDepth 65536 in
set_option maxHeartbeats 40000000 in
theorem rmBC (l : Launch) (Z : State) (a0 : Array Value) (hw : ∀ d ∈ tables_1, d.before a0 Z = true) (ws : List Jvm.Cond) (x0 : Int32) (h0 : Heap) (n0 : Nat) (Z0 : n0 ≤ h0.size)  :
    Con l Z (⟨"java/lang/Integer", "bitCount", "(I)I"⟩ : MethodName) jdk_33_method_49_code 1 (some (.int)) ws ({ frames := 0, cells := 0, slots := 0, locals := 0 } : Room) #[(.int x0)] h0 (({ frames := 0, cells := 0, slots := 0, locals := 0 } : Room).cells) (({ frames := 0, cells := 0, slots := 0, locals := 0 } : Room).slots) (Q_rmBC Z x0 h0 n0) := by
  refine Con.of (plainFor_of_name pn3) ?_
  intro p e s m below meth c s₁ hx hby hml hown hnm hret hlk hZ X0 e0
  have N0 := Fr.nil n0
  refine goE (L := #[.val (.int x0)]) (ef3 m x0) ?_
  refine gIloadN X0 hx (hb hby d10_0) (q := 1) rfl rfl ?_
  refine gIloadN X0 hx (hb hby d10_1) (q := 2) rfl rfl ?_
  refine gIconst X0 hx (1 : Int32) (hb hby d10_2) (q := 3) rfl (by decide) ?_
  refine gIushr X0 hx (hb hby d10_3) (q := 4) rfl ?_
  refine gLdcW X0 hx hZ hown (hw _ (List.mem_of_getElem? (i := 50) rfl)) (hb hby d10_4) (q := 7) rfl ?_
  refine gIand X0 hx (hb hby d10_7) (q := 8) rfl ?_
  refine gIsub X0 hx (hb hby d10_8) (q := 9) rfl ?_
  generalize hu1 : (x0 - ((XT.ushr x0 (1 : Int32)) &&& (1431655765 : Int32))) = u1
  refine gIstoreN X0 hx (hb hby d10_9) (q := 10) rfl (L' := #[.val (.int u1)]) rfl ?_
  refine gIloadN X0 hx (hb hby d10_10) (q := 11) rfl rfl ?_
  refine gLdcW X0 hx hZ hown (hw _ (List.mem_of_getElem? (i := 51) rfl)) (hb hby d10_11) (q := 14) rfl ?_
  refine gIand X0 hx (hb hby d10_14) (q := 15) rfl ?_
  refine gIloadN X0 hx (hb hby d10_15) (q := 16) rfl rfl ?_
  refine gIconst X0 hx (2 : Int32) (hb hby d10_16) (q := 17) rfl (by decide) ?_
  refine gIushr X0 hx (hb hby d10_17) (q := 18) rfl ?_
  refine gLdcW X0 hx hZ hown (hw _ (List.mem_of_getElem? (i := 51) rfl)) (hb hby d10_18) (q := 21) rfl ?_
  refine gIand X0 hx (hb hby d10_21) (q := 22) rfl ?_
  refine gIadd X0 hx (hb hby d10_22) (q := 23) rfl ?_
  generalize hu2 : ((u1 &&& (858993459 : Int32)) + ((XT.ushr u1 (2 : Int32)) &&& (858993459 : Int32))) = u2
  refine gIstoreN X0 hx (hb hby d10_23) (q := 24) rfl (L' := #[.val (.int u2)]) rfl ?_
  refine gIloadN X0 hx (hb hby d10_24) (q := 25) rfl rfl ?_
  refine gIloadN X0 hx (hb hby d10_25) (q := 26) rfl rfl ?_
  refine gIconst X0 hx (4 : Int32) (hb hby d10_26) (q := 27) rfl (by decide) ?_
  refine gIushr X0 hx (hb hby d10_27) (q := 28) rfl ?_
  refine gIadd X0 hx (hb hby d10_28) (q := 29) rfl ?_
  refine gLdcW X0 hx hZ hown (hw _ (List.mem_of_getElem? (i := 52) rfl)) (hb hby d10_29) (q := 32) rfl ?_
  refine gIand X0 hx (hb hby d10_32) (q := 33) rfl ?_
  generalize hu3 : ((u2 + (XT.ushr u2 (4 : Int32))) &&& (252645135 : Int32)) = u3
  refine gIstoreN X0 hx (hb hby d10_33) (q := 34) rfl (L' := #[.val (.int u3)]) rfl ?_
  refine gIloadN X0 hx (hb hby d10_34) (q := 35) rfl rfl ?_
  refine gIloadN X0 hx (hb hby d10_35) (q := 36) rfl rfl ?_
  refine gBipush X0 hx (8 : Int32) (hb hby d10_36) (q := 38) rfl (by decide) ?_
  refine gIushr X0 hx (hb hby d10_38) (q := 39) rfl ?_
  refine gIadd X0 hx (hb hby d10_39) (q := 40) rfl ?_
  generalize hu4 : (u3 + (XT.ushr u3 (8 : Int32))) = u4
  refine gIstoreN X0 hx (hb hby d10_40) (q := 41) rfl (L' := #[.val (.int u4)]) rfl ?_
  refine gIloadN X0 hx (hb hby d10_41) (q := 42) rfl rfl ?_
  refine gIloadN X0 hx (hb hby d10_42) (q := 43) rfl rfl ?_
  refine gBipush X0 hx (16 : Int32) (hb hby d10_43) (q := 45) rfl (by decide) ?_
  refine gIushr X0 hx (hb hby d10_45) (q := 46) rfl ?_
  refine gIadd X0 hx (hb hby d10_46) (q := 47) rfl ?_
  generalize hu5 : (u4 + (XT.ushr u4 (16 : Int32))) = u5
  refine gIstoreN X0 hx (hb hby d10_47) (q := 48) rfl (L' := #[.val (.int u5)]) rfl ?_
  refine gIloadN X0 hx (hb hby d10_48) (q := 49) rfl rfl ?_
  refine gBipush X0 hx (63 : Int32) (hb hby d10_49) (q := 51) rfl (by decide) ?_
  refine gIand X0 hx (hb hby d10_51) (q := 52) rfl ?_
  exact gRetI X0 hx hlk hret (hb hby d10_52) (by decide) (by decide) ⟨by subst hu5 hu4 hu3 hu2 hu1; rfl, N0, e0⟩
theorem d15_0 : decode jdk_35_method_50_code 0 = .ok (.lload_n 0, 1) := by decide +kernel
theorem d15_1 : decode jdk_35_method_50_code 1 = .ok (.lload_n 0, 1) := by decide +kernel
theorem d15_2 : decode jdk_35_method_50_code 2 = .ok (.iconst 1, 1) := by decide +kernel
theorem d15_3 : decode jdk_35_method_50_code 3 = .ok (.lushr, 1) := by decide +kernel
theorem d15_4 : decode jdk_35_method_50_code 4 = .ok (.ldc2_w 314, 3) := by decide +kernel
theorem d15_7 : decode jdk_35_method_50_code 7 = .ok (.land, 1) := by decide +kernel
theorem d15_8 : decode jdk_35_method_50_code 8 = .ok (.lsub, 1) := by decide +kernel
theorem d15_9 : decode jdk_35_method_50_code 9 = .ok (.lstore_n 0, 1) := by decide +kernel
theorem d15_10 : decode jdk_35_method_50_code 10 = .ok (.lload_n 0, 1) := by decide +kernel
theorem d15_11 : decode jdk_35_method_50_code 11 = .ok (.ldc2_w 316, 3) := by decide +kernel
theorem d15_14 : decode jdk_35_method_50_code 14 = .ok (.land, 1) := by decide +kernel
theorem d15_15 : decode jdk_35_method_50_code 15 = .ok (.lload_n 0, 1) := by decide +kernel
theorem d15_16 : decode jdk_35_method_50_code 16 = .ok (.iconst 2, 1) := by decide +kernel
theorem d15_17 : decode jdk_35_method_50_code 17 = .ok (.lushr, 1) := by decide +kernel
theorem d15_18 : decode jdk_35_method_50_code 18 = .ok (.ldc2_w 316, 3) := by decide +kernel
theorem d15_21 : decode jdk_35_method_50_code 21 = .ok (.land, 1) := by decide +kernel
theorem d15_22 : decode jdk_35_method_50_code 22 = .ok (.ladd, 1) := by decide +kernel
theorem d15_23 : decode jdk_35_method_50_code 23 = .ok (.lstore_n 0, 1) := by decide +kernel
theorem d15_24 : decode jdk_35_method_50_code 24 = .ok (.lload_n 0, 1) := by decide +kernel
theorem d15_25 : decode jdk_35_method_50_code 25 = .ok (.lload_n 0, 1) := by decide +kernel
theorem d15_26 : decode jdk_35_method_50_code 26 = .ok (.iconst 4, 1) := by decide +kernel
theorem d15_27 : decode jdk_35_method_50_code 27 = .ok (.lushr, 1) := by decide +kernel
theorem d15_28 : decode jdk_35_method_50_code 28 = .ok (.ladd, 1) := by decide +kernel
theorem d15_29 : decode jdk_35_method_50_code 29 = .ok (.ldc2_w 318, 3) := by decide +kernel
theorem d15_32 : decode jdk_35_method_50_code 32 = .ok (.land, 1) := by decide +kernel
theorem d15_33 : decode jdk_35_method_50_code 33 = .ok (.lstore_n 0, 1) := by decide +kernel
theorem d15_34 : decode jdk_35_method_50_code 34 = .ok (.lload_n 0, 1) := by decide +kernel
theorem d15_35 : decode jdk_35_method_50_code 35 = .ok (.lload_n 0, 1) := by decide +kernel
theorem d15_36 : decode jdk_35_method_50_code 36 = .ok (.bipush 8, 2) := by decide +kernel
theorem d15_38 : decode jdk_35_method_50_code 38 = .ok (.lushr, 1) := by decide +kernel
theorem d15_39 : decode jdk_35_method_50_code 39 = .ok (.ladd, 1) := by decide +kernel
theorem d15_40 : decode jdk_35_method_50_code 40 = .ok (.lstore_n 0, 1) := by decide +kernel
theorem d15_41 : decode jdk_35_method_50_code 41 = .ok (.lload_n 0, 1) := by decide +kernel
theorem d15_42 : decode jdk_35_method_50_code 42 = .ok (.lload_n 0, 1) := by decide +kernel
theorem d15_43 : decode jdk_35_method_50_code 43 = .ok (.bipush 16, 2) := by decide +kernel
theorem d15_45 : decode jdk_35_method_50_code 45 = .ok (.lushr, 1) := by decide +kernel
theorem d15_46 : decode jdk_35_method_50_code 46 = .ok (.ladd, 1) := by decide +kernel
theorem d15_47 : decode jdk_35_method_50_code 47 = .ok (.lstore_n 0, 1) := by decide +kernel
theorem d15_48 : decode jdk_35_method_50_code 48 = .ok (.lload_n 0, 1) := by decide +kernel
theorem d15_49 : decode jdk_35_method_50_code 49 = .ok (.lload_n 0, 1) := by decide +kernel
theorem d15_50 : decode jdk_35_method_50_code 50 = .ok (.bipush 32, 2) := by decide +kernel
theorem d15_52 : decode jdk_35_method_50_code 52 = .ok (.lushr, 1) := by decide +kernel
theorem d15_53 : decode jdk_35_method_50_code 53 = .ok (.ladd, 1) := by decide +kernel
theorem d15_54 : decode jdk_35_method_50_code 54 = .ok (.lstore_n 0, 1) := by decide +kernel
theorem d15_55 : decode jdk_35_method_50_code 55 = .ok (.lload_n 0, 1) := by decide +kernel
theorem d15_56 : decode jdk_35_method_50_code 56 = .ok (.l2i, 1) := by decide +kernel
theorem d15_57 : decode jdk_35_method_50_code 57 = .ok (.bipush 127, 2) := by decide +kernel
theorem d15_59 : decode jdk_35_method_50_code 59 = .ok (.iand, 1) := by decide +kernel
theorem d15_60 : decode jdk_35_method_50_code 60 = .ok (.ireturn, 1) := by decide +kernel
theorem pn4 : plainName "java/lang/Long" = true := by first | (simp [plainName, overriddenIn]; done) | decide +kernel
theorem ef4 (m : MethodId) (x0 : Int64) : entryFrame m #[(.long x0)] 2 = mkF m 0 #[.val (.long x0), .second] [] := by first | (simp [entryFrame, mkF, argsToLocals, Value.category]; done) | rfl
def Q_rmBL (Z : State) (x0 : Int64) (h0 : Heap) (n0 : Nat) (v : Option Value) (h : Heap) (L : List Loc) : Prop := v = some (.int (own_bcL x0)) ∧ Fr n0 L ∧ h = h0
set_option maxRecDepth 65536 in
set_option maxHeartbeats 40000000 in
theorem rmBL (l : Launch) (Z : State) (a0 : Array Value) (hw : ∀ d ∈ tables_1, d.before a0 Z = true) (ws : List Jvm.Cond) (x0 : Int64) (h0 : Heap) (n0 : Nat) (Z0 : n0 ≤ h0.size)  :
    Con l Z (⟨"java/lang/Long", "bitCount", "(J)I"⟩ : MethodName) jdk_35_method_50_code 2 (some (.int)) ws ({ frames := 0, cells := 0, slots := 0, locals := 0 } : Room) #[(.long x0)] h0 (({ frames := 0, cells := 0, slots := 0, locals := 0 } : Room).cells) (({ frames := 0, cells := 0, slots := 0, locals := 0 } : Room).slots) (Q_rmBL Z x0 h0 n0) := by
  refine Con.of (plainFor_of_name pn4) ?_
  intro p e s m below meth c s₁ hx hby hml hown hnm hret hlk hZ X0 e0
  have N0 := Fr.nil n0
  refine goE (L := #[.val (.long x0), .second]) (ef4 m x0) ?_
  refine gLloadN X0 hx (hb hby d15_0) (q := 1) rfl rfl ?_
  refine gLloadN X0 hx (hb hby d15_1) (q := 2) rfl rfl ?_
  refine gIconst X0 hx (1 : Int32) (hb hby d15_2) (q := 3) rfl (by decide) ?_
  refine gLushr X0 hx (hb hby d15_3) (q := 4) rfl ?_
  refine gLdc2 X0 hx hZ hown (hw _ (List.mem_of_getElem? (i := 85) rfl)) (hb hby d15_4) (q := 7) rfl ?_
  refine gLand X0 hx (hb hby d15_7) (q := 8) rfl ?_
  refine gLsub X0 hx (hb hby d15_8) (q := 9) rfl ?_
  generalize hu1 : (x0 - ((XT.ushrL x0 (1 : Int32)) &&& (6148914691236517205 : Int64))) = u1
  refine gLstoreN X0 hx (hb hby d15_9) (q := 10) rfl (L' := #[.val (.long u1), .second]) rfl ?_
  refine gLloadN X0 hx (hb hby d15_10) (q := 11) rfl rfl ?_
  refine gLdc2 X0 hx hZ hown (hw _ (List.mem_of_getElem? (i := 86) rfl)) (hb hby d15_11) (q := 14) rfl ?_
  refine gLand X0 hx (hb hby d15_14) (q := 15) rfl ?_
  refine gLloadN X0 hx (hb hby d15_15) (q := 16) rfl rfl ?_
  refine gIconst X0 hx (2 : Int32) (hb hby d15_16) (q := 17) rfl (by decide) ?_
  refine gLushr X0 hx (hb hby d15_17) (q := 18) rfl ?_
  refine gLdc2 X0 hx hZ hown (hw _ (List.mem_of_getElem? (i := 86) rfl)) (hb hby d15_18) (q := 21) rfl ?_
  refine gLand X0 hx (hb hby d15_21) (q := 22) rfl ?_
  refine gLadd X0 hx (hb hby d15_22) (q := 23) rfl ?_
  generalize hu2 : ((u1 &&& (3689348814741910323 : Int64)) + ((XT.ushrL u1 (2 : Int32)) &&& (3689348814741910323 : Int64))) = u2
  refine gLstoreN X0 hx (hb hby d15_23) (q := 24) rfl (L' := #[.val (.long u2), .second]) rfl ?_
  refine gLloadN X0 hx (hb hby d15_24) (q := 25) rfl rfl ?_
  refine gLloadN X0 hx (hb hby d15_25) (q := 26) rfl rfl ?_
  refine gIconst X0 hx (4 : Int32) (hb hby d15_26) (q := 27) rfl (by decide) ?_
  refine gLushr X0 hx (hb hby d15_27) (q := 28) rfl ?_
  refine gLadd X0 hx (hb hby d15_28) (q := 29) rfl ?_
  refine gLdc2 X0 hx hZ hown (hw _ (List.mem_of_getElem? (i := 87) rfl)) (hb hby d15_29) (q := 32) rfl ?_
  refine gLand X0 hx (hb hby d15_32) (q := 33) rfl ?_
  generalize hu3 : ((u2 + (XT.ushrL u2 (4 : Int32))) &&& (1085102592571150095 : Int64)) = u3
  refine gLstoreN X0 hx (hb hby d15_33) (q := 34) rfl (L' := #[.val (.long u3), .second]) rfl ?_
  refine gLloadN X0 hx (hb hby d15_34) (q := 35) rfl rfl ?_
  refine gLloadN X0 hx (hb hby d15_35) (q := 36) rfl rfl ?_
  refine gBipush X0 hx (8 : Int32) (hb hby d15_36) (q := 38) rfl (by decide) ?_
  refine gLushr X0 hx (hb hby d15_38) (q := 39) rfl ?_
  refine gLadd X0 hx (hb hby d15_39) (q := 40) rfl ?_
  generalize hu4 : (u3 + (XT.ushrL u3 (8 : Int32))) = u4
  refine gLstoreN X0 hx (hb hby d15_40) (q := 41) rfl (L' := #[.val (.long u4), .second]) rfl ?_
  refine gLloadN X0 hx (hb hby d15_41) (q := 42) rfl rfl ?_
  refine gLloadN X0 hx (hb hby d15_42) (q := 43) rfl rfl ?_
  refine gBipush X0 hx (16 : Int32) (hb hby d15_43) (q := 45) rfl (by decide) ?_
  refine gLushr X0 hx (hb hby d15_45) (q := 46) rfl ?_
  refine gLadd X0 hx (hb hby d15_46) (q := 47) rfl ?_
  generalize hu5 : (u4 + (XT.ushrL u4 (16 : Int32))) = u5
  refine gLstoreN X0 hx (hb hby d15_47) (q := 48) rfl (L' := #[.val (.long u5), .second]) rfl ?_
  refine gLloadN X0 hx (hb hby d15_48) (q := 49) rfl rfl ?_
  refine gLloadN X0 hx (hb hby d15_49) (q := 50) rfl rfl ?_
  refine gBipush X0 hx (32 : Int32) (hb hby d15_50) (q := 52) rfl (by decide) ?_
  refine gLushr X0 hx (hb hby d15_52) (q := 53) rfl ?_
  refine gLadd X0 hx (hb hby d15_53) (q := 54) rfl ?_
  generalize hu6 : (u5 + (XT.ushrL u5 (32 : Int32))) = u6
  refine gLstoreN X0 hx (hb hby d15_54) (q := 55) rfl (L' := #[.val (.long u6), .second]) rfl ?_
  refine gLloadN X0 hx (hb hby d15_55) (q := 56) rfl rfl ?_
  refine gL2i X0 hx (hb hby d15_56) (q := 57) rfl ?_
  refine gBipush X0 hx (127 : Int32) (hb hby d15_57) (q := 59) rfl (by decide) ?_
  refine gIand X0 hx (hb hby d15_59) (q := 60) rfl ?_
  exact gRetI X0 hx hlk hret (hb hby d15_60) (by decide) (by decide) ⟨by subst hu6 hu5 hu4 hu3 hu2 hu1; rfl, N0, e0⟩
theorem d12_0 : decode method_2_code 0 = .ok (.iload_n 0, 1) := by decide +kernel
theorem d12_1 : decode method_2_code 1 = .ok (.iload_n 1, 1) := by decide +kernel
theorem d12_2 : decode method_2_code 2 = .ok (.if_icmp .lt 17, 3) := by decide +kernel
theorem d12_5 : decode method_2_code 5 = .ok (.iload_n 0, 1) := by decide +kernel
theorem d12_6 : decode method_2_code 6 = .ok (.iload_n 1, 1) := by decide +kernel
theorem d12_7 : decode method_2_code 7 = .ok (.isub, 1) := by decide +kernel
theorem d12_8 : decode method_2_code 8 = .ok (.bipush 64, 2) := by decide +kernel
theorem d12_10 : decode method_2_code 10 = .ok (.if_icmp .ge 9, 3) := by decide +kernel
theorem d12_13 : decode method_2_code 13 = .ok (.lconst 1, 1) := by decide +kernel
theorem d12_14 : decode method_2_code 14 = .ok (.iload_n 0, 1) := by decide +kernel
theorem d12_15 : decode method_2_code 15 = .ok (.iload_n 1, 1) := by decide +kernel
theorem d12_16 : decode method_2_code 16 = .ok (.isub, 1) := by decide +kernel
theorem d12_17 : decode method_2_code 17 = .ok (.lshl, 1) := by decide +kernel
theorem d12_18 : decode method_2_code 18 = .ok (.lreturn, 1) := by decide +kernel
theorem d12_19 : decode method_2_code 19 = .ok (.lconst 0, 1) := by decide +kernel
theorem d12_20 : decode method_2_code 20 = .ok (.lreturn, 1) := by decide +kernel
theorem pn5 : plainName "com/example/libpalin/libpalin/BuilderSetPinLaw" = true := by first | (simp [plainName, overriddenIn]; done) | decide +kernel
theorem ef5 (m : MethodId) (x0 : Int32) (x1 : Int32) : entryFrame m #[(.int x0), (.int x1)] 2 = mkF m 0 #[.val (.int x0), .val (.int x1)] [] := by first | (simp [entryFrame, mkF, argsToLocals, Value.category]; done) | rfl
def Q_rmBA (Z : State) (x0 : Int32) (x1 : Int32) (h0 : Heap) (n0 : Nat) (v : Option Value) (h : Heap) (L : List Loc) : Prop := v = some (.long (own_ba x0 x1)) ∧ Fr n0 L ∧ h = h0
set_option maxRecDepth 65536 in
set_option maxHeartbeats 40000000 in
theorem rmBA (l : Launch) (Z : State) (a0 : Array Value) (hw : ∀ d ∈ tables_1, d.before a0 Z = true) (ws : List Jvm.Cond) (x0 : Int32) (x1 : Int32) (h0 : Heap) (n0 : Nat) (Z0 : n0 ≤ h0.size)  :
    Con l Z (⟨"com/example/libpalin/libpalin/BuilderSetPinLaw", "bitAt", "(II)J"⟩ : MethodName) method_2_code 2 (some (.long)) ws ({ frames := 0, cells := 0, slots := 0, locals := 0 } : Room) #[(.int x0), (.int x1)] h0 (({ frames := 0, cells := 0, slots := 0, locals := 0 } : Room).cells) (({ frames := 0, cells := 0, slots := 0, locals := 0 } : Room).slots) (Q_rmBA Z x0 x1 h0 n0) := by
  refine Con.of (plainFor_of_name pn5) ?_
  intro p e s m below meth c s₁ hx hby hml hown hnm hret hlk hZ X0 e0
  have N0 := Fr.nil n0
  refine goE (L := #[.val (.int x0), .val (.int x1)]) (ef5 m x0 x1) ?_
  refine gIloadN X0 hx (hb hby d12_0) (q := 1) rfl rfl ?_
  refine gIloadN X0 hx (hb hby d12_1) (q := 2) rfl rfl ?_
  by_cases c1 : x0 < x1
  · refine gIcmpY X0 hx (hb hby d12_2) (q := 19) (by decide) (by decide) (XT.ii_lt_t c1) ?_
    refine gLconst X0 hx (0 : Int64) (hb hby d12_19) (q := 20) rfl (by decide) ?_
    exact gRetJ X0 hx hlk hret (hb hby d12_20) (by decide) (by decide) ⟨by rw [own_ba, if_pos c1], N0, e0⟩
  · refine gIcmpN X0 hx (hb hby d12_2) (q := 5) rfl (XT.ii_lt_f c1) ?_
    refine gIloadN X0 hx (hb hby d12_5) (q := 6) rfl rfl ?_
    refine gIloadN X0 hx (hb hby d12_6) (q := 7) rfl rfl ?_
    refine gIsub X0 hx (hb hby d12_7) (q := 8) rfl ?_
    refine gBipush X0 hx (64 : Int32) (hb hby d12_8) (q := 10) rfl (by decide) ?_
    by_cases c2 : (x0 - x1) < (64 : Int32)
    · refine gIcmpN X0 hx (hb hby d12_10) (q := 13) rfl (XT.ii_ge_f c2) ?_
      refine gLconst X0 hx (1 : Int64) (hb hby d12_13) (q := 14) rfl (by decide) ?_
      refine gIloadN X0 hx (hb hby d12_14) (q := 15) rfl rfl ?_
      refine gIloadN X0 hx (hb hby d12_15) (q := 16) rfl rfl ?_
      refine gIsub X0 hx (hb hby d12_16) (q := 17) rfl ?_
      refine gLshl X0 hx (hb hby d12_17) (q := 18) rfl ?_
      exact gRetJ X0 hx hlk hret (hb hby d12_18) (by decide) (by decide) ⟨by rw [own_ba, if_neg c1, if_pos c2], N0, e0⟩
    · refine gIcmpY X0 hx (hb hby d12_10) (q := 19) (by decide) (by decide) (XT.ii_ge_t c2) ?_
      refine gLconst X0 hx (0 : Int64) (hb hby d12_19) (q := 20) rfl (by decide) ?_
      exact gRetJ X0 hx hlk hret (hb hby d12_20) (by decide) (by decide) ⟨by rw [own_ba, if_neg c1, if_neg c2], N0, e0⟩
theorem d4_0 : decode jdk_65_method_104_code 0 = .ok (.aload_n 0, 1) := by decide +kernel
theorem d4_1 : decode jdk_65_method_104_code 1 = .ok (.arraylength, 1) := by decide +kernel
theorem d4_2 : decode jdk_65_method_104_code 2 = .ok (.iload_n 1, 1) := by decide +kernel
theorem d4_3 : decode jdk_65_method_104_code 3 = .ok (.iload_n 2, 1) := by decide +kernel
theorem d4_4 : decode jdk_65_method_104_code 4 = .ok (.invokestatic 13, 3) := by decide +kernel
theorem d4_7 : decode jdk_65_method_104_code 7 = .ok (.iload_n 1, 1) := by decide +kernel
theorem d4_8 : decode jdk_65_method_104_code 8 = .ok (.istore 4, 2) := by decide +kernel
theorem d4_10 : decode jdk_65_method_104_code 10 = .ok (.iload 4, 2) := by decide +kernel
theorem d4_12 : decode jdk_65_method_104_code 12 = .ok (.iload_n 2, 1) := by decide +kernel
theorem d4_13 : decode jdk_65_method_104_code 13 = .ok (.if_icmp .ge 14, 3) := by decide +kernel
theorem d4_16 : decode jdk_65_method_104_code 16 = .ok (.aload_n 0, 1) := by decide +kernel
theorem d4_17 : decode jdk_65_method_104_code 17 = .ok (.iload 4, 2) := by decide +kernel
theorem d4_19 : decode jdk_65_method_104_code 19 = .ok (.iload_n 3, 1) := by decide +kernel
theorem d4_20 : decode jdk_65_method_104_code 20 = .ok (.iastore, 1) := by decide +kernel
theorem d4_21 : decode jdk_65_method_104_code 21 = .ok (.iinc 4 1, 3) := by decide +kernel
theorem d4_24 : decode jdk_65_method_104_code 24 = .ok (.goto (-14), 3) := by decide +kernel
theorem d4_27 : decode jdk_65_method_104_code 27 = .ok (.return_, 1) := by decide +kernel
theorem ef6 (m : MethodId) (x0 : Addr) (x1 : Int32) (x2 : Int32) (x3 : Int32) : entryFrame m #[(.ref x0), (.int x1), (.int x2), (.int x3)] 5 = mkF m 0 #[.val (.ref x0), .val (.int x1), .val (.int x2), .val (.int x3), .unset] [] := by first | (simp [entryFrame, mkF, argsToLocals, Value.category]; done) | rfl
def Q_rmFi (Z : State) (ka : Addr) (kc : ClassId) (x1 : Int32) (x2 : Int32) (h0 : Heap) (n0 : Nat) (v : Option Value) (h : Heap) (L : List Loc) : Prop := v = none ∧ Fr n0 L ∧ Keep h0 h [ka] ∧ Ary Z h ka kc .int (own_l own_z)
theorem pd0 : parseMethodDescriptor "(III)V" = some ⟨[.int, .int, .int], none⟩ := by decide +kernel
set_option maxRecDepth 65536 in
set_option maxHeartbeats 40000000 in
theorem rmFi (l : Launch) (Z : State) (a0 : Array Value) (hw : ∀ d ∈ tables_1, d.before a0 Z = true) (ws : List Jvm.Cond) (ka : Addr) (kc : ClassId) (x1 : Int32) (x2 : Int32) (h0 : Heap) (n0 : Nat) (Z0 : n0 ≤ h0.size) (pA : Ary Z h0 ka kc .int (own_l own_z)) (lka : n0 ≤ ka) (hp1 : ¬ x2 < x1) (hp2 : ¬ x1 < (0 : Int32)) (hp3 : ¬ (24 : Int32) < x2) :
    Con l Z (⟨"java/util/Arrays", "fill", "([IIII)V"⟩ : MethodName) jdk_65_method_104_code 5 none ws ({ frames := 1, cells := 0, slots := 0, locals := 16 } : Room) #[(.ref ka), (.int x1), (.int x2), (.int (0 : Int32))] h0 (({ frames := 1, cells := 0, slots := 0, locals := 16 } : Room).cells) (({ frames := 1, cells := 0, slots := 0, locals := 16 } : Room).slots) (Q_rmFi Z ka kc x1 x2 h0 n0) := by
  refine Con.of (plainFor_of_name pn2) ?_
  intro p e s m below meth c s₁ hx hby hml hown hnm hret hlk hZ X0 e0
  have N0 := Fr.nil n0
  refine goE (L := #[.val (.ref ka), .val (.int x1), .val (.int x2), .val (.int (0 : Int32)), .unset]) (ef6 m ka x1 x2 (0 : Int32)) ?_
  have hx24 : x2.toInt ≤ 24 := by have z : (24 : Int32).toInt = 24 := rfl; rw [Int32.lt_iff_toInt_lt] at hp3; omega
  refine gAloadN X0 hx (hb hby d4_0) (q := 1) rfl rfl rfl ?_
  refine gLen X0 hx hZ e0 pA (n := (24 : Int32)) (by rw [own_l_len]; rfl) (hb hby d4_1) (q := 2) rfl ?_
  refine gIloadN X0 hx (hb hby d4_2) (q := 3) rfl rfl ?_
  refine gIloadN X0 hx (hb hby d4_3) (q := 4) rfl rfl ?_
  refine gCallS X0 hx hZ hown (hw _ (List.mem_of_getElem? (i := 25) rfl)) (hw _ (List.mem_of_getElem? (i := 26) rfl)) (hw _ (List.mem_of_getElem? (i := 23) rfl)) (hw _ (List.mem_of_getElem? (i := 27) rfl)) (by decide) (rmRC l Z a0 hw [] x1 x2 h0 n0 Z0 hp1 hp2 hp3) (W := 0) (by decide) (by decide) e0 (by rw [hml]; rfl) [(.int (24 : Int32)), (.int x1), (.int x2)] (lenOf pd0 rfl) rfl (S := []) rfl (Nat.le_of_eq rfl) (hb hby d4_4) (q := 7) rfl (by decide) (by decide) (fun r1 T1 M1 X1 q1 => ?_)
  obtain ⟨rfl, M1n, e1⟩ := q1
  have N2 := Fr.app N0 M1n
  dsimp only [Option.toList, List.cons_append, List.nil_append]
  refine gIloadN X1 hx (hb hby d4_7) (q := 8) rfl rfl ?_
  refine gIstore X1 hx (hb hby d4_8) (q := 10) rfl (L' := #[.val (.ref ka), .val (.int x1), .val (.int x2), .val (.int (0 : Int32)), .val (.int x1)]) rfl ?_
  have LP3 : ∀ (n : Nat) (t : Int32) (T3 : State) (h3 : Heap) (L3 : List Loc), ((n : Int) + t.toInt = x2.toInt) → (0 ≤ t.toInt) → Stand p l e ({ frames := 1, cells := 0, slots := 0, locals := 16 } : Room) s m #[(.ref ka), (.int x1), (.int x2), (.int (0 : Int32))] below meth c T3 L3 0 0 → T3.heap = h3 → Fr n0 L3 → n0 ≤ h3.size → Keep h0 h3 [ka] → Ary Z h3 ka kc (.int) (own_l own_z) → Go p.tables e below (Done s (Q_rmFi Z ka kc x1 x2 h0 n0) (({ frames := 1, cells := 0, slots := 0, locals := 16 } : Room).cells) (({ frames := 1, cells := 0, slots := 0, locals := 16 } : Room).slots)) (T3.setTop (mkF m 10 #[.val (.ref ka), .val (.int x1), .val (.int x2), .val (.int (0 : Int32)), .val (.int t)] [])) := by
    intro n
    induction n with
    | zero =>
      intro t T3 h3 L3 ht ht0 X3 e3 N3 Z3 K3 G3_0
      have cz : ¬ t < x2 := by rw [Int32.lt_iff_toInt_lt]; omega
      refine gIload X3 hx (hb hby d4_10) (q := 12) rfl rfl ?_
      refine gIloadN X3 hx (hb hby d4_12) (q := 13) rfl rfl ?_
      refine gIcmpY X3 hx (hb hby d4_13) (q := 27) (by decide) (by decide) (XT.ii_ge_t cz) ?_
      exact gRetV X3 hx hlk hret (hb hby d4_27) (by decide) (by decide) (by rw [e3]; exact ⟨rfl, N3, K3, G3_0⟩)
    | succ n ih =>
      intro t T3 h3 L3 ht ht0 X3 e3 N3 Z3 K3 G3_0
      have cz : t < x2 := by rw [Int32.lt_iff_toInt_lt]; omega
      have htn : t.toInt = ((t.toInt.toNat : Nat) : Int) := by omega
      have htl : t.toInt.toNat < 24 := by omega
      refine gIload X3 hx (hb hby d4_10) (q := 12) rfl rfl ?_
      refine gIloadN X3 hx (hb hby d4_12) (q := 13) rfl rfl ?_
      refine gIcmpN X3 hx (hb hby d4_13) (q := 16) rfl (XT.ii_ge_f cz) ?_
      refine gAloadN X3 hx (hb hby d4_16) (q := 17) rfl rfl rfl ?_
      refine gIload X3 hx (hb hby d4_17) (q := 19) rfl rfl ?_
      refine gIloadN X3 hx (hb hby d4_19) (q := 20) rfl rfl ?_
      refine gIastore X3 hx hZ e3 G3_0 (hb hby d4_20) (q := 21) rfl (own_idx htn htl).1 (fun T4 h4 X4 e4 W4 A4 => ?_)
      have B4 : Ary Z h4 ka kc (.int) (own_l own_z) := by have zA := A4; rw [(own_idx (F := own_z) htn htl).2, own_l_set _ _ htl, own_st0] at zA; exact zA
      have N5 := Fr.snoc X4 N3 lka
      have K6 := K3.wr W4 (Or.inl (List.mem_of_getElem? (i := 0) rfl))
      have Z8 : n0 ≤ h4.size := by rw [W4.size]; exact Z3
      refine gIinc X4 hx (1 : Int32) (hb hby d4_21) (q := 24) rfl (by decide) rfl (L' := #[.val (.ref ka), .val (.int x1), .val (.int x2), .val (.int (0 : Int32)), .val (.int (t + (1 : Int32)))]) rfl ?_
      refine gGoto X4 hx (hb hby d4_24) (q := 10) (by decide) (by decide) ?_
      exact ih (t + (1 : Int32)) T4 _ _ (by have z1 : (1 : Int32).toInt = 1 := rfl; have z2 := c_iadd t 1; have z3 := rng32 (t + 1); have z4 := rng32 x2; omega) (by have z1 : (1 : Int32).toInt = 1 := rfl; have z2 := c_iadd t 1; have z3 := rng32 (t + 1); have z4 := rng32 x2; omega) X4 e4 N5 Z8 K6 B4
  exact LP3 (x2.toInt - x1.toInt).toNat x1 T1 _ _ (by rw [Int32.lt_iff_toInt_lt] at hp1; omega) (by have z : (0 : Int32).toInt = 0 := rfl; rw [Int32.lt_iff_toInt_lt] at hp2; omega) X1 e1 N2 Z0 (Keep.refl h0 [ka]) pA
theorem d1_0 : decode prog_34_method_1_code 0 = .ok (.aload_n 0, 1) := by decide +kernel
theorem d1_1 : decode prog_34_method_1_code 1 = .ok (.invokespecial 3, 3) := by decide +kernel
theorem d1_4 : decode prog_34_method_1_code 4 = .ok (.aload_n 0, 1) := by decide +kernel
theorem d1_5 : decode prog_34_method_1_code 5 = .ok (.aload_n 1, 1) := by decide +kernel
theorem d1_6 : decode prog_34_method_1_code 6 = .ok (.putfield 9, 3) := by decide +kernel
theorem d1_9 : decode prog_34_method_1_code 9 = .ok (.aload_n 0, 1) := by decide +kernel
theorem d1_10 : decode prog_34_method_1_code 10 = .ok (.iload_n 2, 1) := by decide +kernel
theorem d1_11 : decode prog_34_method_1_code 11 = .ok (.putfield 15, 3) := by decide +kernel
theorem d1_14 : decode prog_34_method_1_code 14 = .ok (.aload_n 0, 1) := by decide +kernel
theorem d1_15 : decode prog_34_method_1_code 15 = .ok (.iload_n 3, 1) := by decide +kernel
theorem d1_16 : decode prog_34_method_1_code 16 = .ok (.putfield 19, 3) := by decide +kernel
theorem d1_19 : decode prog_34_method_1_code 19 = .ok (.aload_n 1, 1) := by decide +kernel
theorem d1_20 : decode prog_34_method_1_code 20 = .ok (.iload_n 2, 1) := by decide +kernel
theorem d1_21 : decode prog_34_method_1_code 21 = .ok (.iload_n 2, 1) := by decide +kernel
theorem d1_22 : decode prog_34_method_1_code 22 = .ok (.iload_n 3, 1) := by decide +kernel
theorem d1_23 : decode prog_34_method_1_code 23 = .ok (.invokestatic 22, 3) := by decide +kernel
theorem d1_26 : decode prog_34_method_1_code 26 = .ok (.iadd, 1) := by decide +kernel
theorem d1_27 : decode prog_34_method_1_code 27 = .ok (.iconst 0, 1) := by decide +kernel
theorem d1_28 : decode prog_34_method_1_code 28 = .ok (.invokestatic 26, 3) := by decide +kernel
theorem d1_31 : decode prog_34_method_1_code 31 = .ok (.return_, 1) := by decide +kernel
theorem pn6 : plainName "com/example/libpalin/libpalin/RankedBits$Builder" = true := by first | (simp [plainName, overriddenIn]; done) | decide +kernel
theorem ef7 (m : MethodId) (x0 : Addr) (x1 : Addr) (x2 : Int32) (x3 : Int32) : entryFrame m #[(.ref x0), (.ref x1), (.int x2), (.int x3)] 4 = mkF m 0 #[.val (.ref x0), .val (.ref x1), .val (.int x2), .val (.int x3)] [] := by first | (simp [entryFrame, mkF, argsToLocals, Value.category]; done) | rfl
def Q_rmBu (Z : State) (a : Addr) (ka : Addr) (kc : ClassId) (xf : Int32) (xs : Int32) (h0 : Heap) (n0 : Nat) (v : Option Value) (h : Heap) (L : List Loc) : Prop := v = none ∧ Fr n0 L ∧ Keep h0 h [a, ka] ∧ Exa Z h a "com/example/libpalin/libpalin/RankedBits$Builder" ∧ Fld Z h a "com/example/libpalin/libpalin/RankedBits$Builder" "ints" "[I" (.ref ka) ∧ Fld Z h a "com/example/libpalin/libpalin/RankedBits$Builder" "from" "I" (.int xf) ∧ Fld Z h a "com/example/libpalin/libpalin/RankedBits$Builder" "size" "I" (.int xs) ∧ Ary Z h ka kc .int (own_l own_z)
theorem pd1 : parseMethodDescriptor "(I)I" = some ⟨[.int], some (.int)⟩ := by decide +kernel
theorem pd2 : parseMethodDescriptor "([IIII)V" = some ⟨[.array (.int), .int, .int, .int], none⟩ := by decide +kernel
set_option maxRecDepth 65536 in
set_option maxHeartbeats 40000000 in
theorem rmBu (l : Launch) (Z : State) (a0 : Array Value) (hw : ∀ d ∈ tables_1, d.before a0 Z = true) (ws : List Jvm.Cond) (a : Addr) (ka : Addr) (kc : ClassId) (xf : Int32) (xs : Int32) (h0 : Heap) (n0 : Nat) (Z0 : n0 ≤ h0.size) (pI : Fld Z h0 a "com/example/libpalin/libpalin/RankedBits$Builder" "ints" "[I" (.null)) (pF : Fld Z h0 a "com/example/libpalin/libpalin/RankedBits$Builder" "from" "I" (.int (0 : Int32))) (pS : Fld Z h0 a "com/example/libpalin/libpalin/RankedBits$Builder" "size" "I" (.int (0 : Int32))) (pE : Exa Z h0 a "com/example/libpalin/libpalin/RankedBits$Builder") (pA : Ary Z h0 ka kc .int (own_l own_z)) (la : n0 ≤ a) (lka : n0 ≤ ka) (nka : ka ≠ a) (hp1 : ¬ (xf + ((xs / (32 : Int32)) + (3 : Int32))) < xf) (hp2 : ¬ xf < (0 : Int32)) (hp3 : ¬ (24 : Int32) < (xf + ((xs / (32 : Int32)) + (3 : Int32)))) :
    Con l Z (⟨"com/example/libpalin/libpalin/RankedBits$Builder", "<init>", "([III)V"⟩ : MethodName) prog_34_method_1_code 4 none ws ({ frames := 2, cells := 0, slots := 0, locals := 34 } : Room) #[(.ref a), (.ref ka), (.int xf), (.int xs)] h0 (({ frames := 2, cells := 0, slots := 0, locals := 34 } : Room).cells) (({ frames := 2, cells := 0, slots := 0, locals := 34 } : Room).slots) (Q_rmBu Z a ka kc xf xs h0 n0) := by
  refine Con.of (plainFor_of_name pn6) ?_
  intro p e s m below meth c s₁ hx hby hml hown hnm hret hlk hZ X0 e0
  have N0 := Fr.nil n0
  refine goE (L := #[.val (.ref a), .val (.ref ka), .val (.int xf), .val (.int xs)]) (ef7 m a ka xf xs) ?_
  refine gAloadN X0 hx (hb hby d1_0) (q := 1) rfl rfl rfl ?_
  refine gInitO X0 hx hZ hown (hw _ (List.mem_of_getElem? (i := 8) rfl)) (hw _ (List.mem_of_getElem? (i := 9) rfl)) (hw _ (List.mem_of_getElem? (i := 10) rfl)) e0 (by rw [hml]; rfl) (hb hby d1_1) (q := 4) rfl (by decide) (W := 0) (Nat.le_of_eq rfl) (by decide) (fun T1 X1 e1 => ?_)
  refine gAloadN X1 hx (hb hby d1_4) (q := 5) rfl rfl rfl ?_
  refine gAloadN X1 hx (hb hby d1_5) (q := 6) rfl rfl rfl ?_
  refine gPutF X1 hx hZ (host := "") hown (Or.inl (hw _ (List.mem_of_getElem? (i := 11) rfl))) Via.refl e1 pI pE (Or.inr ⟨(hw _ (List.mem_of_getElem? (i := 12) rfl)), rfl, hnm⟩) (hw _ (List.mem_of_getElem? (i := 3) rfl)) (ty := .array (.int)) (by decide) rfl rfl (hb hby d1_6) (q := 9) rfl (fun T2 h2 X2 e2 W2 => ?_)
  have N3 := Fr.snoc X2 N0 la
  have K4 := (Keep.refl h0 [a, ka]).wr W2 (Or.inl (List.mem_of_getElem? (i := 0) rfl))
  have F5 := Fld.same W2 pI
  have F6 := Fld.other W2 pF (Or.inr (slot_ne (Or.inr (hw _ (List.mem_of_getElem? (i := 14) rfl))) (Or.inr (hw _ (List.mem_of_getElem? (i := 12) rfl))) (by decide) (t := .int) (by decide) (t' := .array (.int)) (by decide)))
  have F7 := Fld.other W2 pS (Or.inr (slot_ne (Or.inr (hw _ (List.mem_of_getElem? (i := 16) rfl))) (Or.inr (hw _ (List.mem_of_getElem? (i := 12) rfl))) (by decide) (t := .int) (by decide) (t' := .array (.int)) (by decide)))
  have E8 := Exa.wr W2 pE
  have A9 := Ary.other W2 pA nka
  have Z10 : n0 ≤ h2.size := by rw [W2.size]; exact Z0
  refine gAloadN X2 hx (hb hby d1_9) (q := 10) rfl rfl rfl ?_
  refine gIloadN X2 hx (hb hby d1_10) (q := 11) rfl rfl ?_
  refine gPutF X2 hx hZ (host := "") hown (Or.inl (hw _ (List.mem_of_getElem? (i := 13) rfl))) Via.refl e2 F6 E8 (Or.inr ⟨(hw _ (List.mem_of_getElem? (i := 14) rfl)), rfl, hnm⟩) (hw _ (List.mem_of_getElem? (i := 3) rfl)) (ty := .int) (by decide) rfl rfl (hb hby d1_11) (q := 14) rfl (fun T11 h11 X11 e11 W11 => ?_)
  have N12 := Fr.snoc X11 N3 la
  have K13 := K4.wr W11 (Or.inl (List.mem_of_getElem? (i := 0) rfl))
  have F14 := Fld.other W11 F5 (Or.inr (slot_ne (Or.inr (hw _ (List.mem_of_getElem? (i := 12) rfl))) (Or.inr (hw _ (List.mem_of_getElem? (i := 14) rfl))) (by decide) (t := .array (.int)) (by decide) (t' := .int) (by decide)))
  have F15 := Fld.same W11 F6
  have F16 := Fld.other W11 F7 (Or.inr (slot_ne (Or.inr (hw _ (List.mem_of_getElem? (i := 16) rfl))) (Or.inr (hw _ (List.mem_of_getElem? (i := 14) rfl))) (by decide) (t := .int) (by decide) (t' := .int) (by decide)))
  have E17 := Exa.wr W11 E8
  have A18 := Ary.other W11 A9 nka
  have Z19 : n0 ≤ h11.size := by rw [W11.size]; exact Z10
  refine gAloadN X11 hx (hb hby d1_14) (q := 15) rfl rfl rfl ?_
  refine gIloadN X11 hx (hb hby d1_15) (q := 16) rfl rfl ?_
  refine gPutF X11 hx hZ (host := "") hown (Or.inl (hw _ (List.mem_of_getElem? (i := 15) rfl))) Via.refl e11 F16 E17 (Or.inr ⟨(hw _ (List.mem_of_getElem? (i := 16) rfl)), rfl, hnm⟩) (hw _ (List.mem_of_getElem? (i := 3) rfl)) (ty := .int) (by decide) rfl rfl (hb hby d1_16) (q := 19) rfl (fun T20 h20 X20 e20 W20 => ?_)
  have N21 := Fr.snoc X20 N12 la
  have K22 := K13.wr W20 (Or.inl (List.mem_of_getElem? (i := 0) rfl))
  have F23 := Fld.other W20 F14 (Or.inr (slot_ne (Or.inr (hw _ (List.mem_of_getElem? (i := 12) rfl))) (Or.inr (hw _ (List.mem_of_getElem? (i := 16) rfl))) (by decide) (t := .array (.int)) (by decide) (t' := .int) (by decide)))
  have F24 := Fld.other W20 F15 (Or.inr (slot_ne (Or.inr (hw _ (List.mem_of_getElem? (i := 14) rfl))) (Or.inr (hw _ (List.mem_of_getElem? (i := 16) rfl))) (by decide) (t := .int) (by decide) (t' := .int) (by decide)))
  have F25 := Fld.same W20 F16
  have E26 := Exa.wr W20 E17
  have A27 := Ary.other W20 A18 nka
  have Z28 : n0 ≤ h20.size := by rw [W20.size]; exact Z19
  refine gAloadN X20 hx (hb hby d1_19) (q := 20) rfl rfl rfl ?_
  refine gIloadN X20 hx (hb hby d1_20) (q := 21) rfl rfl ?_
  refine gIloadN X20 hx (hb hby d1_21) (q := 22) rfl rfl ?_
  refine gIloadN X20 hx (hb hby d1_22) (q := 23) rfl rfl ?_
  refine gCallSN X20 hx hZ hown (hw _ (List.mem_of_getElem? (i := 17) rfl)) (hw _ (List.mem_of_getElem? (i := 18) rfl)) (hw _ (List.mem_of_getElem? (i := 19) rfl)) (hw _ (List.mem_of_getElem? (i := 20) rfl)) (by decide) (rmBI l Z a0 hw [] xs h20 n0 Z28) (W := 3) (by decide) (by decide) e20 (by rw [hml]; rfl) [(.int xs)] (lenOf pd1 rfl) rfl (S := [(.int xf), (.int xf), (.ref ka)]) rfl (Nat.le_of_eq rfl) (hb hby d1_23) (q := 26) rfl (by decide) (by decide) (fun r29 T29 M29 X29 q29 => ?_)
  obtain ⟨rfl, M29n, e29⟩ := q29
  have N30 := Fr.app N21 M29n
  dsimp only [Option.toList, List.cons_append, List.nil_append]
  refine gIadd X29 hx (hb hby d1_26) (q := 27) rfl ?_
  refine gIconst X29 hx (0 : Int32) (hb hby d1_27) (q := 28) rfl (by decide) ?_
  refine gCallS X29 hx hZ hown (hw _ (List.mem_of_getElem? (i := 21) rfl)) (hw _ (List.mem_of_getElem? (i := 22) rfl)) (hw _ (List.mem_of_getElem? (i := 23) rfl)) (hw _ (List.mem_of_getElem? (i := 24) rfl)) (by decide) (rmFi l Z a0 hw [] ka kc xf (xf + ((xs / (32 : Int32)) + (3 : Int32))) h20 n0 Z28 A27 lka hp1 hp2 hp3) (W := 0) (by decide) (by decide) e29 (by rw [hml]; rfl) [(.ref ka), (.int xf), (.int (xf + ((xs / (32 : Int32)) + (3 : Int32)))), (.int (0 : Int32))] (lenOf pd2 rfl) rfl (S := []) rfl (Nat.le_of_eq rfl) (hb hby d1_28) (q := 31) rfl (by decide) (by decide) (fun r31 T31 M31 X31 q31 => ?_)
  obtain ⟨rfl, M31n, K31, P31a⟩ := q31
  have N32 := Fr.app N30 M31n
  have F33 := Fld.keep F23 K31 (ninS nka.symm nin0)
  have F34 := Fld.keep F24 K31 (ninS nka.symm nin0)
  have F35 := Fld.keep F25 K31 (ninS nka.symm nin0)
  have E36 := Exa.keep E26 K31
  have Z37 := Nat.le_trans Z28 K31.1
  have KK38 := K22.trans K31 (allS (Or.inl (List.mem_of_getElem? (i := 1) rfl)) all0)
  dsimp only [Option.toList, List.cons_append, List.nil_append]
  exact gRetV X31 hx hlk hret (hb hby d1_31) (by decide) (by decide) (by exact ⟨rfl, N32, KK38, E36, F33, F34, F35, P31a⟩)
theorem d6_0 : decode prog_34_method_2_code 0 = .ok (.aload_n 0, 1) := by decide +kernel
theorem d6_1 : decode prog_34_method_2_code 1 = .ok (.getfield 9, 3) := by decide +kernel
theorem d6_4 : decode prog_34_method_2_code 4 = .ok (.aload_n 0, 1) := by decide +kernel
theorem d6_5 : decode prog_34_method_2_code 5 = .ok (.getfield 15, 3) := by decide +kernel
theorem d6_8 : decode prog_34_method_2_code 8 = .ok (.iload_n 1, 1) := by decide +kernel
theorem d6_9 : decode prog_34_method_2_code 9 = .ok (.bipush 32, 2) := by decide +kernel
theorem d6_11 : decode prog_34_method_2_code 11 = .ok (.idiv, 1) := by decide +kernel
theorem d6_12 : decode prog_34_method_2_code 12 = .ok (.iadd, 1) := by decide +kernel
theorem d6_13 : decode prog_34_method_2_code 13 = .ok (.dup2, 1) := by decide +kernel
theorem d6_14 : decode prog_34_method_2_code 14 = .ok (.iaload, 1) := by decide +kernel
theorem d6_15 : decode prog_34_method_2_code 15 = .ok (.iconst 1, 1) := by decide +kernel
theorem d6_16 : decode prog_34_method_2_code 16 = .ok (.iload_n 1, 1) := by decide +kernel
theorem d6_17 : decode prog_34_method_2_code 17 = .ok (.bipush 32, 2) := by decide +kernel
theorem d6_19 : decode prog_34_method_2_code 19 = .ok (.irem, 1) := by decide +kernel
theorem d6_20 : decode prog_34_method_2_code 20 = .ok (.ishl, 1) := by decide +kernel
theorem d6_21 : decode prog_34_method_2_code 21 = .ok (.ior, 1) := by decide +kernel
theorem d6_22 : decode prog_34_method_2_code 22 = .ok (.iastore, 1) := by decide +kernel
theorem d6_23 : decode prog_34_method_2_code 23 = .ok (.return_, 1) := by decide +kernel
theorem ef8 (m : MethodId) (x0 : Addr) (x1 : Int32) : entryFrame m #[(.ref x0), (.int x1)] 2 = mkF m 0 #[.val (.ref x0), .val (.int x1)] [] := by first | (simp [entryFrame, mkF, argsToLocals, Value.category]; done) | rfl
def Q_rmSe (Z : State) (a : Addr) (ka : Addr) (kc : ClassId) (xf : Int32) (xs : Int32) (x1 : Int32) (F : Nat → Int32) (n1 : Nat) (h0 : Heap) (n0 : Nat) (v : Option Value) (h : Heap) (L : List Loc) : Prop := v = none ∧ Fr n0 L ∧ Keep h0 h [ka] ∧ Ary Z h ka kc .int (own_l (own_st F n1 ((F n1) ||| ((1 : Int32) <<< ((x1 % (32 : Int32)) &&& 31)))))
set_option maxRecDepth 65536 in
set_option maxHeartbeats 40000000 in
theorem rmSe (l : Launch) (Z : State) (a0 : Array Value) (hw : ∀ d ∈ tables_1, d.before a0 Z = true) (ws : List Jvm.Cond) (a : Addr) (ka : Addr) (kc : ClassId) (xf : Int32) (xs : Int32) (x1 : Int32) (F : Nat → Int32) (n1 : Nat) (h0 : Heap) (n0 : Nat) (Z0 : n0 ≤ h0.size) (pI : Fld Z h0 a "com/example/libpalin/libpalin/RankedBits$Builder" "ints" "[I" (.ref ka)) (pF : Fld Z h0 a "com/example/libpalin/libpalin/RankedBits$Builder" "from" "I" (.int xf)) (pS : Fld Z h0 a "com/example/libpalin/libpalin/RankedBits$Builder" "size" "I" (.int xs)) (pE : Exa Z h0 a "com/example/libpalin/libpalin/RankedBits$Builder") (pA : Ary Z h0 ka kc .int (own_l F)) (lka : n0 ≤ ka) (nka : ka ≠ a) (hj : (xf + (x1 / (32 : Int32))).toInt = ((n1 : Nat) : Int)) (hn : n1 < 24) :
    Con l Z (⟨"com/example/libpalin/libpalin/RankedBits$Builder", "set", "(I)V"⟩ : MethodName) prog_34_method_2_code 2 none ws ({ frames := 0, cells := 0, slots := 0, locals := 0 } : Room) #[(.ref a), (.int x1)] h0 (({ frames := 0, cells := 0, slots := 0, locals := 0 } : Room).cells) (({ frames := 0, cells := 0, slots := 0, locals := 0 } : Room).slots) (Q_rmSe Z a ka kc xf xs x1 F n1 h0 n0) := by
  refine Con.of (plainFor_of_name pn6) ?_
  intro p e s m below meth c s₁ hx hby hml hown hnm hret hlk hZ X0 e0
  have N0 := Fr.nil n0
  refine goE (L := #[.val (.ref a), .val (.int x1)]) (ef8 m a x1) ?_
  refine gAloadN X0 hx (hb hby d6_0) (q := 1) rfl rfl rfl ?_
  refine gGetF X0 hx hZ (host := "") hown (Or.inl (hw _ (List.mem_of_getElem? (i := 11) rfl))) Via.refl e0 pI (hb hby d6_1) (q := 4) rfl (fun T1 X1 e1 => ?_)
  refine gAloadN X1 hx (hb hby d6_4) (q := 5) rfl rfl rfl ?_
  refine gGetF X1 hx hZ (host := "") hown (Or.inl (hw _ (List.mem_of_getElem? (i := 13) rfl))) Via.refl e1 pF (hb hby d6_5) (q := 8) rfl (fun T2 X2 e2 => ?_)
  refine gIloadN X2 hx (hb hby d6_8) (q := 9) rfl rfl ?_
  refine gBipush X2 hx (32 : Int32) (hb hby d6_9) (q := 11) rfl (by decide) ?_
  refine gIdiv X2 hx (hb hby d6_11) (q := 12) rfl (by decide) ?_
  refine gIadd X2 hx (hb hby d6_12) (q := 13) rfl ?_
  refine gDup2 X2 hx (hb hby d6_13) (q := 14) rfl rfl rfl ?_
  refine gIaload X2 hx hZ e2 pA (hb hby d6_14) (q := 15) rfl (own_idx hj hn).1 (v := .int (F n1)) (by rw [(own_idx (F := F) hj hn).2, own_l_get _ _ hn]) ?_
  refine gIconst X2 hx (1 : Int32) (hb hby d6_15) (q := 16) rfl (by decide) ?_
  refine gIloadN X2 hx (hb hby d6_16) (q := 17) rfl rfl ?_
  refine gBipush X2 hx (32 : Int32) (hb hby d6_17) (q := 19) rfl (by decide) ?_
  refine gIrem X2 hx (hb hby d6_19) (q := 20) rfl (by decide) ?_
  refine gIshl X2 hx (hb hby d6_20) (q := 21) rfl ?_
  refine gIor X2 hx (hb hby d6_21) (q := 22) rfl ?_
  refine gIastore X2 hx hZ e2 pA (hb hby d6_22) (q := 23) rfl (own_idx hj hn).1 (fun T3 h3 X3 e3 W3 A3 => ?_)
  have B3 : Ary Z h3 ka kc (.int) (own_l (own_st F n1 ((F n1) ||| ((1 : Int32) <<< ((x1 % (32 : Int32)) &&& 31))))) := by have zA := A3; rw [(own_idx (F := F) hj hn).2, own_l_set _ _ hn] at zA; exact zA
  have N4 := Fr.snoc X3 N0 lka
  have K5 := (Keep.refl h0 [ka]).wr W3 (Or.inl (List.mem_of_getElem? (i := 0) rfl))
  have F6 := Fld.other W3 pI (Or.inl nka.symm)
  have F7 := Fld.other W3 pF (Or.inl nka.symm)
  have F8 := Fld.other W3 pS (Or.inl nka.symm)
  have E9 := Exa.wr W3 pE
  have Z11 : n0 ≤ h3.size := by rw [W3.size]; exact Z0
  exact gRetV X3 hx hlk hret (hb hby d6_23) (by decide) (by decide) (by rw [e3]; exact ⟨rfl, N4, K5, B3⟩)
theorem d9_0 : decode prog_34_method_5_code 0 = .ok (.iload 4, 2) := by decide +kernel
theorem d9_2 : decode prog_34_method_5_code 2 = .ok (.istore 5, 2) := by decide +kernel
theorem d9_4 : decode prog_34_method_5_code 4 = .ok (.iload_n 2, 1) := by decide +kernel
theorem d9_5 : decode prog_34_method_5_code 5 = .ok (.istore 6, 2) := by decide +kernel
theorem d9_7 : decode prog_34_method_5_code 7 = .ok (.iload 6, 2) := by decide +kernel
theorem d9_9 : decode prog_34_method_5_code 9 = .ok (.iload_n 3, 1) := by decide +kernel
theorem d9_10 : decode prog_34_method_5_code 10 = .ok (.if_icmp .ge 59, 3) := by decide +kernel
theorem d9_13 : decode prog_34_method_5_code 13 = .ok (.aload_n 0, 1) := by decide +kernel
theorem d9_14 : decode prog_34_method_5_code 14 = .ok (.getfield 9, 3) := by decide +kernel
theorem d9_17 : decode prog_34_method_5_code 17 = .ok (.iload_n 1, 1) := by decide +kernel
theorem d9_18 : decode prog_34_method_5_code 18 = .ok (.iload 6, 2) := by decide +kernel
theorem d9_20 : decode prog_34_method_5_code 20 = .ok (.iadd, 1) := by decide +kernel
theorem d9_21 : decode prog_34_method_5_code 21 = .ok (.iload 5, 2) := by decide +kernel
theorem d9_23 : decode prog_34_method_5_code 23 = .ok (.iastore, 1) := by decide +kernel
theorem d9_24 : decode prog_34_method_5_code 24 = .ok (.aload_n 0, 1) := by decide +kernel
theorem d9_25 : decode prog_34_method_5_code 25 = .ok (.getfield 15, 3) := by decide +kernel
theorem d9_28 : decode prog_34_method_5_code 28 = .ok (.iload 6, 2) := by decide +kernel
theorem d9_30 : decode prog_34_method_5_code 30 = .ok (.iconst 2, 1) := by decide +kernel
theorem d9_31 : decode prog_34_method_5_code 31 = .ok (.imul, 1) := by decide +kernel
theorem d9_32 : decode prog_34_method_5_code 32 = .ok (.iadd, 1) := by decide +kernel
theorem d9_33 : decode prog_34_method_5_code 33 = .ok (.istore 7, 2) := by decide +kernel
theorem d9_35 : decode prog_34_method_5_code 35 = .ok (.iload 5, 2) := by decide +kernel
theorem d9_37 : decode prog_34_method_5_code 37 = .ok (.aload_n 0, 1) := by decide +kernel
theorem d9_38 : decode prog_34_method_5_code 38 = .ok (.getfield 9, 3) := by decide +kernel
theorem d9_41 : decode prog_34_method_5_code 41 = .ok (.iload 7, 2) := by decide +kernel
theorem d9_43 : decode prog_34_method_5_code 43 = .ok (.iaload, 1) := by decide +kernel
theorem d9_44 : decode prog_34_method_5_code 44 = .ok (.invokestatic 45, 3) := by decide +kernel
theorem d9_47 : decode prog_34_method_5_code 47 = .ok (.aload_n 0, 1) := by decide +kernel
theorem d9_48 : decode prog_34_method_5_code 48 = .ok (.getfield 9, 3) := by decide +kernel
theorem d9_51 : decode prog_34_method_5_code 51 = .ok (.iload 7, 2) := by decide +kernel
theorem d9_53 : decode prog_34_method_5_code 53 = .ok (.iconst 1, 1) := by decide +kernel
theorem d9_54 : decode prog_34_method_5_code 54 = .ok (.iadd, 1) := by decide +kernel
theorem d9_55 : decode prog_34_method_5_code 55 = .ok (.iaload, 1) := by decide +kernel
theorem d9_56 : decode prog_34_method_5_code 56 = .ok (.invokestatic 45, 3) := by decide +kernel
theorem d9_59 : decode prog_34_method_5_code 59 = .ok (.iadd, 1) := by decide +kernel
theorem d9_60 : decode prog_34_method_5_code 60 = .ok (.iadd, 1) := by decide +kernel
theorem d9_61 : decode prog_34_method_5_code 61 = .ok (.istore 5, 2) := by decide +kernel
theorem d9_63 : decode prog_34_method_5_code 63 = .ok (.iinc 6 1, 3) := by decide +kernel
theorem d9_66 : decode prog_34_method_5_code 66 = .ok (.goto (-59), 3) := by decide +kernel
theorem d9_69 : decode prog_34_method_5_code 69 = .ok (.iload 5, 2) := by decide +kernel
theorem d9_71 : decode prog_34_method_5_code 71 = .ok (.ireturn, 1) := by decide +kernel
theorem ef9 (m : MethodId) (x0 : Addr) (x1 : Int32) (x2 : Int32) (x3 : Int32) (x4 : Int32) : entryFrame m #[(.ref x0), (.int x1), (.int x2), (.int x3), (.int x4)] 8 = mkF m 0 #[.val (.ref x0), .val (.int x1), .val (.int x2), .val (.int x3), .val (.int x4), .unset, .unset, .unset] [] := by first | (simp [entryFrame, mkF, argsToLocals, Value.category]; done) | rfl
def Q_rmCo (Z : State) (a : Addr) (ka : Addr) (kc : ClassId) (xf : Int32) (xs : Int32) (xc : Int32) (xg : Int32) (F : Nat → Int32) (fr : Nat) (nc : Nat) (g : Nat) (h0 : Heap) (n0 : Nat) (v : Option Value) (h : Heap) (L : List Loc) : Prop := v = some (.int (own_C F fr g)) ∧ Fr n0 L ∧ Keep h0 h [ka] ∧ Ary Z h ka kc .int (own_l (own_cnt F fr nc g))
set_option maxRecDepth 65536 in
set_option maxHeartbeats 40000000 in
theorem rmCo (l : Launch) (Z : State) (a0 : Array Value) (hw : ∀ d ∈ tables_1, d.before a0 Z = true) (ws : List Jvm.Cond) (a : Addr) (ka : Addr) (kc : ClassId) (xf : Int32) (xs : Int32) (xc : Int32) (xg : Int32) (F : Nat → Int32) (fr : Nat) (nc : Nat) (g : Nat) (h0 : Heap) (n0 : Nat) (Z0 : n0 ≤ h0.size) (pI : Fld Z h0 a "com/example/libpalin/libpalin/RankedBits$Builder" "ints" "[I" (.ref ka)) (pF : Fld Z h0 a "com/example/libpalin/libpalin/RankedBits$Builder" "from" "I" (.int xf)) (pS : Fld Z h0 a "com/example/libpalin/libpalin/RankedBits$Builder" "size" "I" (.int xs)) (pE : Exa Z h0 a "com/example/libpalin/libpalin/RankedBits$Builder") (pA : Ary Z h0 ka kc .int (own_l F)) (lka : n0 ≤ ka) (nka : ka ≠ a) (hf : xf.toInt = ((fr : Nat) : Int)) (hc : xc.toInt = ((nc : Nat) : Int)) (hg : xg.toInt = ((g : Nat) : Int)) (b1 : fr + 2 * g ≤ nc) (b2 : nc + g ≤ 24) :
    Con l Z (⟨"com/example/libpalin/libpalin/RankedBits$Builder", "counted", "(IIII)I"⟩ : MethodName) prog_34_method_5_code 8 (some (.int)) ws ({ frames := 1, cells := 0, slots := 0, locals := 16 } : Room) #[(.ref a), (.int xc), (.int (0 : Int32)), (.int xg), (.int (0 : Int32))] h0 (({ frames := 1, cells := 0, slots := 0, locals := 16 } : Room).cells) (({ frames := 1, cells := 0, slots := 0, locals := 16 } : Room).slots) (Q_rmCo Z a ka kc xf xs xc xg F fr nc g h0 n0) := by
  refine Con.of (plainFor_of_name pn6) ?_
  intro p e s m below meth c s₁ hx hby hml hown hnm hret hlk hZ X0 e0
  have N0 := Fr.nil n0
  refine goE (L := #[.val (.ref a), .val (.int xc), .val (.int (0 : Int32)), .val (.int xg), .val (.int (0 : Int32)), .unset, .unset, .unset]) (ef9 m a xc (0 : Int32) xg (0 : Int32)) ?_
  refine gIload X0 hx (hb hby d9_0) (q := 2) rfl rfl ?_
  refine gIstore X0 hx (hb hby d9_2) (q := 4) rfl (L' := #[.val (.ref a), .val (.int xc), .val (.int (0 : Int32)), .val (.int xg), .val (.int (0 : Int32)), .val (.int (0 : Int32)), .unset, .unset]) rfl ?_
  refine gIloadN X0 hx (hb hby d9_4) (q := 5) rfl rfl ?_
  refine gIstore X0 hx (hb hby d9_5) (q := 7) rfl (L' := #[.val (.ref a), .val (.int xc), .val (.int (0 : Int32)), .val (.int xg), .val (.int (0 : Int32)), .val (.int (0 : Int32)), .val (.int (0 : Int32)), .unset]) rfl ?_
  have LP1 : ∀ (n : Nat) (t : Nat) (sl : Slot) (T1 : State) (h1 : Heap) (L1 : List Loc), (n + t = g) → (sl = .unset ∨ ∃ z : Int32, sl = .val (.int z)) → Stand p l e ({ frames := 1, cells := 0, slots := 0, locals := 16 } : Room) s m #[(.ref a), (.int xc), (.int (0 : Int32)), (.int xg), (.int (0 : Int32))] below meth c T1 L1 0 0 → T1.heap = h1 → Fr n0 L1 → n0 ≤ h1.size → Keep h0 h1 [ka] → Fld Z h1 a "com/example/libpalin/libpalin/RankedBits$Builder" "ints" "[I" (.ref ka) → Fld Z h1 a "com/example/libpalin/libpalin/RankedBits$Builder" "from" "I" (.int xf) → Fld Z h1 a "com/example/libpalin/libpalin/RankedBits$Builder" "size" "I" (.int xs) → Exa Z h1 a "com/example/libpalin/libpalin/RankedBits$Builder" → Ary Z h1 ka kc (.int) (own_l (own_cnt F fr nc t)) → Go p.tables e below (Done s (Q_rmCo Z a ka kc xf xs xc xg F fr nc g h0 n0) (({ frames := 1, cells := 0, slots := 0, locals := 16 } : Room).cells) (({ frames := 1, cells := 0, slots := 0, locals := 16 } : Room).slots)) (T1.setTop (mkF m 7 #[.val (.ref a), .val (.int xc), .val (.int (0 : Int32)), .val (.int xg), .val (.int (0 : Int32)), .val (.int (own_C F fr t)), .val (.int (Int32.ofNat t)), sl] [])) := by
    intro n
    induction n with
    | zero =>
      intro t sl T1 h1 L1 hn hsl X1 e1 N1 Z1 K1 G1_0 G1_1 G1_2 G1_3 G1_4
      have cz : ¬ (Int32.ofNat t) < xg := by rw [Int32.lt_iff_toInt_lt, own_ofI (n := t) (by omega), hg]; omega
      refine gIload X1 hx (hb hby d9_7) (q := 9) rfl rfl ?_
      refine gIloadN X1 hx (hb hby d9_9) (q := 10) rfl rfl ?_
      refine gIcmpY X1 hx (hb hby d9_10) (q := 69) (by decide) (by decide) (XT.ii_ge_t cz) ?_
      refine gIload X1 hx (hb hby d9_69) (q := 71) rfl rfl ?_
      obtain rfl : t = g := by omega
      exact gRetI X1 hx hlk hret (hb hby d9_71) (by decide) (by decide) (by rw [e1]; exact ⟨rfl, N1, K1, G1_4⟩)
    | succ n ih =>
      intro t sl T1 h1 L1 hn hsl X1 e1 N1 Z1 K1 G1_0 G1_1 G1_2 G1_3 G1_4
      have cz : (Int32.ofNat t) < xg := by rw [Int32.lt_iff_toInt_lt, own_ofI (n := t) (by omega), hg]; omega
      have hj0 : (xc + (Int32.ofNat t)).toInt = ((nc + t : Nat) : Int) := own_sum hc (by omega)
      have hl0 : nc + t < 24 := by omega
      have hj1 : (xf + ((Int32.ofNat t) * (2 : Int32))).toInt = ((fr + 2 * t : Nat) : Int) := own_dbl hf (by omega)
      have hl1 : fr + 2 * t < 24 := by omega
      have hj2 : ((xf + ((Int32.ofNat t) * (2 : Int32))) + (1 : Int32)).toInt = ((fr + 2 * t + 1 : Nat) : Int) := own_ad1 hj1 (by omega)
      have hl2 : fr + 2 * t + 1 < 24 := by omega
      have hlo1 : own_cnt F fr nc (t + 1) (fr + 2 * t) = F (fr + 2 * t) := own_cnt_lo _ _ _ _ _ (by omega)
      have hlo2 : own_cnt F fr nc (t + 1) (fr + 2 * t + 1) = F (fr + 2 * t + 1) := own_cnt_lo _ _ _ _ _ (by omega)
      rcases hsl with rfl | ⟨zz, rfl⟩
      · skip
        refine gIload X1 hx (hb hby d9_7) (q := 9) rfl rfl ?_
        refine gIloadN X1 hx (hb hby d9_9) (q := 10) rfl rfl ?_
        refine gIcmpN X1 hx (hb hby d9_10) (q := 13) rfl (XT.ii_ge_f cz) ?_
        refine gAloadN X1 hx (hb hby d9_13) (q := 14) rfl rfl rfl ?_
        refine gGetF X1 hx hZ (host := "") hown (Or.inl (hw _ (List.mem_of_getElem? (i := 11) rfl))) Via.refl e1 G1_0 (hb hby d9_14) (q := 17) rfl (fun T2 X2 e2 => ?_)
        refine gIloadN X2 hx (hb hby d9_17) (q := 18) rfl rfl ?_
        refine gIload X2 hx (hb hby d9_18) (q := 20) rfl rfl ?_
        refine gIadd X2 hx (hb hby d9_20) (q := 21) rfl ?_
        refine gIload X2 hx (hb hby d9_21) (q := 23) rfl rfl ?_
        refine gIastore X2 hx hZ e2 G1_4 (hb hby d9_23) (q := 24) rfl (own_idx hj0 hl0).1 (fun T3 h3 X3 e3 W3 A3 => ?_)
        have B3 : Ary Z h3 ka kc (.int) (own_l (own_cnt F fr nc (t + 1))) := by have zA := A3; rw [(own_idx (F := (own_cnt F fr nc t)) hj0 hl0).2, own_l_set _ _ hl0] at zA; exact zA
        have N4 := Fr.snoc X3 N1 lka
        have K5 := K1.wr W3 (Or.inl (List.mem_of_getElem? (i := 0) rfl))
        have F6 := Fld.other W3 G1_0 (Or.inl nka.symm)
        have F7 := Fld.other W3 G1_1 (Or.inl nka.symm)
        have F8 := Fld.other W3 G1_2 (Or.inl nka.symm)
        have E9 := Exa.wr W3 G1_3
        have Z11 : n0 ≤ h3.size := by rw [W3.size]; exact Z1
        refine gAloadN X3 hx (hb hby d9_24) (q := 25) rfl rfl rfl ?_
        refine gGetF X3 hx hZ (host := "") hown (Or.inl (hw _ (List.mem_of_getElem? (i := 13) rfl))) Via.refl e3 F7 (hb hby d9_25) (q := 28) rfl (fun T12 X12 e12 => ?_)
        refine gIload X12 hx (hb hby d9_28) (q := 30) rfl rfl ?_
        refine gIconst X12 hx (2 : Int32) (hb hby d9_30) (q := 31) rfl (by decide) ?_
        refine gImul X12 hx (hb hby d9_31) (q := 32) rfl ?_
        refine gIadd X12 hx (hb hby d9_32) (q := 33) rfl ?_
        refine gIstore X12 hx (hb hby d9_33) (q := 35) rfl (L' := #[.val (.ref a), .val (.int xc), .val (.int (0 : Int32)), .val (.int xg), .val (.int (0 : Int32)), .val (.int (own_C F fr t)), .val (.int (Int32.ofNat t)), .val (.int (xf + ((Int32.ofNat t) * (2 : Int32))))]) rfl ?_
        refine gIload X12 hx (hb hby d9_35) (q := 37) rfl rfl ?_
        refine gAloadN X12 hx (hb hby d9_37) (q := 38) rfl rfl rfl ?_
        refine gGetF X12 hx hZ (host := "") hown (Or.inl (hw _ (List.mem_of_getElem? (i := 11) rfl))) Via.refl e12 F6 (hb hby d9_38) (q := 41) rfl (fun T13 X13 e13 => ?_)
        refine gIload X13 hx (hb hby d9_41) (q := 43) rfl rfl ?_
        refine gIaload X13 hx hZ e13 B3 (hb hby d9_43) (q := 44) rfl (own_idx hj1 hl1).1 (v := .int (F (fr + 2 * t))) (by rw [(own_idx (F := (own_cnt F fr nc (t + 1))) hj1 hl1).2, own_l_get _ _ hl1, hlo1]) ?_
        refine gCallS X13 hx hZ hown (hw _ (List.mem_of_getElem? (i := 46) rfl)) (hw _ (List.mem_of_getElem? (i := 47) rfl)) (hw _ (List.mem_of_getElem? (i := 48) rfl)) (hw _ (List.mem_of_getElem? (i := 49) rfl)) (by decide) (rmBC l Z a0 hw [] (F (fr + 2 * t)) h3 n0 Z11) (W := 1) (by decide) (by decide) e13 (by rw [hml]; rfl) [(.int (F (fr + 2 * t)))] (lenOf pd1 rfl) rfl (S := [(.int (own_C F fr t))]) rfl (Nat.le_of_eq rfl) (hb hby d9_44) (q := 47) rfl (by decide) (by decide) (fun r14 T14 M14 X14 q14 => ?_)
        obtain ⟨rfl, M14n, e14⟩ := q14
        have N15 := Fr.app N4 M14n
        dsimp only [Option.toList, List.cons_append, List.nil_append]
        refine gAloadN X14 hx (hb hby d9_47) (q := 48) rfl rfl rfl ?_
        refine gGetF X14 hx hZ (host := "") hown (Or.inl (hw _ (List.mem_of_getElem? (i := 11) rfl))) Via.refl e14 F6 (hb hby d9_48) (q := 51) rfl (fun T16 X16 e16 => ?_)
        refine gIload X16 hx (hb hby d9_51) (q := 53) rfl rfl ?_
        refine gIconst X16 hx (1 : Int32) (hb hby d9_53) (q := 54) rfl (by decide) ?_
        refine gIadd X16 hx (hb hby d9_54) (q := 55) rfl ?_
        refine gIaload X16 hx hZ e16 B3 (hb hby d9_55) (q := 56) rfl (own_idx hj2 hl2).1 (v := .int (F (fr + 2 * t + 1))) (by rw [(own_idx (F := (own_cnt F fr nc (t + 1))) hj2 hl2).2, own_l_get _ _ hl2, hlo2]) ?_
        refine gCallS X16 hx hZ hown (hw _ (List.mem_of_getElem? (i := 46) rfl)) (hw _ (List.mem_of_getElem? (i := 47) rfl)) (hw _ (List.mem_of_getElem? (i := 48) rfl)) (hw _ (List.mem_of_getElem? (i := 49) rfl)) (by decide) (rmBC l Z a0 hw [] (F (fr + 2 * t + 1)) h3 n0 Z11) (W := 2) (by decide) (by decide) e16 (by rw [hml]; rfl) [(.int (F (fr + 2 * t + 1)))] (lenOf pd1 rfl) rfl (S := [(.int (own_bc (F (fr + 2 * t)))), (.int (own_C F fr t))]) rfl (Nat.le_of_eq rfl) (hb hby d9_56) (q := 59) rfl (by decide) (by decide) (fun r17 T17 M17 X17 q17 => ?_)
        obtain ⟨rfl, M17n, e17⟩ := q17
        have N18 := Fr.app N15 M17n
        dsimp only [Option.toList, List.cons_append, List.nil_append]
        refine gIadd X17 hx (hb hby d9_59) (q := 60) rfl ?_
        refine gIadd X17 hx (hb hby d9_60) (q := 61) rfl ?_
        refine gIstore X17 hx (hb hby d9_61) (q := 63) rfl (L' := #[.val (.ref a), .val (.int xc), .val (.int (0 : Int32)), .val (.int xg), .val (.int (0 : Int32)), .val (.int ((own_C F fr t) + ((own_bc (F (fr + 2 * t))) + (own_bc (F (fr + 2 * t + 1)))))), .val (.int (Int32.ofNat t)), .val (.int (xf + ((Int32.ofNat t) * (2 : Int32))))]) rfl ?_
        refine gIinc X17 hx (1 : Int32) (hb hby d9_63) (q := 66) rfl (by decide) rfl (L' := #[.val (.ref a), .val (.int xc), .val (.int (0 : Int32)), .val (.int xg), .val (.int (0 : Int32)), .val (.int ((own_C F fr t) + ((own_bc (F (fr + 2 * t))) + (own_bc (F (fr + 2 * t + 1)))))), .val (.int ((Int32.ofNat t) + (1 : Int32))), .val (.int (xf + ((Int32.ofNat t) * (2 : Int32))))]) rfl ?_
        refine gGoto X17 hx (hb hby d9_66) (q := 7) (by decide) (by decide) ?_
        rw [own_ofS t]
        exact ih (t + 1) (.val (.int (xf + ((Int32.ofNat t) * (2 : Int32))))) T17 _ _ (by omega) (Or.inr ⟨_, rfl⟩) X17 e17 N18 Z11 K5 F6 F7 F8 E9 B3
      · skip
        refine gIload X1 hx (hb hby d9_7) (q := 9) rfl rfl ?_
        refine gIloadN X1 hx (hb hby d9_9) (q := 10) rfl rfl ?_
        refine gIcmpN X1 hx (hb hby d9_10) (q := 13) rfl (XT.ii_ge_f cz) ?_
        refine gAloadN X1 hx (hb hby d9_13) (q := 14) rfl rfl rfl ?_
        refine gGetF X1 hx hZ (host := "") hown (Or.inl (hw _ (List.mem_of_getElem? (i := 11) rfl))) Via.refl e1 G1_0 (hb hby d9_14) (q := 17) rfl (fun T19 X19 e19 => ?_)
        refine gIloadN X19 hx (hb hby d9_17) (q := 18) rfl rfl ?_
        refine gIload X19 hx (hb hby d9_18) (q := 20) rfl rfl ?_
        refine gIadd X19 hx (hb hby d9_20) (q := 21) rfl ?_
        refine gIload X19 hx (hb hby d9_21) (q := 23) rfl rfl ?_
        refine gIastore X19 hx hZ e19 G1_4 (hb hby d9_23) (q := 24) rfl (own_idx hj0 hl0).1 (fun T20 h20 X20 e20 W20 A20 => ?_)
        have B20 : Ary Z h20 ka kc (.int) (own_l (own_cnt F fr nc (t + 1))) := by have zA := A20; rw [(own_idx (F := (own_cnt F fr nc t)) hj0 hl0).2, own_l_set _ _ hl0] at zA; exact zA
        have N21 := Fr.snoc X20 N1 lka
        have K22 := K1.wr W20 (Or.inl (List.mem_of_getElem? (i := 0) rfl))
        have F23 := Fld.other W20 G1_0 (Or.inl nka.symm)
        have F24 := Fld.other W20 G1_1 (Or.inl nka.symm)
        have F25 := Fld.other W20 G1_2 (Or.inl nka.symm)
        have E26 := Exa.wr W20 G1_3
        have Z28 : n0 ≤ h20.size := by rw [W20.size]; exact Z1
        refine gAloadN X20 hx (hb hby d9_24) (q := 25) rfl rfl rfl ?_
        refine gGetF X20 hx hZ (host := "") hown (Or.inl (hw _ (List.mem_of_getElem? (i := 13) rfl))) Via.refl e20 F24 (hb hby d9_25) (q := 28) rfl (fun T29 X29 e29 => ?_)
        refine gIload X29 hx (hb hby d9_28) (q := 30) rfl rfl ?_
        refine gIconst X29 hx (2 : Int32) (hb hby d9_30) (q := 31) rfl (by decide) ?_
        refine gImul X29 hx (hb hby d9_31) (q := 32) rfl ?_
        refine gIadd X29 hx (hb hby d9_32) (q := 33) rfl ?_
        refine gIstore X29 hx (hb hby d9_33) (q := 35) rfl (L' := #[.val (.ref a), .val (.int xc), .val (.int (0 : Int32)), .val (.int xg), .val (.int (0 : Int32)), .val (.int (own_C F fr t)), .val (.int (Int32.ofNat t)), .val (.int (xf + ((Int32.ofNat t) * (2 : Int32))))]) rfl ?_
        refine gIload X29 hx (hb hby d9_35) (q := 37) rfl rfl ?_
        refine gAloadN X29 hx (hb hby d9_37) (q := 38) rfl rfl rfl ?_
        refine gGetF X29 hx hZ (host := "") hown (Or.inl (hw _ (List.mem_of_getElem? (i := 11) rfl))) Via.refl e29 F23 (hb hby d9_38) (q := 41) rfl (fun T30 X30 e30 => ?_)
        refine gIload X30 hx (hb hby d9_41) (q := 43) rfl rfl ?_
        refine gIaload X30 hx hZ e30 B20 (hb hby d9_43) (q := 44) rfl (own_idx hj1 hl1).1 (v := .int (F (fr + 2 * t))) (by rw [(own_idx (F := (own_cnt F fr nc (t + 1))) hj1 hl1).2, own_l_get _ _ hl1, hlo1]) ?_
        refine gCallS X30 hx hZ hown (hw _ (List.mem_of_getElem? (i := 46) rfl)) (hw _ (List.mem_of_getElem? (i := 47) rfl)) (hw _ (List.mem_of_getElem? (i := 48) rfl)) (hw _ (List.mem_of_getElem? (i := 49) rfl)) (by decide) (rmBC l Z a0 hw [] (F (fr + 2 * t)) h20 n0 Z28) (W := 1) (by decide) (by decide) e30 (by rw [hml]; rfl) [(.int (F (fr + 2 * t)))] (lenOf pd1 rfl) rfl (S := [(.int (own_C F fr t))]) rfl (Nat.le_of_eq rfl) (hb hby d9_44) (q := 47) rfl (by decide) (by decide) (fun r31 T31 M31 X31 q31 => ?_)
        obtain ⟨rfl, M31n, e31⟩ := q31
        have N32 := Fr.app N21 M31n
        dsimp only [Option.toList, List.cons_append, List.nil_append]
        refine gAloadN X31 hx (hb hby d9_47) (q := 48) rfl rfl rfl ?_
        refine gGetF X31 hx hZ (host := "") hown (Or.inl (hw _ (List.mem_of_getElem? (i := 11) rfl))) Via.refl e31 F23 (hb hby d9_48) (q := 51) rfl (fun T33 X33 e33 => ?_)
        refine gIload X33 hx (hb hby d9_51) (q := 53) rfl rfl ?_
        refine gIconst X33 hx (1 : Int32) (hb hby d9_53) (q := 54) rfl (by decide) ?_
        refine gIadd X33 hx (hb hby d9_54) (q := 55) rfl ?_
        refine gIaload X33 hx hZ e33 B20 (hb hby d9_55) (q := 56) rfl (own_idx hj2 hl2).1 (v := .int (F (fr + 2 * t + 1))) (by rw [(own_idx (F := (own_cnt F fr nc (t + 1))) hj2 hl2).2, own_l_get _ _ hl2, hlo2]) ?_
        refine gCallS X33 hx hZ hown (hw _ (List.mem_of_getElem? (i := 46) rfl)) (hw _ (List.mem_of_getElem? (i := 47) rfl)) (hw _ (List.mem_of_getElem? (i := 48) rfl)) (hw _ (List.mem_of_getElem? (i := 49) rfl)) (by decide) (rmBC l Z a0 hw [] (F (fr + 2 * t + 1)) h20 n0 Z28) (W := 2) (by decide) (by decide) e33 (by rw [hml]; rfl) [(.int (F (fr + 2 * t + 1)))] (lenOf pd1 rfl) rfl (S := [(.int (own_bc (F (fr + 2 * t)))), (.int (own_C F fr t))]) rfl (Nat.le_of_eq rfl) (hb hby d9_56) (q := 59) rfl (by decide) (by decide) (fun r34 T34 M34 X34 q34 => ?_)
        obtain ⟨rfl, M34n, e34⟩ := q34
        have N35 := Fr.app N32 M34n
        dsimp only [Option.toList, List.cons_append, List.nil_append]
        refine gIadd X34 hx (hb hby d9_59) (q := 60) rfl ?_
        refine gIadd X34 hx (hb hby d9_60) (q := 61) rfl ?_
        refine gIstore X34 hx (hb hby d9_61) (q := 63) rfl (L' := #[.val (.ref a), .val (.int xc), .val (.int (0 : Int32)), .val (.int xg), .val (.int (0 : Int32)), .val (.int ((own_C F fr t) + ((own_bc (F (fr + 2 * t))) + (own_bc (F (fr + 2 * t + 1)))))), .val (.int (Int32.ofNat t)), .val (.int (xf + ((Int32.ofNat t) * (2 : Int32))))]) rfl ?_
        refine gIinc X34 hx (1 : Int32) (hb hby d9_63) (q := 66) rfl (by decide) rfl (L' := #[.val (.ref a), .val (.int xc), .val (.int (0 : Int32)), .val (.int xg), .val (.int (0 : Int32)), .val (.int ((own_C F fr t) + ((own_bc (F (fr + 2 * t))) + (own_bc (F (fr + 2 * t + 1)))))), .val (.int ((Int32.ofNat t) + (1 : Int32))), .val (.int (xf + ((Int32.ofNat t) * (2 : Int32))))]) rfl ?_
        refine gGoto X34 hx (hb hby d9_66) (q := 7) (by decide) (by decide) ?_
        rw [own_ofS t]
        exact ih (t + 1) (.val (.int (xf + ((Int32.ofNat t) * (2 : Int32))))) T34 _ _ (by omega) (Or.inr ⟨_, rfl⟩) X34 e34 N35 Z28 K22 F23 F24 F25 E26 B20
  exact LP1 g 0 .unset s₁ _ _ (by omega) (Or.inl rfl) X0 e0 N0 Z0 (Keep.refl h0 [ka]) pI pF pS pE pA
theorem d11_0 : decode prog_33_method_1_code 0 = .ok (.aload_n 0, 1) := by decide +kernel
theorem d11_1 : decode prog_33_method_1_code 1 = .ok (.invokespecial 1, 3) := by decide +kernel
theorem d11_4 : decode prog_33_method_1_code 4 = .ok (.aload_n 0, 1) := by decide +kernel
theorem d11_5 : decode prog_33_method_1_code 5 = .ok (.aload_n 1, 1) := by decide +kernel
theorem d11_6 : decode prog_33_method_1_code 6 = .ok (.putfield 7, 3) := by decide +kernel
theorem d11_9 : decode prog_33_method_1_code 9 = .ok (.aload_n 0, 1) := by decide +kernel
theorem d11_10 : decode prog_33_method_1_code 10 = .ok (.iload_n 2, 1) := by decide +kernel
theorem d11_11 : decode prog_33_method_1_code 11 = .ok (.putfield 13, 3) := by decide +kernel
theorem d11_14 : decode prog_33_method_1_code 14 = .ok (.aload_n 0, 1) := by decide +kernel
theorem d11_15 : decode prog_33_method_1_code 15 = .ok (.iload_n 3, 1) := by decide +kernel
theorem d11_16 : decode prog_33_method_1_code 16 = .ok (.putfield 17, 3) := by decide +kernel
theorem d11_19 : decode prog_33_method_1_code 19 = .ok (.return_, 1) := by decide +kernel
theorem ef10 (m : MethodId) (x0 : Addr) (x1 : Addr) (x2 : Int32) (x3 : Int32) : entryFrame m #[(.ref x0), (.ref x1), (.int x2), (.int x3)] 4 = mkF m 0 #[.val (.ref x0), .val (.ref x1), .val (.int x2), .val (.int x3)] [] := by first | (simp [entryFrame, mkF, argsToLocals, Value.category]; done) | rfl
def Q_rmRi (Z : State) (a : Addr) (ka : Addr) (xf : Int32) (xc : Int32) (h0 : Heap) (n0 : Nat) (v : Option Value) (h : Heap) (L : List Loc) : Prop := v = none ∧ Fr n0 L ∧ Keep h0 h [a] ∧ Exa Z h a "com/example/libpalin/libpalin/RankedBits" ∧ Fld Z h a "com/example/libpalin/libpalin/RankedBits" "ints" "[I" (.ref ka) ∧ Fld Z h a "com/example/libpalin/libpalin/RankedBits" "bitsFrom" "I" (.int xf) ∧ Fld Z h a "com/example/libpalin/libpalin/RankedBits" "countsFrom" "I" (.int xc)
set_option maxRecDepth 65536 in
set_option maxHeartbeats 40000000 in
theorem rmRi (l : Launch) (Z : State) (a0 : Array Value) (hw : ∀ d ∈ tables_1, d.before a0 Z = true) (ws : List Jvm.Cond) (a : Addr) (ka : Addr) (xf : Int32) (xc : Int32) (h0 : Heap) (n0 : Nat) (Z0 : n0 ≤ h0.size) (pI : Fld Z h0 a "com/example/libpalin/libpalin/RankedBits" "ints" "[I" (.null)) (pF : Fld Z h0 a "com/example/libpalin/libpalin/RankedBits" "bitsFrom" "I" (.int (0 : Int32))) (pS : Fld Z h0 a "com/example/libpalin/libpalin/RankedBits" "countsFrom" "I" (.int (0 : Int32))) (pE : Exa Z h0 a "com/example/libpalin/libpalin/RankedBits") (la : n0 ≤ a) :
    Con l Z (⟨"com/example/libpalin/libpalin/RankedBits", "<init>", "([III)V"⟩ : MethodName) prog_33_method_1_code 4 none ws ({ frames := 1, cells := 0, slots := 0, locals := 12 } : Room) #[(.ref a), (.ref ka), (.int xf), (.int xc)] h0 (({ frames := 1, cells := 0, slots := 0, locals := 12 } : Room).cells) (({ frames := 1, cells := 0, slots := 0, locals := 12 } : Room).slots) (Q_rmRi Z a ka xf xc h0 n0) := by
  refine Con.of (plainFor_of_name pn0) ?_
  intro p e s m below meth c s₁ hx hby hml hown hnm hret hlk hZ X0 e0
  have N0 := Fr.nil n0
  refine goE (L := #[.val (.ref a), .val (.ref ka), .val (.int xf), .val (.int xc)]) (ef10 m a ka xf xc) ?_
  refine gAloadN X0 hx (hb hby d11_0) (q := 1) rfl rfl rfl ?_
  refine gInitO X0 hx hZ hown (hw _ (List.mem_of_getElem? (i := 58) rfl)) (hw _ (List.mem_of_getElem? (i := 9) rfl)) (hw _ (List.mem_of_getElem? (i := 10) rfl)) e0 (by rw [hml]; rfl) (hb hby d11_1) (q := 4) rfl (by decide) (W := 0) (Nat.le_of_eq rfl) (by decide) (fun T1 X1 e1 => ?_)
  refine gAloadN X1 hx (hb hby d11_4) (q := 5) rfl rfl rfl ?_
  refine gAloadN X1 hx (hb hby d11_5) (q := 6) rfl rfl rfl ?_
  refine gPutF X1 hx hZ (host := "") hown (Or.inl (hw _ (List.mem_of_getElem? (i := 59) rfl))) Via.refl e1 pI pE (Or.inr ⟨(hw _ (List.mem_of_getElem? (i := 60) rfl)), rfl, hnm⟩) (hw _ (List.mem_of_getElem? (i := 54) rfl)) (ty := .array (.int)) (by decide) rfl rfl (hb hby d11_6) (q := 9) rfl (fun T2 h2 X2 e2 W2 => ?_)
  have N3 := Fr.snoc X2 N0 la
  have K4 := (Keep.refl h0 [a]).wr W2 (Or.inl (List.mem_of_getElem? (i := 0) rfl))
  have F5 := Fld.same W2 pI
  have F6 := Fld.other W2 pF (Or.inr (slot_ne (Or.inr (hw _ (List.mem_of_getElem? (i := 62) rfl))) (Or.inr (hw _ (List.mem_of_getElem? (i := 60) rfl))) (by decide) (t := .int) (by decide) (t' := .array (.int)) (by decide)))
  have F7 := Fld.other W2 pS (Or.inr (slot_ne (Or.inr (hw _ (List.mem_of_getElem? (i := 64) rfl))) (Or.inr (hw _ (List.mem_of_getElem? (i := 60) rfl))) (by decide) (t := .int) (by decide) (t' := .array (.int)) (by decide)))
  have E8 := Exa.wr W2 pE
  have Z9 : n0 ≤ h2.size := by rw [W2.size]; exact Z0
  refine gAloadN X2 hx (hb hby d11_9) (q := 10) rfl rfl rfl ?_
  refine gIloadN X2 hx (hb hby d11_10) (q := 11) rfl rfl ?_
  refine gPutF X2 hx hZ (host := "") hown (Or.inl (hw _ (List.mem_of_getElem? (i := 61) rfl))) Via.refl e2 F6 E8 (Or.inr ⟨(hw _ (List.mem_of_getElem? (i := 62) rfl)), rfl, hnm⟩) (hw _ (List.mem_of_getElem? (i := 54) rfl)) (ty := .int) (by decide) rfl rfl (hb hby d11_11) (q := 14) rfl (fun T10 h10 X10 e10 W10 => ?_)
  have N11 := Fr.snoc X10 N3 la
  have K12 := K4.wr W10 (Or.inl (List.mem_of_getElem? (i := 0) rfl))
  have F13 := Fld.other W10 F5 (Or.inr (slot_ne (Or.inr (hw _ (List.mem_of_getElem? (i := 60) rfl))) (Or.inr (hw _ (List.mem_of_getElem? (i := 62) rfl))) (by decide) (t := .array (.int)) (by decide) (t' := .int) (by decide)))
  have F14 := Fld.same W10 F6
  have F15 := Fld.other W10 F7 (Or.inr (slot_ne (Or.inr (hw _ (List.mem_of_getElem? (i := 64) rfl))) (Or.inr (hw _ (List.mem_of_getElem? (i := 62) rfl))) (by decide) (t := .int) (by decide) (t' := .int) (by decide)))
  have E16 := Exa.wr W10 E8
  have Z17 : n0 ≤ h10.size := by rw [W10.size]; exact Z9
  refine gAloadN X10 hx (hb hby d11_14) (q := 15) rfl rfl rfl ?_
  refine gIloadN X10 hx (hb hby d11_15) (q := 16) rfl rfl ?_
  refine gPutF X10 hx hZ (host := "") hown (Or.inl (hw _ (List.mem_of_getElem? (i := 63) rfl))) Via.refl e10 F15 E16 (Or.inr ⟨(hw _ (List.mem_of_getElem? (i := 64) rfl)), rfl, hnm⟩) (hw _ (List.mem_of_getElem? (i := 54) rfl)) (ty := .int) (by decide) rfl rfl (hb hby d11_16) (q := 19) rfl (fun T18 h18 X18 e18 W18 => ?_)
  have N19 := Fr.snoc X18 N11 la
  have K20 := K12.wr W18 (Or.inl (List.mem_of_getElem? (i := 0) rfl))
  have F21 := Fld.other W18 F13 (Or.inr (slot_ne (Or.inr (hw _ (List.mem_of_getElem? (i := 60) rfl))) (Or.inr (hw _ (List.mem_of_getElem? (i := 64) rfl))) (by decide) (t := .array (.int)) (by decide) (t' := .int) (by decide)))
  have F22 := Fld.other W18 F14 (Or.inr (slot_ne (Or.inr (hw _ (List.mem_of_getElem? (i := 62) rfl))) (Or.inr (hw _ (List.mem_of_getElem? (i := 64) rfl))) (by decide) (t := .int) (by decide) (t' := .int) (by decide)))
  have F23 := Fld.same W18 F15
  have E24 := Exa.wr W18 E16
  have Z25 : n0 ≤ h18.size := by rw [W18.size]; exact Z17
  exact gRetV X18 hx hlk hret (hb hby d11_19) (by decide) (by decide) (by rw [e18]; exact ⟨rfl, N19, K20, E24, F21, F22, F23⟩)
theorem d7_0 : decode prog_34_method_4_code 0 = .ok (.aload_n 0, 1) := by decide +kernel
theorem d7_1 : decode prog_34_method_4_code 1 = .ok (.getfield 15, 3) := by decide +kernel
theorem d7_4 : decode prog_34_method_4_code 4 = .ok (.aload_n 0, 1) := by decide +kernel
theorem d7_5 : decode prog_34_method_4_code 5 = .ok (.getfield 19, 3) := by decide +kernel
theorem d7_8 : decode prog_34_method_4_code 8 = .ok (.invokestatic 22, 3) := by decide +kernel
theorem d7_11 : decode prog_34_method_4_code 11 = .ok (.iadd, 1) := by decide +kernel
theorem d7_12 : decode prog_34_method_4_code 12 = .ok (.istore_n 1, 1) := by decide +kernel
theorem d7_13 : decode prog_34_method_4_code 13 = .ok (.aload_n 0, 1) := by decide +kernel
theorem d7_14 : decode prog_34_method_4_code 14 = .ok (.getfield 19, 3) := by decide +kernel
theorem d7_17 : decode prog_34_method_4_code 17 = .ok (.bipush 64, 2) := by decide +kernel
theorem d7_19 : decode prog_34_method_4_code 19 = .ok (.idiv, 1) := by decide +kernel
theorem d7_20 : decode prog_34_method_4_code 20 = .ok (.iconst 1, 1) := by decide +kernel
theorem d7_21 : decode prog_34_method_4_code 21 = .ok (.iadd, 1) := by decide +kernel
theorem d7_22 : decode prog_34_method_4_code 22 = .ok (.istore_n 2, 1) := by decide +kernel
theorem d7_23 : decode prog_34_method_4_code 23 = .ok (.iconst 0, 1) := by decide +kernel
theorem d7_24 : decode prog_34_method_4_code 24 = .ok (.istore_n 3, 1) := by decide +kernel
theorem d7_25 : decode prog_34_method_4_code 25 = .ok (.iconst 0, 1) := by decide +kernel
theorem d7_26 : decode prog_34_method_4_code 26 = .ok (.istore 4, 2) := by decide +kernel
theorem d7_28 : decode prog_34_method_4_code 28 = .ok (.iload 4, 2) := by decide +kernel
theorem d7_30 : decode prog_34_method_4_code 30 = .ok (.iload_n 2, 1) := by decide +kernel
theorem d7_31 : decode prog_34_method_4_code 31 = .ok (.if_icmp .ge 27, 3) := by decide +kernel
theorem d7_34 : decode prog_34_method_4_code 34 = .ok (.aload_n 0, 1) := by decide +kernel
theorem d7_35 : decode prog_34_method_4_code 35 = .ok (.iload_n 1, 1) := by decide +kernel
theorem d7_36 : decode prog_34_method_4_code 36 = .ok (.iload 4, 2) := by decide +kernel
theorem d7_38 : decode prog_34_method_4_code 38 = .ok (.iload 4, 2) := by decide +kernel
theorem d7_40 : decode prog_34_method_4_code 40 = .ok (.bipush 16, 2) := by decide +kernel
theorem d7_42 : decode prog_34_method_4_code 42 = .ok (.iadd, 1) := by decide +kernel
theorem d7_43 : decode prog_34_method_4_code 43 = .ok (.iload_n 2, 1) := by decide +kernel
theorem d7_44 : decode prog_34_method_4_code 44 = .ok (.invokestatic 32, 3) := by decide +kernel
theorem d7_47 : decode prog_34_method_4_code 47 = .ok (.iload_n 3, 1) := by decide +kernel
theorem d7_48 : decode prog_34_method_4_code 48 = .ok (.invokevirtual 38, 3) := by decide +kernel
theorem d7_51 : decode prog_34_method_4_code 51 = .ok (.istore_n 3, 1) := by decide +kernel
theorem d7_52 : decode prog_34_method_4_code 52 = .ok (.iinc 4 16, 3) := by decide +kernel
theorem d7_55 : decode prog_34_method_4_code 55 = .ok (.goto (-27), 3) := by decide +kernel
theorem d7_58 : decode prog_34_method_4_code 58 = .ok (.new 1, 3) := by decide +kernel
theorem d7_61 : decode prog_34_method_4_code 61 = .ok (.dup, 1) := by decide +kernel
theorem d7_62 : decode prog_34_method_4_code 62 = .ok (.aload_n 0, 1) := by decide +kernel
theorem d7_63 : decode prog_34_method_4_code 63 = .ok (.getfield 9, 3) := by decide +kernel
theorem d7_66 : decode prog_34_method_4_code 66 = .ok (.aload_n 0, 1) := by decide +kernel
theorem d7_67 : decode prog_34_method_4_code 67 = .ok (.getfield 15, 3) := by decide +kernel
theorem d7_70 : decode prog_34_method_4_code 70 = .ok (.iload_n 1, 1) := by decide +kernel
theorem d7_71 : decode prog_34_method_4_code 71 = .ok (.invokespecial 42, 3) := by decide +kernel
theorem d7_74 : decode prog_34_method_4_code 74 = .ok (.areturn, 1) := by decide +kernel
theorem ef11 (m : MethodId) (x0 : Addr) : entryFrame m #[(.ref x0)] 5 = mkF m 0 #[.val (.ref x0), .unset, .unset, .unset, .unset] [] := by first | (simp [entryFrame, mkF, argsToLocals, Value.category]; done) | rfl
def Q_rmBd (Z : State) (a : Addr) (ka : Addr) (kc : ClassId) (xf : Int32) (xs : Int32) (xc : Int32) (xg : Int32) (F : Nat → Int32) (fr : Nat) (nc : Nat) (g : Nat) (h0 : Heap) (n0 : Nat) (v : Option Value) (h : Heap) (L : List Loc) : Prop := ∃ r, v = some (.ref r) ∧ Fr n0 L ∧ Keep h0 h [ka] ∧ Exa Z h r "com/example/libpalin/libpalin/RankedBits" ∧ Fld Z h r "com/example/libpalin/libpalin/RankedBits" "ints" "[I" (.ref ka) ∧ Fld Z h r "com/example/libpalin/libpalin/RankedBits" "bitsFrom" "I" (.int xf) ∧ Fld Z h r "com/example/libpalin/libpalin/RankedBits" "countsFrom" "I" (.int xc) ∧ Ary Z h ka kc .int (own_l (own_cnt F fr nc g)) ∧ h0.size ≤ r
theorem pd3 : parseMethodDescriptor "(II)I" = some ⟨[.int, .int], some (.int)⟩ := by decide +kernel
theorem pd4 : parseMethodDescriptor "(IIII)I" = some ⟨[.int, .int, .int, .int], some (.int)⟩ := by decide +kernel
theorem pd5 : parseMethodDescriptor "([III)V" = some ⟨[.array (.int), .int, .int], none⟩ := by decide +kernel
set_option maxRecDepth 65536 in
set_option maxHeartbeats 40000000 in
theorem rmBd (l : Launch) (Z : State) (a0 : Array Value) (hw : ∀ d ∈ tables_1, d.before a0 Z = true) (ws : List Jvm.Cond) (a : Addr) (ka : Addr) (kc : ClassId) (xf : Int32) (xs : Int32) (xc : Int32) (xg : Int32) (F : Nat → Int32) (fr : Nat) (nc : Nat) (g : Nat) (h0 : Heap) (n0 : Nat) (Z0 : n0 ≤ h0.size) (pI : Fld Z h0 a "com/example/libpalin/libpalin/RankedBits$Builder" "ints" "[I" (.ref ka)) (pF : Fld Z h0 a "com/example/libpalin/libpalin/RankedBits$Builder" "from" "I" (.int xf)) (pS : Fld Z h0 a "com/example/libpalin/libpalin/RankedBits$Builder" "size" "I" (.int xs)) (pE : Exa Z h0 a "com/example/libpalin/libpalin/RankedBits$Builder") (pA : Ary Z h0 ka kc .int (own_l F)) (lka : n0 ≤ ka) (nka : ka ≠ a) (hf : xf.toInt = ((fr : Nat) : Int)) (hc : xc.toInt = ((nc : Nat) : Int)) (hg : xg.toInt = ((g : Nat) : Int)) (b1 : fr + 2 * g ≤ nc) (b2 : nc + g ≤ 24) (ec : (xf + ((xs / (32 : Int32)) + (3 : Int32))) = xc) (eg : ((xs / (64 : Int32)) + (1 : Int32)) = xg) (g0 : (0 : Int32) < xg) (g16 : ¬ (16 : Int32) < xg) (glt : xg < (16 : Int32)) :
    Con l Z (⟨"com/example/libpalin/libpalin/RankedBits$Builder", "build", "()Lcom/example/libpalin/libpalin/RankedBits;"⟩ : MethodName) prog_34_method_4_code 5 (some (.object "com/example/libpalin/libpalin/RankedBits")) ws ({ frames := 2, cells := 1, slots := 3, locals := 36 } : Room) #[(.ref a)] h0 (({ frames := 2, cells := 1, slots := 3, locals := 36 } : Room).cells) (({ frames := 2, cells := 1, slots := 3, locals := 36 } : Room).slots) (Q_rmBd Z a ka kc xf xs xc xg F fr nc g h0 n0) := by
  refine Con.of (plainFor_of_name pn6) ?_
  intro p e s m below meth c s₁ hx hby hml hown hnm hret hlk hZ X0 e0
  have N0 := Fr.nil n0
  refine goE (L := #[.val (.ref a), .unset, .unset, .unset, .unset]) (ef11 m a) ?_
  refine gAloadN X0 hx (hb hby d7_0) (q := 1) rfl rfl rfl ?_
  refine gGetF X0 hx hZ (host := "") hown (Or.inl (hw _ (List.mem_of_getElem? (i := 13) rfl))) Via.refl e0 pF (hb hby d7_1) (q := 4) rfl (fun T1 X1 e1 => ?_)
  refine gAloadN X1 hx (hb hby d7_4) (q := 5) rfl rfl rfl ?_
  refine gGetF X1 hx hZ (host := "") hown (Or.inl (hw _ (List.mem_of_getElem? (i := 15) rfl))) Via.refl e1 pS (hb hby d7_5) (q := 8) rfl (fun T2 X2 e2 => ?_)
  refine gCallSN X2 hx hZ hown (hw _ (List.mem_of_getElem? (i := 17) rfl)) (hw _ (List.mem_of_getElem? (i := 18) rfl)) (hw _ (List.mem_of_getElem? (i := 19) rfl)) (hw _ (List.mem_of_getElem? (i := 20) rfl)) (by decide) (rmBI l Z a0 hw [] xs h0 n0 Z0) (W := 1) (by decide) (by decide) e2 (by rw [hml]; rfl) [(.int xs)] (lenOf pd1 rfl) rfl (S := [(.int xf)]) rfl (Nat.le_of_eq rfl) (hb hby d7_8) (q := 11) rfl (by decide) (by decide) (fun r3 T3 M3 X3 q3 => ?_)
  obtain ⟨rfl, M3n, e3⟩ := q3
  have N4 := Fr.app N0 M3n
  dsimp only [Option.toList, List.cons_append, List.nil_append]
  refine gIadd X3 hx (hb hby d7_11) (q := 12) rfl ?_
  refine gIstoreN X3 hx (hb hby d7_12) (q := 13) rfl (L' := #[.val (.ref a), .val (.int (xf + ((xs / (32 : Int32)) + (3 : Int32)))), .unset, .unset, .unset]) rfl ?_
  rw [ec]
  refine gAloadN X3 hx (hb hby d7_13) (q := 14) rfl rfl rfl ?_
  refine gGetF X3 hx hZ (host := "") hown (Or.inl (hw _ (List.mem_of_getElem? (i := 15) rfl))) Via.refl e3 pS (hb hby d7_14) (q := 17) rfl (fun T5 X5 e5 => ?_)
  refine gBipush X5 hx (64 : Int32) (hb hby d7_17) (q := 19) rfl (by decide) ?_
  refine gIdiv X5 hx (hb hby d7_19) (q := 20) rfl (by decide) ?_
  refine gIconst X5 hx (1 : Int32) (hb hby d7_20) (q := 21) rfl (by decide) ?_
  refine gIadd X5 hx (hb hby d7_21) (q := 22) rfl ?_
  refine gIstoreN X5 hx (hb hby d7_22) (q := 23) rfl (L' := #[.val (.ref a), .val (.int xc), .val (.int ((xs / (64 : Int32)) + (1 : Int32))), .unset, .unset]) rfl ?_
  rw [eg]
  refine gIconst X5 hx (0 : Int32) (hb hby d7_23) (q := 24) rfl (by decide) ?_
  refine gIstoreN X5 hx (hb hby d7_24) (q := 25) rfl (L' := #[.val (.ref a), .val (.int xc), .val (.int xg), .val (.int (0 : Int32)), .unset]) rfl ?_
  refine gIconst X5 hx (0 : Int32) (hb hby d7_25) (q := 26) rfl (by decide) ?_
  refine gIstore X5 hx (hb hby d7_26) (q := 28) rfl (L' := #[.val (.ref a), .val (.int xc), .val (.int xg), .val (.int (0 : Int32)), .val (.int (0 : Int32))]) rfl ?_
  refine gIload X5 hx (hb hby d7_28) (q := 30) rfl rfl ?_
  refine gIloadN X5 hx (hb hby d7_30) (q := 31) rfl rfl ?_
  refine gIcmpN X5 hx (hb hby d7_31) (q := 34) rfl (XT.ii_ge_f g0) ?_
  refine gAloadN X5 hx (hb hby d7_34) (q := 35) rfl rfl rfl ?_
  refine gIloadN X5 hx (hb hby d7_35) (q := 36) rfl rfl ?_
  refine gIload X5 hx (hb hby d7_36) (q := 38) rfl rfl ?_
  refine gIload X5 hx (hb hby d7_38) (q := 40) rfl rfl ?_
  refine gBipush X5 hx (16 : Int32) (hb hby d7_40) (q := 42) rfl (by decide) ?_
  refine gIadd X5 hx (hb hby d7_42) (q := 43) rfl ?_
  rw [show ((0 : Int32) + (16 : Int32)) = (16 : Int32) from by decide]
  refine gIloadN X5 hx (hb hby d7_43) (q := 44) rfl rfl ?_
  refine gCallS X5 hx hZ hown (hw _ (List.mem_of_getElem? (i := 38) rfl)) (hw _ (List.mem_of_getElem? (i := 39) rfl)) (hw _ (List.mem_of_getElem? (i := 40) rfl)) (hw _ (List.mem_of_getElem? (i := 41) rfl)) (by decide) (rmMin l Z a0 hw [] (16 : Int32) xg h0 n0 Z0) (W := 3) (by decide) (by decide) e5 (by rw [hml]; rfl) [(.int (16 : Int32)), (.int xg)] (lenOf pd3 rfl) rfl (S := [(.int (0 : Int32)), (.int xc), (.ref a)]) rfl (Nat.le_of_eq rfl) (hb hby d7_44) (q := 47) rfl (by decide) (by decide) (fun r6 T6 M6 X6 q6 => ?_)
  obtain ⟨rfl, M6n, e6⟩ := q6
  have N7 := Fr.app N4 M6n
  dsimp only [Option.toList, List.cons_append, List.nil_append]
  rw [if_pos glt]
  refine gIloadN X6 hx (hb hby d7_47) (q := 48) rfl rfl ?_
  refine gCallP X6 hx hZ hown (hw _ (List.mem_of_getElem? (i := 42) rfl)) (hw _ (List.mem_of_getElem? (i := 43) rfl)) (hw _ (List.mem_of_getElem? (i := 44) rfl)) (hw _ (List.mem_of_getElem? (i := 3) rfl)) (hw _ (List.mem_of_getElem? (i := 4) rfl)) (hw _ (List.mem_of_getElem? (i := 45) rfl)) (by decide) (rmCo l Z a0 hw [] a ka kc xf xs xc xg F fr nc g h0 n0 Z0 pI pF pS pE pA lka nka hf hc hg b1 b2) (W := 0) (by decide) (by decide) e6 (by rw [hml]; rfl) pE [(.int xc), (.int (0 : Int32)), (.int xg), (.int (0 : Int32))] (lenOf pd4 rfl) rfl (S := []) rfl (Nat.le_of_eq rfl) (hb hby d7_48) (q := 51) rfl (by decide) (by decide) (fun r8 T8 M8 X8 q8 => ?_)
  obtain ⟨rfl, M8n, K8, P8a⟩ := q8
  have N9 := Fr.app N7 M8n
  have F10 := Fld.keep pI K8 (ninS nka.symm nin0)
  have F11 := Fld.keep pF K8 (ninS nka.symm nin0)
  have F12 := Fld.keep pS K8 (ninS nka.symm nin0)
  have E13 := Exa.keep pE K8
  have Z14 := Nat.le_trans Z0 K8.1
  have KK15 := (Keep.refl h0 [ka]).trans K8 (allS (Or.inl (List.mem_of_getElem? (i := 0) rfl)) all0)
  dsimp only [Option.toList, List.cons_append, List.nil_append]
  refine gIstoreN X8 hx (hb hby d7_51) (q := 52) rfl (L' := #[.val (.ref a), .val (.int xc), .val (.int xg), .val (.int (own_C F fr g)), .val (.int (0 : Int32))]) rfl ?_
  refine gIinc X8 hx (16 : Int32) (hb hby d7_52) (q := 55) rfl (by decide) rfl (L' := #[.val (.ref a), .val (.int xc), .val (.int xg), .val (.int (own_C F fr g)), .val (.int (16 : Int32))]) rfl ?_
  refine gGoto X8 hx (hb hby d7_55) (q := 28) (by decide) (by decide) ?_
  refine gIload X8 hx (hb hby d7_28) (q := 30) rfl rfl ?_
  refine gIloadN X8 hx (hb hby d7_30) (q := 31) rfl rfl ?_
  refine gIcmpY X8 hx (hb hby d7_31) (q := 58) (by decide) (by decide) (XT.ii_ge_t g16) ?_
  refine gNewO X8 hx hZ hown (hw _ (List.mem_of_getElem? (i := 53) rfl)) (hw _ (List.mem_of_getElem? (i := 54) rfl)) (hw _ (List.mem_of_getElem? (i := 19) rfl)) rfl (hb hby d7_58) (q := 61) rfl (by decide) (by decide) (fun T16 h16 a16 X16 e16 g16 E16 A16 D16 => ?_)
  have F17 := Fld.ext E16 F10
  have F18 := Fld.ext E16 F11
  have F19 := Fld.ext E16 F12
  have E20 := Exa.ext E16 E13
  have A21 := Ary.ext E16 P8a
  have ge_a16 : h0.size ≤ a16 := by rw [g16]; exact KK15.1
  have K22 := KK15.ext E16
  have le_a16 : n0 ≤ a16 := by rw [g16]; exact Z14
  have ne_a_a16 : a ≠ a16 := by rw [g16]; exact Nat.ne_of_lt E13.lt
  have ne_ka_a16 : ka ≠ a16 := by rw [g16]; exact Nat.ne_of_lt P8a.lt
  have Z23 := Nat.le_trans Z14 E16.1
  have F24 : Fld Z h16 a16 "com/example/libpalin/libpalin/RankedBits" "ints" "[I" (.null) := D16 (Or.inr (hw _ (List.mem_of_getElem? (i := 60) rfl))) (ty := .array (.int)) (by decide)
  have F25 : Fld Z h16 a16 "com/example/libpalin/libpalin/RankedBits" "bitsFrom" "I" (.int (0 : Int32)) := D16 (Or.inr (hw _ (List.mem_of_getElem? (i := 62) rfl))) (ty := .int) (by decide)
  have F26 : Fld Z h16 a16 "com/example/libpalin/libpalin/RankedBits" "countsFrom" "I" (.int (0 : Int32)) := D16 (Or.inr (hw _ (List.mem_of_getElem? (i := 64) rfl))) (ty := .int) (by decide)
  clear D16
  refine gDup X16 hx (hb hby d7_61) (q := 62) rfl rfl ?_
  refine gAloadN X16 hx (hb hby d7_62) (q := 63) rfl rfl rfl ?_
  refine gGetF X16 hx hZ (host := "") hown (Or.inl (hw _ (List.mem_of_getElem? (i := 11) rfl))) Via.refl e16 F17 (hb hby d7_63) (q := 66) rfl (fun T27 X27 e27 => ?_)
  refine gAloadN X27 hx (hb hby d7_66) (q := 67) rfl rfl rfl ?_
  refine gGetF X27 hx hZ (host := "") hown (Or.inl (hw _ (List.mem_of_getElem? (i := 13) rfl))) Via.refl e27 F18 (hb hby d7_67) (q := 70) rfl (fun T28 X28 e28 => ?_)
  refine gIloadN X28 hx (hb hby d7_70) (q := 71) rfl rfl ?_
  refine gCallNN X28 hx hZ rfl hown (hw _ (List.mem_of_getElem? (i := 55) rfl)) (hw _ (List.mem_of_getElem? (i := 56) rfl)) (hw _ (List.mem_of_getElem? (i := 19) rfl)) (hw _ (List.mem_of_getElem? (i := 57) rfl)) (by decide) (rmRi l Z a0 hw [] a16 ka xf xc h16 n0 Z23 F24 F25 F26 A16 le_a16) (W := 1) (by decide) (by decide) e28 (by rw [hml]; rfl) [(.ref ka), (.int xf), (.int xc)] (lenOf pd5 rfl) rfl (S := [(.ref a16)]) rfl (Nat.le_of_eq rfl) (hb hby d7_71) (q := 74) rfl (by decide) (by decide) (fun r29 T29 M29 X29 q29 => ?_)
  obtain ⟨rfl, M29n, K29, P29e, P29i, P29f, P29c⟩ := q29
  have N30 := Fr.app N9 M29n
  have F31 := Fld.keep F17 K29 (ninS ne_a_a16 nin0)
  have F32 := Fld.keep F18 K29 (ninS ne_a_a16 nin0)
  have F33 := Fld.keep F19 K29 (ninS ne_a_a16 nin0)
  have E34 := Exa.keep E20 K29
  have A35 := Ary.keep A21 K29 (ninS ne_ka_a16 nin0)
  have Z36 := Nat.le_trans Z23 K29.1
  have KK37 := K22.trans K29 (allS (Or.inr ge_a16) all0)
  dsimp only [Option.toList, List.cons_append, List.nil_append]
  exact gRetA X29 hx hlk hret rfl rfl (hb hby d7_74) (by decide) (by decide) (by exact ⟨_, rfl, N30, KK37, P29e, P29i, P29f, P29c, A35, ge_a16⟩)
theorem d13_0 : decode prog_33_method_4_code 0 = .ok (.aload_n 0, 1) := by decide +kernel
theorem d13_1 : decode prog_33_method_4_code 1 = .ok (.getfield 13, 3) := by decide +kernel
theorem d13_4 : decode prog_33_method_4_code 4 = .ok (.iload_n 1, 1) := by decide +kernel
theorem d13_5 : decode prog_33_method_4_code 5 = .ok (.bipush 32, 2) := by decide +kernel
theorem d13_7 : decode prog_33_method_4_code 7 = .ok (.idiv, 1) := by decide +kernel
theorem d13_8 : decode prog_33_method_4_code 8 = .ok (.iadd, 1) := by decide +kernel
theorem d13_9 : decode prog_33_method_4_code 9 = .ok (.istore_n 2, 1) := by decide +kernel
theorem d13_10 : decode prog_33_method_4_code 10 = .ok (.iload_n 1, 1) := by decide +kernel
theorem d13_11 : decode prog_33_method_4_code 11 = .ok (.bipush 32, 2) := by decide +kernel
theorem d13_13 : decode prog_33_method_4_code 13 = .ok (.irem, 1) := by decide +kernel
theorem d13_14 : decode prog_33_method_4_code 14 = .ok (.istore_n 3, 1) := by decide +kernel
theorem d13_15 : decode prog_33_method_4_code 15 = .ok (.aload_n 0, 1) := by decide +kernel
theorem d13_16 : decode prog_33_method_4_code 16 = .ok (.getfield 7, 3) := by decide +kernel
theorem d13_19 : decode prog_33_method_4_code 19 = .ok (.iload_n 2, 1) := by decide +kernel
theorem d13_20 : decode prog_33_method_4_code 20 = .ok (.iaload, 1) := by decide +kernel
theorem d13_21 : decode prog_33_method_4_code 21 = .ok (.i2l, 1) := by decide +kernel
theorem d13_22 : decode prog_33_method_4_code 22 = .ok (.ldc2_w 33, 3) := by decide +kernel
theorem d13_25 : decode prog_33_method_4_code 25 = .ok (.land, 1) := by decide +kernel
theorem d13_26 : decode prog_33_method_4_code 26 = .ok (.aload_n 0, 1) := by decide +kernel
theorem d13_27 : decode prog_33_method_4_code 27 = .ok (.getfield 7, 3) := by decide +kernel
theorem d13_30 : decode prog_33_method_4_code 30 = .ok (.iload_n 2, 1) := by decide +kernel
theorem d13_31 : decode prog_33_method_4_code 31 = .ok (.iconst 1, 1) := by decide +kernel
theorem d13_32 : decode prog_33_method_4_code 32 = .ok (.iadd, 1) := by decide +kernel
theorem d13_33 : decode prog_33_method_4_code 33 = .ok (.iaload, 1) := by decide +kernel
theorem d13_34 : decode prog_33_method_4_code 34 = .ok (.i2l, 1) := by decide +kernel
theorem d13_35 : decode prog_33_method_4_code 35 = .ok (.bipush 32, 2) := by decide +kernel
theorem d13_37 : decode prog_33_method_4_code 37 = .ok (.lshl, 1) := by decide +kernel
theorem d13_38 : decode prog_33_method_4_code 38 = .ok (.lor, 1) := by decide +kernel
theorem d13_39 : decode prog_33_method_4_code 39 = .ok (.lstore 4, 2) := by decide +kernel
theorem d13_41 : decode prog_33_method_4_code 41 = .ok (.lload 4, 2) := by decide +kernel
theorem d13_43 : decode prog_33_method_4_code 43 = .ok (.iload_n 3, 1) := by decide +kernel
theorem d13_44 : decode prog_33_method_4_code 44 = .ok (.lushr, 1) := by decide +kernel
theorem d13_45 : decode prog_33_method_4_code 45 = .ok (.aload_n 0, 1) := by decide +kernel
theorem d13_46 : decode prog_33_method_4_code 46 = .ok (.getfield 7, 3) := by decide +kernel
theorem d13_49 : decode prog_33_method_4_code 49 = .ok (.iload_n 2, 1) := by decide +kernel
theorem d13_50 : decode prog_33_method_4_code 50 = .ok (.iconst 2, 1) := by decide +kernel
theorem d13_51 : decode prog_33_method_4_code 51 = .ok (.iadd, 1) := by decide +kernel
theorem d13_52 : decode prog_33_method_4_code 52 = .ok (.iaload, 1) := by decide +kernel
theorem d13_53 : decode prog_33_method_4_code 53 = .ok (.i2l, 1) := by decide +kernel
theorem d13_54 : decode prog_33_method_4_code 54 = .ok (.bipush 32, 2) := by decide +kernel
theorem d13_56 : decode prog_33_method_4_code 56 = .ok (.lshl, 1) := by decide +kernel
theorem d13_57 : decode prog_33_method_4_code 57 = .ok (.bipush 32, 2) := by decide +kernel
theorem d13_59 : decode prog_33_method_4_code 59 = .ok (.iload_n 3, 1) := by decide +kernel
theorem d13_60 : decode prog_33_method_4_code 60 = .ok (.isub, 1) := by decide +kernel
theorem d13_61 : decode prog_33_method_4_code 61 = .ok (.lshl, 1) := by decide +kernel
theorem d13_62 : decode prog_33_method_4_code 62 = .ok (.lor, 1) := by decide +kernel
theorem d13_63 : decode prog_33_method_4_code 63 = .ok (.lreturn, 1) := by decide +kernel
theorem ef12 (m : MethodId) (x0 : Addr) (x1 : Int32) : entryFrame m #[(.ref x0), (.int x1)] 6 = mkF m 0 #[.val (.ref x0), .val (.int x1), .unset, .unset, .unset, .unset] [] := by first | (simp [entryFrame, mkF, argsToLocals, Value.category]; done) | rfl
def Q_rmBf (Z : State) (a : Addr) (ka : Addr) (kc : ClassId) (xf : Int32) (xc : Int32) (x1 : Int32) (xn : Int32) (F : Nat → Int32) (n1 : Nat) (h0 : Heap) (n0 : Nat) (v : Option Value) (h : Heap) (L : List Loc) : Prop := v = some (.long (own_bf (F n1) (F (n1 + 1)) (F (n1 + 2)) (x1 % (32 : Int32)))) ∧ Fr n0 L ∧ h = h0
set_option maxRecDepth 65536 in
set_option maxHeartbeats 40000000 in
theorem rmBf (l : Launch) (Z : State) (a0 : Array Value) (hw : ∀ d ∈ tables_1, d.before a0 Z = true) (ws : List Jvm.Cond) (a : Addr) (ka : Addr) (kc : ClassId) (xf : Int32) (xc : Int32) (x1 : Int32) (xn : Int32) (F : Nat → Int32) (n1 : Nat) (h0 : Heap) (n0 : Nat) (Z0 : n0 ≤ h0.size) (pI : Fld Z h0 a "com/example/libpalin/libpalin/RankedBits" "ints" "[I" (.ref ka)) (pF : Fld Z h0 a "com/example/libpalin/libpalin/RankedBits" "bitsFrom" "I" (.int xf)) (pS : Fld Z h0 a "com/example/libpalin/libpalin/RankedBits" "countsFrom" "I" (.int xc)) (pE : Exa Z h0 a "com/example/libpalin/libpalin/RankedBits") (pA : Ary Z h0 ka kc .int (own_l F)) (en : (xf + (x1 / (32 : Int32))) = xn) (hj : xn.toInt = ((n1 : Nat) : Int)) (hn : n1 < 24) (hj1 : (xn + (1 : Int32)).toInt = ((n1 + 1 : Nat) : Int)) (hn1 : n1 + 1 < 24) (hj2 : (xn + (2 : Int32)).toInt = ((n1 + 2 : Nat) : Int)) (hn2 : n1 + 2 < 24) :
    Con l Z (⟨"com/example/libpalin/libpalin/RankedBits", "bitsFrom", "(I)J"⟩ : MethodName) prog_33_method_4_code 6 (some (.long)) ws ({ frames := 0, cells := 0, slots := 0, locals := 0 } : Room) #[(.ref a), (.int x1)] h0 (({ frames := 0, cells := 0, slots := 0, locals := 0 } : Room).cells) (({ frames := 0, cells := 0, slots := 0, locals := 0 } : Room).slots) (Q_rmBf Z a ka kc xf xc x1 xn F n1 h0 n0) := by
  refine Con.of (plainFor_of_name pn0) ?_
  intro p e s m below meth c s₁ hx hby hml hown hnm hret hlk hZ X0 e0
  have N0 := Fr.nil n0
  refine goE (L := #[.val (.ref a), .val (.int x1), .unset, .unset, .unset, .unset]) (ef12 m a x1) ?_
  refine gAloadN X0 hx (hb hby d13_0) (q := 1) rfl rfl rfl ?_
  refine gGetF X0 hx hZ (host := "") hown (Or.inl (hw _ (List.mem_of_getElem? (i := 61) rfl))) Via.refl e0 pF (hb hby d13_1) (q := 4) rfl (fun T1 X1 e1 => ?_)
  refine gIloadN X1 hx (hb hby d13_4) (q := 5) rfl rfl ?_
  refine gBipush X1 hx (32 : Int32) (hb hby d13_5) (q := 7) rfl (by decide) ?_
  refine gIdiv X1 hx (hb hby d13_7) (q := 8) rfl (by decide) ?_
  refine gIadd X1 hx (hb hby d13_8) (q := 9) rfl ?_
  refine gIstoreN X1 hx (hb hby d13_9) (q := 10) rfl (L' := #[.val (.ref a), .val (.int x1), .val (.int (xf + (x1 / (32 : Int32)))), .unset, .unset, .unset]) rfl ?_
  rw [en]
  refine gIloadN X1 hx (hb hby d13_10) (q := 11) rfl rfl ?_
  refine gBipush X1 hx (32 : Int32) (hb hby d13_11) (q := 13) rfl (by decide) ?_
  refine gIrem X1 hx (hb hby d13_13) (q := 14) rfl (by decide) ?_
  refine gIstoreN X1 hx (hb hby d13_14) (q := 15) rfl (L' := #[.val (.ref a), .val (.int x1), .val (.int xn), .val (.int (x1 % (32 : Int32))), .unset, .unset]) rfl ?_
  refine gAloadN X1 hx (hb hby d13_15) (q := 16) rfl rfl rfl ?_
  refine gGetF X1 hx hZ (host := "") hown (Or.inl (hw _ (List.mem_of_getElem? (i := 59) rfl))) Via.refl e1 pI (hb hby d13_16) (q := 19) rfl (fun T2 X2 e2 => ?_)
  refine gIloadN X2 hx (hb hby d13_19) (q := 20) rfl rfl ?_
  refine gIaload X2 hx hZ e2 pA (hb hby d13_20) (q := 21) rfl (own_idx hj hn).1 (v := .int (F n1)) (by rw [(own_idx (F := F) hj hn).2, own_l_get _ _ hn]) ?_
  refine gI2l X2 hx (hb hby d13_21) (q := 22) rfl ?_
  refine gLdc2 X2 hx hZ hown (hw _ (List.mem_of_getElem? (i := 74) rfl)) (hb hby d13_22) (q := 25) rfl ?_
  refine gLand X2 hx (hb hby d13_25) (q := 26) rfl ?_
  refine gAloadN X2 hx (hb hby d13_26) (q := 27) rfl rfl rfl ?_
  refine gGetF X2 hx hZ (host := "") hown (Or.inl (hw _ (List.mem_of_getElem? (i := 59) rfl))) Via.refl e2 pI (hb hby d13_27) (q := 30) rfl (fun T3 X3 e3 => ?_)
  refine gIloadN X3 hx (hb hby d13_30) (q := 31) rfl rfl ?_
  refine gIconst X3 hx (1 : Int32) (hb hby d13_31) (q := 32) rfl (by decide) ?_
  refine gIadd X3 hx (hb hby d13_32) (q := 33) rfl ?_
  refine gIaload X3 hx hZ e3 pA (hb hby d13_33) (q := 34) rfl (own_idx hj1 hn1).1 (v := .int (F (n1 + 1))) (by rw [(own_idx (F := F) hj1 hn1).2, own_l_get _ _ hn1]) ?_
  refine gI2l X3 hx (hb hby d13_34) (q := 35) rfl ?_
  refine gBipush X3 hx (32 : Int32) (hb hby d13_35) (q := 37) rfl (by decide) ?_
  refine gLshl X3 hx (hb hby d13_37) (q := 38) rfl ?_
  refine gLor X3 hx (hb hby d13_38) (q := 39) rfl ?_
  refine gLstore X3 hx (hb hby d13_39) (q := 41) rfl (L' := #[.val (.ref a), .val (.int x1), .val (.int xn), .val (.int (x1 % (32 : Int32))), .val (.long ((((F n1).toInt64) &&& (4294967295 : Int64)) ||| (((F (n1 + 1)).toInt64) <<< ((32 : Int32).toInt64 &&& 63)))), .second]) rfl ?_
  refine gLload X3 hx (hb hby d13_41) (q := 43) rfl rfl ?_
  refine gIloadN X3 hx (hb hby d13_43) (q := 44) rfl rfl ?_
  refine gLushr X3 hx (hb hby d13_44) (q := 45) rfl ?_
  refine gAloadN X3 hx (hb hby d13_45) (q := 46) rfl rfl rfl ?_
  refine gGetF X3 hx hZ (host := "") hown (Or.inl (hw _ (List.mem_of_getElem? (i := 59) rfl))) Via.refl e3 pI (hb hby d13_46) (q := 49) rfl (fun T4 X4 e4 => ?_)
  refine gIloadN X4 hx (hb hby d13_49) (q := 50) rfl rfl ?_
  refine gIconst X4 hx (2 : Int32) (hb hby d13_50) (q := 51) rfl (by decide) ?_
  refine gIadd X4 hx (hb hby d13_51) (q := 52) rfl ?_
  refine gIaload X4 hx hZ e4 pA (hb hby d13_52) (q := 53) rfl (own_idx hj2 hn2).1 (v := .int (F (n1 + 2))) (by rw [(own_idx (F := F) hj2 hn2).2, own_l_get _ _ hn2]) ?_
  refine gI2l X4 hx (hb hby d13_53) (q := 54) rfl ?_
  refine gBipush X4 hx (32 : Int32) (hb hby d13_54) (q := 56) rfl (by decide) ?_
  refine gLshl X4 hx (hb hby d13_56) (q := 57) rfl ?_
  refine gBipush X4 hx (32 : Int32) (hb hby d13_57) (q := 59) rfl (by decide) ?_
  refine gIloadN X4 hx (hb hby d13_59) (q := 60) rfl rfl ?_
  refine gIsub X4 hx (hb hby d13_60) (q := 61) rfl ?_
  refine gLshl X4 hx (hb hby d13_61) (q := 62) rfl ?_
  refine gLor X4 hx (hb hby d13_62) (q := 63) rfl ?_
  exact gRetJ X4 hx hlk hret (hb hby d13_63) (by decide) (by decide) ⟨rfl, N0, e4⟩
theorem d14_0 : decode prog_33_method_3_code 0 = .ok (.aload_n 0, 1) := by decide +kernel
theorem d14_1 : decode prog_33_method_3_code 1 = .ok (.iload_n 1, 1) := by decide +kernel
theorem d14_2 : decode prog_33_method_3_code 2 = .ok (.iload_n 1, 1) := by decide +kernel
theorem d14_3 : decode prog_33_method_3_code 3 = .ok (.bipush 64, 2) := by decide +kernel
theorem d14_5 : decode prog_33_method_3_code 5 = .ok (.irem, 1) := by decide +kernel
theorem d14_6 : decode prog_33_method_3_code 6 = .ok (.isub, 1) := by decide +kernel
theorem d14_7 : decode prog_33_method_3_code 7 = .ok (.invokevirtual 24, 3) := by decide +kernel
theorem d14_10 : decode prog_33_method_3_code 10 = .ok (.lconst 1, 1) := by decide +kernel
theorem d14_11 : decode prog_33_method_3_code 11 = .ok (.iload_n 1, 1) := by decide +kernel
theorem d14_12 : decode prog_33_method_3_code 12 = .ok (.bipush 64, 2) := by decide +kernel
theorem d14_14 : decode prog_33_method_3_code 14 = .ok (.irem, 1) := by decide +kernel
theorem d14_15 : decode prog_33_method_3_code 15 = .ok (.lshl, 1) := by decide +kernel
theorem d14_16 : decode prog_33_method_3_code 16 = .ok (.lconst 1, 1) := by decide +kernel
theorem d14_17 : decode prog_33_method_3_code 17 = .ok (.lsub, 1) := by decide +kernel
theorem d14_18 : decode prog_33_method_3_code 18 = .ok (.land, 1) := by decide +kernel
theorem d14_19 : decode prog_33_method_3_code 19 = .ok (.lstore_n 2, 1) := by decide +kernel
theorem d14_20 : decode prog_33_method_3_code 20 = .ok (.aload_n 0, 1) := by decide +kernel
theorem d14_21 : decode prog_33_method_3_code 21 = .ok (.getfield 7, 3) := by decide +kernel
theorem d14_24 : decode prog_33_method_3_code 24 = .ok (.aload_n 0, 1) := by decide +kernel
theorem d14_25 : decode prog_33_method_3_code 25 = .ok (.getfield 17, 3) := by decide +kernel
theorem d14_28 : decode prog_33_method_3_code 28 = .ok (.iload_n 1, 1) := by decide +kernel
theorem d14_29 : decode prog_33_method_3_code 29 = .ok (.bipush 64, 2) := by decide +kernel
theorem d14_31 : decode prog_33_method_3_code 31 = .ok (.idiv, 1) := by decide +kernel
theorem d14_32 : decode prog_33_method_3_code 32 = .ok (.iadd, 1) := by decide +kernel
theorem d14_33 : decode prog_33_method_3_code 33 = .ok (.iaload, 1) := by decide +kernel
theorem d14_34 : decode prog_33_method_3_code 34 = .ok (.lload_n 2, 1) := by decide +kernel
theorem d14_35 : decode prog_33_method_3_code 35 = .ok (.invokestatic 27, 3) := by decide +kernel
theorem d14_38 : decode prog_33_method_3_code 38 = .ok (.iadd, 1) := by decide +kernel
theorem d14_39 : decode prog_33_method_3_code 39 = .ok (.ireturn, 1) := by decide +kernel
theorem ef13 (m : MethodId) (x0 : Addr) (x1 : Int32) : entryFrame m #[(.ref x0), (.int x1)] 4 = mkF m 0 #[.val (.ref x0), .val (.int x1), .unset, .unset] [] := by first | (simp [entryFrame, mkF, argsToLocals, Value.category]; done) | rfl
def Q_rmSB (Z : State) (a : Addr) (ka : Addr) (kc : ClassId) (xf : Int32) (xc : Int32) (x1 : Int32) (xn : Int32) (F : Nat → Int32) (n1 : Nat) (m1 : Nat) (h0 : Heap) (n0 : Nat) (v : Option Value) (h : Heap) (L : List Loc) : Prop := v = some (.int ((F m1) + (own_bcL ((own_bf (F n1) (F (n1 + 1)) (F (n1 + 2)) ((x1 - (x1 % (64 : Int32))) % (32 : Int32))) &&& (((1 : Int64) <<< ((x1 % (64 : Int32)).toInt64 &&& 63)) - (1 : Int64)))))) ∧ Fr n0 L ∧ h = h0
theorem pd6 : parseMethodDescriptor "(I)J" = some ⟨[.int], some (.long)⟩ := by decide +kernel
theorem pd7 : parseMethodDescriptor "(J)I" = some ⟨[.long], some (.int)⟩ := by decide +kernel
set_option maxRecDepth 65536 in
set_option maxHeartbeats 40000000 in
theorem rmSB (l : Launch) (Z : State) (a0 : Array Value) (hw : ∀ d ∈ tables_1, d.before a0 Z = true) (ws : List Jvm.Cond) (a : Addr) (ka : Addr) (kc : ClassId) (xf : Int32) (xc : Int32) (x1 : Int32) (xn : Int32) (F : Nat → Int32) (n1 : Nat) (m1 : Nat) (h0 : Heap) (n0 : Nat) (Z0 : n0 ≤ h0.size) (pI : Fld Z h0 a "com/example/libpalin/libpalin/RankedBits" "ints" "[I" (.ref ka)) (pF : Fld Z h0 a "com/example/libpalin/libpalin/RankedBits" "bitsFrom" "I" (.int xf)) (pS : Fld Z h0 a "com/example/libpalin/libpalin/RankedBits" "countsFrom" "I" (.int xc)) (pE : Exa Z h0 a "com/example/libpalin/libpalin/RankedBits") (pA : Ary Z h0 ka kc .int (own_l F)) (en : (xf + ((x1 - (x1 % (64 : Int32))) / (32 : Int32))) = xn) (hj : xn.toInt = ((n1 : Nat) : Int)) (hn : n1 < 24) (hj1 : (xn + (1 : Int32)).toInt = ((n1 + 1 : Nat) : Int)) (hn1 : n1 + 1 < 24) (hj2 : (xn + (2 : Int32)).toInt = ((n1 + 2 : Nat) : Int)) (hn2 : n1 + 2 < 24) (hm : (xc + (x1 / (64 : Int32))).toInt = ((m1 : Nat) : Int)) (hm1 : m1 < 24) :
    Con l Z (⟨"com/example/libpalin/libpalin/RankedBits", "setBefore", "(I)I"⟩ : MethodName) prog_33_method_3_code 4 (some (.int)) ws ({ frames := 1, cells := 0, slots := 0, locals := 18 } : Room) #[(.ref a), (.int x1)] h0 (({ frames := 1, cells := 0, slots := 0, locals := 18 } : Room).cells) (({ frames := 1, cells := 0, slots := 0, locals := 18 } : Room).slots) (Q_rmSB Z a ka kc xf xc x1 xn F n1 m1 h0 n0) := by
  refine Con.of (plainFor_of_name pn0) ?_
  intro p e s m below meth c s₁ hx hby hml hown hnm hret hlk hZ X0 e0
  have N0 := Fr.nil n0
  refine goE (L := #[.val (.ref a), .val (.int x1), .unset, .unset]) (ef13 m a x1) ?_
  refine gAloadN X0 hx (hb hby d14_0) (q := 1) rfl rfl rfl ?_
  refine gIloadN X0 hx (hb hby d14_1) (q := 2) rfl rfl ?_
  refine gIloadN X0 hx (hb hby d14_2) (q := 3) rfl rfl ?_
  refine gBipush X0 hx (64 : Int32) (hb hby d14_3) (q := 5) rfl (by decide) ?_
  refine gIrem X0 hx (hb hby d14_5) (q := 6) rfl (by decide) ?_
  refine gIsub X0 hx (hb hby d14_6) (q := 7) rfl ?_
  refine gCallV X0 hx hZ hown (hw _ (List.mem_of_getElem? (i := 80) rfl)) (hw _ (List.mem_of_getElem? (i := 70) rfl)) (hw _ (List.mem_of_getElem? (i := 72) rfl)) (hw _ (List.mem_of_getElem? (i := 71) rfl)) (hw _ (List.mem_of_getElem? (i := 19) rfl)) (hw _ (List.mem_of_getElem? (i := 73) rfl)) (notFace_of_selects (args := #[]) (mvT hZ (hw _ (List.mem_of_getElem? (i := 72) rfl)))) (by decide) (rmBf l Z a0 hw [] a ka kc xf xc (x1 - (x1 % (64 : Int32))) xn F n1 h0 n0 Z0 pI pF pS pE pA en hj hn hj1 hn1 hj2 hn2) (W := 0) (by decide) (by decide) e0 (by rw [hml]; rfl) pE [(.int (x1 - (x1 % (64 : Int32))))] (lenOf pd6 rfl) rfl (S := []) rfl (Nat.le_of_eq rfl) (hb hby d14_7) (q := 10) rfl (by decide) (by decide) (fun r1 T1 M1 X1 q1 => ?_)
  obtain ⟨rfl, M1n, e1⟩ := q1
  have N2 := Fr.app N0 M1n
  dsimp only [Option.toList, List.cons_append, List.nil_append]
  refine gLconst X1 hx (1 : Int64) (hb hby d14_10) (q := 11) rfl (by decide) ?_
  refine gIloadN X1 hx (hb hby d14_11) (q := 12) rfl rfl ?_
  refine gBipush X1 hx (64 : Int32) (hb hby d14_12) (q := 14) rfl (by decide) ?_
  refine gIrem X1 hx (hb hby d14_14) (q := 15) rfl (by decide) ?_
  refine gLshl X1 hx (hb hby d14_15) (q := 16) rfl ?_
  refine gLconst X1 hx (1 : Int64) (hb hby d14_16) (q := 17) rfl (by decide) ?_
  refine gLsub X1 hx (hb hby d14_17) (q := 18) rfl ?_
  refine gLand X1 hx (hb hby d14_18) (q := 19) rfl ?_
  refine gLstoreN X1 hx (hb hby d14_19) (q := 20) rfl (L' := #[.val (.ref a), .val (.int x1), .val (.long ((own_bf (F n1) (F (n1 + 1)) (F (n1 + 2)) ((x1 - (x1 % (64 : Int32))) % (32 : Int32))) &&& (((1 : Int64) <<< ((x1 % (64 : Int32)).toInt64 &&& 63)) - (1 : Int64)))), .second]) rfl ?_
  refine gAloadN X1 hx (hb hby d14_20) (q := 21) rfl rfl rfl ?_
  refine gGetF X1 hx hZ (host := "") hown (Or.inl (hw _ (List.mem_of_getElem? (i := 59) rfl))) Via.refl e1 pI (hb hby d14_21) (q := 24) rfl (fun T3 X3 e3 => ?_)
  refine gAloadN X3 hx (hb hby d14_24) (q := 25) rfl rfl rfl ?_
  refine gGetF X3 hx hZ (host := "") hown (Or.inl (hw _ (List.mem_of_getElem? (i := 63) rfl))) Via.refl e3 pS (hb hby d14_25) (q := 28) rfl (fun T4 X4 e4 => ?_)
  refine gIloadN X4 hx (hb hby d14_28) (q := 29) rfl rfl ?_
  refine gBipush X4 hx (64 : Int32) (hb hby d14_29) (q := 31) rfl (by decide) ?_
  refine gIdiv X4 hx (hb hby d14_31) (q := 32) rfl (by decide) ?_
  refine gIadd X4 hx (hb hby d14_32) (q := 33) rfl ?_
  refine gIaload X4 hx hZ e4 pA (hb hby d14_33) (q := 34) rfl (own_idx hm hm1).1 (v := .int (F m1)) (by rw [(own_idx (F := F) hm hm1).2, own_l_get _ _ hm1]) ?_
  refine gLloadN X4 hx (hb hby d14_34) (q := 35) rfl rfl ?_
  refine gCallS X4 hx hZ hown (hw _ (List.mem_of_getElem? (i := 81) rfl)) (hw _ (List.mem_of_getElem? (i := 82) rfl)) (hw _ (List.mem_of_getElem? (i := 83) rfl)) (hw _ (List.mem_of_getElem? (i := 84) rfl)) (by decide) (rmBL l Z a0 hw [] ((own_bf (F n1) (F (n1 + 1)) (F (n1 + 2)) ((x1 - (x1 % (64 : Int32))) % (32 : Int32))) &&& (((1 : Int64) <<< ((x1 % (64 : Int32)).toInt64 &&& 63)) - (1 : Int64))) h0 n0 Z0) (W := 1) (by decide) (by decide) e4 (by rw [hml]; rfl) [(.long ((own_bf (F n1) (F (n1 + 1)) (F (n1 + 2)) ((x1 - (x1 % (64 : Int32))) % (32 : Int32))) &&& (((1 : Int64) <<< ((x1 % (64 : Int32)).toInt64 &&& 63)) - (1 : Int64))))] (lenOf pd7 rfl) rfl (S := [(.int (F m1))]) rfl (Nat.le_of_eq rfl) (hb hby d14_35) (q := 38) rfl (by decide) (by decide) (fun r5 T5 M5 X5 q5 => ?_)
  obtain ⟨rfl, M5n, e5⟩ := q5
  have N6 := Fr.app N2 M5n
  dsimp only [Option.toList, List.cons_append, List.nil_append]
  refine gIadd X5 hx (hb hby d14_38) (q := 39) rfl ?_
  exact gRetI X5 hx hlk hret (hb hby d14_39) (by decide) (by decide) ⟨rfl, N6, e5⟩

theorem ef14 (m : MethodId) (x0 : Int32) (x1 : Int32) (x2 : Int32) (x3 : Int32) (x4 : Int32) : entryFrame m #[(.int x0), (.int x1), (.int x2), (.int x3), (.int x4)] maxLocals = mkF m 0 #[.val (.int x0), .val (.int x1), .val (.int x2), .val (.int x3), .val (.int x4), .unset, .unset, .unset, .unset, .unset, .unset, .unset, .unset, .unset, .unset, .unset, .unset] [] := by first | (simp [entryFrame, mkF, argsToLocals, Value.category, maxLocals]; done) | rfl
def Q_rm0 (Z : State) (x0 : Int32) (x1 : Int32) (x2 : Int32) (x3 : Int32) (x4 : Int32) (h0 : Heap) (n0 : Nat) (v : Option Value) (h : Heap) (L : List Loc) : Prop := v = some (.int 1) ∧ Fr n0 L
theorem pd8 : parseMethodDescriptor "(I)V" = some ⟨[.int], none⟩ := by decide +kernel
theorem pd9 : parseMethodDescriptor "()Lcom/example/libpalin/libpalin/RankedBits;" = some ⟨[], some (.object "com/example/libpalin/libpalin/RankedBits")⟩ := by decide +kernel
theorem pd10 : parseMethodDescriptor "(II)J" = some ⟨[.int, .int], some (.long)⟩ := by decide +kernel
set_option maxRecDepth 65536 in
set_option maxHeartbeats 40000000 in
theorem rm0 (l : Launch) (Z : State) (a0 : Array Value) (hw : ∀ d ∈ tables_1, d.before a0 Z = true) (ws : List Jvm.Cond) (x0 : Int32) (x1 : Int32) (x2 : Int32) (x3 : Int32) (x4 : Int32) (h0 : Heap) (n0 : Nat) (Z0 : n0 ≤ h0.size)  :
    Con l Z x code maxLocals ret ws room_1 #[(.int x0), (.int x1), (.int x2), (.int x3), (.int x4)] h0 (room_1.cells) (room_1.slots) (Q_rm0 Z x0 x1 x2 x3 x4 h0 n0) := by
  refine Con.of (plainFor_of_name pn5) ?_
  intro p e s m below meth c s₁ hx hby hml hown hnm hret hlk hZ X0 e0
  have N0 := Fr.nil n0
  refine goE (L := #[.val (.int x0), .val (.int x1), .val (.int x2), .val (.int x3), .val (.int x4), .unset, .unset, .unset, .unset, .unset, .unset, .unset, .unset, .unset, .unset, .unset, .unset]) (ef14 m x0 x1 x2 x3 x4) ?_
  refine gIloadN X0 hx (hb hby at_0) (q := 1) rfl rfl ?_
  refine gSipush X0 hx (255 : Int32) (hb hby at_1) (q := 4) rfl (by decide) ?_
  refine gIand X0 hx (hb hby at_4) (q := 5) rfl ?_
  generalize hsz32 : (x0 &&& (255 : Int32)) = sz32
  refine gIstore X0 hx (hb hby at_5) (q := 7) rfl (L' := #[.val (.int x0), .val (.int x1), .val (.int x2), .val (.int x3), .val (.int x4), .val (.int sz32), .unset, .unset, .unset, .unset, .unset, .unset, .unset, .unset, .unset, .unset, .unset]) rfl ?_
  refine gIload X0 hx (hb hby at_7) (q := 9) rfl rfl ?_
  by_cases c1 : sz32 = (0 : Int32)
  · refine gIfN X0 hx (hb hby at_9) (q := 12) rfl (XT.i0_ne_f c1) ?_
    refine gIconst X0 hx (1 : Int32) (hb hby at_12) (q := 13) rfl (by decide) ?_
    exact gRetZ X0 hx hlk hret (hb hby at_13) (by decide) (by decide) (Or.inr rfl) ⟨rfl, N0⟩
  · refine gIfY X0 hx (hb hby at_9) (q := 14) (by decide) (by decide) (XT.i0_ne_t c1) ?_
    obtain ⟨sz, hsz1, hsz2, rfl⟩ := own_size hsz32 c1
    refine gIloadN X0 hx (hb hby at_14) (q := 15) rfl rfl ?_
    refine gBipush X0 hx (7 : Int32) (hb hby at_15) (q := 17) rfl (by decide) ?_
    refine gIand X0 hx (hb hby at_17) (q := 18) rfl ?_
    generalize hf32 : (x1 &&& (7 : Int32)) = f32
    refine gIstore X0 hx (hb hby at_18) (q := 20) rfl (L' := #[.val (.int x0), .val (.int x1), .val (.int x2), .val (.int x3), .val (.int x4), .val (.int (Int32.ofNat sz)), .val (.int f32), .unset, .unset, .unset, .unset, .unset, .unset, .unset, .unset, .unset, .unset]) rfl ?_
    obtain ⟨fr, hfr, rfl⟩ := own_from hf32
    refine gIloadN X0 hx (hb hby at_20) (q := 21) rfl rfl ?_
    refine gLdc X0 hx hZ hown (hw _ (List.mem_of_getElem? (i := 0) rfl)) (hb hby at_21) (q := 23) rfl ?_
    refine gIand X0 hx (hb hby at_23) (q := 24) rfl ?_
    refine gIload X0 hx (hb hby at_24) (q := 26) rfl rfl ?_
    refine gIrem X0 hx (hb hby at_26) (q := 27) rfl (own_nz hsz1 hsz2) ?_
    generalize hi32 : ((x2 &&& (2147483647 : Int32)) % (Int32.ofNat sz)) = i32
    refine gIstore X0 hx (hb hby at_27) (q := 29) rfl (L' := #[.val (.int x0), .val (.int x1), .val (.int x2), .val (.int x3), .val (.int x4), .val (.int (Int32.ofNat sz)), .val (.int (Int32.ofNat fr)), .val (.int i32), .unset, .unset, .unset, .unset, .unset, .unset, .unset, .unset, .unset]) rfl ?_
    obtain ⟨ii, hii, rfl⟩ := own_rem hsz1 hsz2 hi32
    refine gIloadN X0 hx (hb hby at_29) (q := 30) rfl rfl ?_
    refine gLdc X0 hx hZ hown (hw _ (List.mem_of_getElem? (i := 0) rfl)) (hb hby at_30) (q := 32) rfl ?_
    refine gIand X0 hx (hb hby at_32) (q := 33) rfl ?_
    refine gIload X0 hx (hb hby at_33) (q := 35) rfl rfl ?_
    refine gIrem X0 hx (hb hby at_35) (q := 36) rfl (own_nz hsz1 hsz2) ?_
    generalize hj32 : ((x3 &&& (2147483647 : Int32)) % (Int32.ofNat sz)) = j32
    refine gIstore X0 hx (hb hby at_36) (q := 38) rfl (L' := #[.val (.int x0), .val (.int x1), .val (.int x2), .val (.int x3), .val (.int x4), .val (.int (Int32.ofNat sz)), .val (.int (Int32.ofNat fr)), .val (.int (Int32.ofNat ii)), .val (.int j32), .unset, .unset, .unset, .unset, .unset, .unset, .unset, .unset]) rfl ?_
    obtain ⟨jj, hjj, rfl⟩ := own_rem hsz1 hsz2 hj32
    refine gIload X0 hx (hb hby at_38) (q := 40) rfl rfl ?_
    refine gLdc X0 hx hZ hown (hw _ (List.mem_of_getElem? (i := 0) rfl)) (hb hby at_40) (q := 42) rfl ?_
    refine gIand X0 hx (hb hby at_42) (q := 43) rfl ?_
    refine gIload X0 hx (hb hby at_43) (q := 45) rfl rfl ?_
    refine gIconst X0 hx (1 : Int32) (hb hby at_45) (q := 46) rfl (by decide) ?_
    refine gIadd X0 hx (hb hby at_46) (q := 47) rfl ?_
    refine gIrem X0 hx (hb hby at_47) (q := 48) rfl (own_nz1 hsz2) ?_
    generalize hk32 : ((x4 &&& (2147483647 : Int32)) % ((Int32.ofNat sz) + (1 : Int32))) = k32
    refine gIstore X0 hx (hb hby at_48) (q := 50) rfl (L' := #[.val (.int x0), .val (.int x1), .val (.int x2), .val (.int x3), .val (.int x4), .val (.int (Int32.ofNat sz)), .val (.int (Int32.ofNat fr)), .val (.int (Int32.ofNat ii)), .val (.int (Int32.ofNat jj)), .val (.int k32), .unset, .unset, .unset, .unset, .unset, .unset, .unset]) rfl ?_
    obtain ⟨kx, hkx, rfl⟩ := own_rem1 hsz2 hk32
    refine gBipush X0 hx (24 : Int32) (hb hby at_50) (q := 52) rfl (by decide) ?_
    refine gNewP X0 hx hZ (hw _ (List.mem_of_getElem? (i := 1) rfl)) e0 (hb hby at_52) (q := 54) rfl (by decide) (cap := 24) (by decide) (by decide) (by decide) (by decide) (fun T2 h2 a2 k2 X2 e2 g2 E2 A2 => ?_)
    have le_a2 : n0 ≤ a2 := by rw [g2]; exact Z0
    have Z3 := Nat.le_trans Z0 E2.1
    have B2 : Ary Z h2 a2 k2 (.int) [(.int (0 : Int32)), (.int (0 : Int32)), (.int (0 : Int32)), (.int (0 : Int32)), (.int (0 : Int32)), (.int (0 : Int32)), (.int (0 : Int32)), (.int (0 : Int32)), (.int (0 : Int32)), (.int (0 : Int32)), (.int (0 : Int32)), (.int (0 : Int32)), (.int (0 : Int32)), (.int (0 : Int32)), (.int (0 : Int32)), (.int (0 : Int32)), (.int (0 : Int32)), (.int (0 : Int32)), (.int (0 : Int32)), (.int (0 : Int32)), (.int (0 : Int32)), (.int (0 : Int32)), (.int (0 : Int32)), (.int (0 : Int32))] := A2
    have B4 : Ary Z h2 a2 k2 (.int) (own_l own_z) := own_toz B2
    refine gAstore X2 hx (hb hby at_54) (q := 56) rfl rfl (L' := #[.val (.int x0), .val (.int x1), .val (.int x2), .val (.int x3), .val (.int x4), .val (.int (Int32.ofNat sz)), .val (.int (Int32.ofNat fr)), .val (.int (Int32.ofNat ii)), .val (.int (Int32.ofNat jj)), .val (.int (Int32.ofNat kx)), .val (.ref a2), .unset, .unset, .unset, .unset, .unset, .unset]) rfl ?_
    refine gNewO X2 hx hZ hown (hw _ (List.mem_of_getElem? (i := 2) rfl)) (hw _ (List.mem_of_getElem? (i := 3) rfl)) (hw _ (List.mem_of_getElem? (i := 4) rfl)) e2 (hb hby at_56) (q := 59) rfl (by decide) (by decide) (fun T5 h5 a5 X5 e5 g5 E5 A5 D5 => ?_)
    have A6 := Ary.ext E5 B4
    have le_a5 : n0 ≤ a5 := by rw [g5]; exact Z3
    have ne_a2_a5 : a2 ≠ a5 := by rw [g5]; exact Nat.ne_of_lt B4.lt
    have Z7 := Nat.le_trans Z3 E5.1
    have F8 : Fld Z h5 a5 "com/example/libpalin/libpalin/RankedBits$Builder" "ints" "[I" (.null) := D5 (Or.inr (hw _ (List.mem_of_getElem? (i := 12) rfl))) (ty := .array (.int)) (by decide)
    have F9 : Fld Z h5 a5 "com/example/libpalin/libpalin/RankedBits$Builder" "from" "I" (.int (0 : Int32)) := D5 (Or.inr (hw _ (List.mem_of_getElem? (i := 14) rfl))) (ty := .int) (by decide)
    have F10 : Fld Z h5 a5 "com/example/libpalin/libpalin/RankedBits$Builder" "size" "I" (.int (0 : Int32)) := D5 (Or.inr (hw _ (List.mem_of_getElem? (i := 16) rfl))) (ty := .int) (by decide)
    clear D5
    refine gDup X5 hx (hb hby at_59) (q := 60) rfl rfl ?_
    refine gAload X5 hx (hb hby at_60) (q := 62) rfl rfl rfl ?_
    refine gIload X5 hx (hb hby at_62) (q := 64) rfl rfl ?_
    refine gIload X5 hx (hb hby at_64) (q := 66) rfl rfl ?_
    obtain ⟨hp1, hp2, hp3⟩ := own_rng fr sz hfr hsz2
    refine gCallN X5 hx hZ rfl hown (hw _ (List.mem_of_getElem? (i := 5) rfl)) (hw _ (List.mem_of_getElem? (i := 6) rfl)) (hw _ (List.mem_of_getElem? (i := 4) rfl)) (hw _ (List.mem_of_getElem? (i := 7) rfl)) (by decide) (rmBu l Z a0 hw [] a5 a2 k2 (Int32.ofNat fr) (Int32.ofNat sz) h5 n0 Z7 F8 F9 F10 A5 A6 le_a5 le_a2 ne_a2_a5 hp1 hp2 hp3) (W := 1) (by decide) (by decide) e5 (by rw [hml]; rfl) [(.ref a2), (.int (Int32.ofNat fr)), (.int (Int32.ofNat sz))] (lenOf pd5 rfl) rfl (S := [(.ref a5)]) rfl (Nat.le_of_eq rfl) (hb hby at_66) (q := 69) rfl (by decide) (by decide) (fun r11 T11 M11 X11 q11 => ?_)
    obtain ⟨rfl, M11n, K11, P11e, P11i, P11f, P11s, P11a⟩ := q11
    have N12 := Fr.app N0 M11n
    have Z13 := Nat.le_trans Z7 K11.1
    dsimp only [Option.toList, List.cons_append, List.nil_append]
    refine gAstore X11 hx (hb hby at_69) (q := 71) rfl rfl (L' := #[.val (.int x0), .val (.int x1), .val (.int x2), .val (.int x3), .val (.int x4), .val (.int (Int32.ofNat sz)), .val (.int (Int32.ofNat fr)), .val (.int (Int32.ofNat ii)), .val (.int (Int32.ofNat jj)), .val (.int (Int32.ofNat kx)), .val (.ref a2), .val (.ref a5), .unset, .unset, .unset, .unset, .unset]) rfl ?_
    refine gAload X11 hx (hb hby at_71) (q := 73) rfl rfl rfl ?_
    refine gIload X11 hx (hb hby at_73) (q := 75) rfl rfl ?_
    refine gCallV X11 hx hZ hown (hw _ (List.mem_of_getElem? (i := 28) rfl)) (hw _ (List.mem_of_getElem? (i := 29) rfl)) (hw _ (List.mem_of_getElem? (i := 31) rfl)) (hw _ (List.mem_of_getElem? (i := 30) rfl)) (hw _ (List.mem_of_getElem? (i := 4) rfl)) (hw _ (List.mem_of_getElem? (i := 32) rfl)) (notFace_of_selects (args := #[]) (mvT hZ (hw _ (List.mem_of_getElem? (i := 31) rfl)))) (by decide) (rmSe l Z a0 hw [] a5 a2 k2 (Int32.ofNat fr) (Int32.ofNat sz) (Int32.ofNat ii) own_z (fr + ii / 32) T11.heap n0 Z13 P11i P11f P11s P11e P11a le_a2 ne_a2_a5 (own_ix fr ii hfr (by omega)) (by omega)) (W := 0) (by decide) (by decide) rfl (by rw [hml]; rfl) P11e [(.int (Int32.ofNat ii))] (lenOf pd8 rfl) rfl (S := []) rfl (Nat.le_of_eq rfl) (hb hby at_75) (q := 78) rfl (by decide) (by decide) (fun r14 T14 M14 X14 q14 => ?_)
    obtain ⟨rfl, M14n, K14, P14a⟩ := q14
    have N15 := Fr.app N12 M14n
    have E16 := Exa.keep P11e K14
    have F17 := Fld.keep P11i K14 (ninS ne_a2_a5.symm nin0)
    have F18 := Fld.keep P11f K14 (ninS ne_a2_a5.symm nin0)
    have F19 := Fld.keep P11s K14 (ninS ne_a2_a5.symm nin0)
    have Z20 := Nat.le_trans Z13 K14.1
    dsimp only [Option.toList, List.cons_append, List.nil_append]
    refine gAload X14 hx (hb hby at_78) (q := 80) rfl rfl rfl ?_
    refine gIload X14 hx (hb hby at_80) (q := 82) rfl rfl ?_
    refine gCallV X14 hx hZ hown (hw _ (List.mem_of_getElem? (i := 28) rfl)) (hw _ (List.mem_of_getElem? (i := 29) rfl)) (hw _ (List.mem_of_getElem? (i := 31) rfl)) (hw _ (List.mem_of_getElem? (i := 30) rfl)) (hw _ (List.mem_of_getElem? (i := 4) rfl)) (hw _ (List.mem_of_getElem? (i := 32) rfl)) (notFace_of_selects (args := #[]) (mvT hZ (hw _ (List.mem_of_getElem? (i := 31) rfl)))) (by decide) (rmSe l Z a0 hw [] a5 a2 k2 (Int32.ofNat fr) (Int32.ofNat sz) (Int32.ofNat jj) (own_st own_z (fr + ii / 32) ((own_z (fr + ii / 32)) ||| ((1 : Int32) <<< (((Int32.ofNat ii) % (32 : Int32)) &&& 31)))) (fr + jj / 32) T14.heap n0 Z20 F17 F18 F19 E16 P14a le_a2 ne_a2_a5 (own_ix fr jj hfr (by omega)) (by omega)) (W := 0) (by decide) (by decide) rfl (by rw [hml]; rfl) E16 [(.int (Int32.ofNat jj))] (lenOf pd8 rfl) rfl (S := []) rfl (Nat.le_of_eq rfl) (hb hby at_82) (q := 85) rfl (by decide) (by decide) (fun r21 T21 M21 X21 q21 => ?_)
    obtain ⟨rfl, M21n, K21, P21a⟩ := q21
    have N22 := Fr.app N15 M21n
    have E23 := Exa.keep E16 K21
    have F24 := Fld.keep F17 K21 (ninS ne_a2_a5.symm nin0)
    have F25 := Fld.keep F18 K21 (ninS ne_a2_a5.symm nin0)
    have F26 := Fld.keep F19 K21 (ninS ne_a2_a5.symm nin0)
    have Z27 := Nat.le_trans Z20 K21.1
    dsimp only [Option.toList, List.cons_append, List.nil_append]
    have B28 : Ary Z T21.heap a2 k2 (.int) (own_l (own_W fr ii jj)) := by have zA := P21a; rw [own_F2 fr ii jj (by omega) (by omega)] at zA; exact zA
    refine gAload X21 hx (hb hby at_85) (q := 87) rfl rfl rfl ?_
    obtain ⟨ec, eg, g0, g16, glt⟩ := own_bdf fr sz hfr hsz1 hsz2
    refine gCallV X21 hx hZ hown (hw _ (List.mem_of_getElem? (i := 33) rfl)) (hw _ (List.mem_of_getElem? (i := 34) rfl)) (hw _ (List.mem_of_getElem? (i := 36) rfl)) (hw _ (List.mem_of_getElem? (i := 35) rfl)) (hw _ (List.mem_of_getElem? (i := 4) rfl)) (hw _ (List.mem_of_getElem? (i := 37) rfl)) (notFace_of_selects (args := #[]) (mvT hZ (hw _ (List.mem_of_getElem? (i := 36) rfl)))) (by decide) (rmBd l Z a0 hw [] a5 a2 k2 (Int32.ofNat fr) (Int32.ofNat sz) (Int32.ofNat (fr + (sz / 32 + 3))) (Int32.ofNat (sz / 64 + 1)) (own_W fr ii jj) fr (fr + (sz / 32 + 3)) (sz / 64 + 1) T21.heap n0 Z27 F24 F25 F26 E23 B28 le_a2 ne_a2_a5 (own_ofI (by omega)) (own_ofI (by omega)) (own_ofI (by omega)) (by omega) (by omega) ec eg g0 g16 glt) (W := 0) (by decide) (by decide) rfl (by rw [hml]; rfl) E23 [] (lenOf pd9 rfl) rfl (S := []) rfl (Nat.le_of_eq rfl) (hb hby at_87) (q := 90) rfl (by decide) (by decide) (fun r29 T29 M29 X29 q29 => ?_)
    obtain ⟨rr, rfl, M29n, K29, P29e, P29i, P29f, P29c, P29a, gr⟩ := q29
    have N30 := Fr.app N22 M29n
    have E31 := Exa.keep E23 K29
    have F32 := Fld.keep F24 K29 (ninS ne_a2_a5.symm nin0)
    have F33 := Fld.keep F25 K29 (ninS ne_a2_a5.symm nin0)
    have F34 := Fld.keep F26 K29 (ninS ne_a2_a5.symm nin0)
    have Z35 := Nat.le_trans Z27 K29.1
    dsimp only [Option.toList, List.cons_append, List.nil_append]
    refine gAstore X29 hx (hb hby at_90) (q := 92) rfl rfl (L' := #[.val (.int x0), .val (.int x1), .val (.int x2), .val (.int x3), .val (.int x4), .val (.int (Int32.ofNat sz)), .val (.int (Int32.ofNat fr)), .val (.int (Int32.ofNat ii)), .val (.int (Int32.ofNat jj)), .val (.int (Int32.ofNat kx)), .val (.ref a2), .val (.ref a5), .val (.ref rr), .unset, .unset, .unset, .unset]) rfl ?_
    refine gIload X29 hx (hb hby at_92) (q := 94) rfl rfl ?_
    refine gIload X29 hx (hb hby at_94) (q := 96) rfl rfl ?_
    refine gCallS X29 hx hZ hown (hw _ (List.mem_of_getElem? (i := 65) rfl)) (hw _ (List.mem_of_getElem? (i := 66) rfl)) (hw _ (List.mem_of_getElem? (i := 67) rfl)) (hw _ (List.mem_of_getElem? (i := 68) rfl)) (by decide) (rmBA l Z a0 hw [] (Int32.ofNat ii) (Int32.ofNat kx) T29.heap n0 Z35) (W := 0) (by decide) (by decide) rfl (by rw [hml]; rfl) [(.int (Int32.ofNat ii)), (.int (Int32.ofNat kx))] (lenOf pd10 rfl) rfl (S := []) rfl (Nat.le_of_eq rfl) (hb hby at_96) (q := 99) rfl (by decide) (by decide) (fun r36 T36 M36 X36 q36 => ?_)
    obtain ⟨rfl, M36n, e36⟩ := q36
    have N37 := Fr.app N30 M36n
    dsimp only [Option.toList, List.cons_append, List.nil_append]
    refine gIload X36 hx (hb hby at_99) (q := 101) rfl rfl ?_
    refine gIload X36 hx (hb hby at_101) (q := 103) rfl rfl ?_
    refine gCallS X36 hx hZ hown (hw _ (List.mem_of_getElem? (i := 65) rfl)) (hw _ (List.mem_of_getElem? (i := 66) rfl)) (hw _ (List.mem_of_getElem? (i := 67) rfl)) (hw _ (List.mem_of_getElem? (i := 68) rfl)) (by decide) (rmBA l Z a0 hw [] (Int32.ofNat jj) (Int32.ofNat kx) T29.heap n0 Z35) (W := 2) (by decide) (by decide) e36 (by rw [hml]; rfl) [(.int (Int32.ofNat jj)), (.int (Int32.ofNat kx))] (lenOf pd10 rfl) rfl (S := [(.long (own_ba (Int32.ofNat ii) (Int32.ofNat kx)))]) rfl (Nat.le_of_eq rfl) (hb hby at_103) (q := 106) rfl (by decide) (by decide) (fun r38 T38 M38 X38 q38 => ?_)
    obtain ⟨rfl, M38n, e38⟩ := q38
    have N39 := Fr.app N37 M38n
    dsimp only [Option.toList, List.cons_append, List.nil_append]
    refine gLor X38 hx (hb hby at_106) (q := 107) rfl ?_
    generalize heb : ((own_ba (Int32.ofNat ii) (Int32.ofNat kx)) ||| (own_ba (Int32.ofNat jj) (Int32.ofNat kx))) = eb
    refine gLstore X38 hx (hb hby at_107) (q := 109) rfl (L' := #[.val (.int x0), .val (.int x1), .val (.int x2), .val (.int x3), .val (.int x4), .val (.int (Int32.ofNat sz)), .val (.int (Int32.ofNat fr)), .val (.int (Int32.ofNat ii)), .val (.int (Int32.ofNat jj)), .val (.int (Int32.ofNat kx)), .val (.ref a2), .val (.ref a5), .val (.ref rr), .val (.long eb), .second, .unset, .unset]) rfl ?_
    refine gIload X38 hx (hb hby at_109) (q := 111) rfl rfl ?_
    refine gIload X38 hx (hb hby at_111) (q := 113) rfl rfl ?_
    have J113_42 : ∀ v41 : Int32, v41 = (if (Int32.ofNat ii) < (Int32.ofNat kx) then (1 : Int32) else (0 : Int32)) → Go p.tables e below (Done s (Q_rm0 Z x0 x1 x2 x3 x4 h0 n0) (room_1.cells) (room_1.slots)) (T38.setTop (mkF m 121 #[.val (.int x0), .val (.int x1), .val (.int x2), .val (.int x3), .val (.int x4), .val (.int (Int32.ofNat sz)), .val (.int (Int32.ofNat fr)), .val (.int (Int32.ofNat ii)), .val (.int (Int32.ofNat jj)), .val (.int (Int32.ofNat kx)), .val (.ref a2), .val (.ref a5), .val (.ref rr), .val (.long eb), .second, .unset, .unset] [(.int v41)])) := by
      intro v41 hv41
      refine gIload X38 hx (hb hby at_121) (q := 123) rfl rfl ?_
      refine gIload X38 hx (hb hby at_123) (q := 125) rfl rfl ?_
      have J125_45 : ∀ v44 : Int32, v44 = (if (Int32.ofNat jj) < (Int32.ofNat kx) then (if (Int32.ofNat jj) = (Int32.ofNat ii) then (0 : Int32) else (1 : Int32)) else (0 : Int32)) → Go p.tables e below (Done s (Q_rm0 Z x0 x1 x2 x3 x4 h0 n0) (room_1.cells) (room_1.slots)) (T38.setTop (mkF m 140 #[.val (.int x0), .val (.int x1), .val (.int x2), .val (.int x3), .val (.int x4), .val (.int (Int32.ofNat sz)), .val (.int (Int32.ofNat fr)), .val (.int (Int32.ofNat ii)), .val (.int (Int32.ofNat jj)), .val (.int (Int32.ofNat kx)), .val (.ref a2), .val (.ref a5), .val (.ref rr), .val (.long eb), .second, .unset, .unset] [(.int v44), (.int v41)])) := by
        intro v44 hv44
        refine gIadd X38 hx (hb hby at_140) (q := 141) rfl ?_
        generalize hxc : (v41 + v44) = xc
        refine gIstore X38 hx (hb hby at_141) (q := 143) rfl (L' := #[.val (.int x0), .val (.int x1), .val (.int x2), .val (.int x3), .val (.int x4), .val (.int (Int32.ofNat sz)), .val (.int (Int32.ofNat fr)), .val (.int (Int32.ofNat ii)), .val (.int (Int32.ofNat jj)), .val (.int (Int32.ofNat kx)), .val (.ref a2), .val (.ref a5), .val (.ref rr), .val (.long eb), .second, .val (.int xc), .unset]) rfl ?_
        refine gIload X38 hx (hb hby at_143) (q := 145) rfl rfl ?_
        refine gIload X38 hx (hb hby at_145) (q := 147) rfl rfl ?_
        have J147_48 : ∀ v47 : Int32, v47 = (if (Int32.ofNat ii) = (Int32.ofNat jj) then (1 : Int32) else (2 : Int32)) → Go p.tables e below (Done s (Q_rm0 Z x0 x1 x2 x3 x4 h0 n0) (room_1.cells) (room_1.slots)) (T38.setTop (mkF m 155 #[.val (.int x0), .val (.int x1), .val (.int x2), .val (.int x3), .val (.int x4), .val (.int (Int32.ofNat sz)), .val (.int (Int32.ofNat fr)), .val (.int (Int32.ofNat ii)), .val (.int (Int32.ofNat jj)), .val (.int (Int32.ofNat kx)), .val (.ref a2), .val (.ref a5), .val (.ref rr), .val (.long eb), .second, .val (.int xc), .unset] [(.int v47)])) := by
          intro v47 hv47
          refine gIstore X38 hx (hb hby at_155) (q := 157) rfl (L' := #[.val (.int x0), .val (.int x1), .val (.int x2), .val (.int x3), .val (.int x4), .val (.int (Int32.ofNat sz)), .val (.int (Int32.ofNat fr)), .val (.int (Int32.ofNat ii)), .val (.int (Int32.ofNat jj)), .val (.int (Int32.ofNat kx)), .val (.ref a2), .val (.ref a5), .val (.ref rr), .val (.long eb), .second, .val (.int xc), .val (.int v47)]) rfl ?_
          refine gAload X38 hx (hb hby at_157) (q := 159) rfl rfl rfl ?_
          refine gIload X38 hx (hb hby at_159) (q := 161) rfl rfl ?_
          refine gCallV X38 hx hZ hown (hw _ (List.mem_of_getElem? (i := 69) rfl)) (hw _ (List.mem_of_getElem? (i := 70) rfl)) (hw _ (List.mem_of_getElem? (i := 72) rfl)) (hw _ (List.mem_of_getElem? (i := 71) rfl)) (hw _ (List.mem_of_getElem? (i := 19) rfl)) (hw _ (List.mem_of_getElem? (i := 73) rfl)) (notFace_of_selects (args := #[]) (mvT hZ (hw _ (List.mem_of_getElem? (i := 72) rfl)))) (by decide) (rmBf l Z a0 hw [] rr a2 k2 (Int32.ofNat fr) (Int32.ofNat (fr + (sz / 32 + 3))) (Int32.ofNat kx) (Int32.ofNat (fr + kx / 32)) (own_cnt (own_W fr ii jj) fr (fr + (sz / 32 + 3)) (sz / 64 + 1)) (fr + kx / 32) T29.heap n0 Z35 P29i P29f P29c P29e P29a (own_ix' fr kx hfr (by omega)) (own_ofI (by omega)) (by omega) (own_ad1 (own_ofI (by omega)) (by omega)) (by omega) (own_ad2 (own_ofI (by omega)) (by omega)) (by omega)) (W := 0) (by decide) (by decide) e38 (by rw [hml]; rfl) P29e [(.int (Int32.ofNat kx))] (lenOf pd6 rfl) rfl (S := []) rfl (Nat.le_of_eq rfl) (hb hby at_161) (q := 164) rfl (by decide) (by decide) (fun r49 T49 M49 X49 q49 => ?_)
          obtain ⟨rfl, M49n, e49⟩ := q49
          have N50 := Fr.app N39 M49n
          dsimp only [Option.toList, List.cons_append, List.nil_append]
          generalize hrb : (own_bf ((own_cnt (own_W fr ii jj) fr (fr + (sz / 32 + 3)) (sz / 64 + 1)) (fr + kx / 32)) ((own_cnt (own_W fr ii jj) fr (fr + (sz / 32 + 3)) (sz / 64 + 1)) ((fr + kx / 32) + 1)) ((own_cnt (own_W fr ii jj) fr (fr + (sz / 32 + 3)) (sz / 64 + 1)) ((fr + kx / 32) + 2)) ((Int32.ofNat kx) % (32 : Int32))) = rb
          have zrb : rb = eb := by rw [← hrb, ← heb]; exact own_lawB fr sz ii jj kx hfr hsz2 hii hjj hkx
          refine gLload X49 hx (hb hby at_164) (q := 166) rfl rfl ?_
          refine gLcmp X49 hx (hb hby at_166) (q := 167) rfl ?_
          refine gIfN X49 hx (hb hby at_167) (q := 170) rfl (XT.ll_ne_f zrb) ?_
          refine gAload X49 hx (hb hby at_170) (q := 172) rfl rfl rfl ?_
          refine gIload X49 hx (hb hby at_172) (q := 174) rfl rfl ?_
          refine gCallV X49 hx hZ hown (hw _ (List.mem_of_getElem? (i := 75) rfl)) (hw _ (List.mem_of_getElem? (i := 76) rfl)) (hw _ (List.mem_of_getElem? (i := 78) rfl)) (hw _ (List.mem_of_getElem? (i := 77) rfl)) (hw _ (List.mem_of_getElem? (i := 19) rfl)) (hw _ (List.mem_of_getElem? (i := 79) rfl)) (notFace_of_selects (args := #[]) (mvT hZ (hw _ (List.mem_of_getElem? (i := 78) rfl)))) (by decide) (rmSB l Z a0 hw [] rr a2 k2 (Int32.ofNat fr) (Int32.ofNat (fr + (sz / 32 + 3))) (Int32.ofNat kx) (Int32.ofNat (fr + (kx - kx % 64) / 32)) (own_cnt (own_W fr ii jj) fr (fr + (sz / 32 + 3)) (sz / 64 + 1)) (fr + (kx - kx % 64) / 32) ((fr + (sz / 32 + 3)) + kx / 64) T29.heap n0 Z35 P29i P29f P29c P29e P29a (own_ixb fr kx hfr (by omega)) (own_ofI (by omega)) (by omega) (own_ad1 (own_ofI (by omega)) (by omega)) (by omega) (own_ad2 (own_ofI (by omega)) (by omega)) (by omega) (own_ixm fr sz kx hfr hsz2 (by omega)) (by omega)) (W := 0) (by decide) (by decide) e49 (by rw [hml]; rfl) P29e [(.int (Int32.ofNat kx))] (lenOf pd1 rfl) rfl (S := []) rfl (Nat.le_of_eq rfl) (hb hby at_174) (q := 177) rfl (by decide) (by decide) (fun r51 T51 M51 X51 q51 => ?_)
          obtain ⟨rfl, M51n, e51⟩ := q51
          have N52 := Fr.app N50 M51n
          dsimp only [Option.toList, List.cons_append, List.nil_append]
          generalize hsb : (((own_cnt (own_W fr ii jj) fr (fr + (sz / 32 + 3)) (sz / 64 + 1)) ((fr + (sz / 32 + 3)) + kx / 64)) + (own_bcL ((own_bf ((own_cnt (own_W fr ii jj) fr (fr + (sz / 32 + 3)) (sz / 64 + 1)) (fr + (kx - kx % 64) / 32)) ((own_cnt (own_W fr ii jj) fr (fr + (sz / 32 + 3)) (sz / 64 + 1)) ((fr + (kx - kx % 64) / 32) + 1)) ((own_cnt (own_W fr ii jj) fr (fr + (sz / 32 + 3)) (sz / 64 + 1)) ((fr + (kx - kx % 64) / 32) + 2)) (((Int32.ofNat kx) - ((Int32.ofNat kx) % (64 : Int32))) % (32 : Int32))) &&& (((1 : Int64) <<< (((Int32.ofNat kx) % (64 : Int32)).toInt64 &&& 63)) - (1 : Int64))))) = sb
          have zsb : sb = xc := by rw [← hsb, own_lawS fr sz ii jj kx hfr hsz2 hii hjj hkx]; rw [← hxc, hv41, hv44]; exact own_exp1 ii jj kx (by omega) (by omega) (by omega)
          refine gIload X51 hx (hb hby at_177) (q := 179) rfl rfl ?_
          refine gIcmpN X51 hx (hb hby at_179) (q := 182) rfl (XT.ii_ne_f zsb) ?_
          refine gAload X51 hx (hb hby at_182) (q := 184) rfl rfl rfl ?_
          refine gIload X51 hx (hb hby at_184) (q := 186) rfl rfl ?_
          refine gCallV X51 hx hZ hown (hw _ (List.mem_of_getElem? (i := 75) rfl)) (hw _ (List.mem_of_getElem? (i := 76) rfl)) (hw _ (List.mem_of_getElem? (i := 78) rfl)) (hw _ (List.mem_of_getElem? (i := 77) rfl)) (hw _ (List.mem_of_getElem? (i := 19) rfl)) (hw _ (List.mem_of_getElem? (i := 79) rfl)) (notFace_of_selects (args := #[]) (mvT hZ (hw _ (List.mem_of_getElem? (i := 78) rfl)))) (by decide) (rmSB l Z a0 hw [] rr a2 k2 (Int32.ofNat fr) (Int32.ofNat (fr + (sz / 32 + 3))) (Int32.ofNat sz) (Int32.ofNat (fr + (sz - sz % 64) / 32)) (own_cnt (own_W fr ii jj) fr (fr + (sz / 32 + 3)) (sz / 64 + 1)) (fr + (sz - sz % 64) / 32) ((fr + (sz / 32 + 3)) + sz / 64) T29.heap n0 Z35 P29i P29f P29c P29e P29a (own_ixb fr sz hfr (by omega)) (own_ofI (by omega)) (by omega) (own_ad1 (own_ofI (by omega)) (by omega)) (by omega) (own_ad2 (own_ofI (by omega)) (by omega)) (by omega) (own_ixm fr sz sz hfr hsz2 (by omega)) (by omega)) (W := 0) (by decide) (by decide) e51 (by rw [hml]; rfl) P29e [(.int (Int32.ofNat sz))] (lenOf pd1 rfl) rfl (S := []) rfl (Nat.le_of_eq rfl) (hb hby at_186) (q := 189) rfl (by decide) (by decide) (fun r53 T53 M53 X53 q53 => ?_)
          obtain ⟨rfl, M53n, e53⟩ := q53
          have N54 := Fr.app N52 M53n
          dsimp only [Option.toList, List.cons_append, List.nil_append]
          generalize hst : (((own_cnt (own_W fr ii jj) fr (fr + (sz / 32 + 3)) (sz / 64 + 1)) ((fr + (sz / 32 + 3)) + sz / 64)) + (own_bcL ((own_bf ((own_cnt (own_W fr ii jj) fr (fr + (sz / 32 + 3)) (sz / 64 + 1)) (fr + (sz - sz % 64) / 32)) ((own_cnt (own_W fr ii jj) fr (fr + (sz / 32 + 3)) (sz / 64 + 1)) ((fr + (sz - sz % 64) / 32) + 1)) ((own_cnt (own_W fr ii jj) fr (fr + (sz / 32 + 3)) (sz / 64 + 1)) ((fr + (sz - sz % 64) / 32) + 2)) (((Int32.ofNat sz) - ((Int32.ofNat sz) % (64 : Int32))) % (32 : Int32))) &&& (((1 : Int64) <<< (((Int32.ofNat sz) % (64 : Int32)).toInt64 &&& 63)) - (1 : Int64))))) = st
          have zst : st = v47 := by rw [← hst, own_lawS fr sz ii jj sz hfr hsz2 hii hjj (Nat.le_refl _)]; rw [hv47]; exact own_exp2 ii jj sz hii hjj (by omega)
          refine gIload X53 hx (hb hby at_189) (q := 191) rfl rfl ?_
          refine gIcmpN X53 hx (hb hby at_191) (q := 194) rfl (XT.ii_ne_f zst) ?_
          refine gIconst X53 hx (1 : Int32) (hb hby at_194) (q := 195) rfl (by decide) ?_
          refine gGoto X53 hx (hb hby at_195) (q := 199) (by decide) (by decide) ?_
          exact gRetZ X53 hx hlk hret (hb hby at_199) (by decide) (by decide) (Or.inr rfl) ⟨rfl, N54⟩
        by_cases c46 : (Int32.ofNat ii) = (Int32.ofNat jj)
        · refine gIcmpN X38 hx (hb hby at_147) (q := 150) rfl (XT.ii_ne_f c46) ?_
          refine gIconst X38 hx (1 : Int32) (hb hby at_150) (q := 151) rfl (by decide) ?_
          refine gGoto X38 hx (hb hby at_151) (q := 155) (by decide) (by decide) ?_
          exact J147_48 _ (by first | rfl | (rw [if_pos c46]; done) | (simp only [if_pos c46]; done) | (simp only [if_pos c46]; done) | (simp only [if_pos c46, if_true, if_false]; done) | (exfalso; simp at c46; done))
        · refine gIcmpY X38 hx (hb hby at_147) (q := 154) (by decide) (by decide) (XT.ii_ne_t c46) ?_
          refine gIconst X38 hx (2 : Int32) (hb hby at_154) (q := 155) rfl (by decide) ?_
          exact J147_48 _ (by first | rfl | (rw [if_neg c46]; done) | (simp only [if_neg c46]; done) | (simp only [if_neg c46]; done) | (simp only [if_neg c46, if_true, if_false]; done) | (exfalso; simp at c46; done))
      by_cases c43 : (Int32.ofNat jj) < (Int32.ofNat kx)
      · refine gIcmpN X38 hx (hb hby at_125) (q := 128) rfl (XT.ii_ge_f c43) ?_
        refine gIload X38 hx (hb hby at_128) (q := 130) rfl rfl ?_
        refine gIload X38 hx (hb hby at_130) (q := 132) rfl rfl ?_
        by_cases c55 : (Int32.ofNat jj) = (Int32.ofNat ii)
        · refine gIcmpY X38 hx (hb hby at_132) (q := 139) (by decide) (by decide) (XT.ii_eq_t c55) ?_
          refine gIconst X38 hx (0 : Int32) (hb hby at_139) (q := 140) rfl (by decide) ?_
          exact J125_45 _ (by first | rfl | (rw [if_pos c43, if_pos c55]; done) | (simp only [if_pos c43, if_pos c55]; done) | (simp only [if_pos c43, if_pos c55]; done) | (simp only [if_pos c43, if_pos c55, if_true, if_false]; done) | (exfalso; simp at c55; done))
        · refine gIcmpN X38 hx (hb hby at_132) (q := 135) rfl (XT.ii_eq_f c55) ?_
          refine gIconst X38 hx (1 : Int32) (hb hby at_135) (q := 136) rfl (by decide) ?_
          refine gGoto X38 hx (hb hby at_136) (q := 140) (by decide) (by decide) ?_
          exact J125_45 _ (by first | rfl | (rw [if_pos c43, if_neg c55]; done) | (simp only [if_pos c43, if_neg c55]; done) | (simp only [if_pos c43, if_neg c55]; done) | (simp only [if_pos c43, if_neg c55, if_true, if_false]; done) | (exfalso; simp at c55; done))
      · refine gIcmpY X38 hx (hb hby at_125) (q := 139) (by decide) (by decide) (XT.ii_ge_t c43) ?_
        refine gIconst X38 hx (0 : Int32) (hb hby at_139) (q := 140) rfl (by decide) ?_
        exact J125_45 _ (by first | rfl | (rw [if_neg c43]; done) | (simp only [if_neg c43]; done) | (simp only [if_neg c43]; done) | (simp only [if_neg c43, if_true, if_false]; done) | (exfalso; simp at c43; done))
    by_cases c40 : (Int32.ofNat ii) < (Int32.ofNat kx)
    · refine gIcmpN X38 hx (hb hby at_113) (q := 116) rfl (XT.ii_ge_f c40) ?_
      refine gIconst X38 hx (1 : Int32) (hb hby at_116) (q := 117) rfl (by decide) ?_
      refine gGoto X38 hx (hb hby at_117) (q := 121) (by decide) (by decide) ?_
      exact J113_42 _ (by first | rfl | (rw [if_pos c40]; done) | (simp only [if_pos c40]; done) | (simp only [if_pos c40]; done) | (simp only [if_pos c40, if_true, if_false]; done) | (exfalso; simp at c40; done))
    · refine gIcmpY X38 hx (hb hby at_113) (q := 120) (by decide) (by decide) (XT.ii_ge_t c40) ?_
      refine gIconst X38 hx (0 : Int32) (hb hby at_120) (q := 121) rfl (by decide) ?_
      exact J113_42 _ (by first | rfl | (rw [if_neg c40]; done) | (simp only [if_neg c40]; done) | (simp only [if_neg c40]; done) | (simp only [if_neg c40, if_true, if_false]; done) | (exfalso; simp at c40; done))
set_option maxRecDepth 65536 in
set_option maxHeartbeats 40000000 in
theorem comes_1 {Post : Tables → Env → Array Value → State → Outcome → State → Prop} (hpost : ∀ tb e args s v u, (limb_1_1.after args s (.returned v) u = true ∧ limb_1_2.after args s (.returned v) u = true ∧ True) → FrameEnd s (.returned v) u (Jvm.fieldLocs frame_1_writes args s ++ Jvm.arrayLocs frame_1_arrays args s ++ Jvm.staticLocs frame_1_statics s) 16 128 → Post tb e args s (.returned v) u) :
    ArmFor flags0 classFile x code maxLocals ret World_1 tables_1 room_1 Calls_1 rest_1 Pre_1 Post := by
  intro l hfl _ _ p e ha hc hk s m args below hf hA hF happ hP
  obtain ⟨hcalls, hrest, hpre⟩ := hP
  obtain ⟨-, -, -, hnamed, -, -, -, hat⟩ := (Spec.applies_iff hf).mp happ
  obtain ⟨hg, hn⟩ := and_e (Cond.before_iff.mp (show (Jvm.Cond.and given_1 narrow_1).before args s = true from hpre))
  obtain ⟨hcount, hg⟩ := and_e hg
  obtain ⟨hk0, hg⟩ := and_e hg
  obtain ⟨hk1, hg⟩ := and_e hg
  obtain ⟨hk2, hg⟩ := and_e hg
  obtain ⟨hk3, hg⟩ := and_e hg
  have hk4 := hg
  obtain ⟨w0, w1, w2, w3, w4, rfl⟩ : ∃ w0 w1 w2 w3 w4 : Value, args = #[w0, w1, w2, w3, w4] := by
    have hs : args.size = 5 := by simpa [Cond.value, given_1] using hcount
    obtain ⟨L⟩ := args
    match L, hs with
    | [w0, w1, w2, w3, w4], _ => exact ⟨w0, w1, w2, w3, w4, rfl⟩
  have hw := fun d (hd : d ∈ tables_1) => atoms_spec (ws := Jvm.Cond.code x code maxLocals ret :: tables_1) hat d (List.mem_cons_of_mem _ hd)
  have hfit : Fit s := fun {y c} hc i hi => by
    obtain ⟨ha, rfl⟩ := Array.getElem?_eq_some_iff.mp hc
    have q := List.all_eq_true.mp ((Array.all_eq_true_iff_forall_mem.mp hF) _ (Array.getElem_mem ha)) i (List.mem_range.mpr hi)
    simpa [Array.getElem?_eq_getElem hi] using q
  obtain ⟨i0, hi0⟩ := is_v hk0
  obtain rfl : w0 = (.int i0) := Option.some.inj hi0
  obtain ⟨i1, hi1⟩ := is_v hk1
  obtain rfl : w1 = (.int i1) := Option.some.inj hi1
  obtain ⟨i2, hi2⟩ := is_v hk2
  obtain rfl : w2 = (.int i2) := Option.some.inj hi2
  obtain ⟨i3, hi3⟩ := is_v hk3
  obtain rfl : w3 = (.int i3) := Option.some.inj hi3
  obtain ⟨i4, hi4⟩ := is_v hk4
  obtain rfl : w4 = (.int i4) := Option.some.inj hi4
  obtain ⟨n, o, h1, h2, h3, _, L, rfl, ⟨rfl, N⟩, hq⟩ := rm0 l s _ hw tables_1 i0 i1 i2 i3 i4  s.heap s.heap.size (Nat.le_refl _)  p e ha hc hk s m _ below hf ((Spec.applies_iff_loose hf).mp happ).1 ⟨rfl, State.Warmed39.refl s, rfl⟩ trivial
  refine ⟨n, _, h1, h2, h3, hpost _ _ _ _ _ _ ⟨Cond.after_iff.mpr rfl, Cond.after_iff.mpr (eq_i res_at (Term.int_eval (1)) rfl), trivial⟩ ⟨hq.1, hq.2.1, (hq.2.2.sift fun y hy => Or.inr (N y hy)).mono (by decide) (by decide)⟩⟩
theorem main_1_1 : Claimed_1_1 := comes_1 fun _ _ _ _ _ _ h hF => ⟨h.1, hF⟩
theorem main_1_2 : Claimed_1_2 := comes_1 fun _ _ _ _ _ _ h hF => ⟨h.2.1, hF⟩
end Jvm.Pilot.@@N@@
namespace Jvm.Pilot.@@N@@
open Jvm Jvm.ClassFile Sem Op Lib Jvm.Free Jvm.Stand Jvm.Pilot.@@N@@.Jvm.D
/-! MADE BY PROGRAM (witnessworld.py) out of the Statement's table words and the real class files: 18 classes; the members and pool entries that the words name. The judged class is class 1, her method 2. -/
namespace start1
open Jvm.ClassFile
def u (s : String) : CpInfo := .utf8 (stringToUtf16 s)
/-- a pool by its gaps: so many unusable entries, then the entry; so many at the end -/
def gap : Nat → List CpInfo → List CpInfo
  | 0, r => r
  | n + 1, r => .unusable :: gap n r
def poolList (es : List (Nat × CpInfo)) (last : Nat) : List CpInfo := es.foldr (fun e r => gap e.1 (e.2 :: r)) (gap last [])
def pool (es : List (Nat × CpInfo)) (last : Nat) : Array CpInfo := ⟨poolList es last⟩
def fileOf (pool : Array CpInfo) (this : Nat) (attrs : Array Attribute := #[]) (ms : Array MethodInfo := #[]) (fl : Nat := 33) (sup : Nat := 0) (ifs : Array Nat := #[]) (fds : Array FieldInfo := #[]) : ClassFile where
  minorVersion := 0
  majorVersion := 65
  constantPool := pool
  accessFlags := fl
  thisClass := this
  superClass := sup
  interfaces := ifs
  fields := fds
  methods := ms
  attributes := attrs
def plain (name : String) (sup : Option ClassId) : Class where
  name := name
  kind := .ordinary
  loader := none
  accessFlags := 33
  super := sup
  interfaces := #[]
  cf := none
  fields := #[]
  methods := #[]
  instanceTypes := #[]
  staticTypes := #[]
  resolved := #[]
  callSites := []
  init := .initialized
  statics := none
  mirror := none

def pool0 : Array CpInfo := pool [(5, u "<init>"), (0, u "()V"), (1, .class_ 10), (1, u "java/lang/Object")] 113

def k0c0 : Code := { maxStack := 0, maxLocals := 1, code := object_method_1_code, exceptionTable := #[], attributes := #[] }
def k0m0 : Method := { name := "<init>", desc := "()V", sig := { parameters := [], returnType := none }, accessFlags := 1, code := some k0c0 }
/-- java/lang/Object -/
def k0 : Class := { plain "java/lang/Object" none with
  accessFlags := 33
  interfaces := #[]
  cf := some (fileOf pool0 8 #[] #[{ accessFlags := 1, nameIndex := 5, descriptorIndex := 6, attributes := #[] }] 33 0 #[] #[])
  fields := #[]
  methods := #[k0m0]
  instanceTypes := #[]
  staticTypes := #[]
  resolved := Array.replicate 124 none
  statics := none }

def pool1 : Array CpInfo := pool [(2, .class_ 4), (1, u "java/lang/Object"), (0, u "<init>"), (0, u "()V"), (0, .integer 2147483647), (0, .class_ 9), (0, u "com/example/libpalin/libpalin/RankedBits$Builder"), (0, .methodref 8 11), (0, .nameAndType 5 12), (0, u "([III)V"), (0, .methodref 8 14), (0, .nameAndType 15 16), (0, u "set"), (0, u "(I)V"), (0, .methodref 8 18), (0, .nameAndType 19 20), (0, u "build"), (0, u "()Lcom/example/libpalin/libpalin/RankedBits;"), (0, .methodref 22 23), (0, .class_ 24), (0, .nameAndType 25 26), (0, u "com/example/libpalin/libpalin/BuilderSetPinLaw"), (0, u "bitAt"), (0, u "(II)J"), (0, .methodref 28 29), (0, .class_ 30), (0, .nameAndType 31 32), (0, u "com/example/libpalin/libpalin/RankedBits"), (0, u "bitsFrom"), (0, u "(I)J"), (0, .methodref 28 34), (0, .nameAndType 35 36), (0, u "setBefore"), (0, u "(I)I"), (3, u "law"), (0, u "(IIIII)Z")] 6

def k1m0 : Method := { name := "<init>", desc := "()V", sig := { parameters := [], returnType := none }, accessFlags := 1, code := none }
def k1c1 : Code := { maxStack := 4, maxLocals := 2, code := method_2_code, exceptionTable := #[], attributes := #[] }
def k1m1 : Method := { name := "bitAt", desc := "(II)J", sig := { parameters := [.int, .int], returnType := some .long }, accessFlags := 10, code := some k1c1 }
def k1c2 : Code := { maxStack := 5, maxLocals := 17, code := code, exceptionTable := #[], attributes := #[] }
def k1m2 : Method := { name := "law", desc := "(IIIII)Z", sig := { parameters := [.int, .int, .int, .int, .int], returnType := some .boolean }, accessFlags := 9, code := some k1c2 }
/-- com/example/libpalin/libpalin/BuilderSetPinLaw -/
def k1 : Class := { plain "com/example/libpalin/libpalin/BuilderSetPinLaw" (some 0) with
  accessFlags := 49
  interfaces := #[]
  cf := some (fileOf pool1 22 #[] #[{ accessFlags := 1, nameIndex := 5, descriptorIndex := 6, attributes := #[] }, { accessFlags := 10, nameIndex := 25, descriptorIndex := 26, attributes := #[] }, { accessFlags := 9, nameIndex := 40, descriptorIndex := 41, attributes := #[] }] 49 2 #[] #[])
  fields := #[]
  methods := #[k1m0, k1m1, k1m2]
  instanceTypes := #[]
  staticTypes := #[]
  resolved := Array.replicate 48 none
  statics := none }

def pool2 : Array CpInfo := pool [(1, .class_ 2), (0, u "com/example/libpalin/libpalin/RankedBits"), (0, .methodref 4 5), (0, .class_ 6), (0, .nameAndType 7 8), (0, u "java/lang/Object"), (0, u "<init>"), (0, u "()V"), (0, .fieldref 10 11), (0, .class_ 12), (0, .nameAndType 13 14), (0, u "com/example/libpalin/libpalin/RankedBits$Builder"), (0, u "ints"), (0, u "[I"), (0, .fieldref 10 16), (0, .nameAndType 17 18), (0, u "from"), (0, u "I"), (0, .fieldref 10 20), (0, .nameAndType 21 18), (0, u "size"), (0, .methodref 1 23), (0, .nameAndType 24 25), (0, u "bitInts"), (0, u "(I)I"), (0, .methodref 27 28), (0, .class_ 29), (0, .nameAndType 30 31), (0, u "java/util/Arrays"), (0, u "fill"), (0, u "([IIII)V"), (0, .methodref 33 34), (0, .class_ 35), (0, .nameAndType 36 37), (0, u "java/lang/Math"), (0, u "min"), (0, u "(II)I"), (0, .methodref 10 39), (0, .nameAndType 40 41), (0, u "counted"), (0, u "(IIII)I"), (0, .methodref 1 43), (0, .nameAndType 7 44), (0, u "([III)V"), (0, .methodref 46 47), (0, .class_ 48), (0, .nameAndType 49 25), (0, u "java/lang/Integer"), (0, u "bitCount"), (2, u "set"), (0, u "(I)V"), (2, u "build"), (0, u "()Lcom/example/libpalin/libpalin/RankedBits;")] 6

def k2c0 : Code := { maxStack := 4, maxLocals := 4, code := prog_34_method_1_code, exceptionTable := #[], attributes := #[] }
def k2m0 : Method := { name := "<init>", desc := "([III)V", sig := { parameters := [(.array .int), .int, .int], returnType := none }, accessFlags := 0, code := some k2c0 }
def k2c1 : Code := { maxStack := 6, maxLocals := 2, code := prog_34_method_2_code, exceptionTable := #[], attributes := #[] }
def k2m1 : Method := { name := "set", desc := "(I)V", sig := { parameters := [.int], returnType := none }, accessFlags := 0, code := some k2c1 }
def k2c2 : Code := { maxStack := 5, maxLocals := 5, code := prog_34_method_4_code, exceptionTable := #[], attributes := #[] }
def k2m2 : Method := { name := "build", desc := "()Lcom/example/libpalin/libpalin/RankedBits;", sig := { parameters := [], returnType := some (.object "com/example/libpalin/libpalin/RankedBits") }, accessFlags := 0, code := some k2c2 }
def k2c3 : Code := { maxStack := 5, maxLocals := 8, code := prog_34_method_5_code, exceptionTable := #[], attributes := #[] }
def k2m3 : Method := { name := "counted", desc := "(IIII)I", sig := { parameters := [.int, .int, .int, .int], returnType := some .int }, accessFlags := 2, code := some k2c3 }
/-- com/example/libpalin/libpalin/RankedBits$Builder -/
def k2 : Class := { plain "com/example/libpalin/libpalin/RankedBits$Builder" (some 0) with
  accessFlags := 48
  interfaces := #[]
  cf := some (fileOf pool2 10 #[.nestHost 1] #[{ accessFlags := 0, nameIndex := 7, descriptorIndex := 44, attributes := #[] }, { accessFlags := 0, nameIndex := 52, descriptorIndex := 53, attributes := #[] }, { accessFlags := 0, nameIndex := 56, descriptorIndex := 57, attributes := #[] }, { accessFlags := 2, nameIndex := 40, descriptorIndex := 41, attributes := #[] }] 48 4 #[] #[{ accessFlags := 18, nameIndex := 13, descriptorIndex := 14, attributes := #[] }, { accessFlags := 18, nameIndex := 17, descriptorIndex := 18, attributes := #[] }, { accessFlags := 18, nameIndex := 21, descriptorIndex := 18, attributes := #[] }])
  fields := #[{ name := "ints", type := (.array .int), accessFlags := 18, slot := 0, constantValue := 0 }, { name := "from", type := .int, accessFlags := 18, slot := 1, constantValue := 0 }, { name := "size", type := .int, accessFlags := 18, slot := 2, constantValue := 0 }]
  methods := #[k2m0, k2m1, k2m2, k2m3]
  instanceTypes := #[(.array .int), .int, .int]
  staticTypes := #[]
  resolved := Array.replicate 64 none
  statics := none }

def pool3 : Array CpInfo := pool [(1, .methodref 2 3), (0, .class_ 4), (0, .nameAndType 5 6), (0, u "java/lang/Object"), (0, u "<init>"), (0, u "()V"), (0, .fieldref 8 9), (0, .class_ 10), (0, .nameAndType 11 12), (0, u "com/example/libpalin/libpalin/RankedBits"), (0, u "ints"), (0, u "[I"), (0, .fieldref 8 14), (0, .nameAndType 15 16), (0, u "bitsFrom"), (0, u "I"), (0, .fieldref 8 18), (0, .nameAndType 19 16), (0, u "countsFrom"), (2, u "bitInts"), (0, u "(I)I"), (0, .methodref 8 25), (0, .nameAndType 15 26), (0, u "(I)J"), (0, .methodref 28 29), (0, .class_ 30), (0, .nameAndType 31 32), (0, u "java/lang/Long"), (0, u "bitCount"), (0, u "(J)I"), (0, .long 4294967295), (1, u "INT_BITS"), (2, u "GROUP_BITS"), (1, u "INTS_AFTER"), (1, u "([III)V"), (3, u "setBefore"), (3, .class_ 51), (0, u "com/example/libpalin/libpalin/RankedBits$Builder")] 2

def k3c0 : Code := { maxStack := 2, maxLocals := 4, code := prog_33_method_1_code, exceptionTable := #[], attributes := #[] }
def k3m0 : Method := { name := "<init>", desc := "([III)V", sig := { parameters := [(.array .int), .int, .int], returnType := none }, accessFlags := 2, code := some k3c0 }
def k3c1 : Code := { maxStack := 6, maxLocals := 4, code := prog_33_method_3_code, exceptionTable := #[], attributes := #[] }
def k3m1 : Method := { name := "setBefore", desc := "(I)I", sig := { parameters := [.int], returnType := some .int }, accessFlags := 0, code := some k3c1 }
def k3c2 : Code := { maxStack := 6, maxLocals := 6, code := prog_33_method_4_code, exceptionTable := #[], attributes := #[] }
def k3m2 : Method := { name := "bitsFrom", desc := "(I)J", sig := { parameters := [.int], returnType := some .long }, accessFlags := 0, code := some k3c2 }
def k3c3 : Code := { maxStack := 2, maxLocals := 1, code := prog_33_method_5_code, exceptionTable := #[], attributes := #[] }
def k3m3 : Method := { name := "bitInts", desc := "(I)I", sig := { parameters := [.int], returnType := some .int }, accessFlags := 10, code := some k3c3 }
/-- com/example/libpalin/libpalin/RankedBits -/
def k3 : Class := { plain "com/example/libpalin/libpalin/RankedBits" (some 0) with
  accessFlags := 48
  interfaces := #[]
  cf := some (fileOf pool3 8 #[.nestMembers #[50]] #[{ accessFlags := 2, nameIndex := 5, descriptorIndex := 42, attributes := #[] }, { accessFlags := 0, nameIndex := 46, descriptorIndex := 23, attributes := #[] }, { accessFlags := 0, nameIndex := 15, descriptorIndex := 26, attributes := #[] }, { accessFlags := 10, nameIndex := 22, descriptorIndex := 23, attributes := #[] }] 48 2 #[] #[{ accessFlags := 26, nameIndex := 35, descriptorIndex := 16, attributes := #[] }, { accessFlags := 26, nameIndex := 38, descriptorIndex := 16, attributes := #[] }, { accessFlags := 26, nameIndex := 40, descriptorIndex := 16, attributes := #[] }, { accessFlags := 18, nameIndex := 11, descriptorIndex := 12, attributes := #[] }, { accessFlags := 18, nameIndex := 15, descriptorIndex := 16, attributes := #[] }, { accessFlags := 18, nameIndex := 19, descriptorIndex := 16, attributes := #[] }])
  fields := #[{ name := "INT_BITS", type := .int, accessFlags := 26, slot := 0, constantValue := 0 }, { name := "GROUP_BITS", type := .int, accessFlags := 26, slot := 1, constantValue := 0 }, { name := "INTS_AFTER", type := .int, accessFlags := 26, slot := 2, constantValue := 0 }, { name := "ints", type := (.array .int), accessFlags := 18, slot := 0, constantValue := 0 }, { name := "bitsFrom", type := .int, accessFlags := 18, slot := 1, constantValue := 0 }, { name := "countsFrom", type := .int, accessFlags := 18, slot := 2, constantValue := 0 }]
  methods := #[k3m0, k3m1, k3m2, k3m3]
  instanceTypes := #[(.array .int), .int, .int]
  staticTypes := #[.int, .int, .int]
  resolved := Array.replicate 54 none
  statics := none }

def pool4 : Array CpInfo := pool [(2, .class_ 4), (1, u "java/lang/Object"), (0, u "<init>"), (0, u "()V"), (5, u "([IIII)V"), (0, .methodref 14 15), (0, .class_ 16), (0, .nameAndType 17 18), (0, u "java/util/Arrays"), (0, u "rangeCheck"), (0, u "(III)V"), (55, .class_ 76), (1, u "java/util/Arrays$NaturalOrder"), (36, .class_ 115), (1, u "java/util/Arrays$LegacyMergeSort"), (1, u "Z"), (257, .class_ 376), (0, u "java/util/Arrays$ArrayList"), (68, u "$assertionsDisabled"), (269, u "MIN_ARRAY_SORT_GRAN"), (0, u "I"), (2, u "INSERTIONSORT_THRESHOLD"), (120, u "fill"), (134, .class_ 976), (0, u "java/util/Arrays$ArrayItr")] 52

def k4m0 : Method := { name := "<init>", desc := "()V", sig := { parameters := [], returnType := none }, accessFlags := 2, code := none }
def k4c1 : Code := { maxStack := 4, maxLocals := 3, code := jdk_65_method_30_code, exceptionTable := #[], attributes := #[] }
def k4m1 : Method := { name := "rangeCheck", desc := "(III)V", sig := { parameters := [.int, .int, .int], returnType := none }, accessFlags := 8, code := some k4c1 }
def k4c2 : Code := { maxStack := 3, maxLocals := 5, code := jdk_65_method_104_code, exceptionTable := #[], attributes := #[] }
def k4m2 : Method := { name := "fill", desc := "([IIII)V", sig := { parameters := [(.array .int), .int, .int, .int], returnType := none }, accessFlags := 9, code := some k4c2 }
/-- java/util/Arrays -/
def k4 : Class := { plain "java/util/Arrays" (some 0) with
  accessFlags := 49
  interfaces := #[]
  cf := some (fileOf pool4 14 #[.nestMembers #[975, 375, 113, 74]] #[{ accessFlags := 2, nameIndex := 5, descriptorIndex := 6, attributes := #[] }, { accessFlags := 8, nameIndex := 17, descriptorIndex := 18, attributes := #[] }, { accessFlags := 9, nameIndex := 840, descriptorIndex := 12, attributes := #[] }] 49 2 #[] #[{ accessFlags := 26, nameIndex := 715, descriptorIndex := 716, attributes := #[] }, { accessFlags := 26, nameIndex := 719, descriptorIndex := 716, attributes := #[] }, { accessFlags := 4120, nameIndex := 445, descriptorIndex := 117, attributes := #[] }])
  fields := #[{ name := "MIN_ARRAY_SORT_GRAN", type := .int, accessFlags := 26, slot := 0, constantValue := 0 }, { name := "INSERTIONSORT_THRESHOLD", type := .int, accessFlags := 26, slot := 1, constantValue := 0 }, { name := "$assertionsDisabled", type := .boolean, accessFlags := 4120, slot := 2, constantValue := 0 }]
  methods := #[k4m0, k4m1, k4m2]
  instanceTypes := #[]
  staticTypes := #[.int, .int, .boolean]
  resolved := Array.replicate 1029 none
  statics := none }

def pool5 : Array CpInfo := pool [(1, .class_ 2), (0, u "java/lang/Math"), (1, .class_ 6), (1, u "java/lang/Object"), (0, u "<init>"), (0, u "()V"), (89, .class_ 100), (1, u "java/lang/Math$RandomNumberGeneratorHolder"), (71, u "negativeZeroFloatBits"), (0, u "J"), (2, u "negativeZeroDoubleBits"), (24, u "min"), (43, u "$assertionsDisabled"), (0, u "Z"), (88, u "(II)I"), (2, u "twoToTheDoubleScaleDown"), (0, u "D"), (4, u "twoToTheDoubleScaleUp"), (9, u "E"), (3, u "PI"), (2, u "TAU"), (2, u "DEGREES_TO_RADIANS"), (0, u "RADIANS_TO_DEGREES")] 94

def k5m0 : Method := { name := "<init>", desc := "()V", sig := { parameters := [], returnType := none }, accessFlags := 2, code := none }
def k5c1 : Code := { maxStack := 2, maxLocals := 2, code := jdk_29_method_69_code, exceptionTable := #[], attributes := #[] }
def k5m1 : Method := { name := "min", desc := "(II)I", sig := { parameters := [.int, .int], returnType := some .int }, accessFlags := 9, code := some k5c1 }
/-- java/lang/Math -/
def k5 : Class := { plain "java/lang/Math" (some 0) with
  accessFlags := 49
  interfaces := #[]
  cf := some (fileOf pool5 1 #[.nestMembers #[98]] #[{ accessFlags := 2, nameIndex := 7, descriptorIndex := 8, attributes := #[] }, { accessFlags := 9, nameIndex := 201, descriptorIndex := 335, attributes := #[] }] 49 4 #[] #[{ accessFlags := 25, nameIndex := 354, descriptorIndex := 339, attributes := #[] }, { accessFlags := 25, nameIndex := 358, descriptorIndex := 339, attributes := #[] }, { accessFlags := 25, nameIndex := 361, descriptorIndex := 339, attributes := #[] }, { accessFlags := 26, nameIndex := 364, descriptorIndex := 339, attributes := #[] }, { accessFlags := 26, nameIndex := 365, descriptorIndex := 339, attributes := #[] }, { accessFlags := 26, nameIndex := 172, descriptorIndex := 173, attributes := #[] }, { accessFlags := 26, nameIndex := 176, descriptorIndex := 173, attributes := #[] }, { accessFlags := 8, nameIndex := 344, descriptorIndex := 339, attributes := #[] }, { accessFlags := 8, nameIndex := 338, descriptorIndex := 339, attributes := #[] }, { accessFlags := 4120, nameIndex := 245, descriptorIndex := 246, attributes := #[] }])
  fields := #[{ name := "E", type := .double, accessFlags := 25, slot := 0, constantValue := 0 }, { name := "PI", type := .double, accessFlags := 25, slot := 1, constantValue := 0 }, { name := "TAU", type := .double, accessFlags := 25, slot := 2, constantValue := 0 }, { name := "DEGREES_TO_RADIANS", type := .double, accessFlags := 26, slot := 3, constantValue := 0 }, { name := "RADIANS_TO_DEGREES", type := .double, accessFlags := 26, slot := 4, constantValue := 0 }, { name := "negativeZeroFloatBits", type := .long, accessFlags := 26, slot := 5, constantValue := 0 }, { name := "negativeZeroDoubleBits", type := .long, accessFlags := 26, slot := 6, constantValue := 0 }, { name := "twoToTheDoubleScaleUp", type := .double, accessFlags := 8, slot := 7, constantValue := 0 }, { name := "twoToTheDoubleScaleDown", type := .double, accessFlags := 8, slot := 8, constantValue := 0 }, { name := "$assertionsDisabled", type := .boolean, accessFlags := 4120, slot := 9, constantValue := 0 }]
  methods := #[k5m0, k5m1]
  instanceTypes := #[]
  staticTypes := #[.double, .double, .double, .double, .double, .long, .long, .double, .double, .boolean]
  resolved := Array.replicate 460 none
  statics := none }

def pool6 : Array CpInfo := pool [(1, .class_ 2), (0, u "java/io/Serializable"), (0, .class_ 4), (0, u "java/lang/Object")] 2

/-- java/io/Serializable -/
def k6 : Class := { plain "java/io/Serializable" (some 0) with
  accessFlags := 1537
  interfaces := #[]
  cf := some (fileOf pool6 1 #[] #[] 1537 3 #[] #[])
  fields := #[]
  methods := #[]
  instanceTypes := #[]
  staticTypes := #[]
  resolved := Array.replicate 7 none
  statics := none }

def pool7 : Array CpInfo := pool [(2, .class_ 4), (1, u "java/lang/Object"), (0, u "<init>"), (0, u "()V"), (1, .class_ 10), (1, u "java/lang/Number"), (2, .class_ 14), (0, u "java/io/Serializable"), (0, u "serialVersionUID"), (0, u "J")] 20

def k7m0 : Method := { name := "<init>", desc := "()V", sig := { parameters := [], returnType := none }, accessFlags := 1, code := none }
/-- java/lang/Number -/
def k7 : Class := { plain "java/lang/Number" (some 0) with
  accessFlags := 1057
  interfaces := #[6]
  cf := some (fileOf pool7 8 #[] #[{ accessFlags := 1, nameIndex := 5, descriptorIndex := 6, attributes := #[] }] 1057 2 #[13] #[{ accessFlags := 26, nameIndex := 15, descriptorIndex := 16, attributes := #[] }])
  fields := #[{ name := "serialVersionUID", type := .long, accessFlags := 26, slot := 0, constantValue := 0 }]
  methods := #[k7m0]
  instanceTypes := #[]
  staticTypes := #[.long]
  resolved := Array.replicate 37 none
  statics := none }

def pool8 : Array CpInfo := pool [(1, .class_ 2), (0, u "java/lang/Comparable"), (0, .class_ 4), (0, u "java/lang/Object")] 7

/-- java/lang/Comparable -/
def k8 : Class := { plain "java/lang/Comparable" (some 0) with
  accessFlags := 1537
  interfaces := #[]
  cf := some (fileOf pool8 1 #[] #[] 1537 3 #[] #[])
  fields := #[]
  methods := #[]
  instanceTypes := #[]
  staticTypes := #[]
  resolved := Array.replicate 12 none
  statics := none }

def pool9 : Array CpInfo := pool [(1, .class_ 2), (0, u "java/lang/constant/Constable"), (0, .class_ 4), (0, u "java/lang/Object")] 6

/-- java/lang/constant/Constable -/
def k9 : Class := { plain "java/lang/constant/Constable" (some 0) with
  accessFlags := 1537
  interfaces := #[]
  cf := some (fileOf pool9 1 #[] #[] 1537 3 #[] #[])
  fields := #[]
  methods := #[]
  instanceTypes := #[]
  staticTypes := #[]
  resolved := Array.replicate 11 none
  statics := none }

def pool10 : Array CpInfo := pool [(1, .class_ 2), (0, u "java/lang/constant/ConstantDesc"), (0, .class_ 4), (0, u "java/lang/Object")] 32

/-- java/lang/constant/ConstantDesc -/
def k10 : Class := { plain "java/lang/constant/ConstantDesc" (some 0) with
  accessFlags := 1537
  interfaces := #[]
  cf := some (fileOf pool10 1 #[] #[] 1537 3 #[] #[])
  fields := #[]
  methods := #[]
  instanceTypes := #[]
  staticTypes := #[]
  resolved := Array.replicate 37 none
  statics := none }

def pool11 : Array CpInfo := pool [(1, .class_ 2), (0, u "java/lang/Integer"), (16, u "digits"), (0, u "[C"), (33, u "(I)I"), (30, u "DigitOnes"), (0, u "[B"), (2, u "DigitTens"), (99, .class_ 190), (0, u "java/lang/Integer$IntegerCache"), (3, u "I"), (8, .class_ 204), (0, u "java/lang/Number"), (2, u "value"), (57, .integer 1431655765), (0, .integer 858993459), (0, .integer 252645135), (34, u "TYPE"), (0, u "Ljava/lang/Class;"), (0, .class_ 305), (0, u "java/lang/Comparable"), (0, .class_ 307), (0, u "java/lang/constant/Constable"), (0, .class_ 309), (0, u "java/lang/constant/ConstantDesc"), (0, u "MIN_VALUE"), (1, u "MAX_VALUE"), (3, u "SIZE"), (1, u "BYTES"), (1, u "serialVersionUID"), (0, u "J"), (85, u "bitCount")] 45

def k11c0 : Code := { maxStack := 3, maxLocals := 1, code := jdk_33_method_49_code, exceptionTable := #[], attributes := #[] }
def k11m0 : Method := { name := "bitCount", desc := "(I)I", sig := { parameters := [.int], returnType := some .int }, accessFlags := 9, code := some k11c0 }
/-- java/lang/Integer -/
def k11 : Class := { plain "java/lang/Integer" (some 7) with
  accessFlags := 49
  interfaces := #[8, 9, 10]
  cf := some (fileOf pool11 1 #[.nestMembers #[189]] #[{ accessFlags := 9, nameIndex := 407, descriptorIndex := 54, attributes := #[] }] 49 203 #[304, 306, 308] #[{ accessFlags := 25, nameIndex := 310, descriptorIndex := 194, attributes := #[] }, { accessFlags := 25, nameIndex := 312, descriptorIndex := 194, attributes := #[] }, { accessFlags := 25, nameIndex := 302, descriptorIndex := 303, attributes := #[] }, { accessFlags := 24, nameIndex := 19, descriptorIndex := 20, attributes := #[] }, { accessFlags := 24, nameIndex := 89, descriptorIndex := 86, attributes := #[] }, { accessFlags := 24, nameIndex := 85, descriptorIndex := 86, attributes := #[] }, { accessFlags := 18, nameIndex := 207, descriptorIndex := 194, attributes := #[] }, { accessFlags := 25, nameIndex := 316, descriptorIndex := 194, attributes := #[] }, { accessFlags := 25, nameIndex := 318, descriptorIndex := 194, attributes := #[] }, { accessFlags := 26, nameIndex := 320, descriptorIndex := 321, attributes := #[] }])
  fields := #[{ name := "MIN_VALUE", type := .int, accessFlags := 25, slot := 0, constantValue := 0 }, { name := "MAX_VALUE", type := .int, accessFlags := 25, slot := 1, constantValue := 0 }, { name := "TYPE", type := (.object "java/lang/Class"), accessFlags := 25, slot := 2, constantValue := 0 }, { name := "digits", type := (.array .char), accessFlags := 24, slot := 3, constantValue := 0 }, { name := "DigitTens", type := (.array .byte), accessFlags := 24, slot := 4, constantValue := 0 }, { name := "DigitOnes", type := (.array .byte), accessFlags := 24, slot := 5, constantValue := 0 }, { name := "value", type := .int, accessFlags := 18, slot := 0, constantValue := 0 }, { name := "SIZE", type := .int, accessFlags := 25, slot := 6, constantValue := 0 }, { name := "BYTES", type := .int, accessFlags := 25, slot := 7, constantValue := 0 }, { name := "serialVersionUID", type := .long, accessFlags := 26, slot := 8, constantValue := 0 }]
  methods := #[k11m0]
  instanceTypes := #[.int]
  staticTypes := #[.int, .int, (.object "java/lang/Class"), (.array .char), (.array .byte), (.array .byte), .int, .int, .long]
  resolved := Array.replicate 453 none
  statics := none }

def pool12 : Array CpInfo := pool [(1, .class_ 2), (0, u "java/lang/Long"), (98, u "(J)I"), (133, .class_ 237), (1, u "java/lang/Long$LongCache"), (33, .class_ 272), (0, u "java/lang/Number"), (2, u "value"), (0, u "J"), (37, .long 6148914691236517205), (1, .long 3689348814741910323), (1, .long 1085102592571150095), (42, u "TYPE"), (0, u "Ljava/lang/Class;"), (0, .class_ 364), (0, u "java/lang/Comparable"), (0, .class_ 366), (0, u "java/lang/constant/Constable"), (0, .class_ 368), (0, u "java/lang/constant/ConstantDesc"), (0, u "MIN_VALUE"), (1, u "MAX_VALUE"), (4, u "SIZE"), (0, u "I"), (1, u "BYTES"), (1, u "serialVersionUID"), (94, u "bitCount")] 47

def k12c0 : Code := { maxStack := 6, maxLocals := 2, code := jdk_35_method_50_code, exceptionTable := #[], attributes := #[] }
def k12m0 : Method := { name := "bitCount", desc := "(J)I", sig := { parameters := [.long], returnType := some .int }, accessFlags := 9, code := some k12c0 }
/-- java/lang/Long -/
def k12 : Class := { plain "java/lang/Long" (some 7) with
  accessFlags := 49
  interfaces := #[8, 9, 10]
  cf := some (fileOf pool12 1 #[.nestMembers #[235]] #[{ accessFlags := 9, nameIndex := 476, descriptorIndex := 101, attributes := #[] }] 49 271 #[363, 365, 367] #[{ accessFlags := 25, nameIndex := 369, descriptorIndex := 276, attributes := #[] }, { accessFlags := 25, nameIndex := 371, descriptorIndex := 276, attributes := #[] }, { accessFlags := 25, nameIndex := 361, descriptorIndex := 362, attributes := #[] }, { accessFlags := 18, nameIndex := 275, descriptorIndex := 276, attributes := #[] }, { accessFlags := 25, nameIndex := 376, descriptorIndex := 377, attributes := #[] }, { accessFlags := 25, nameIndex := 379, descriptorIndex := 377, attributes := #[] }, { accessFlags := 26, nameIndex := 381, descriptorIndex := 276, attributes := #[] }])
  fields := #[{ name := "MIN_VALUE", type := .long, accessFlags := 25, slot := 0, constantValue := 0 }, { name := "MAX_VALUE", type := .long, accessFlags := 25, slot := 1, constantValue := 0 }, { name := "TYPE", type := (.object "java/lang/Class"), accessFlags := 25, slot := 2, constantValue := 0 }, { name := "value", type := .long, accessFlags := 18, slot := 0, constantValue := 0 }, { name := "SIZE", type := .int, accessFlags := 25, slot := 3, constantValue := 0 }, { name := "BYTES", type := .int, accessFlags := 25, slot := 4, constantValue := 0 }, { name := "serialVersionUID", type := .long, accessFlags := 26, slot := 5, constantValue := 0 }]
  methods := #[k12m0]
  instanceTypes := #[.long]
  staticTypes := #[.long, .long, (.object "java/lang/Class"), .int, .int, .long]
  resolved := Array.replicate 524 none
  statics := none }

def pool13 : Array CpInfo := pool [(1, u "java/lang/Cloneable"), (0, .class_ 1), (0, u "java/lang/Object"), (0, .class_ 3)] 3

/-- java/lang/Cloneable -/
def k13 : Class := { plain "java/lang/Cloneable" (some 0) with
  accessFlags := 1537
  interfaces := #[]
  cf := some (fileOf pool13 2 #[] #[] 1537 4 #[] #[])
  fields := #[]
  methods := #[]
  instanceTypes := #[]
  staticTypes := #[]
  resolved := Array.replicate 8 none
  statics := none }

/-- the primitive byte -/
def k14 : Class := { plain "byte" none with kind := .primitive 'B', accessFlags := 0x411 }
/-- [B -/
def k15 : Class := { plain "[B" (some 0) with kind := .array 14 .byte, interfaces := #[13, 6], accessFlags := 1041 }

/-- the primitive int -/
def k16 : Class := { plain "int" none with kind := .primitive 'I', accessFlags := 0x411 }
/-- [I -/
def k17 : Class := { plain "[I" (some 0) with kind := .array 16 .int, interfaces := #[13, 6], accessFlags := 1041 }

def heap : Heap := #[]
def classes : Array Class := #[k0, k1, k2, k3, k4, k5, k6, k7, k8, k9, k10, k11, k12, k13, k14, k15, k16, k17]
def interned : List (Array UInt16 × Addr) := []
def slotsUsed : Nat := 0
def theMethod : MethodId := ⟨1, 2⟩
def args0 : Array Value := #[.int 5, .int 3, .int 7, .int 2, .int 1]
def aboutOver (below : List Frame) : State where
  vm := { classes := classes, interned := interned.toArray }
  heap := heap
  slotsUsed := slotsUsed
  threads := #[{ frames := .invoking theMethod args0 :: below }]
def below0 : List Frame := [.native { method := ⟨0, 0⟩, args := #[] }]
def about1 : State := aboutOver below0
def p0 : Program := .bare "" "" ""
def e0 : Env := launch0.env 0 0 0
theorem w_frames : about1.frames = Frame.invoking theMethod args0 :: below0 := rfl
set_option maxRecDepth 65536 in
theorem w_args : argsFit about1.vm theMethod args0 = true := by decide +kernel
set_option maxRecDepth 65536 in
theorem w_heap : heapFits about1 = true := by decide +kernel
set_option maxRecDepth 65536 in
theorem w_runnable : about1.curStatus? = some .runnable := by decide +kernel
set_option maxRecDepth 65536 in
theorem w_alone : about1.alone = true := by decide +kernel
set_option maxRecDepth 65536 in
theorem w_named : about1.methodNamed? x = some theMethod := by decide +kernel
set_option maxRecDepth 65536 in
theorem w_hears : about1.hears theMethod below0 = true := by decide +kernel
set_option maxRecDepth 65536 in
theorem w_ripe : about1.ripe theMethod args0 below0 = true := by decide +kernel
theorem w_running : about1.status = .running := rfl
set_option maxRecDepth 65536 in
theorem w_room : about1.hasRoom e0.platform room_1 = true :=
  launch0.hasRoom_least _ room_1 (by decide +kernel) (by decide +kernel) (by decide +kernel) (by decide +kernel) (by decide +kernel) (by decide +kernel)
theorem allAtoms_all (ts : List Jvm.Cond) (a : Array Jvm.Value) (st : Jvm.State) : (allAtoms ts).before a st = ts.all (fun c => c.before a st) := by
  induction ts with
  | nil => rfl
  | cons c t ih =>
    show (Jvm.Cond.and c (allAtoms t)).before a st = _
    rw [Jvm.Cond.before_and, ih, List.all_cons]
def words1 : List Jvm.Cond := Jvm.Cond.code x code maxLocals ret :: tables_1
/-- a 'code' word, met by the world's own term for the bytes: nothing is compared byte by byte -/
theorem code_word {y : MethodName} {bytes : ByteArray} {mx : Nat} {rt : Option FieldType} {a : Array Value} {s : State} {m : MethodId} {meth : Method} {c : Code} (h1 : s.methodNamed? y = some m) (h2 : s.vm.method? m = some meth) (h3 : meth.code = some c) (h4 : c.code = bytes)
    (h5 : (c.maxLocals == mx && c.exceptionTable.isEmpty && decide (c.maxStack ≤ mostOperands) && decide (meth.sig.returnType = rt) && !meth.locks && decide (parseMethodDescriptor y.desc = some meth.sig)) = true) : (Jvm.Cond.code y bytes mx rt).before a s = true := by
  simp only [Bool.and_eq_true, beq_iff_eq, Bool.not_eq_true', decide_eq_true_eq] at h5
  obtain ⟨⟨⟨⟨⟨g1, g2⟩, g3⟩, g4⟩, g5⟩, g6⟩ := h5
  simp [Cond.before, Cond.holds, Cond.value, h1, h2, h3, h4, g1, g2, g3, g4, g5, g6]
def isCode : Jvm.Cond → Bool
  | .code _ _ _ _ => true
  | _ => false
theorem all_split {L : List Jvm.Cond} {P : Jvm.Cond → Bool} (h1 : L.all (fun c => isCode c || P c) = true) (h2 : ∀ c ∈ L.filter isCode, P c = true) : L.all P = true := by
  refine List.all_eq_true.mpr fun c hc => ?_
  have h := List.all_eq_true.mp h1 c hc
  rcases Bool.eq_false_or_eq_true (isCode c) with hi | hi
  · exact h2 c (List.mem_filter.mpr ⟨hc, hi⟩)
  · simpa [hi] using h
set_option maxRecDepth 65536 in
theorem w_c0 : (Jvm.Cond.code x code maxLocals ret).before args0 about1 = true := code_word (m := ⟨1, 2⟩) (meth := k1m2) (c := k1c2) (by decide +kernel) rfl rfl rfl (by decide +kernel)
set_option maxRecDepth 65536 in
theorem w_c1 : (Jvm.Cond.code ({ cls := "com/example/libpalin/libpalin/RankedBits$Builder", name := "<init>", desc := "([III)V" } : Jvm.MethodName) prog_34_method_1_code (4 : Nat) (Option.none : Option Jvm.ClassFile.FieldType)).before args0 about1 = true := code_word (m := ⟨2, 0⟩) (meth := k2m0) (c := k2c0) (by decide +kernel) rfl rfl rfl (by decide +kernel)
set_option maxRecDepth 65536 in
theorem w_c2 : (Jvm.Cond.code ({ cls := "java/lang/Object", name := "<init>", desc := "()V" } : Jvm.MethodName) object_method_1_code (1 : Nat) (Option.none : Option Jvm.ClassFile.FieldType)).before args0 about1 = true := code_word (m := ⟨0, 0⟩) (meth := k0m0) (c := k0c0) (by decide +kernel) rfl rfl rfl (by decide +kernel)
set_option maxRecDepth 65536 in
theorem w_c3 : (Jvm.Cond.code ({ cls := "com/example/libpalin/libpalin/RankedBits", name := "bitInts", desc := "(I)I" } : Jvm.MethodName) prog_33_method_5_code (1 : Nat) (Option.some Jvm.ClassFile.FieldType.int)).before args0 about1 = true := code_word (m := ⟨3, 3⟩) (meth := k3m3) (c := k3c3) (by decide +kernel) rfl rfl rfl (by decide +kernel)
set_option maxRecDepth 65536 in
theorem w_c4 : (Jvm.Cond.code ({ cls := "java/util/Arrays", name := "fill", desc := "([IIII)V" } : Jvm.MethodName) jdk_65_method_104_code (5 : Nat) (Option.none : Option Jvm.ClassFile.FieldType)).before args0 about1 = true := code_word (m := ⟨4, 2⟩) (meth := k4m2) (c := k4c2) (by decide +kernel) rfl rfl rfl (by decide +kernel)
set_option maxRecDepth 65536 in
theorem w_c5 : (Jvm.Cond.code ({ cls := "java/util/Arrays", name := "rangeCheck", desc := "(III)V" } : Jvm.MethodName) jdk_65_method_30_code (3 : Nat) (Option.none : Option Jvm.ClassFile.FieldType)).before args0 about1 = true := code_word (m := ⟨4, 1⟩) (meth := k4m1) (c := k4c1) (by decide +kernel) rfl rfl rfl (by decide +kernel)
set_option maxRecDepth 65536 in
theorem w_c6 : (Jvm.Cond.code ({ cls := "com/example/libpalin/libpalin/RankedBits$Builder", name := "set", desc := "(I)V" } : Jvm.MethodName) prog_34_method_2_code (2 : Nat) (Option.none : Option Jvm.ClassFile.FieldType)).before args0 about1 = true := code_word (m := ⟨2, 1⟩) (meth := k2m1) (c := k2c1) (by decide +kernel) rfl rfl rfl (by decide +kernel)
set_option maxRecDepth 65536 in
theorem w_c7 : (Jvm.Cond.code ({ cls := "com/example/libpalin/libpalin/RankedBits$Builder", name := "build", desc := "()Lcom/example/libpalin/libpalin/RankedBits;" } : Jvm.MethodName) prog_34_method_4_code (5 : Nat) (Option.some (Jvm.ClassFile.FieldType.object "com/example/libpalin/libpalin/RankedBits"))).before args0 about1 = true := code_word (m := ⟨2, 2⟩) (meth := k2m2) (c := k2c2) (by decide +kernel) rfl rfl rfl (by decide +kernel)
set_option maxRecDepth 65536 in
theorem w_c8 : (Jvm.Cond.code ({ cls := "java/lang/Math", name := "min", desc := "(II)I" } : Jvm.MethodName) jdk_29_method_69_code (2 : Nat) (Option.some Jvm.ClassFile.FieldType.int)).before args0 about1 = true := code_word (m := ⟨5, 1⟩) (meth := k5m1) (c := k5c1) (by decide +kernel) rfl rfl rfl (by decide +kernel)
set_option maxRecDepth 65536 in
theorem w_c9 : (Jvm.Cond.code ({ cls := "com/example/libpalin/libpalin/RankedBits$Builder", name := "counted", desc := "(IIII)I" } : Jvm.MethodName) prog_34_method_5_code (8 : Nat) (Option.some Jvm.ClassFile.FieldType.int)).before args0 about1 = true := code_word (m := ⟨2, 3⟩) (meth := k2m3) (c := k2c3) (by decide +kernel) rfl rfl rfl (by decide +kernel)
set_option maxRecDepth 65536 in
theorem w_c10 : (Jvm.Cond.code ({ cls := "java/lang/Integer", name := "bitCount", desc := "(I)I" } : Jvm.MethodName) jdk_33_method_49_code (1 : Nat) (Option.some Jvm.ClassFile.FieldType.int)).before args0 about1 = true := code_word (m := ⟨11, 0⟩) (meth := k11m0) (c := k11c0) (by decide +kernel) rfl rfl rfl (by decide +kernel)
set_option maxRecDepth 65536 in
theorem w_c11 : (Jvm.Cond.code ({ cls := "com/example/libpalin/libpalin/RankedBits", name := "<init>", desc := "([III)V" } : Jvm.MethodName) prog_33_method_1_code (4 : Nat) (Option.none : Option Jvm.ClassFile.FieldType)).before args0 about1 = true := code_word (m := ⟨3, 0⟩) (meth := k3m0) (c := k3c0) (by decide +kernel) rfl rfl rfl (by decide +kernel)
set_option maxRecDepth 65536 in
theorem w_c12 : (Jvm.Cond.code ({ cls := "com/example/libpalin/libpalin/BuilderSetPinLaw", name := "bitAt", desc := "(II)J" } : Jvm.MethodName) method_2_code (2 : Nat) (Option.some Jvm.ClassFile.FieldType.long)).before args0 about1 = true := code_word (m := ⟨1, 1⟩) (meth := k1m1) (c := k1c1) (by decide +kernel) rfl rfl rfl (by decide +kernel)
set_option maxRecDepth 65536 in
theorem w_c13 : (Jvm.Cond.code ({ cls := "com/example/libpalin/libpalin/RankedBits", name := "bitsFrom", desc := "(I)J" } : Jvm.MethodName) prog_33_method_4_code (6 : Nat) (Option.some Jvm.ClassFile.FieldType.long)).before args0 about1 = true := code_word (m := ⟨3, 2⟩) (meth := k3m2) (c := k3c2) (by decide +kernel) rfl rfl rfl (by decide +kernel)
set_option maxRecDepth 65536 in
theorem w_c14 : (Jvm.Cond.code ({ cls := "com/example/libpalin/libpalin/RankedBits", name := "setBefore", desc := "(I)I" } : Jvm.MethodName) prog_33_method_3_code (4 : Nat) (Option.some Jvm.ClassFile.FieldType.int)).before args0 about1 = true := code_word (m := ⟨3, 1⟩) (meth := k3m1) (c := k3c1) (by decide +kernel) rfl rfl rfl (by decide +kernel)
set_option maxRecDepth 65536 in
theorem w_c15 : (Jvm.Cond.code ({ cls := "java/lang/Long", name := "bitCount", desc := "(J)I" } : Jvm.MethodName) jdk_35_method_50_code (2 : Nat) (Option.some Jvm.ClassFile.FieldType.int)).before args0 about1 = true := code_word (m := ⟨12, 0⟩) (meth := k12m0) (c := k12c0) (by decide +kernel) rfl rfl rfl (by decide +kernel)
def codes1 : List Jvm.Cond := [Jvm.Cond.code x code maxLocals ret, Jvm.Cond.code ({ cls := "com/example/libpalin/libpalin/RankedBits$Builder", name := "<init>", desc := "([III)V" } : Jvm.MethodName) prog_34_method_1_code (4 : Nat) (Option.none : Option Jvm.ClassFile.FieldType), Jvm.Cond.code ({ cls := "java/lang/Object", name := "<init>", desc := "()V" } : Jvm.MethodName) object_method_1_code (1 : Nat) (Option.none : Option Jvm.ClassFile.FieldType), Jvm.Cond.code ({ cls := "com/example/libpalin/libpalin/RankedBits", name := "bitInts", desc := "(I)I" } : Jvm.MethodName) prog_33_method_5_code (1 : Nat) (Option.some Jvm.ClassFile.FieldType.int), Jvm.Cond.code ({ cls := "java/util/Arrays", name := "fill", desc := "([IIII)V" } : Jvm.MethodName) jdk_65_method_104_code (5 : Nat) (Option.none : Option Jvm.ClassFile.FieldType), Jvm.Cond.code ({ cls := "java/util/Arrays", name := "rangeCheck", desc := "(III)V" } : Jvm.MethodName) jdk_65_method_30_code (3 : Nat) (Option.none : Option Jvm.ClassFile.FieldType), Jvm.Cond.code ({ cls := "com/example/libpalin/libpalin/RankedBits$Builder", name := "set", desc := "(I)V" } : Jvm.MethodName) prog_34_method_2_code (2 : Nat) (Option.none : Option Jvm.ClassFile.FieldType), Jvm.Cond.code ({ cls := "com/example/libpalin/libpalin/RankedBits$Builder", name := "build", desc := "()Lcom/example/libpalin/libpalin/RankedBits;" } : Jvm.MethodName) prog_34_method_4_code (5 : Nat) (Option.some (Jvm.ClassFile.FieldType.object "com/example/libpalin/libpalin/RankedBits")), Jvm.Cond.code ({ cls := "java/lang/Math", name := "min", desc := "(II)I" } : Jvm.MethodName) jdk_29_method_69_code (2 : Nat) (Option.some Jvm.ClassFile.FieldType.int), Jvm.Cond.code ({ cls := "com/example/libpalin/libpalin/RankedBits$Builder", name := "counted", desc := "(IIII)I" } : Jvm.MethodName) prog_34_method_5_code (8 : Nat) (Option.some Jvm.ClassFile.FieldType.int), Jvm.Cond.code ({ cls := "java/lang/Integer", name := "bitCount", desc := "(I)I" } : Jvm.MethodName) jdk_33_method_49_code (1 : Nat) (Option.some Jvm.ClassFile.FieldType.int), Jvm.Cond.code ({ cls := "com/example/libpalin/libpalin/RankedBits", name := "<init>", desc := "([III)V" } : Jvm.MethodName) prog_33_method_1_code (4 : Nat) (Option.none : Option Jvm.ClassFile.FieldType), Jvm.Cond.code ({ cls := "com/example/libpalin/libpalin/BuilderSetPinLaw", name := "bitAt", desc := "(II)J" } : Jvm.MethodName) method_2_code (2 : Nat) (Option.some Jvm.ClassFile.FieldType.long), Jvm.Cond.code ({ cls := "com/example/libpalin/libpalin/RankedBits", name := "bitsFrom", desc := "(I)J" } : Jvm.MethodName) prog_33_method_4_code (6 : Nat) (Option.some Jvm.ClassFile.FieldType.long), Jvm.Cond.code ({ cls := "com/example/libpalin/libpalin/RankedBits", name := "setBefore", desc := "(I)I" } : Jvm.MethodName) prog_33_method_3_code (4 : Nat) (Option.some Jvm.ClassFile.FieldType.int), Jvm.Cond.code ({ cls := "java/lang/Long", name := "bitCount", desc := "(J)I" } : Jvm.MethodName) jdk_35_method_50_code (2 : Nat) (Option.some Jvm.ClassFile.FieldType.int)]
set_option maxRecDepth 65536 in
theorem codes_eq : words1.filter isCode = codes1 := rfl
theorem w_codes : ∀ c ∈ words1.filter isCode, c.before args0 about1 = true := by
  rw [codes_eq]
  intro c hc
  simp only [codes1, List.mem_cons, List.not_mem_nil, or_false] at hc
  rcases hc with rfl | rfl | rfl | rfl | rfl | rfl | rfl | rfl | rfl | rfl | rfl | rfl | rfl | rfl | rfl | rfl
  · exact w_c0
  · exact w_c1
  · exact w_c2
  · exact w_c3
  · exact w_c4
  · exact w_c5
  · exact w_c6
  · exact w_c7
  · exact w_c8
  · exact w_c9
  · exact w_c10
  · exact w_c11
  · exact w_c12
  · exact w_c13
  · exact w_c14
  · exact w_c15
set_option maxRecDepth 65536 in
theorem w_t1 : (words1.take 24).all (fun c => isCode c || c.before args0 about1) = true := by decide +kernel
set_option maxRecDepth 65536 in
theorem w_t2 : ((words1.drop 24).take 24).all (fun c => isCode c || c.before args0 about1) = true := by decide +kernel
set_option maxRecDepth 65536 in
theorem w_t3 : (((words1.drop 24).drop 24).take 24).all (fun c => isCode c || c.before args0 about1) = true := by decide +kernel
set_option maxRecDepth 65536 in
theorem w_t4 : (((words1.drop 24).drop 24).drop 24).all (fun c => isCode c || c.before args0 about1) = true := by decide +kernel
theorem w_tables : (allAtoms (Jvm.Cond.code x code maxLocals ret :: tables_1)).before args0 about1 = true := by
  rw [allAtoms_all]
  show words1.all (fun c => c.before args0 about1) = true
  refine all_split ?_ w_codes
  rw [← List.take_append_drop 24 words1, List.all_append, w_t1, ← List.take_append_drop 24 (words1.drop 24), List.all_append, w_t2, ← List.take_append_drop 24 ((words1.drop 24).drop 24), List.all_append, w_t3, w_t4]
  rfl
set_option maxRecDepth 65536 in
theorem w_case : (Jvm.Cond.and given_1 narrow_1).before args0 about1 = true := by decide +kernel
theorem w_applies : (headSpec (Jvm.Cond.code x code maxLocals ret :: tables_1) room_1).applies x e0.platform about1 = true :=
  (Spec.applies_iff w_frames).mpr ⟨w_running, w_runnable, w_alone, w_named, w_hears, w_ripe, w_room, w_tables⟩
theorem atStart : AtStart classFile x code maxLocals ret World_1 tables_1 room_1 Calls_1 rest_1 Pre_1 launch0 p0 e0 about1 theMethod args0 below0 :=
  ⟨lists_1, trivial, launch0.admits_env _ _ _, launch0.least_env, fairChoices_fair.cas, fairChoices_fair.clock, w_frames, w_args, w_heap, w_applies, trivial, trivial, w_case⟩
end start1
theorem witness_1 : WitnessClaimed_1 := ⟨start1.p0, start1.e0, start1.about1, start1.theMethod, start1.args0, start1.below0, start1.atStart⟩
end Jvm.Pilot.@@N@@
