import JvmDerived
import JvmDerived.Pilot.@@N@@Statement
import JvmDerived.Pilot.@@N@@Code
set_option linter.unusedVariables false
set_option linter.unusedSimpArgs false
namespace Jvm.OwnKit
open Sem ClassFile Op Lib Jvm.Stand Jvm.Free Jvm.LawKit Jvm.RoadKit
def Go (tb : Tables) (e : Env) (below : List Frame) (P : State → Outcome → Prop) (S : State) : Prop :=
  ∃ s₂ o, Steps tb e below S s₂ ∧ s₂.status = .running ∧ Ended s₂ below o ∧ P s₂ o
theorem go {tb : Tables} {e : Env} {below : List Frame} {P : State → Outcome → Prop} {S S' : State} (h : ∀ t, Steps tb e below S' t → Steps tb e below S t) (k : Go tb e below P S') : Go tb e below P S := by
  obtain ⟨s₂, o, h1, h2⟩ := k
  exact ⟨s₂, o, h _ h1, h2⟩
theorem goT {tb : Tables} {e : Env} {below : List Frame} {P : State → Outcome → Prop} {S S' : State} (h : Steps tb e below S S') (k : Go tb e below P S') : Go tb e below P S := go (fun _ q => h.trans q) k
def Done (s : State) (Q : Option Value → Heap → List Loc → Prop) (k n : Nat) (t : State) (o : Outcome) : Prop := ∃ v L, o = .returned v ∧ Q v t.heap L ∧ FrameEnd s o t L k n
/-- a body's contract: called with just these arguments, over this heap -/
def Con (l : Launch) (Z : State) (y : MethodName) (bytes : ByteArray) (maxL : Nat) (rt : Option FieldType) (ws : List Jvm.Cond) (rm : Room) (as' : Array Value) (h : Heap) (k n : Nat) (Q : Option Value → Heap → List Loc → Prop) : Prop :=
  MetFree l y (head1 (Jvm.Cond.code y bytes maxL rt :: ws) rm) (fun a U => a = as' ∧ Z.Warmed39 U.vm ∧ U.heap = h) (fun _ _ _ _ _ => True) (fun _ U o U' => ∃ v L, o = .returned v ∧ Q v U'.heap L ∧ FrameEnd U o U' L k n)
theorem Con.of {l : Launch} {Z : State} {y : MethodName} {bytes : ByteArray} {maxL : Nat} {rt : Option FieldType} {ws : List Jvm.Cond} {rm : Room} {as' : Array Value} {h : Heap} {k n : Nat} {Q : Option Value → Heap → List Loc → Prop} (hp : plainFor y = true)
    (body : ∀ (p : Program) (e : Env) (s : State) (m : MethodId) (below : List Frame) (meth : Method) (c : Code) (s₁ : State), p.tables.exec = Jvm.exec → c.code = bytes → c.maxLocals = maxL → s.vm.findClass y.cls = some m.cls → meth.name = y.name → meth.sig.returnType = rt → meth.locks = false → Z.Warmed39 s.vm →
      Stand p l e rm s m as' below meth c s₁ [] 0 0 → s₁.heap = h → Go p.tables e below (Done s Q k n) (s₁.setTop (entryFrame m as' maxL))) : Con l Z y bytes maxL rt ws rm as' h k n Q := by
  refine MetFree.of_bodySF hp hisR ?_
  intro p e s m args below meth c s₁ Bd hml0 hP hK
  obtain ⟨rfl, hZ, hh⟩ := hP
  exact body p e s m below meth c s₁ Bd.exec Bd.bytes hml0 (findClass_of_methodNamed Bd.named) (name_of_methodNamed Bd.named Bd.method).1 Bd.returns Bd.notSynchronized hZ (Stand.of_body Bd) (by rw [← hh, Bd.state]; rfl)
section Steps1
variable {p : Program} {l : Launch} {e : Env} {R : Room} {s : State} {m : MethodId} {args : Array Value} {below : List Frame} {meth : Method} {c : Code} {T : State} {locs : List Loc} {cells slots : Nat} {P : State → Outcome → Prop} {pc q : Nat} {L L' : Array Slot} {S : List Value}
theorem goE {args' : Array Value} {n : Nat} (hq : entryFrame m args' n = mkF m 0 L []) (K : Go p.tables e below P (T.setTop (mkF m 0 L []))) : Go p.tables e below P (T.setTop (entryFrame m args' n)) := go (fun _ k => castTop hq k) K
theorem gIloadN (X : Stand p l e R s m args below meth c T locs cells slots) (hx : p.tables.exec = Jvm.exec) {k : Fin 4} {v : Int32} (hd : decode c.code pc = .ok (.iload_n k, 1)) (hq : pc + 1 = q) (hl : L[k.val]? = some (.val (.int v))) (K : Go p.tables e below P (T.setTop (mkF m q L (.int v :: S)))) : Go p.tables e below P (T.setTop (mkF m pc L (S))) := by subst hq; exact go (fun t k => XS.iloadN X.here hx rfl hd hl k) K
theorem gIload (X : Stand p l e R s m args below meth c T locs cells slots) (hx : p.tables.exec = Jvm.exec) {k : Nat} {v : Int32} (hd : decode c.code pc = .ok (.iload k, 2)) (hq : pc + 2 = q) (hl : L[k]? = some (.val (.int v))) (K : Go p.tables e below P (T.setTop (mkF m q L (.int v :: S)))) : Go p.tables e below P (T.setTop (mkF m pc L (S))) := by subst hq; exact go (fun t k => XS.iload X.here hx rfl hd hl k) K
theorem gLloadN (X : Stand p l e R s m args below meth c T locs cells slots) (hx : p.tables.exec = Jvm.exec) {k : Fin 4} {v : Int64} (hd : decode c.code pc = .ok (.lload_n k, 1)) (hq : pc + 1 = q) (hl : L[k.val]? = some (.val (.long v))) (K : Go p.tables e below P (T.setTop (mkF m q L (.long v :: S)))) : Go p.tables e below P (T.setTop (mkF m pc L (S))) := by subst hq; exact go (fun t k => XT.lloadN X.here hx rfl hd hl k) K
theorem gLload (X : Stand p l e R s m args below meth c T locs cells slots) (hx : p.tables.exec = Jvm.exec) {k : Nat} {v : Int64} (hd : decode c.code pc = .ok (.lload k, 2)) (hq : pc + 2 = q) (hl : L[k]? = some (.val (.long v))) (K : Go p.tables e below P (T.setTop (mkF m q L (.long v :: S)))) : Go p.tables e below P (T.setTop (mkF m pc L (S))) := by subst hq; exact go (fun t k => XT.lload X.here hx rfl hd hl k) K
theorem gAloadN (X : Stand p l e R s m args below meth c T locs cells slots) (hx : p.tables.exec = Jvm.exec) {k : Fin 4} {v : Value} (hd : decode c.code pc = .ok (.aload_n k, 1)) (hq : pc + 1 = q) (hl : L[k.val]? = some (.val v)) (hv : v.isRef = true) (K : Go p.tables e below P (T.setTop (mkF m q L (v :: S)))) : Go p.tables e below P (T.setTop (mkF m pc L (S))) := by subst hq; exact go (fun t k => XS.aloadN X.here hx rfl hd hl hv k) K
theorem gAload (X : Stand p l e R s m args below meth c T locs cells slots) (hx : p.tables.exec = Jvm.exec) {k : Nat} {v : Value} (hd : decode c.code pc = .ok (.aload k, 2)) (hq : pc + 2 = q) (hl : L[k]? = some (.val v)) (hv : v.isRef = true) (K : Go p.tables e below P (T.setTop (mkF m q L (v :: S)))) : Go p.tables e below P (T.setTop (mkF m pc L (S))) := by subst hq; exact go (fun t k => XS.aload X.here hx rfl hd hl hv k) K
theorem gIconst (X : Stand p l e R s m args below meth c T locs cells slots) (hx : p.tables.exec = Jvm.exec) {i : Int} (v : Int32) (hd : decode c.code pc = .ok (.iconst i, 1)) (hq : pc + 1 = q) (hv : Int32.ofInt i = v) (K : Go p.tables e below P (T.setTop (mkF m q L (.int v :: S)))) : Go p.tables e below P (T.setTop (mkF m pc L (S))) := by subst hq; exact go (fun t k => XT.iconstV X.here hx rfl v hd hv k) K
theorem gBipush (X : Stand p l e R s m args below meth c T locs cells slots) (hx : p.tables.exec = Jvm.exec) {i : Int} (v : Int32) (hd : decode c.code pc = .ok (.bipush i, 2)) (hq : pc + 2 = q) (hv : (Int8.ofInt i).toInt32 = v) (K : Go p.tables e below P (T.setTop (mkF m q L (.int v :: S)))) : Go p.tables e below P (T.setTop (mkF m pc L (S))) := by subst hq; exact go (fun t k => XT.bipushV X.here hx rfl v hd hv k) K
theorem gSipush (X : Stand p l e R s m args below meth c T locs cells slots) (hx : p.tables.exec = Jvm.exec) {i : Int} (v : Int32) (hd : decode c.code pc = .ok (.sipush i, 3)) (hq : pc + 3 = q) (hv : (Int16.ofInt i).toInt32 = v) (K : Go p.tables e below P (T.setTop (mkF m q L (.int v :: S)))) : Go p.tables e below P (T.setTop (mkF m pc L (S))) := by subst hq; exact go (fun t k => XT.sipushV X.here hx rfl v hd hv k) K
theorem gLconst (X : Stand p l e R s m args below meth c T locs cells slots) (hx : p.tables.exec = Jvm.exec) {k : Fin 2} (v : Int64) (hd : decode c.code pc = .ok (.lconst k, 1)) (hq : pc + 1 = q) (hv : Int64.ofNat k = v) (K : Go p.tables e below P (T.setTop (mkF m q L (.long v :: S)))) : Go p.tables e below P (T.setTop (mkF m pc L (S))) := by subst hq; exact go (fun t k => XT.lconstV X.here hx rfl v hd hv k) K
theorem gNull (X : Stand p l e R s m args below meth c T locs cells slots) (hx : p.tables.exec = Jvm.exec)  (hd : decode c.code pc = .ok (.aconst_null, 1)) (hq : pc + 1 = q)  (K : Go p.tables e below P (T.setTop (mkF m q L (.null :: S)))) : Go p.tables e below P (T.setTop (mkF m pc L (S))) := by subst hq; exact go (fun t k => XS.aconstNull X.here hx rfl hd  k) K
theorem gLdc (X : Stand p l e R s m args below meth c T locs cells slots) (hx : p.tables.exec = Jvm.exec) {Z : State} {a0 : Array Value} (hZ : Z.Warmed39 s.vm) {own : String} {i : Nat} {v : Int32} (hown : s.vm.findClass own = some m.cls) (w : (Jvm.Cond.constant own i v).before a0 Z = true) (hd : decode c.code pc = .ok (.ldc i, 2)) (hq : pc + 2 = q) (K : Go p.tables e below P (T.setTop (mkF m q L (.int v :: S)))) : Go p.tables e below P (T.setTop (mkF m pc L (S))) := by subst hq; exact go (fun t k => Stand.ldcI X hx hown (mvT hZ w) rfl hd k) K
theorem gLdcW (X : Stand p l e R s m args below meth c T locs cells slots) (hx : p.tables.exec = Jvm.exec) {Z : State} {a0 : Array Value} (hZ : Z.Warmed39 s.vm) {own : String} {i : Nat} {v : Int32} (hown : s.vm.findClass own = some m.cls) (w : (Jvm.Cond.constant own i v).before a0 Z = true) (hd : decode c.code pc = .ok (.ldc_w i, 3)) (hq : pc + 3 = q) (K : Go p.tables e below P (T.setTop (mkF m q L (.int v :: S)))) : Go p.tables e below P (T.setTop (mkF m pc L (S))) := by subst hq; exact go (fun t k => Stand.ldcWI X hx hown (mvT hZ w) rfl hd k) K
theorem gLdc2 (X : Stand p l e R s m args below meth c T locs cells slots) (hx : p.tables.exec = Jvm.exec) {Z : State} {a0 : Array Value} (hZ : Z.Warmed39 s.vm) {own : String} {i : Nat} {v : Int64} (hown : s.vm.findClass own = some m.cls) (w : (Jvm.Cond.constantLong own i v).before a0 Z = true) (hd : decode c.code pc = .ok (.ldc2_w i, 3)) (hq : pc + 3 = q) (K : Go p.tables e below P (T.setTop (mkF m q L (.long v :: S)))) : Go p.tables e below P (T.setTop (mkF m pc L (S))) := by subst hq; exact go (fun t k => Stand.ldc2J X hx hown (mvT hZ w) rfl hd k) K
theorem gIadd (X : Stand p l e R s m args below meth c T locs cells slots) (hx : p.tables.exec = Jvm.exec) {x y : Int32} (hd : decode c.code pc = .ok (.iadd, 1)) (hq : pc + 1 = q)  (K : Go p.tables e below P (T.setTop (mkF m q L (.int (x + y) :: S)))) : Go p.tables e below P (T.setTop (mkF m pc L (.int y :: .int x :: S))) := by subst hq; exact go (fun t k => XS.iadd X.here hx rfl hd rfl  k) K
theorem gIsub (X : Stand p l e R s m args below meth c T locs cells slots) (hx : p.tables.exec = Jvm.exec) {x y : Int32} (hd : decode c.code pc = .ok (.isub, 1)) (hq : pc + 1 = q)  (K : Go p.tables e below P (T.setTop (mkF m q L (.int (x - y) :: S)))) : Go p.tables e below P (T.setTop (mkF m pc L (.int y :: .int x :: S))) := by subst hq; exact go (fun t k => XS.isub X.here hx rfl hd rfl  k) K
theorem gIand (X : Stand p l e R s m args below meth c T locs cells slots) (hx : p.tables.exec = Jvm.exec) {x y : Int32} (hd : decode c.code pc = .ok (.iand, 1)) (hq : pc + 1 = q)  (K : Go p.tables e below P (T.setTop (mkF m q L (.int (x &&& y) :: S)))) : Go p.tables e below P (T.setTop (mkF m pc L (.int y :: .int x :: S))) := by subst hq; exact go (fun t k => XS.iand X.here hx rfl hd rfl  k) K
theorem gImul (X : Stand p l e R s m args below meth c T locs cells slots) (hx : p.tables.exec = Jvm.exec) {x y : Int32} (hd : decode c.code pc = .ok (.imul, 1)) (hq : pc + 1 = q)  (K : Go p.tables e below P (T.setTop (mkF m q L (.int (x * y) :: S)))) : Go p.tables e below P (T.setTop (mkF m pc L (.int y :: .int x :: S))) := by subst hq; exact go (fun t k => XS.imul X.here hx rfl hd rfl  k) K
theorem gIxor (X : Stand p l e R s m args below meth c T locs cells slots) (hx : p.tables.exec = Jvm.exec) {x y : Int32} (hd : decode c.code pc = .ok (.ixor, 1)) (hq : pc + 1 = q)  (K : Go p.tables e below P (T.setTop (mkF m q L (.int (x ^^^ y) :: S)))) : Go p.tables e below P (T.setTop (mkF m pc L (.int y :: .int x :: S))) := by subst hq; exact go (fun t k => XT.ixor X.here hx rfl hd rfl  k) K
theorem gIor (X : Stand p l e R s m args below meth c T locs cells slots) (hx : p.tables.exec = Jvm.exec) {x y : Int32} (hd : decode c.code pc = .ok (.ior, 1)) (hq : pc + 1 = q)  (K : Go p.tables e below P (T.setTop (mkF m q L (.int (x ||| y) :: S)))) : Go p.tables e below P (T.setTop (mkF m pc L (.int y :: .int x :: S))) := by subst hq; exact go (fun t k => XT.ior X.here hx rfl hd rfl  k) K
theorem gIshl (X : Stand p l e R s m args below meth c T locs cells slots) (hx : p.tables.exec = Jvm.exec) {x y : Int32} (hd : decode c.code pc = .ok (.ishl, 1)) (hq : pc + 1 = q)  (K : Go p.tables e below P (T.setTop (mkF m q L (.int (x <<< (y &&& 31)) :: S)))) : Go p.tables e below P (T.setTop (mkF m pc L (.int y :: .int x :: S))) := by subst hq; exact go (fun t k => XT.ishl X.here hx rfl hd rfl  k) K
theorem gIshr (X : Stand p l e R s m args below meth c T locs cells slots) (hx : p.tables.exec = Jvm.exec) {x y : Int32} (hd : decode c.code pc = .ok (.ishr, 1)) (hq : pc + 1 = q)  (K : Go p.tables e below P (T.setTop (mkF m q L (.int (x >>> (y &&& 31)) :: S)))) : Go p.tables e below P (T.setTop (mkF m pc L (.int y :: .int x :: S))) := by subst hq; exact go (fun t k => XT.ishr X.here hx rfl hd rfl  k) K
theorem gIushr (X : Stand p l e R s m args below meth c T locs cells slots) (hx : p.tables.exec = Jvm.exec) {x y : Int32} (hd : decode c.code pc = .ok (.iushr, 1)) (hq : pc + 1 = q)  (K : Go p.tables e below P (T.setTop (mkF m q L (.int (XT.ushr x y) :: S)))) : Go p.tables e below P (T.setTop (mkF m pc L (.int y :: .int x :: S))) := by subst hq; exact go (fun t k => XT.iushr X.here hx rfl hd rfl  k) K
theorem gIdiv (X : Stand p l e R s m args below meth c T locs cells slots) (hx : p.tables.exec = Jvm.exec) {x y : Int32} (hd : decode c.code pc = .ok (.idiv, 1)) (hq : pc + 1 = q) (hy : y ≠ 0) (K : Go p.tables e below P (T.setTop (mkF m q L (.int (x / y) :: S)))) : Go p.tables e below P (T.setTop (mkF m pc L (.int y :: .int x :: S))) := by subst hq; exact go (fun t k => XS.idiv X.here hx rfl hd rfl hy k) K
theorem gIrem (X : Stand p l e R s m args below meth c T locs cells slots) (hx : p.tables.exec = Jvm.exec) {x y : Int32} (hd : decode c.code pc = .ok (.irem, 1)) (hq : pc + 1 = q) (hy : y ≠ 0) (K : Go p.tables e below P (T.setTop (mkF m q L (.int (x % y) :: S)))) : Go p.tables e below P (T.setTop (mkF m pc L (.int y :: .int x :: S))) := by subst hq; exact go (fun t k => iremM X hx rfl hd rfl hy k) K
theorem gIneg (X : Stand p l e R s m args below meth c T locs cells slots) (hx : p.tables.exec = Jvm.exec) {x : Int32} (hd : decode c.code pc = .ok (.ineg, 1)) (hq : pc + 1 = q)  (K : Go p.tables e below P (T.setTop (mkF m q L (.int (-x) :: S)))) : Go p.tables e below P (T.setTop (mkF m pc L (.int x :: S))) := by subst hq; exact go (fun t k => XS.ineg X.here hx rfl hd rfl  k) K
theorem gLadd (X : Stand p l e R s m args below meth c T locs cells slots) (hx : p.tables.exec = Jvm.exec) {x y : Int64} (hd : decode c.code pc = .ok (.ladd, 1)) (hq : pc + 1 = q)  (K : Go p.tables e below P (T.setTop (mkF m q L (.long (x + y) :: S)))) : Go p.tables e below P (T.setTop (mkF m pc L (.long y :: .long x :: S))) := by subst hq; exact go (fun t k => XT.ladd X.here hx rfl hd rfl  k) K
theorem gLsub (X : Stand p l e R s m args below meth c T locs cells slots) (hx : p.tables.exec = Jvm.exec) {x y : Int64} (hd : decode c.code pc = .ok (.lsub, 1)) (hq : pc + 1 = q)  (K : Go p.tables e below P (T.setTop (mkF m q L (.long (x - y) :: S)))) : Go p.tables e below P (T.setTop (mkF m pc L (.long y :: .long x :: S))) := by subst hq; exact go (fun t k => XT.lsub X.here hx rfl hd rfl  k) K
theorem gLmul (X : Stand p l e R s m args below meth c T locs cells slots) (hx : p.tables.exec = Jvm.exec) {x y : Int64} (hd : decode c.code pc = .ok (.lmul, 1)) (hq : pc + 1 = q)  (K : Go p.tables e below P (T.setTop (mkF m q L (.long (x * y) :: S)))) : Go p.tables e below P (T.setTop (mkF m pc L (.long y :: .long x :: S))) := by subst hq; exact go (fun t k => XT.lmul X.here hx rfl hd rfl  k) K
theorem gLand (X : Stand p l e R s m args below meth c T locs cells slots) (hx : p.tables.exec = Jvm.exec) {x y : Int64} (hd : decode c.code pc = .ok (.land, 1)) (hq : pc + 1 = q)  (K : Go p.tables e below P (T.setTop (mkF m q L (.long (x &&& y) :: S)))) : Go p.tables e below P (T.setTop (mkF m pc L (.long y :: .long x :: S))) := by subst hq; exact go (fun t k => XT.land X.here hx rfl hd rfl  k) K
theorem gLor (X : Stand p l e R s m args below meth c T locs cells slots) (hx : p.tables.exec = Jvm.exec) {x y : Int64} (hd : decode c.code pc = .ok (.lor, 1)) (hq : pc + 1 = q)  (K : Go p.tables e below P (T.setTop (mkF m q L (.long (x ||| y) :: S)))) : Go p.tables e below P (T.setTop (mkF m pc L (.long y :: .long x :: S))) := by subst hq; exact go (fun t k => XT.lor X.here hx rfl hd rfl  k) K
theorem gLxor (X : Stand p l e R s m args below meth c T locs cells slots) (hx : p.tables.exec = Jvm.exec) {x y : Int64} (hd : decode c.code pc = .ok (.lxor, 1)) (hq : pc + 1 = q)  (K : Go p.tables e below P (T.setTop (mkF m q L (.long (x ^^^ y) :: S)))) : Go p.tables e below P (T.setTop (mkF m pc L (.long y :: .long x :: S))) := by subst hq; exact go (fun t k => XT.lxor X.here hx rfl hd rfl  k) K
theorem gLcmp (X : Stand p l e R s m args below meth c T locs cells slots) (hx : p.tables.exec = Jvm.exec) {x y : Int64} (hd : decode c.code pc = .ok (.lcmp, 1)) (hq : pc + 1 = q)  (K : Go p.tables e below P (T.setTop (mkF m q L (.int (XT.cmpL x y) :: S)))) : Go p.tables e below P (T.setTop (mkF m pc L (.long y :: .long x :: S))) := by subst hq; exact go (fun t k => XT.lcmp X.here hx rfl hd rfl  k) K
theorem gLneg (X : Stand p l e R s m args below meth c T locs cells slots) (hx : p.tables.exec = Jvm.exec) {x : Int64} (hd : decode c.code pc = .ok (.lneg, 1)) (hq : pc + 1 = q)  (K : Go p.tables e below P (T.setTop (mkF m q L (.long (-x) :: S)))) : Go p.tables e below P (T.setTop (mkF m pc L (.long x :: S))) := by subst hq; exact go (fun t k => XT.lneg X.here hx rfl hd rfl  k) K
theorem gI2l (X : Stand p l e R s m args below meth c T locs cells slots) (hx : p.tables.exec = Jvm.exec) {x : Int32} (hd : decode c.code pc = .ok (.i2l, 1)) (hq : pc + 1 = q)  (K : Go p.tables e below P (T.setTop (mkF m q L (.long x.toInt64 :: S)))) : Go p.tables e below P (T.setTop (mkF m pc L (.int x :: S))) := by subst hq; exact go (fun t k => XT.i2l X.here hx rfl hd rfl  k) K
theorem gL2i (X : Stand p l e R s m args below meth c T locs cells slots) (hx : p.tables.exec = Jvm.exec) {x : Int64} (hd : decode c.code pc = .ok (.l2i, 1)) (hq : pc + 1 = q)  (K : Go p.tables e below P (T.setTop (mkF m q L (.int x.toInt32 :: S)))) : Go p.tables e below P (T.setTop (mkF m pc L (.long x :: S))) := by subst hq; exact go (fun t k => XT.l2i X.here hx rfl hd rfl  k) K
theorem gI2c (X : Stand p l e R s m args below meth c T locs cells slots) (hx : p.tables.exec = Jvm.exec) {x : Int32} (hd : decode c.code pc = .ok (.i2c, 1)) (hq : pc + 1 = q)  (K : Go p.tables e below P (T.setTop (mkF m q L (.int x.toUInt32.toUInt16.toUInt32.toInt32 :: S)))) : Go p.tables e below P (T.setTop (mkF m pc L (.int x :: S))) := by subst hq; exact go (fun t k => XT.i2c X.here hx rfl hd rfl  k) K
theorem gI2b (X : Stand p l e R s m args below meth c T locs cells slots) (hx : p.tables.exec = Jvm.exec) {x : Int32} (hd : decode c.code pc = .ok (.i2b, 1)) (hq : pc + 1 = q)  (K : Go p.tables e below P (T.setTop (mkF m q L (.int x.toInt8.toInt32 :: S)))) : Go p.tables e below P (T.setTop (mkF m pc L (.int x :: S))) := by subst hq; exact go (fun t k => XT.i2b X.here hx rfl hd rfl  k) K
theorem gLdiv (X : Stand p l e R s m args below meth c T locs cells slots) (hx : p.tables.exec = Jvm.exec) {x y : Int64} (hd : decode c.code pc = .ok (.ldiv, 1)) (hq : pc + 1 = q) (hy : y ≠ 0) (K : Go p.tables e below P (T.setTop (mkF m q L (.long (x / y) :: S)))) : Go p.tables e below P (T.setTop (mkF m pc L (.long y :: .long x :: S))) := by subst hq; exact go (fun t k => XT.ldiv X.here hx rfl hd rfl hy k) K
theorem gLshl (X : Stand p l e R s m args below meth c T locs cells slots) (hx : p.tables.exec = Jvm.exec) {x : Int64} {y : Int32} (hd : decode c.code pc = .ok (.lshl, 1)) (hq : pc + 1 = q)  (K : Go p.tables e below P (T.setTop (mkF m q L (.long (x <<< (y.toInt64 &&& 63)) :: S)))) : Go p.tables e below P (T.setTop (mkF m pc L (.int y :: .long x :: S))) := by subst hq; exact go (fun t k => XT.lshl X.here hx rfl hd rfl  k) K
theorem gLshr (X : Stand p l e R s m args below meth c T locs cells slots) (hx : p.tables.exec = Jvm.exec) {x : Int64} {y : Int32} (hd : decode c.code pc = .ok (.lshr, 1)) (hq : pc + 1 = q)  (K : Go p.tables e below P (T.setTop (mkF m q L (.long (x >>> (y.toInt64 &&& 63)) :: S)))) : Go p.tables e below P (T.setTop (mkF m pc L (.int y :: .long x :: S))) := by subst hq; exact go (fun t k => XT.lshr X.here hx rfl hd rfl  k) K
theorem gLushr (X : Stand p l e R s m args below meth c T locs cells slots) (hx : p.tables.exec = Jvm.exec) {x : Int64} {y : Int32} (hd : decode c.code pc = .ok (.lushr, 1)) (hq : pc + 1 = q)  (K : Go p.tables e below P (T.setTop (mkF m q L (.long (XT.ushrL x y) :: S)))) : Go p.tables e below P (T.setTop (mkF m pc L (.int y :: .long x :: S))) := by subst hq; exact go (fun t k => XT.lushr X.here hx rfl hd rfl  k) K
theorem gLrem (X : Stand p l e R s m args below meth c T locs cells slots) (hx : p.tables.exec = Jvm.exec) {x y : Int64} (hd : decode c.code pc = .ok (.lrem, 1)) (hq : pc + 1 = q) (hy : y ≠ 0) (K : Go p.tables e below P (T.setTop (mkF m q L (.long (x - (x / y) * y) :: S)))) : Go p.tables e below P (T.setTop (mkF m pc L (.long y :: .long x :: S))) := by subst hq; exact go (fun t k => XT.lrem X.here hx rfl hd rfl hy k) K
theorem gIstoreN (X : Stand p l e R s m args below meth c T locs cells slots) (hx : p.tables.exec = Jvm.exec) {k : Fin 4} {x : Int32} (hd : decode c.code pc = .ok (.istore_n k, 1)) (hq : pc + 1 = q) (hl : storeLocals L k.val (.int x) = some L') (K : Go p.tables e below P (T.setTop (mkF m q L' (S)))) : Go p.tables e below P (T.setTop (mkF m pc L (.int x :: S))) := by subst hq; exact go (fun t k => XS.istoreN X.here hx rfl hd rfl hl k) K
theorem gIstore (X : Stand p l e R s m args below meth c T locs cells slots) (hx : p.tables.exec = Jvm.exec) {k : Nat} {x : Int32} (hd : decode c.code pc = .ok (.istore k, 2)) (hq : pc + 2 = q) (hl : storeLocals L k (.int x) = some L') (K : Go p.tables e below P (T.setTop (mkF m q L' (S)))) : Go p.tables e below P (T.setTop (mkF m pc L (.int x :: S))) := by subst hq; exact go (fun t k => XS.istore X.here hx rfl hd rfl hl k) K
theorem gLstoreN (X : Stand p l e R s m args below meth c T locs cells slots) (hx : p.tables.exec = Jvm.exec) {k : Fin 4} {x : Int64} (hd : decode c.code pc = .ok (.lstore_n k, 1)) (hq : pc + 1 = q) (hl : storeLocals L k.val (.long x) = some L') (K : Go p.tables e below P (T.setTop (mkF m q L' (S)))) : Go p.tables e below P (T.setTop (mkF m pc L (.long x :: S))) := by subst hq; exact go (fun t k => XT.lstoreN X.here hx rfl hd rfl hl k) K
theorem gLstore (X : Stand p l e R s m args below meth c T locs cells slots) (hx : p.tables.exec = Jvm.exec) {k : Nat} {x : Int64} (hd : decode c.code pc = .ok (.lstore k, 2)) (hq : pc + 2 = q) (hl : storeLocals L k (.long x) = some L') (K : Go p.tables e below P (T.setTop (mkF m q L' (S)))) : Go p.tables e below P (T.setTop (mkF m pc L (.long x :: S))) := by subst hq; exact go (fun t k => XT.lstore X.here hx rfl hd rfl hl k) K
theorem gAstoreN (X : Stand p l e R s m args below meth c T locs cells slots) (hx : p.tables.exec = Jvm.exec) {k : Fin 4} {x : Value} (hd : decode c.code pc = .ok (.astore_n k, 1)) (hq : pc + 1 = q) (hv : x.isRef = true) (hl : storeLocals L k.val x = some L') (K : Go p.tables e below P (T.setTop (mkF m q L' (S)))) : Go p.tables e below P (T.setTop (mkF m pc L (x :: S))) := by subst hq; exact go (fun t k => XS.astoreN X.here hx rfl hd rfl hv hl k) K
theorem gAstore (X : Stand p l e R s m args below meth c T locs cells slots) (hx : p.tables.exec = Jvm.exec) {k : Nat} {x : Value} (hd : decode c.code pc = .ok (.astore k, 2)) (hq : pc + 2 = q) (hv : x.isRef = true) (hl : storeLocals L k x = some L') (K : Go p.tables e below P (T.setTop (mkF m q L' (S)))) : Go p.tables e below P (T.setTop (mkF m pc L (x :: S))) := by subst hq; exact go (fun t k => XS.astore X.here hx rfl hd rfl hv hl k) K
theorem gIinc (X : Stand p l e R s m args below meth c T locs cells slots) (hx : p.tables.exec = Jvm.exec) {k : Nat} {cst : Int} {x : Int32} (v : Int32) (hd : decode c.code pc = .ok (.iinc k cst, 3)) (hq : pc + 3 = q) (hv : Int32.ofInt cst = v) (hl : L[k]? = some (.val (.int x))) (hl' : storeLocals L k (.int (x + v)) = some L') (K : Go p.tables e below P (T.setTop (mkF m q L' (S)))) : Go p.tables e below P (T.setTop (mkF m pc L (S))) := by subst hq; exact go (fun t k => XT.iincV X.here hx rfl v hd hv hl hl' k) K
theorem gDup (X : Stand p l e R s m args below meth c T locs cells slots) (hx : p.tables.exec = Jvm.exec) {x : Value} (hd : decode c.code pc = .ok (.dup, 1)) (hq : pc + 1 = q) (hc : x.category = 1) (K : Go p.tables e below P (T.setTop (mkF m q L (x :: x :: S)))) : Go p.tables e below P (T.setTop (mkF m pc L (x :: S))) := by subst hq; exact go (fun t k => XS.dup X.here hx rfl hd rfl hc k) K
theorem gPop (X : Stand p l e R s m args below meth c T locs cells slots) (hx : p.tables.exec = Jvm.exec) {x : Value} (hd : decode c.code pc = .ok (.pop, 1)) (hq : pc + 1 = q) (hc : x.category = 1) (K : Go p.tables e below P (T.setTop (mkF m q L (S)))) : Go p.tables e below P (T.setTop (mkF m pc L (x :: S))) := by subst hq; exact go (fun t k => XT.pop X.here hx rfl hd rfl hc k) K
theorem gDupX1 (X : Stand p l e R s m args below meth c T locs cells slots) (hx : p.tables.exec = Jvm.exec) {x y : Value} (hd : decode c.code pc = .ok (.dup_x1, 1)) (hq : pc + 1 = q) (hc : x.category = 1) (hc' : y.category = 1) (K : Go p.tables e below P (T.setTop (mkF m q L (x :: y :: x :: S)))) : Go p.tables e below P (T.setTop (mkF m pc L (x :: y :: S))) := by subst hq; exact go (fun t k => XT.dupX1 X.here hx rfl hd rfl hc hc' k) K
theorem gDup2 (X : Stand p l e R s m args below meth c T locs cells slots) (hx : p.tables.exec = Jvm.exec) {x y : Value} (hd : decode c.code pc = .ok (.dup2, 1)) (hq : pc + 1 = q) (hc : x.category = 1) (hc' : y.category = 1) (K : Go p.tables e below P (T.setTop (mkF m q L (x :: y :: x :: y :: S)))) : Go p.tables e below P (T.setTop (mkF m pc L (x :: y :: S))) := by subst hq; exact go (fun t k => XT.dup2 X.here hx rfl hd rfl hc hc' k) K
theorem gDup2L (X : Stand p l e R s m args below meth c T locs cells slots) (hx : p.tables.exec = Jvm.exec) {x : Int64} (hd : decode c.code pc = .ok (.dup2, 1)) (hq : pc + 1 = q)  (K : Go p.tables e below P (T.setTop (mkF m q L (.long x :: .long x :: S)))) : Go p.tables e below P (T.setTop (mkF m pc L (.long x :: S))) := by subst hq; exact go (fun t k => XT.dup2L X.here hx rfl hd rfl  k) K
theorem gGoto (X : Stand p l e R s m args below meth c T locs cells slots) (hx : p.tables.exec = Jvm.exec) {o : Int} (hd : decode c.code pc = .ok (.goto o, 3)) (ho : 0 ≤ (pc : Int) + o) (hq : ((pc : Int) + o).toNat = q) (K : Go p.tables e below P (T.setTop (mkF m q L (S)))) : Go p.tables e below P (T.setTop (mkF m pc L (S))) := go (fun t k => XS.goto X.here hx rfl rfl hd ho hq k) K
theorem gIfY (X : Stand p l e R s m args below meth c T locs cells slots) (hx : p.tables.exec = Jvm.exec) {cd : ClassFile.Cond} {x : Int32} {o : Int} (hd : decode c.code pc = .ok (.ifCond cd o, 3)) (ho : 0 ≤ (pc : Int) + o) (hq : ((pc : Int) + o).toNat = q) (hc : ifCond.holds cd x = true) (K : Go p.tables e below P (T.setTop (mkF m q L (S)))) : Go p.tables e below P (T.setTop (mkF m pc L (.int x :: S))) := go (fun t k => XS.ifYes X.here hx rfl rfl hd rfl hc ho hq k) K
theorem gIfN (X : Stand p l e R s m args below meth c T locs cells slots) (hx : p.tables.exec = Jvm.exec) {cd : ClassFile.Cond} {x : Int32} {o : Int} (hd : decode c.code pc = .ok (.ifCond cd o, 3)) (hq : pc + 3 = q) (hc : ifCond.holds cd x = false) (K : Go p.tables e below P (T.setTop (mkF m q L (S)))) : Go p.tables e below P (T.setTop (mkF m pc L (.int x :: S))) := by subst hq; exact go (fun t k => XS.ifNo X.here hx rfl hd rfl hc k) K
theorem gIcmpY (X : Stand p l e R s m args below meth c T locs cells slots) (hx : p.tables.exec = Jvm.exec) {cd : ClassFile.Cond} {x y : Int32} {o : Int} (hd : decode c.code pc = .ok (.if_icmp cd o, 3)) (ho : 0 ≤ (pc : Int) + o) (hq : ((pc : Int) + o).toNat = q) (hc : if_icmp.holds cd x y = true) (K : Go p.tables e below P (T.setTop (mkF m q L (S)))) : Go p.tables e below P (T.setTop (mkF m pc L (.int y :: .int x :: S))) := go (fun t k => XS.icmpYes X.here hx rfl rfl hd rfl hc ho hq k) K
theorem gIcmpN (X : Stand p l e R s m args below meth c T locs cells slots) (hx : p.tables.exec = Jvm.exec) {cd : ClassFile.Cond} {x y : Int32} {o : Int} (hd : decode c.code pc = .ok (.if_icmp cd o, 3)) (hq : pc + 3 = q) (hc : if_icmp.holds cd x y = false) (K : Go p.tables e below P (T.setTop (mkF m q L (S)))) : Go p.tables e below P (T.setTop (mkF m pc L (.int y :: .int x :: S))) := by subst hq; exact go (fun t k => XS.icmpNo X.here hx rfl hd rfl hc k) K
theorem gAcmpY (X : Stand p l e R s m args below meth c T locs cells slots) (hx : p.tables.exec = Jvm.exec) {cd : ClassFile.ACond} {x y : Value} {o : Int} (hd : decode c.code pc = .ok (.if_acmp cd o, 3)) (ho : 0 ≤ (pc : Int) + o) (hq : ((pc : Int) + o).toNat = q) (h1 : x.isRef = true) (h2 : y.isRef = true) (hc : XT.acmp cd x y = true) (K : Go p.tables e below P (T.setTop (mkF m q L (S)))) : Go p.tables e below P (T.setTop (mkF m pc L (y :: x :: S))) := go (fun t k => XT.acmpYes X.here hx rfl rfl hd rfl h1 h2 hc ho hq k) K
theorem gAcmpN (X : Stand p l e R s m args below meth c T locs cells slots) (hx : p.tables.exec = Jvm.exec) {cd : ClassFile.ACond} {x y : Value} {o : Int} (hd : decode c.code pc = .ok (.if_acmp cd o, 3)) (hq : pc + 3 = q) (h1 : x.isRef = true) (h2 : y.isRef = true) (hc : XT.acmp cd x y = false) (K : Go p.tables e below P (T.setTop (mkF m q L (S)))) : Go p.tables e below P (T.setTop (mkF m pc L (y :: x :: S))) := by subst hq; exact go (fun t k => XT.acmpNo X.here hx rfl hd rfl h1 h2 hc k) K
theorem gNullY (X : Stand p l e R s m args below meth c T locs cells slots) (hx : p.tables.exec = Jvm.exec) {v : Value} {o : Int} (hd : decode c.code pc = .ok (.ifnull o, 3)) (ho : 0 ≤ (pc : Int) + o) (hq : ((pc : Int) + o).toNat = q) (hv : v = .null) (K : Go p.tables e below P (T.setTop (mkF m q L (S)))) : Go p.tables e below P (T.setTop (mkF m pc L (v :: S))) := go (fun t k => XT.nullYes X.here hx rfl rfl hd rfl hv ho hq k) K
theorem gNullN (X : Stand p l e R s m args below meth c T locs cells slots) (hx : p.tables.exec = Jvm.exec) {v : Value} {o : Int} (hd : decode c.code pc = .ok (.ifnull o, 3)) (hq : pc + 3 = q) (hr : v.isRef = true) (hv : ¬ v = .null) (K : Go p.tables e below P (T.setTop (mkF m q L (S)))) : Go p.tables e below P (T.setTop (mkF m pc L (v :: S))) := by subst hq; exact go (fun t k => XT.nullNo X.here hx rfl hd rfl hr hv k) K
theorem gNonY (X : Stand p l e R s m args below meth c T locs cells slots) (hx : p.tables.exec = Jvm.exec) {v : Value} {o : Int} (hd : decode c.code pc = .ok (.ifnonnull o, 3)) (ho : 0 ≤ (pc : Int) + o) (hq : ((pc : Int) + o).toNat = q) (hr : v.isRef = true) (hv : ¬ v = .null) (K : Go p.tables e below P (T.setTop (mkF m q L (S)))) : Go p.tables e below P (T.setTop (mkF m pc L (v :: S))) := go (fun t k => XT.nonnullYes X.here hx rfl rfl hd rfl hr hv ho hq k) K
theorem gNonN (X : Stand p l e R s m args below meth c T locs cells slots) (hx : p.tables.exec = Jvm.exec) {v : Value} {o : Int} (hd : decode c.code pc = .ok (.ifnonnull o, 3)) (hq : pc + 3 = q) (hv : v = .null) (K : Go p.tables e below P (T.setTop (mkF m q L (S)))) : Go p.tables e below P (T.setTop (mkF m pc L (v :: S))) := by subst hq; exact go (fun t k => XT.nonnullNo X.here hx rfl hd rfl hv k) K
theorem gRet (X : Stand p l e R s m args below meth c T locs cells slots) (hx : p.tables.exec = Jvm.exec) {Q : Option Value → Heap → List Loc → Prop} {k n : Nat} {w : Value} {t : FieldType} {i : Instr} (hlk : meth.locks = false) (hret : meth.sig.returnType = some t) (hn : narrow t w = w)
    (hi : (i = .ireturn ∧ (t = .int ∨ t = .boolean ∨ t = .byte ∨ t = .char ∨ t = .short) ∧ ∃ z, w = .int z) ∨ (i = .lreturn ∧ t = .long ∧ ∃ z, w = .long z) ∨ (i = .dreturn ∧ t = .double ∧ ∃ z, w = .double z) ∨ (i = .freturn ∧ t = .float ∧ ∃ z, w = .float z) ∨ (i = .areturn ∧ t.isReference = true ∧ w.isRef = true))
    (hd : decode c.code pc = .ok (i, 1)) (hk : cells ≤ k) (hs : slots ≤ n) (hQ : Q (some w) T.heap locs) : Go p.tables e below (Done s Q k n) (T.setTop (mkF m pc L (w :: S))) := by
  obtain ⟨fs, hr, hrun, hended, hW, hsame⟩ := X.leave (v := some w) (fun h => by rw [hret] at h; cases h) hlk
  exact ⟨_, _, retOut X hx hret hn hi hd hr, hrun, hended, _, _, rfl, hQ, ⟨_, rfl⟩, hW, hsame.mono hk hs⟩
theorem gRetI (X : Stand p l e R s m args below meth c T locs cells slots) (hx : p.tables.exec = Jvm.exec) {Q : Option Value → Heap → List Loc → Prop} {k n : Nat} {z : Int32} (hlk : meth.locks = false) (hret : meth.sig.returnType = some .int) (hd : decode c.code pc = .ok (.ireturn, 1)) (hk : cells ≤ k) (hs : slots ≤ n) (hQ : Q (some (.int z)) T.heap locs) : Go p.tables e below (Done s Q k n) (T.setTop (mkF m pc L (.int z :: S))) :=
  gRet X hx hlk hret rfl (Or.inl ⟨rfl, Or.inl rfl, _, rfl⟩) hd hk hs hQ
theorem gRetZ (X : Stand p l e R s m args below meth c T locs cells slots) (hx : p.tables.exec = Jvm.exec) {Q : Option Value → Heap → List Loc → Prop} {k n : Nat} {z : Int32} (hlk : meth.locks = false) (hret : meth.sig.returnType = some .boolean) (hd : decode c.code pc = .ok (.ireturn, 1)) (hk : cells ≤ k) (hs : slots ≤ n) (hz : z = 0 ∨ z = 1) (hQ : Q (some (.int z)) T.heap locs) : Go p.tables e below (Done s Q k n) (T.setTop (mkF m pc L (.int z :: S))) :=
  gRet X hx hlk hret (by rcases hz with rfl | rfl <;> rfl) (Or.inl ⟨rfl, Or.inr (Or.inl rfl), _, rfl⟩) hd hk hs hQ
theorem gRetJ (X : Stand p l e R s m args below meth c T locs cells slots) (hx : p.tables.exec = Jvm.exec) {Q : Option Value → Heap → List Loc → Prop} {k n : Nat} {z : Int64} (hlk : meth.locks = false) (hret : meth.sig.returnType = some .long) (hd : decode c.code pc = .ok (.lreturn, 1)) (hk : cells ≤ k) (hs : slots ≤ n) (hQ : Q (some (.long z)) T.heap locs) : Go p.tables e below (Done s Q k n) (T.setTop (mkF m pc L (.long z :: S))) :=
  gRet X hx hlk hret rfl (Or.inr (Or.inl ⟨rfl, rfl, _, rfl⟩)) hd hk hs hQ
theorem gRetA (X : Stand p l e R s m args below meth c T locs cells slots) (hx : p.tables.exec = Jvm.exec) {Q : Option Value → Heap → List Loc → Prop} {k n : Nat} {w : Value} {t : FieldType} (hlk : meth.locks = false) (hret : meth.sig.returnType = some t) (ht : t.isReference = true) (hw : w.isRef = true) (hd : decode c.code pc = .ok (.areturn, 1)) (hk : cells ≤ k) (hs : slots ≤ n) (hQ : Q (some w) T.heap locs) : Go p.tables e below (Done s Q k n) (T.setTop (mkF m pc L (w :: S))) :=
  gRet X hx hlk hret (by cases t <;> simp [FieldType.isReference] at ht <;> cases w <;> simp [Value.isRef] at hw <;> rfl) (Or.inr (Or.inr (Or.inr (Or.inr ⟨rfl, ht, hw⟩)))) hd hk hs hQ
theorem gRetV (X : Stand p l e R s m args below meth c T locs cells slots) (hx : p.tables.exec = Jvm.exec) {Q : Option Value → Heap → List Loc → Prop} {k n : Nat} (hlk : meth.locks = false) (hret : meth.sig.returnType = none) (hd : decode c.code pc = .ok (.return_, 1)) (hk : cells ≤ k) (hs : slots ≤ n) (hQ : Q none T.heap locs) : Go p.tables e below (Done s Q k n) (T.setTop (mkF m pc L [])) := by
  obtain ⟨fs, hr, hrun, hended, hW, hsame⟩ := X.leave (v := none) (fun _ => rfl) hlk
  exact ⟨_, _, X.returnOut hx hret hd hr, hrun, hended, _, _, rfl, hQ, ⟨_, rfl⟩, hW, hsame.mono hk hs⟩
end Steps1
section Steps2
variable {p : Program} {l : Launch} {e : Env} {R : Room} {s : State} {m : MethodId} {args : Array Value} {below : List Frame} {meth : Method} {c : Code} {T : State} {locs : List Loc} {cells slots : Nat} {P : State → Outcome → Prop} {pc q : Nat} {L L' : Array Slot} {S : List Value} {Z : State} {a0 : Array Value} {h : Heap}
theorem gGetF (X : Stand p l e R s m args below meth c T locs cells slots) (hx : p.tables.exec = Jvm.exec) (hZ : Z.Warmed39 s.vm) {own R0 O n d host : String} {i : Nat} (hown : s.vm.findClass own = some m.cls) (w : (Jvm.Cond.fieldLink own i R0 n d).before a0 Z = true ∨ (Jvm.Cond.fieldLinkNest own i R0 n d host).before a0 Z = true) (via : Via Z R0 O n d)
    (eT : T.heap = h) {a : Addr} {v : Value} (F : Fld Z h a O n d v) (hd : decode c.code pc = .ok (.getfield i, 3)) (hq : pc + 3 = q)
    (K : ∀ T', Stand p l e R s m args below meth c T' locs cells slots → T'.heap = h → Go p.tables e below P (T'.setTop (mkF m q L (v :: S)))) : Go p.tables e below P (T.setTop (mkF m pc L (.ref a :: S))) := by
  subst hq
  obtain ⟨T', X', e', st⟩ := getF X hx hZ hown w via eT F (g := mkF m pc L (.ref a :: S)) rfl rfl hd
  exact go st (K T' X' e')
theorem gGetS (X : Stand p l e R s m args below meth c T locs cells slots) (hx : p.tables.exec = Jvm.exec) (hZ : Z.Warmed39 s.vm) {own R0 O n d : String} {i : Nat} (hown : s.vm.findClass own = some m.cls) (w : (Jvm.Cond.fieldLink own i R0 n d).before a0 Z = true) (via : Via Z R0 O n d)
    (eT : T.heap = h) {v : Value} (F : Sta Z h O n d v) (hd : decode c.code pc = .ok (.getstatic i, 3)) (hq : pc + 3 = q)
    (K : ∀ T', Stand p l e R s m args below meth c T' locs cells slots → T'.heap = h → Go p.tables e below P (T'.setTop (mkF m q L (v :: S)))) : Go p.tables e below P (T.setTop (mkF m pc L S)) := by
  subst hq
  obtain ⟨T', X', e', st⟩ := getS X hx hZ (host := "") hown w via eT F (g := mkF m pc L S) rfl hd
  exact go st (K T' X' e')
theorem gPutF (X : Stand p l e R s m args below meth c T locs cells slots) (hx : p.tables.exec = Jvm.exec) (hZ : Z.Warmed39 s.vm) {own R0 O n d host C : String} {i kk : Nat} {ty : FieldType} (hown : s.vm.findClass own = some m.cls) (w : (Jvm.Cond.fieldLink own i R0 n d).before a0 Z = true ∨ (Jvm.Cond.fieldLinkNest own i R0 n d host).before a0 Z = true) (via : Via Z R0 O n d)
    (eT : T.heap = h) {a : Addr} {v old : Value} (F : Fld Z h a O n d old) (E : Exa Z h a C) (Ly : (Jvm.Cond.lays C O n d).before a0 Z = true ∨ ((Jvm.Cond.laysFinal C O n d).before a0 Z = true ∧ own = O ∧ meth.name = "<init>")) (wi : (Jvm.Cond.instantiable C kk).before a0 Z = true)
    (hty : parseFieldDescriptor d = some ty) (hn : narrow ty v = v) (hf : fits ty v = true) (hd : decode c.code pc = .ok (.putfield i, 3)) (hq : pc + 3 = q)
    (K : ∀ T' h', Stand p l e R s m args below meth c T' (locs ++ [⟨a, Jvm.RoadKit.slotOf Z O n d⟩]) cells slots → T'.heap = h' → Wr h h' a (Jvm.RoadKit.slotOf Z O n d) v → Go p.tables e below P (T'.setTop (mkF m q L S))) : Go p.tables e below P (T.setTop (mkF m pc L (v :: .ref a :: S))) := by
  subst hq
  obtain ⟨T', h', X', e', W', st⟩ := putF X hx hZ hown w via eT F E Ly wi hty hn hf (g := mkF m pc L (v :: .ref a :: S)) rfl rfl hd
  exact go st (K T' h' X' e' W')
theorem gNewO (X : Stand p l e R s m args below meth c T locs cells slots) (hx : p.tables.exec = Jvm.exec) (hZ : Z.Warmed39 s.vm) {own C : String} {i n : Nat} (hown : s.vm.findClass own = some m.cls) (w : (Jvm.Cond.classLink own i C).before a0 Z = true) (wi : (Jvm.Cond.instantiable C n).before a0 Z = true) (wz : (Jvm.Cond.initialized C).before a0 Z = true) (eT : T.heap = h)
    (hd : decode c.code pc = .ok (.new i, 3)) (hq : pc + 3 = q) (hc : cells + 1 ≤ R.cells) (hl : slots + n ≤ R.slots)
    (K : ∀ T' h' a, Stand p l e R s m args below meth c T' locs (cells + 1) (slots + n) → T'.heap = h' → a = h.size → Ext h h' → Exa Z h' a C → (∀ {O nm d : String} {ty : FieldType}, Laid Z a0 C O nm d → parseFieldDescriptor d = some ty → Fld Z h' a O nm d (defaultValue ty)) → Go p.tables e below P (T'.setTop (mkF m q L (.ref a :: S)))) : Go p.tables e below P (T.setTop (mkF m pc L S)) := by
  subst hq
  obtain ⟨T', h', X', e', E', A', D', -, st⟩ := newO X hx hZ hown w wi wz eT (g := mkF m pc L S) rfl hd hc hl
  exact go st (K T' h' _ X' e' rfl E' A' D')
theorem gInitO (X : Stand p l e R s m args below meth c T locs cells slots) (hx : p.tables.exec = Jvm.exec) (hZ : Z.Warmed39 s.vm) {own : String} {i : Nat} (hown : s.vm.findClass own = some m.cls) (w1 : (Jvm.Cond.methodLink own i Lib.objectInit).before a0 Z = true) (w2 : (Jvm.Cond.instanceMethod Lib.objectInit).before a0 Z = true) (w3 : (Jvm.Cond.code Lib.objectInit ⟨#[0xb1]⟩ 1 none).before a0 Z = true) (eT : T.heap = h)
    (hsize : L.size = c.maxLocals) {a : Addr} (hd : decode c.code pc = .ok (.invokespecial i, 3)) (hq : pc + 3 = q) (hf : 1 ≤ R.frames) {W : Nat} (hW : (S.map fun v => v.category).sum ≤ W) (hl : W + 12 ≤ R.locals)
    (K : ∀ T', Stand p l e R s m args below meth c T' locs cells slots → T'.heap = h → Go p.tables e below P (T'.setTop (mkF m q L S))) : Go p.tables e below P (T.setTop (mkF m pc L (.ref a :: S))) := by
  subst hq
  obtain ⟨T', X', e', st⟩ := initO X hx hZ hown w1 w2 w3 eT (g := mkF m pc L (.ref a :: S)) rfl hsize rfl hd hf (W := W) (by show 2 * 0 + _ ≤ _; rw [Nat.mul_zero, Nat.zero_add]; exact hW) hl
  exact go st (K T' X' e')
/-! calls by a contract -/
theorem gCallS (X : Stand p l e R s m args below meth c T locs cells slots) (hx : p.tables.exec = Jvm.exec) (hZ : Z.Warmed39 s.vm) {own : String} {i : Nat} {y : MethodName} {bytes : ByteArray} {maxL : Nat} {rt : Option FieldType} {rm : Room} {as' : Array Value} {Q : Option Value → Heap → List Loc → Prop} (hown : s.vm.findClass own = some m.cls)
    (w1 : (Jvm.Cond.methodLink own i y).before a0 Z = true) (w2 : (Jvm.Cond.static y).before a0 Z = true) (w3 : (Jvm.Cond.initialized y.cls).before a0 Z = true) (w4 : (Jvm.Cond.code y bytes maxL rt).before a0 Z = true) (hy : y.cls ≠ "java/lang/invoke/MethodHandle" ∧ y.cls ≠ "java/lang/invoke/VarHandle")
    (hM : Con l Z y bytes maxL rt [] rm as' h rm.cells rm.slots Q) {W : Nat} (hf : rm.frames + 1 ≤ R.frames) (hlo : W + (maxL + 11) + rm.locals ≤ R.locals) (eT : T.heap = h) (hsize : L.size = c.maxLocals)
    {S0 : List Value} (argsL : List Value) (hlen : ∀ sig, parseMethodDescriptor y.desc = some sig → argsL.length = sig.parameters.length) (has : argsL.toArray = as') (hst : S0 = argsL.reverse ++ S) (hW : (S.map fun v => v.category).sum ≤ W) (hd : decode c.code pc = .ok (.invokestatic i, 3)) (hq : pc + 3 = q)
    (hc : cells + rm.cells ≤ R.cells) (hs : slots + rm.slots ≤ R.slots)
    (K : ∀ v T' Lc, Stand p l e R s m args below meth c T' (locs ++ Lc) (cells + rm.cells) (slots + rm.slots) → Q v T'.heap Lc → Go p.tables e below P (T'.setTop (mkF m q L (v.toList ++ S)))) : Go p.tables e below P (T.setTop (mkF m pc L S0)) := by
  subst hq has hst
  obtain ⟨v, _, ⟨T', L1, k1, n1⟩, -, X', ⟨Lc, hQ, h1, h2, h3⟩, st⟩ := Jvm.LawKit.callS X hx hown (mvT hZ w1) (mvT hZ w2) (mvT hZ w3) (mvT hZ w4) hy (backOf (W := W) hM hZ w4 w3 hf hlo) (g := mkF m pc L (argsL.reverse ++ S)) rfl hsize (argsL := argsL) (rest := S) hlen rfl (by show 2 * 0 + _ ≤ _; rw [Nat.mul_zero, Nat.zero_add]; exact hW) hd (fun _ _ => ⟨rfl, eT, hc, hs⟩)
  dsimp only [Pt.U, Pt.locs, Pt.cells, Pt.slots] at X' h1 h2 h3 st hQ
  subst h1 h2 h3
  exact go st (K v T' Lc X' hQ)
theorem gCallSN (X : Stand p l e R s m args below meth c T locs cells slots) (hx : p.tables.exec = Jvm.exec) (hZ : Z.Warmed39 s.vm) {own host : String} {i : Nat} {y : MethodName} {bytes : ByteArray} {maxL : Nat} {rt : Option FieldType} {rm : Room} {as' : Array Value} {Q : Option Value → Heap → List Loc → Prop} (hown : s.vm.findClass own = some m.cls)
    (w1 : (Jvm.Cond.methodLinkNest own i y host).before a0 Z = true) (w2 : (Jvm.Cond.static y).before a0 Z = true) (w3 : (Jvm.Cond.initialized y.cls).before a0 Z = true) (w4 : (Jvm.Cond.code y bytes maxL rt).before a0 Z = true) (hy : y.cls ≠ "java/lang/invoke/MethodHandle" ∧ y.cls ≠ "java/lang/invoke/VarHandle")
    (hM : Con l Z y bytes maxL rt [] rm as' h rm.cells rm.slots Q) {W : Nat} (hf : rm.frames + 1 ≤ R.frames) (hlo : W + (maxL + 11) + rm.locals ≤ R.locals) (eT : T.heap = h) (hsize : L.size = c.maxLocals)
    {S0 : List Value} (argsL : List Value) (hlen : ∀ sig, parseMethodDescriptor y.desc = some sig → argsL.length = sig.parameters.length) (has : argsL.toArray = as') (hst : S0 = argsL.reverse ++ S) (hW : (S.map fun v => v.category).sum ≤ W) (hd : decode c.code pc = .ok (.invokestatic i, 3)) (hq : pc + 3 = q)
    (hc : cells + rm.cells ≤ R.cells) (hs : slots + rm.slots ≤ R.slots)
    (K : ∀ v T' Lc, Stand p l e R s m args below meth c T' (locs ++ Lc) (cells + rm.cells) (slots + rm.slots) → Q v T'.heap Lc → Go p.tables e below P (T'.setTop (mkF m q L (v.toList ++ S)))) : Go p.tables e below P (T.setTop (mkF m pc L S0)) := by
  subst hq has hst
  obtain ⟨v, _, ⟨T', L1, k1, n1⟩, -, X', ⟨Lc, hQ, h1, h2, h3⟩, st⟩ := callSN X hx hown (Cond.methodLinkNest_wide hZ w1 :) (mvT hZ w2) (mvT hZ w3) (mvT hZ w4) hy (backOf (W := W) hM hZ w4 w3 hf hlo) (g := mkF m pc L (argsL.reverse ++ S)) rfl hsize (argsL := argsL) (rest := S) hlen rfl (by show 2 * 0 + _ ≤ _; rw [Nat.mul_zero, Nat.zero_add]; exact hW) hd (fun _ _ => ⟨rfl, eT, hc, hs⟩)
  dsimp only [Pt.U, Pt.locs, Pt.cells, Pt.slots] at X' h1 h2 h3 st hQ
  subst h1 h2 h3
  exact goT st (K v T' Lc X' hQ)
theorem gCallN (X : Stand p l e R s m args below meth c T locs cells slots) (hx : p.tables.exec = Jvm.exec) (hZ : Z.Warmed39 s.vm) {own : String} {i : Nat} {y : MethodName} {bytes : ByteArray} {maxL : Nat} {rm : Room} {as' : Array Value} {Q : Option Value → Heap → List Loc → Prop} (hy1 : y.name = "<init>") (hown : s.vm.findClass own = some m.cls)
    (w1 : (Jvm.Cond.methodLink own i y).before a0 Z = true) (w2 : (Jvm.Cond.instanceMethod y).before a0 Z = true) (w3 : (Jvm.Cond.initialized y.cls).before a0 Z = true) (w4 : (Jvm.Cond.code y bytes maxL none).before a0 Z = true) (hy : y.cls ≠ "java/lang/invoke/MethodHandle" ∧ y.cls ≠ "java/lang/invoke/VarHandle")
    (hM : Con l Z y bytes maxL none [] rm as' h rm.cells rm.slots Q) {W : Nat} (hf : rm.frames + 1 ≤ R.frames) (hlo : W + (maxL + 11) + rm.locals ≤ R.locals) (eT : T.heap = h) (hsize : L.size = c.maxLocals)
    {S0 : List Value} {a : Addr} (argsL : List Value) (hlen : ∀ sig, parseMethodDescriptor y.desc = some sig → argsL.length = sig.parameters.length) (has : (.ref a :: argsL).toArray = as') (hst : S0 = argsL.reverse ++ .ref a :: S) (hW : (S.map fun v => v.category).sum ≤ W) (hd : decode c.code pc = .ok (.invokespecial i, 3)) (hq : pc + 3 = q)
    (hc : cells + rm.cells ≤ R.cells) (hs : slots + rm.slots ≤ R.slots)
    (K : ∀ v T' Lc, Stand p l e R s m args below meth c T' (locs ++ Lc) (cells + rm.cells) (slots + rm.slots) → Q v T'.heap Lc → Go p.tables e below P (T'.setTop (mkF m q L (v.toList ++ S)))) : Go p.tables e below P (T.setTop (mkF m pc L S0)) := by
  subst hq has hst
  obtain ⟨v, _, ⟨T', L1, k1, n1⟩, -, X', ⟨Lc, hQ, h1, h2, h3⟩, st⟩ := X.specialBack hx hy1 hown (mvT hZ w1) (mvT hZ w2) (mvT hZ w4) hy (backOf (W := W) hM hZ w4 w3 hf hlo) (g := mkF m pc L (argsL.reverse ++ .ref a :: S)) rfl hsize (Steps.refl _) (a := a) (argsL := argsL) (rest := S) hlen rfl (by show 2 * 0 + _ ≤ _; rw [Nat.mul_zero, Nat.zero_add]; exact hW) hd (fun _ _ => ⟨rfl, eT, hc, hs⟩)
  dsimp only [Pt.U, Pt.locs, Pt.cells, Pt.slots] at X' h1 h2 h3 st hQ
  subst h1 h2 h3
  exact goT st (K v T' Lc X' hQ)
theorem gCallV (X : Stand p l e R s m args below meth c T locs cells slots) (hx : p.tables.exec = Jvm.exec) (hZ : Z.Warmed39 s.vm) {own C : String} {i : Nat} {y z : MethodName} {bytes : ByteArray} {maxL : Nat} {rt : Option FieldType} {rm : Room} {as' : Array Value} {Q : Option Value → Heap → List Loc → Prop} (hown : s.vm.findClass own = some m.cls)
    (w1 : (Jvm.Cond.methodLink own i y).before a0 Z = true) (w2 : (Jvm.Cond.declares y).before a0 Z = true) (w5 : (Jvm.Cond.selects C y z).before a0 Z = true) (w6 : (Jvm.Cond.instanceMethod z).before a0 Z = true) (w3 : (Jvm.Cond.initialized z.cls).before a0 Z = true) (w4 : (Jvm.Cond.code z bytes maxL rt).before a0 Z = true) (hnf : NotFace s y) (hy : y.cls ≠ "java/lang/invoke/MethodHandle" ∧ y.cls ≠ "java/lang/invoke/VarHandle")
    (hM : Con l Z z bytes maxL rt [] rm as' h rm.cells rm.slots Q) {W : Nat} (hf : rm.frames + 1 ≤ R.frames) (hlo : W + (maxL + 11) + rm.locals ≤ R.locals) (eT : T.heap = h) (hsize : L.size = c.maxLocals)
    {S0 : List Value} {a : Addr} (E : Exa Z h a C) (argsL : List Value) (hlen : ∀ sig, parseMethodDescriptor y.desc = some sig → argsL.length = sig.parameters.length) (has : (.ref a :: argsL).toArray = as') (hst : S0 = argsL.reverse ++ .ref a :: S) (hW : (S.map fun v => v.category).sum ≤ W) (hd : decode c.code pc = .ok (.invokevirtual i, 3)) (hq : pc + 3 = q)
    (hc : cells + rm.cells ≤ R.cells) (hs : slots + rm.slots ≤ R.slots)
    (K : ∀ v T' Lc, Stand p l e R s m args below meth c T' (locs ++ Lc) (cells + rm.cells) (slots + rm.slots) → Q v T'.heap Lc → Go p.tables e below P (T'.setTop (mkF m q L (v.toList ++ S)))) : Go p.tables e below P (T.setTop (mkF m pc L S0)) := by
  subst hq has hst
  obtain ⟨cq, kq, q1, q2, q3⟩ := isOf hZ eT E
  obtain ⟨v, _, ⟨T', L1, k1, n1⟩, -, X', ⟨Lc, hQ, h1, h2, h3⟩, st⟩ := X.virtualBack hx hown (mvT hZ w1) (mvT hZ w2) hnf (mvT hZ w5) (mvT hZ w6) hy (backOf (W := W) hM hZ w4 w3 hf hlo) q1 q3 (g := mkF m pc L (argsL.reverse ++ .ref a :: S)) rfl hsize (Steps.refl _) (argsL := argsL) (rest := S) hlen rfl (by show 2 * 0 + _ ≤ _; rw [Nat.mul_zero, Nat.zero_add]; exact hW) hd (fun _ _ => ⟨rfl, eT, hc, hs⟩)
  dsimp only [Pt.U, Pt.locs, Pt.cells, Pt.slots] at X' h1 h2 h3 st hQ
  subst h1 h2 h3
  exact goT st (K v T' Lc X' hQ)
end Steps2
end Jvm.OwnKit
@@BLOCK:LamKit.lean.txt@@
namespace Jvm.OwnKit
open Sem ClassFile Op Lib Jvm.Stand Jvm.Free Jvm.LawKit Jvm.RoadKit
/-- the array at a: its class, its element type, its values -/
def Ary (Z : State) (h : Heap) (a : Addr) (k : ClassId) (ty : FieldType) (vs : List Value) : Prop := ∃ c : Cell, Arr Z h a c ty ∧ c.cls = k ∧ c.slots.toList = vs
section Ary
variable {Z : State} {h h' : Heap} {a b : Addr} {k : ClassId} {ty : FieldType} {vs : List Value} {sl : Nat} {v : Value} {ws : List Addr}
theorem Ary.ext (E : Ext h h') (F : Ary Z h a k ty vs) : Ary Z h' a k ty vs := by obtain ⟨c, A, r⟩ := F; exact ⟨c, A.ext E, r⟩
theorem Ary.other (W : Wr h h' a sl v) (F : Ary Z h b k ty vs) (q : b ≠ a) : Ary Z h' b k ty vs := by obtain ⟨c, A, r⟩ := F; exact ⟨c, A.other W q, r⟩
theorem Ary.keep (F : Ary Z h a k ty vs) (K : Keep h h' ws) (q : a ∉ ws) : Ary Z h' a k ty vs := by obtain ⟨c, A, r⟩ := F; exact ⟨c, ⟨K.2.1 a c A.1 q, A.2⟩, r⟩
theorem Ary.lt (F : Ary Z h a k ty vs) : a < h.size := by obtain ⟨c, A, -⟩ := F; exact A.lt
theorem Ary.same (W : Wr h h' a sl v) (F : Ary Z h a k ty vs) : Ary Z h' a k ty (vs.set sl v) := by
  obtain ⟨c, A, r1, r2⟩ := F
  exact ⟨_, A.same W, r1, by subst r2; simp [Cell.setSlot]⟩
theorem Ary.new {n : Int32} (A : Arr Z h a (newA k ty n) ty) : Ary Z h a k ty (List.replicate n.toNatClampNeg (defaultValue ty)) := ⟨_, A, rfl, by simp [newA]⟩
theorem Ary.ne_exa {a0 : Array Value} {C : String} {n : Nat} (F : Ary Z h a k ty vs) (E : Exa Z h b C) (wi : (Jvm.Cond.instantiable C n).before a0 Z = true) : a ≠ b := by obtain ⟨c, A, -⟩ := F; exact (ne_arr E wi A).symm
end Ary
section Steps3
variable {p : Program} {l : Launch} {e : Env} {R : Room} {s : State} {m : MethodId} {args : Array Value} {below : List Frame} {meth : Method} {c : Code} {T : State} {locs : List Loc} {cells slots : Nat} {P : State → Outcome → Prop} {pc q : Nat} {L L' : Array Slot} {S : List Value} {Z : State} {a0 : Array Value} {h : Heap} {a : Addr} {k : ClassId} {vs : List Value}
theorem gIaload (X : Stand p l e R s m args below meth c T locs cells slots) (hx : p.tables.exec = Jvm.exec) (hZ : Z.Warmed39 s.vm) (eT : T.heap = h) (A : Ary Z h a k .int vs) {j : Int32} {v : Value} (hd : decode c.code pc = .ok (.iaload, 1)) (hq : pc + 1 = q) (hj : ¬ (j < 0 ∨ vs.length ≤ j.toNatClampNeg)) (hv : vs[j.toNatClampNeg]? = some v) (K : Go p.tables e below P (T.setTop (mkF m q L (v :: S)))) : Go p.tables e below P (T.setTop (mkF m pc L (.int j :: .ref a :: S))) := by
  subst hq eT
  obtain ⟨cl, A, -, rfl⟩ := A
  exact go (fun t k => X.iaload hx (j := j) (v := v) A.1 (State.isArrayOf_alike hZ.alike A.2.1) A.2.2 (by simpa using hj) (by simpa using hv) (g := mkF m pc L (.int j :: .ref a :: S)) rfl rfl hd _ k) K
theorem gLaload (X : Stand p l e R s m args below meth c T locs cells slots) (hx : p.tables.exec = Jvm.exec) (hZ : Z.Warmed39 s.vm) (eT : T.heap = h) (A : Ary Z h a k .long vs) {j : Int32} {v : Value} (hd : decode c.code pc = .ok (.laload, 1)) (hq : pc + 1 = q) (hj : ¬ (j < 0 ∨ vs.length ≤ j.toNatClampNeg)) (hv : vs[j.toNatClampNeg]? = some v) (K : Go p.tables e below P (T.setTop (mkF m q L (v :: S)))) : Go p.tables e below P (T.setTop (mkF m pc L (.int j :: .ref a :: S))) := by
  subst hq eT
  obtain ⟨cl, A, -, rfl⟩ := A
  exact go (fun t k => X.laload hx (j := j) (v := v) A.1 (State.isArrayOf_alike hZ.alike A.2.1) A.2.2 (by simpa using hj) (by simpa using hv) (g := mkF m pc L (.int j :: .ref a :: S)) rfl rfl hd _ k) K
theorem gCaload (X : Stand p l e R s m args below meth c T locs cells slots) (hx : p.tables.exec = Jvm.exec) (hZ : Z.Warmed39 s.vm) (eT : T.heap = h) (A : Ary Z h a k .char vs) {j : Int32} {v : Value} (hd : decode c.code pc = .ok (.caload, 1)) (hq : pc + 1 = q) (hj : ¬ (j < 0 ∨ vs.length ≤ j.toNatClampNeg)) (hv : vs[j.toNatClampNeg]? = some v) (K : Go p.tables e below P (T.setTop (mkF m q L (v :: S)))) : Go p.tables e below P (T.setTop (mkF m pc L (.int j :: .ref a :: S))) := by
  subst hq eT
  obtain ⟨cl, A, -, rfl⟩ := A
  exact go (fun t k => X.caload hx (j := j) (v := v) A.1 (State.isArrayOf_alike hZ.alike A.2.1) A.2.2 (by simpa using hj) (by simpa using hv) (g := mkF m pc L (.int j :: .ref a :: S)) rfl rfl hd _ k) K
theorem gAaload (X : Stand p l e R s m args below meth c T locs cells slots) (hx : p.tables.exec = Jvm.exec) (hZ : Z.Warmed39 s.vm) (eT : T.heap = h) {ty : FieldType} (A : Ary Z h a k ty vs) (ht : ty.isReference = true) {j : Int32} {v : Value} (hd : decode c.code pc = .ok (.aaload, 1)) (hq : pc + 1 = q) (hj : ¬ (j < 0 ∨ vs.length ≤ j.toNatClampNeg)) (hv : vs[j.toNatClampNeg]? = some v) (K : Go p.tables e below P (T.setTop (mkF m q L (v :: S)))) : Go p.tables e below P (T.setTop (mkF m pc L (.int j :: .ref a :: S))) := by
  subst hq eT
  obtain ⟨cl, A, -, rfl⟩ := A
  exact go (fun t k => X.aaload hx (j := j) (v := v) A.1 (State.isArrayOf_alike hZ.alike A.2.1) ht A.2.2 (by simpa using hj) (by simpa using hv) (g := mkF m pc L (.int j :: .ref a :: S)) rfl rfl hd _ k) K
theorem gLen (X : Stand p l e R s m args below meth c T locs cells slots) (hx : p.tables.exec = Jvm.exec) (hZ : Z.Warmed39 s.vm) (eT : T.heap = h) {ty : FieldType} (A : Ary Z h a k ty vs) {n : Int32} (hn : vs.length.toInt32 = n) (hd : decode c.code pc = .ok (.arraylength, 1)) (hq : pc + 1 = q) (K : Go p.tables e below P (T.setTop (mkF m q L (.int n :: S)))) : Go p.tables e below P (T.setTop (mkF m pc L (.ref a :: S))) := by
  subst hq eT hn
  obtain ⟨cl, A, -, rfl⟩ := A
  exact go (fun t k => X.arraylength hx A.1 (State.isArrayOf_alike hZ.alike A.2.1) (g := mkF m pc L (.ref a :: S)) rfl rfl hd _ (by simpa using k)) K
theorem gIastore (X : Stand p l e R s m args below meth c T locs cells slots) (hx : p.tables.exec = Jvm.exec) (hZ : Z.Warmed39 s.vm) (eT : T.heap = h) (A : Ary Z h a k .int vs) {j : Int32} {x : Int32} (hd : decode c.code pc = .ok (.iastore, 1)) (hq : pc + 1 = q) (hj : ¬ (j < 0 ∨ vs.length ≤ j.toNatClampNeg))
    (K : ∀ T' h', Stand p l e R s m args below meth c T' (locs ++ [⟨a, j.toNatClampNeg⟩]) cells slots → T'.heap = h' → Wr h h' a j.toNatClampNeg (.int x) → Ary Z h' a k .int (vs.set j.toNatClampNeg (.int x)) → Go p.tables e below P (T'.setTop (mkF m q L (S)))) : Go p.tables e below P (T.setTop (mkF m pc L (.int x :: .int j :: .ref a :: S))) := by
  subst hq
  have A' := A
  obtain ⟨cl, Ac, r1, r2⟩ := A'
  obtain ⟨T', h', X', e', W', st⟩ := stI X hx hZ eT Ac (j := j) (x := x) (by subst r2; simpa using hj) (g := mkF m pc L (.int x :: .int j :: .ref a :: S)) rfl rfl hd
  exact go st (K T' h' X' e' W' (Ary.same W' A))
theorem gLastore (X : Stand p l e R s m args below meth c T locs cells slots) (hx : p.tables.exec = Jvm.exec) (hZ : Z.Warmed39 s.vm) (eT : T.heap = h) (A : Ary Z h a k .long vs) {j : Int32} {x : Int64} (hd : decode c.code pc = .ok (.lastore, 1)) (hq : pc + 1 = q) (hj : ¬ (j < 0 ∨ vs.length ≤ j.toNatClampNeg))
    (K : ∀ T' h', Stand p l e R s m args below meth c T' (locs ++ [⟨a, j.toNatClampNeg⟩]) cells slots → T'.heap = h' → Wr h h' a j.toNatClampNeg (.long x) → Ary Z h' a k .long (vs.set j.toNatClampNeg (.long x)) → Go p.tables e below P (T'.setTop (mkF m q L (S)))) : Go p.tables e below P (T.setTop (mkF m pc L (.long x :: .int j :: .ref a :: S))) := by
  subst hq
  have A' := A
  obtain ⟨cl, Ac, r1, r2⟩ := A'
  obtain ⟨T', h', X', e', W', st⟩ := stJ X hx hZ eT Ac (j := j) (x := x) (by subst r2; simpa using hj) (g := mkF m pc L (.long x :: .int j :: .ref a :: S)) rfl rfl hd
  exact go st (K T' h' X' e' W' (Ary.same W' A))
theorem gCastore (X : Stand p l e R s m args below meth c T locs cells slots) (hx : p.tables.exec = Jvm.exec) (hZ : Z.Warmed39 s.vm) (eT : T.heap = h) (A : Ary Z h a k .char vs) {j x : Int32} (hd : decode c.code pc = .ok (.castore, 1)) (hq : pc + 1 = q) (hj : ¬ (j < 0 ∨ vs.length ≤ j.toNatClampNeg))
    (K : ∀ T' h', Stand p l e R s m args below meth c T' (locs ++ [⟨a, j.toNatClampNeg⟩]) cells slots → T'.heap = h' → Wr h h' a j.toNatClampNeg (.int (nar .char x)) → Ary Z h' a k .char (vs.set j.toNatClampNeg (.int (nar .char x))) → Go p.tables e below P (T'.setTop (mkF m q L (S)))) : Go p.tables e below P (T.setTop (mkF m pc L (.int x :: .int j :: .ref a :: S))) := by
  subst hq
  have A' := A
  obtain ⟨cl, Ac, r1, r2⟩ := A'
  obtain ⟨T', h', X', e', W', st⟩ := stC X hx hZ eT Ac (j := j) (x := x) (by subst r2; simpa using hj) (g := mkF m pc L (.int x :: .int j :: .ref a :: S)) rfl rfl hd
  exact go st (K T' h' X' e' W' (Ary.same W' A))
theorem gAastore (X : Stand p l e R s m args below meth c T locs cells slots) (hx : p.tables.exec = Jvm.exec) (hZ : Z.Warmed39 s.vm) (eT : T.heap = h) {ty : FieldType} (A : Ary Z h a k ty vs) (ht : ty.isReference = true) {j : Int32} {v : Value} (F : Sto Z h a v) (hd : decode c.code pc = .ok (.aastore, 1)) (hq : pc + 1 = q) (hj : ¬ (j < 0 ∨ vs.length ≤ j.toNatClampNeg))
    (K : ∀ T' h', Stand p l e R s m args below meth c T' (locs ++ [⟨a, j.toNatClampNeg⟩]) cells slots → T'.heap = h' → Wr h h' a j.toNatClampNeg v → Ary Z h' a k ty (vs.set j.toNatClampNeg v) → Go p.tables e below P (T'.setTop (mkF m q L (S)))) : Go p.tables e below P (T.setTop (mkF m pc L (v :: .int j :: .ref a :: S))) := by
  subst hq
  have A' := A
  obtain ⟨cl, Ac, r1, r2⟩ := A'
  obtain ⟨T', h', X', e', W', st⟩ := stR X hx hZ eT Ac (j := j) (by subst r2; simpa using hj) ht F (g := mkF m pc L (v :: .int j :: .ref a :: S)) rfl rfl hd
  exact go st (K T' h' X' e' W' (Ary.same W' A))
theorem Sto.ofA {Z : State} {h : Heap} {a y : Addr} {k : ClassId} {ty : FieldType} {vs : List Value} {C : String} (A : Ary Z h a k ty vs) (O : Ovr Z k C) (I : Ins Z h y C true) : Sto Z h a (.ref y) := by obtain ⟨c, Ac, r, -⟩ := A; exact Sto.ofV Ac r O I
theorem gNewP (X : Stand p l e R s m args below meth c T locs cells slots) (hx : p.tables.exec = Jvm.exec) (hZ : Z.Warmed39 s.vm) {aty : ArrayType} (w : (Jvm.Cond.arrayClass (newarray.typeOf aty)).before a0 Z = true) (eT : T.heap = h) (hd : decode c.code pc = .ok (.newarray aty, 2)) (hq : pc + 2 = q) {n : Int32} (hn : ¬ n < 0) {cap : Nat} (hcap : n.toNatClampNeg ≤ cap) (hb : cap * 8 ≤ 536870912) (hc : cells + 1 ≤ R.cells) (hl : slots + cap ≤ R.slots)
    (K : ∀ T' h' a cA, Stand p l e R s m args below meth c T' locs (cells + 1) (slots + cap) → T'.heap = h' → a = h.size → Ext h h' → Ary Z h' a cA (newarray.typeOf aty) (List.replicate n.toNatClampNeg (defaultValue (newarray.typeOf aty))) → Go p.tables e below P (T'.setTop (mkF m q L (.ref a :: S)))) : Go p.tables e below P (T.setTop (mkF m pc L (.int n :: S))) := by
  subst hq
  obtain ⟨T', h', cA, X', e', E', A', st⟩ := newP X hx hZ w eT (g := mkF m pc L (.int n :: S)) rfl hd rfl hn hcap hb hc hl
  exact go st (K T' h' _ cA X' e' rfl E' (Ary.new A'))
theorem gNewR (X : Stand p l e R s m args below meth c T locs cells slots) (hx : p.tables.exec = Jvm.exec) (hZ : Z.Warmed39 s.vm) {own C : String} {i : Nat} (hown : s.vm.findClass own = some m.cls) (w1 : (Jvm.Cond.classLink own i C).before a0 Z = true) (w2 : (Jvm.Cond.arrayOver (.object C)).before a0 Z = true) (eT : T.heap = h) (hd : decode c.code pc = .ok (.anewarray i, 3)) (hq : pc + 3 = q) {n : Int32} (hn : ¬ n < 0) {cap : Nat} (hcap : n.toNatClampNeg ≤ cap) (hb : cap * 8 ≤ 536870912) (hc : cells + 1 ≤ R.cells) (hl : slots + cap ≤ R.slots)
    (K : ∀ T' h' a cA, Stand p l e R s m args below meth c T' locs (cells + 1) (slots + cap) → T'.heap = h' → a = h.size → Ext h h' → Ary Z h' a cA (.object C) (List.replicate n.toNatClampNeg .null) → Ovr Z cA C → Go p.tables e below P (T'.setTop (mkF m q L (.ref a :: S)))) : Go p.tables e below P (T.setTop (mkF m pc L (.int n :: S))) := by
  subst hq
  obtain ⟨T', h', cA, X', e', E', A', O', st⟩ := newR X hx hZ hown w1 w2 eT (g := mkF m pc L (.int n :: S)) rfl hd rfl hn hcap hb hc hl
  exact go st (K T' h' _ cA X' e' rfl E' (Ary.new A') O')
end Steps3
end Jvm.OwnKit
namespace Jvm.OwnKit
open Sem ClassFile Op Lib Jvm.Stand Jvm.Free Jvm.LawKit Jvm.RoadKit
theorem own_inst {Z : State} {a0 : Array Value} {K : String} {n : Nat} (w : (Jvm.Cond.instantiable K n).before a0 Z = true) : ∃ t k, Z.vm.findClass K = some t ∧ Z.vm.classes[t]? = some k ∧ k.kind = .ordinary ∧ k.isInterface = false := by
  obtain ⟨t, k, h1, h2, h3, h4, -⟩ := Cond.instantiable_spec w
  exact ⟨t, k, h1, h2, h3, by simp only [Bool.or_eq_false_iff] at h4; exact h4.1⟩
theorem own_nsRoot {Z : State} {a0 : Array Value} {O K : String} {n : Nat} (w : (Jvm.Cond.noSuperclass O).before a0 Z = true) (wk : (Jvm.Cond.instantiable K n).before a0 Z = true) (hn : O ≠ K) : NS Z O K := by
  obtain ⟨c, k, h1, h2, h3, -, -⟩ := Cond.noSuperclass_spec w
  obtain ⟨t, k', g1, -⟩ := own_inst wk
  have ne := ids_ne h1 g1 hn
  refine ⟨c, t, h1, g1, fun fuel => ?_⟩
  cases fuel with
  | zero => rfl
  | succ f => simp [Vm.isSubclassAux, ne, h2, h3]
theorem own_nsNo {Z : State} {a0 : Array Value} {C S K : String} {n : Nat} (w : (Jvm.Cond.superclass C S).before a0 Z = true) (wk : (Jvm.Cond.instantiable K n).before a0 Z = true) (m : NS Z C K) (hn : C ≠ K) : ∃ c t, Z.vm.findClass C = some c ∧ Z.vm.findClass K = some t ∧ Z.vm.assignable c t = false := by
  obtain ⟨c, t, h0, g0, n3⟩ := m
  obtain ⟨p, k, kp, h1, h2, h3, h4, h5, -, h7⟩ := Cond.superclass_spec h0 w
  obtain ⟨t', k', g1, g2, g3, g4⟩ := own_inst wk
  cases g0.symm.trans g1
  have ne := ids_ne h0 g0 hn
  refine ⟨c, t, h0, g0, ?_⟩
  show Z.vm.assignableAux (255 + 1) c t = false
  simp [Vm.assignableAux, ne, h2, g2, h5, g3, g4, Vm.isSubclass, n3]
section Steps4
variable {p : Program} {l : Launch} {e : Env} {R : Room} {s : State} {m : MethodId} {args : Array Value} {below : List Frame} {meth : Method} {c : Code} {T : State} {locs : List Loc} {cells slots : Nat} {P : State → Outcome → Prop} {pc q : Nat} {L L' : Array Slot} {S : List Value} {Z : State} {a0 : Array Value} {h : Heap} {a : Addr}
theorem gInstY (X : Stand p l e R s m args below meth c T locs cells slots) (hx : p.tables.exec = Jvm.exec) (hZ : Z.Warmed39 s.vm) {own K : String} {i : Nat} (hown : s.vm.findClass own = some m.cls) (w : (Jvm.Cond.classLink own i K).before a0 Z = true) (eT : T.heap = h) (F : Ins Z h a K true) (hd : decode c.code pc = .ok (.instanceof i, 3)) (hq : pc + 3 = q)
    (K1 : ∀ T', Stand p l e R s m args below meth c T' locs cells slots → T'.heap = h → Go p.tables e below P (T'.setTop (mkF m q L (.int 1 :: S)))) : Go p.tables e below P (T.setTop (mkF m pc L (.ref a :: S))) := by
  subst hq
  obtain ⟨T', X', e', st⟩ := instY X hx hZ hown w eT F (g := mkF m pc L (.ref a :: S)) rfl rfl hd
  exact go st (K1 T' X' e')
theorem gInstNo (X : Stand p l e R s m args below meth c T locs cells slots) (hx : p.tables.exec = Jvm.exec) (hZ : Z.Warmed39 s.vm) {own K C : String} {i : Nat} (hown : s.vm.findClass own = some m.cls) (w : (Jvm.Cond.classLink own i K).before a0 Z = true) (eT : T.heap = h) (E : Exa Z h a C) (F : ∃ c t, Z.vm.findClass C = some c ∧ Z.vm.findClass K = some t ∧ Z.vm.assignable c t = false) (hd : decode c.code pc = .ok (.instanceof i, 3)) (hq : pc + 3 = q)
    (K1 : ∀ T', Stand p l e R s m args below meth c T' locs cells slots → T'.heap = h → Go p.tables e below P (T'.setTop (mkF m q L (.int 0 :: S)))) : Go p.tables e below P (T.setTop (mkF m pc L (.ref a :: S))) := by
  subst hq
  obtain ⟨T', X', e', st⟩ := instNo X hx hZ hown w eT E F (g := mkF m pc L (.ref a :: S)) rfl rfl hd
  exact go st (K1 T' X' e')
theorem gInstNull (X : Stand p l e R s m args below meth c T locs cells slots) (hx : p.tables.exec = Jvm.exec) {i : Nat} (hd : decode c.code pc = .ok (.instanceof i, 3)) (hq : pc + 3 = q) (K1 : Go p.tables e below P (T.setTop (mkF m q L (.int 0 :: S)))) : Go p.tables e below P (T.setTop (mkF m pc L (.null :: S))) := by
  subst hq
  exact go (fun t k => X.instanceofNull hx (g := mkF m pc L (.null :: S)) rfl rfl hd _ k) K1
theorem gCastY (X : Stand p l e R s m args below meth c T locs cells slots) (hx : p.tables.exec = Jvm.exec) (hZ : Z.Warmed39 s.vm) {own K : String} {i : Nat} (hown : s.vm.findClass own = some m.cls) (w : (Jvm.Cond.classLink own i K).before a0 Z = true) (eT : T.heap = h) (F : Ins Z h a K true) (hd : decode c.code pc = .ok (.checkcast i, 3)) (hq : pc + 3 = q)
    (K1 : ∀ T', Stand p l e R s m args below meth c T' locs cells slots → T'.heap = h → Go p.tables e below P (T'.setTop (mkF m q L (.ref a :: S)))) : Go p.tables e below P (T.setTop (mkF m pc L (.ref a :: S))) := by
  subst hq
  obtain ⟨T', X', e', st⟩ := castY X hx hZ hown w eT F (g := mkF m pc L (.ref a :: S)) rfl rfl hd
  exact go st (K1 T' X' e')
end Steps4
end Jvm.OwnKit
namespace Jvm.OwnKit
open Sem ClassFile Op Lib Jvm.Stand Jvm.Free Jvm.LawKit Jvm.RoadKit
theorem Con.ofN {l : Launch} {Z : State} {y : MethodName} {bytes : ByteArray} {maxL : Nat} {rt : Option FieldType} {ws : List Jvm.Cond} {rm : Room} {as' : Array Value} {h : Heap} {k n : Nat} {Q : Option Value → Heap → List Loc → Prop} (hp : plainFor y = true)
    (body : ∀ (p : Program) (e : Env) (s : State) (m : MethodId) (below : List Frame) (meth : Method) (c : Code) (s₁ : State), p.tables.exec = Jvm.exec → c.code = bytes → c.maxLocals = maxL → s.methodNamed? y = some m → meth.name = y.name → meth.sig.returnType = rt → meth.locks = false → Z.Warmed39 s.vm →
      Stand p l e rm s m as' below meth c s₁ [] 0 0 → s₁.heap = h → Go p.tables e below (Done s Q k n) (s₁.setTop (entryFrame m as' maxL))) : Con l Z y bytes maxL rt ws rm as' h k n Q := by
  refine MetFree.of_bodySF hp hisR ?_
  intro p e s m args below meth c s₁ Bd hml0 hP hK
  obtain ⟨rfl, hZ, hh⟩ := hP
  exact body p e s m below meth c s₁ Bd.exec Bd.bytes hml0 Bd.named (name_of_methodNamed Bd.named Bd.method).1 Bd.returns Bd.notSynchronized hZ (Stand.of_body Bd) (by rw [← hh, Bd.state]; rfl)
section Steps5
variable {p : Program} {l : Launch} {e : Env} {R : Room} {s : State} {m : MethodId} {args : Array Value} {below : List Frame} {meth : Method} {c : Code} {T : State} {locs : List Loc} {cells slots : Nat} {P : State → Outcome → Prop} {pc q : Nat} {L L' : Array Slot} {S : List Value} {Z : State} {a0 : Array Value} {h : Heap} {a : Addr}
theorem gMakes (X : Stand p l e R s m args below meth c T locs cells slots) (hx : p.tables.exec = Jvm.exec) (hZ : Z.Warmed39 s.vm) {y : MethodName} {i fi : Nat} {σ : Lambda.Shape} {ty : FieldType} (w : (Jvm.Cond.lambdaSite y pc i σ).before a0 Z = true) (hn : s.methodNamed? y = some m) (wO : (Jvm.Cond.instantiable "java/lang/Object" 0).before a0 Z = true) (hcap : σ.captured = [ty]) (hty0 : narrow ty (.ref a) = .ref a ∧ fits ty (.ref a) = true)
    (hok : Jvm.LamKit.capOK σ y.cls fi 0 = true) (eT : T.heap = h) (hsize : L.size = c.maxLocals) (hd : decode c.code pc = .ok (.invokedynamic i, 5)) (hq : pc + 5 = q)
    (hW : ((Value.ref a :: S).map fun v => v.category).sum + 3072 ≤ R.locals) (hc : cells + 1 ≤ R.cells) (hl : slots + 1 ≤ R.slots)
    (K : ∀ T' h' f, Stand p l e R s m args below meth c T' locs (cells + 1) (slots + 1) → T'.heap = h' → f = h.size → Ext h h' → Go p.tables e below P (T'.setTop (mkF m q L (.ref f :: S)))) : Go p.tables e below P (T.setTop (mkF m pc L (.ref a :: S))) := by
  subst hq eT
  obtain ⟨cK, one, hat⟩ := Cond.lambdaSite_spec w
  obtain ⟨mD, kD, cfD, i0, p0, lk, hmD, hkD, hcfD, hsh, -, hfind, hmade, hcan, hlk⟩ := State.lambdaAt?_spec hat
  have hn1 : s.methodNamed? y = Z.methodNamed? y := State.methodNamed?_setVm (s := Z) hZ.alike y
  have hn' : Z.methodNamed? y = some m := hn1 ▸ hn
  cases hn'.symm.trans hmD
  obtain ⟨kD', hkD', hnameD⟩ := className_of_methodNamed hn'
  cases hkD.symm.trans hkD'
  obtain ⟨rfl, -, -⟩ : lk = .makes cK ∧ one = none ∧ σ.captured ≠ [] := by
    rcases hlk with ⟨_, _, -, -, h0, -⟩ | h0
    · rw [hcap] at h0; cases h0
    · exact h0
  obtain ⟨b, nt, desc, site, h1, h2, h3, h4⟩ := Lambda.shapeOf?_site hsh
  obtain ⟨kc, f, hkc, hkind, hty, -⟩ := Jvm.LamKit.made_cap hok hkD hnameD hmade (Jvm.LamKit.noFields wO (State.WarmedH.refl Z))
  obtain ⟨ks, hks, hes⟩ := hZ.alike.2.2 _ _ hkD
  obtain ⟨kcs, hkcs, hecs⟩ := hZ.alike.2.2 _ _ hkc
  have hty2 : kcs.instanceTypes = #[ty] := by rw [hecs]; show kc.instanceTypes = _; rw [hty, hcap]
  have hkd2 : kcs.kind = .ordinary := by rw [hecs]; exact hkind
  have hz : ((kcs.instanceTypes.toList.zip [Value.ref a]).map fun (t, v) => narrow t v) = [Value.ref a] := by rw [hty2]; show [narrow ty (.ref a)] = _; rw [hty0.1]
  have hw : e.platform.lambdaLinkWords = 3072 := by rw [X.admits.platform]
  have q := X.lambdaMakes hx (g := mkF m pc L (.ref a :: S)) rfl hsize hd (vals := [.ref a]) (rest := S) hks (by rw [hes]; exact hfind) (by rw [hes]; exact hcfD) h1 h2 (parseLong_of_parse h3) (by rw [h4, hcap]; rfl) rfl hkcs (by rw [hw]; show 2 * 0 + _ + 3072 ≤ _; rw [Nat.mul_zero, Nat.zero_add]; exact hW) hc (by rw [hz]; exact hl)
    (fun i v hv => by
      rw [hz] at hv
      cases i with
      | zero => simp at hv; subst hv; simp [State.fitsSlot, State.slotType?, hkcs, hkd2, hty2, hty0.2]
      | succ j => simp at hv)
  rw [hz] at q
  refine go q.2 (K _ _ _ q.1 rfl rfl ⟨?_, fun b cb hb => ?_⟩)
  · show T.heap.size ≤ (T.heap.push _).size; simp
  · have hlt := (Array.getElem?_eq_some_iff.mp hb).1
    rw [State.heap_pushCell_of_lt _ _ hlt]; exact hb
end Steps5
end Jvm.OwnKit
namespace Jvm.Pilot.@@N@@
open Jvm Jvm.ClassFile Sem Op Lib Jvm.Free Jvm.Stand Jvm.LawKit Jvm.RoadKit Bundle Jvm.OwnKit Jvm.Pilot.@@N@@.Jvm.D
theorem d2_0 : decode prog_9_method_2_code 0 = .ok (.aload_n 0, 1) := by decide +kernel
theorem d2_1 : decode prog_9_method_2_code 1 = .ok (.invokespecial 11, 3) := by decide +kernel
theorem d2_4 : decode prog_9_method_2_code 4 = .ok (.aload_n 0, 1) := by decide +kernel
theorem d2_5 : decode prog_9_method_2_code 5 = .ok (.aload_n 1, 1) := by decide +kernel
theorem d2_6 : decode prog_9_method_2_code 6 = .ok (.putfield 16, 3) := by decide +kernel
theorem d2_9 : decode prog_9_method_2_code 9 = .ok (.aload_n 0, 1) := by decide +kernel
theorem d2_10 : decode prog_9_method_2_code 10 = .ok (.aload_n 2, 1) := by decide +kernel
theorem d2_11 : decode prog_9_method_2_code 11 = .ok (.putfield 20, 3) := by decide +kernel
theorem d2_14 : decode prog_9_method_2_code 14 = .ok (.aload_n 0, 1) := by decide +kernel
theorem d2_15 : decode prog_9_method_2_code 15 = .ok (.aload_n 1, 1) := by decide +kernel
theorem d2_16 : decode prog_9_method_2_code 16 = .ok (.arraylength, 1) := by decide +kernel
theorem d2_17 : decode prog_9_method_2_code 17 = .ok (.putfield 23, 3) := by decide +kernel
theorem d2_20 : decode prog_9_method_2_code 20 = .ok (.aload_n 0, 1) := by decide +kernel
theorem d2_21 : decode prog_9_method_2_code 21 = .ok (.aload_n 0, 1) := by decide +kernel
theorem d2_22 : decode prog_9_method_2_code 22 = .ok (.getfield 23, 3) := by decide +kernel
theorem d2_25 : decode prog_9_method_2_code 25 = .ok (.iconst 1, 1) := by decide +kernel
theorem d2_26 : decode prog_9_method_2_code 26 = .ok (.iadd, 1) := by decide +kernel
theorem d2_27 : decode prog_9_method_2_code 27 = .ok (.newarray .int, 2) := by decide +kernel
theorem d2_29 : decode prog_9_method_2_code 29 = .ok (.putfield 27, 3) := by decide +kernel
theorem d2_32 : decode prog_9_method_2_code 32 = .ok (.aload_n 0, 1) := by decide +kernel
theorem d2_33 : decode prog_9_method_2_code 33 = .ok (.aload_n 3, 1) := by decide +kernel
theorem d2_34 : decode prog_9_method_2_code 34 = .ok (.putfield 30, 3) := by decide +kernel
theorem d2_37 : decode prog_9_method_2_code 37 = .ok (.return_, 1) := by decide +kernel
theorem pn0 : plainName "com/example/libpalin/libpalin/LoopArms" = true := by first | (simp [plainName, overriddenIn]; done) | decide +kernel
theorem ef0 (m : MethodId) (x0 : Addr) (x1 : Addr) (x2 : Addr) (x3 : Addr) : entryFrame m #[(.ref x0), (.ref x1), (.ref x2), (.ref x3)] 4 = mkF m 0 #[.val (.ref x0), .val (.ref x1), .val (.ref x2), .val (.ref x3)] [] := by first | (simp [entryFrame, mkF, argsToLocals, Value.category]; done) | rfl
def Q_rmL2 (Z : State) (a : Addr) (k1 : Addr) (k2 : Addr) (fn : Addr) (kc : ClassId) (y0 : Int32) (y1 : Int32) (h0 : Heap) (n0 : Nat) (v : Option Value) (h : Heap) (L : List Loc) : Prop := v = none ∧ Fr n0 L ∧ Keep h0 h [a] ∧ Exa Z h a "com/example/libpalin/libpalin/LoopArms" ∧ Fld Z h a "com/example/libpalin/libpalin/LoopArms" "keys" "[I" (.ref k1) ∧ Fld Z h a "com/example/libpalin/libpalin/LoopArms" "partnerKeys" "[I" (.ref k2)
set_option maxRecDepth 65536 in
set_option maxHeartbeats 40000000 in
theorem rmL2 (l : Launch) (Z : State) (a0 : Array Value) (hw : ∀ d ∈ tables_1, d.before a0 Z = true) (ws : List Jvm.Cond) (a : Addr) (k1 : Addr) (k2 : Addr) (fn : Addr) (kc : ClassId) (y0 : Int32) (y1 : Int32) (h0 : Heap) (n0 : Nat) (Z0 : n0 ≤ h0.size) (F_keys : Fld Z h0 a "com/example/libpalin/libpalin/LoopArms" "keys" "[I" (.null)) (F_partnerKeys : Fld Z h0 a "com/example/libpalin/libpalin/LoopArms" "partnerKeys" "[I" (.null)) (F_units : Fld Z h0 a "com/example/libpalin/libpalin/LoopArms" "units" "I" (.int (0 : Int32))) (F_arms : Fld Z h0 a "com/example/libpalin/libpalin/LoopArms" "arms" "[I" (.null)) (F_readsPastHoles : Fld Z h0 a "com/example/libpalin/libpalin/LoopArms" "readsPastHoles" "Ljava/util/function/IntToLongFunction;" (.null)) (EXa : Exa Z h0 a "com/example/libpalin/libpalin/LoopArms") (la : n0 ≤ a) (A1 : Ary Z h0 k1 kc .int [.int y0, .int y1]) (nk1 : k1 ≠ a) :
    Con l Z (⟨"com/example/libpalin/libpalin/LoopArms", "<init>", "([I[ILjava/util/function/IntToLongFunction;)V"⟩ : MethodName) prog_9_method_2_code 4 none ws ({ frames := 1, cells := 1, slots := 3, locals := 12 } : Room) #[(.ref a), (.ref k1), (.ref k2), (.ref fn)] h0 (({ frames := 1, cells := 1, slots := 3, locals := 12 } : Room).cells) (({ frames := 1, cells := 1, slots := 3, locals := 12 } : Room).slots) (Q_rmL2 Z a k1 k2 fn kc y0 y1 h0 n0) := by
  refine Con.of (plainFor_of_name pn0) ?_
  intro p e s m below meth c s₁ hx hby hml hown hnm hret hlk hZ X0 e0
  have N0 := Fr.nil n0
  refine goE (L := #[.val (.ref a), .val (.ref k1), .val (.ref k2), .val (.ref fn)]) (ef0 m a k1 k2 fn) ?_
  refine gAloadN X0 hx (hb hby d2_0) (q := 1) rfl rfl rfl ?_
  refine gInitO X0 hx hZ hown (hw _ (List.mem_of_getElem? (i := 14) rfl)) (hw _ (List.mem_of_getElem? (i := 15) rfl)) (hw _ (List.mem_of_getElem? (i := 16) rfl)) e0 (by rw [hml]; rfl) (hb hby d2_1) (q := 4) rfl (by decide) (W := 0) (Nat.le_of_eq rfl) (by decide) (fun T1 X1 e1 => ?_)
  refine gAloadN X1 hx (hb hby d2_4) (q := 5) rfl rfl rfl ?_
  refine gAloadN X1 hx (hb hby d2_5) (q := 6) rfl rfl rfl ?_
  refine gPutF X1 hx hZ (host := "") hown (Or.inl (hw _ (List.mem_of_getElem? (i := 17) rfl))) Via.refl e1 F_keys EXa (Or.inr ⟨(hw _ (List.mem_of_getElem? (i := 18) rfl)), rfl, hnm⟩) (hw _ (List.mem_of_getElem? (i := 2) rfl)) (ty := .array (.int)) (by decide) rfl rfl (hb hby d2_6) (q := 9) rfl (fun T2 h2 X2 e2 W2 => ?_)
  have N3 := Fr.snoc X2 N0 la
  have K4 := (Keep.refl h0 [a]).wr W2 (Or.inl (List.mem_of_getElem? (i := 0) rfl))
  have F5 := Fld.same W2 F_keys
  have F6 := Fld.other W2 F_partnerKeys (Or.inr (slot_ne (Or.inr (hw _ (List.mem_of_getElem? (i := 20) rfl))) (Or.inr (hw _ (List.mem_of_getElem? (i := 18) rfl))) (by decide) (t := .array (.int)) (by decide) (t' := .array (.int)) (by decide)))
  have F7 := Fld.other W2 F_units (Or.inr (slot_ne (Or.inr (hw _ (List.mem_of_getElem? (i := 22) rfl))) (Or.inr (hw _ (List.mem_of_getElem? (i := 18) rfl))) (by decide) (t := .int) (by decide) (t' := .array (.int)) (by decide)))
  have F8 := Fld.other W2 F_arms (Or.inr (slot_ne (Or.inr (hw _ (List.mem_of_getElem? (i := 24) rfl))) (Or.inr (hw _ (List.mem_of_getElem? (i := 18) rfl))) (by decide) (t := .array (.int)) (by decide) (t' := .array (.int)) (by decide)))
  have F9 := Fld.other W2 F_readsPastHoles (Or.inr (slot_ne (Or.inr (hw _ (List.mem_of_getElem? (i := 26) rfl))) (Or.inr (hw _ (List.mem_of_getElem? (i := 18) rfl))) (by decide) (t := .object "java/util/function/IntToLongFunction") (by decide) (t' := .array (.int)) (by decide)))
  have E10 := Exa.wr W2 EXa
  have A11 := Ary.other W2 A1 nk1
  have Z12 : n0 ≤ h2.size := by rw [W2.size]; exact Z0
  refine gAloadN X2 hx (hb hby d2_9) (q := 10) rfl rfl rfl ?_
  refine gAloadN X2 hx (hb hby d2_10) (q := 11) rfl rfl rfl ?_
  refine gPutF X2 hx hZ (host := "") hown (Or.inl (hw _ (List.mem_of_getElem? (i := 19) rfl))) Via.refl e2 F6 E10 (Or.inr ⟨(hw _ (List.mem_of_getElem? (i := 20) rfl)), rfl, hnm⟩) (hw _ (List.mem_of_getElem? (i := 2) rfl)) (ty := .array (.int)) (by decide) rfl rfl (hb hby d2_11) (q := 14) rfl (fun T13 h13 X13 e13 W13 => ?_)
  have N14 := Fr.snoc X13 N3 la
  have K15 := K4.wr W13 (Or.inl (List.mem_of_getElem? (i := 0) rfl))
  have F16 := Fld.other W13 F5 (Or.inr (slot_ne (Or.inr (hw _ (List.mem_of_getElem? (i := 18) rfl))) (Or.inr (hw _ (List.mem_of_getElem? (i := 20) rfl))) (by decide) (t := .array (.int)) (by decide) (t' := .array (.int)) (by decide)))
  have F17 := Fld.same W13 F6
  have F18 := Fld.other W13 F7 (Or.inr (slot_ne (Or.inr (hw _ (List.mem_of_getElem? (i := 22) rfl))) (Or.inr (hw _ (List.mem_of_getElem? (i := 20) rfl))) (by decide) (t := .int) (by decide) (t' := .array (.int)) (by decide)))
  have F19 := Fld.other W13 F8 (Or.inr (slot_ne (Or.inr (hw _ (List.mem_of_getElem? (i := 24) rfl))) (Or.inr (hw _ (List.mem_of_getElem? (i := 20) rfl))) (by decide) (t := .array (.int)) (by decide) (t' := .array (.int)) (by decide)))
  have F20 := Fld.other W13 F9 (Or.inr (slot_ne (Or.inr (hw _ (List.mem_of_getElem? (i := 26) rfl))) (Or.inr (hw _ (List.mem_of_getElem? (i := 20) rfl))) (by decide) (t := .object "java/util/function/IntToLongFunction") (by decide) (t' := .array (.int)) (by decide)))
  have E21 := Exa.wr W13 E10
  have A22 := Ary.other W13 A11 nk1
  have Z23 : n0 ≤ h13.size := by rw [W13.size]; exact Z12
  refine gAloadN X13 hx (hb hby d2_14) (q := 15) rfl rfl rfl ?_
  refine gAloadN X13 hx (hb hby d2_15) (q := 16) rfl rfl rfl ?_
  refine gLen X13 hx hZ e13 A22 (n := (2 : Int32)) rfl (hb hby d2_16) (q := 17) rfl ?_
  refine gPutF X13 hx hZ (host := "") hown (Or.inl (hw _ (List.mem_of_getElem? (i := 21) rfl))) Via.refl e13 F18 E21 (Or.inr ⟨(hw _ (List.mem_of_getElem? (i := 22) rfl)), rfl, hnm⟩) (hw _ (List.mem_of_getElem? (i := 2) rfl)) (ty := .int) (by decide) rfl rfl (hb hby d2_17) (q := 20) rfl (fun T24 h24 X24 e24 W24 => ?_)
  have N25 := Fr.snoc X24 N14 la
  have K26 := K15.wr W24 (Or.inl (List.mem_of_getElem? (i := 0) rfl))
  have F27 := Fld.other W24 F16 (Or.inr (slot_ne (Or.inr (hw _ (List.mem_of_getElem? (i := 18) rfl))) (Or.inr (hw _ (List.mem_of_getElem? (i := 22) rfl))) (by decide) (t := .array (.int)) (by decide) (t' := .int) (by decide)))
  have F28 := Fld.other W24 F17 (Or.inr (slot_ne (Or.inr (hw _ (List.mem_of_getElem? (i := 20) rfl))) (Or.inr (hw _ (List.mem_of_getElem? (i := 22) rfl))) (by decide) (t := .array (.int)) (by decide) (t' := .int) (by decide)))
  have F29 := Fld.same W24 F18
  have F30 := Fld.other W24 F19 (Or.inr (slot_ne (Or.inr (hw _ (List.mem_of_getElem? (i := 24) rfl))) (Or.inr (hw _ (List.mem_of_getElem? (i := 22) rfl))) (by decide) (t := .array (.int)) (by decide) (t' := .int) (by decide)))
  have F31 := Fld.other W24 F20 (Or.inr (slot_ne (Or.inr (hw _ (List.mem_of_getElem? (i := 26) rfl))) (Or.inr (hw _ (List.mem_of_getElem? (i := 22) rfl))) (by decide) (t := .object "java/util/function/IntToLongFunction") (by decide) (t' := .int) (by decide)))
  have E32 := Exa.wr W24 E21
  have A33 := Ary.other W24 A22 nk1
  have Z34 : n0 ≤ h24.size := by rw [W24.size]; exact Z23
  refine gAloadN X24 hx (hb hby d2_20) (q := 21) rfl rfl rfl ?_
  refine gAloadN X24 hx (hb hby d2_21) (q := 22) rfl rfl rfl ?_
  refine gGetF X24 hx hZ (host := "") hown (Or.inl (hw _ (List.mem_of_getElem? (i := 21) rfl))) Via.refl e24 F29 (hb hby d2_22) (q := 25) rfl (fun T35 X35 e35 => ?_)
  refine gIconst X35 hx (1 : Int32) (hb hby d2_25) (q := 26) rfl (by decide) ?_
  refine gIadd X35 hx (hb hby d2_26) (q := 27) rfl ?_
  rw [show ((2 : Int32) + (1 : Int32)) = (3 : Int32) from by decide]
  refine gNewP X35 hx hZ (hw _ (List.mem_of_getElem? (i := 0) rfl)) e35 (hb hby d2_27) (q := 29) rfl (by decide) (cap := 3) (by decide) (by decide) (by decide) (by decide) (fun T36 h36 a36 k36 X36 e36 g36 E36 A36 => ?_)
  have F37 := Fld.ext E36 F27
  have F38 := Fld.ext E36 F28
  have F39 := Fld.ext E36 F29
  have F40 := Fld.ext E36 F30
  have F41 := Fld.ext E36 F31
  have E42 := Exa.ext E36 E32
  have A43 := Ary.ext E36 A33
  have ge_a36 : h0.size ≤ a36 := by rw [g36]; exact K26.1
  have K44 := K26.ext E36
  have le_a36 : n0 ≤ a36 := by rw [g36]; exact Z34
  have ne_a_a36 : a ≠ a36 := by rw [g36]; exact Nat.ne_of_lt E32.lt
  have ne_k1_a36 : k1 ≠ a36 := by rw [g36]; exact Nat.ne_of_lt A33.lt
  have Z45 := Nat.le_trans Z34 E36.1
  have B36 : Ary Z h36 a36 k36 (.int) [(.int (0 : Int32)), (.int (0 : Int32)), (.int (0 : Int32))] := A36
  refine gPutF X36 hx hZ (host := "") hown (Or.inl (hw _ (List.mem_of_getElem? (i := 23) rfl))) Via.refl e36 F40 E42 (Or.inr ⟨(hw _ (List.mem_of_getElem? (i := 24) rfl)), rfl, hnm⟩) (hw _ (List.mem_of_getElem? (i := 2) rfl)) (ty := .array (.int)) (by decide) rfl rfl (hb hby d2_29) (q := 32) rfl (fun T46 h46 X46 e46 W46 => ?_)
  have N47 := Fr.snoc X46 N25 la
  have K48 := K44.wr W46 (Or.inl (List.mem_of_getElem? (i := 0) rfl))
  have F49 := Fld.other W46 F37 (Or.inr (slot_ne (Or.inr (hw _ (List.mem_of_getElem? (i := 18) rfl))) (Or.inr (hw _ (List.mem_of_getElem? (i := 24) rfl))) (by decide) (t := .array (.int)) (by decide) (t' := .array (.int)) (by decide)))
  have F50 := Fld.other W46 F38 (Or.inr (slot_ne (Or.inr (hw _ (List.mem_of_getElem? (i := 20) rfl))) (Or.inr (hw _ (List.mem_of_getElem? (i := 24) rfl))) (by decide) (t := .array (.int)) (by decide) (t' := .array (.int)) (by decide)))
  have F51 := Fld.other W46 F39 (Or.inr (slot_ne (Or.inr (hw _ (List.mem_of_getElem? (i := 22) rfl))) (Or.inr (hw _ (List.mem_of_getElem? (i := 24) rfl))) (by decide) (t := .int) (by decide) (t' := .array (.int)) (by decide)))
  have F52 := Fld.same W46 F40
  have F53 := Fld.other W46 F41 (Or.inr (slot_ne (Or.inr (hw _ (List.mem_of_getElem? (i := 26) rfl))) (Or.inr (hw _ (List.mem_of_getElem? (i := 24) rfl))) (by decide) (t := .object "java/util/function/IntToLongFunction") (by decide) (t' := .array (.int)) (by decide)))
  have E54 := Exa.wr W46 E42
  have A55 := Ary.other W46 A43 nk1
  have A56 := Ary.other W46 B36 ne_a_a36.symm
  have Z57 : n0 ≤ h46.size := by rw [W46.size]; exact Z45
  refine gAloadN X46 hx (hb hby d2_32) (q := 33) rfl rfl rfl ?_
  refine gAloadN X46 hx (hb hby d2_33) (q := 34) rfl rfl rfl ?_
  refine gPutF X46 hx hZ (host := "") hown (Or.inl (hw _ (List.mem_of_getElem? (i := 25) rfl))) Via.refl e46 F53 E54 (Or.inr ⟨(hw _ (List.mem_of_getElem? (i := 26) rfl)), rfl, hnm⟩) (hw _ (List.mem_of_getElem? (i := 2) rfl)) (ty := .object "java/util/function/IntToLongFunction") (by decide) rfl rfl (hb hby d2_34) (q := 37) rfl (fun T58 h58 X58 e58 W58 => ?_)
  have N59 := Fr.snoc X58 N47 la
  have K60 := K48.wr W58 (Or.inl (List.mem_of_getElem? (i := 0) rfl))
  have F61 := Fld.other W58 F49 (Or.inr (slot_ne (Or.inr (hw _ (List.mem_of_getElem? (i := 18) rfl))) (Or.inr (hw _ (List.mem_of_getElem? (i := 26) rfl))) (by decide) (t := .array (.int)) (by decide) (t' := .object "java/util/function/IntToLongFunction") (by decide)))
  have F62 := Fld.other W58 F50 (Or.inr (slot_ne (Or.inr (hw _ (List.mem_of_getElem? (i := 20) rfl))) (Or.inr (hw _ (List.mem_of_getElem? (i := 26) rfl))) (by decide) (t := .array (.int)) (by decide) (t' := .object "java/util/function/IntToLongFunction") (by decide)))
  have F63 := Fld.other W58 F51 (Or.inr (slot_ne (Or.inr (hw _ (List.mem_of_getElem? (i := 22) rfl))) (Or.inr (hw _ (List.mem_of_getElem? (i := 26) rfl))) (by decide) (t := .int) (by decide) (t' := .object "java/util/function/IntToLongFunction") (by decide)))
  have F64 := Fld.other W58 F52 (Or.inr (slot_ne (Or.inr (hw _ (List.mem_of_getElem? (i := 24) rfl))) (Or.inr (hw _ (List.mem_of_getElem? (i := 26) rfl))) (by decide) (t := .array (.int)) (by decide) (t' := .object "java/util/function/IntToLongFunction") (by decide)))
  have F65 := Fld.same W58 F53
  have E66 := Exa.wr W58 E54
  have A67 := Ary.other W58 A55 nk1
  have A68 := Ary.other W58 A56 ne_a_a36.symm
  have Z69 : n0 ≤ h58.size := by rw [W58.size]; exact Z57
  exact gRetV X58 hx hlk hret (hb hby d2_37) (by decide) (by decide) (by rw [e58]; exact ⟨rfl, N59, K60, E66, F61, F62⟩)
theorem d1_0 : decode prog_9_method_1_code 0 = .ok (.aload_n 0, 1) := by decide +kernel
theorem d1_1 : decode prog_9_method_1_code 1 = .ok (.aload_n 1, 1) := by decide +kernel
theorem d1_2 : decode prog_9_method_1_code 2 = .ok (.aload_n 2, 1) := by decide +kernel
theorem d1_3 : decode prog_9_method_1_code 3 = .ok (.aload_n 1, 1) := by decide +kernel
theorem d1_4 : decode prog_9_method_1_code 4 = .ok (.invokedynamic 1, 5) := by decide +kernel
theorem d1_9 : decode prog_9_method_1_code 9 = .ok (.invokespecial 5, 3) := by decide +kernel
theorem d1_12 : decode prog_9_method_1_code 12 = .ok (.return_, 1) := by decide +kernel
theorem ef1 (m : MethodId) (x0 : Addr) (x1 : Addr) (x2 : Addr) : entryFrame m #[(.ref x0), (.ref x1), (.ref x2)] 3 = mkF m 0 #[.val (.ref x0), .val (.ref x1), .val (.ref x2)] [] := by first | (simp [entryFrame, mkF, argsToLocals, Value.category]; done) | rfl
def Q_rmL1 (Z : State) (a : Addr) (k1 : Addr) (k2 : Addr) (kc : ClassId) (y0 : Int32) (y1 : Int32) (h0 : Heap) (n0 : Nat) (v : Option Value) (h : Heap) (L : List Loc) : Prop := v = none ∧ Fr n0 L ∧ Keep h0 h [a] ∧ Exa Z h a "com/example/libpalin/libpalin/LoopArms" ∧ Fld Z h a "com/example/libpalin/libpalin/LoopArms" "keys" "[I" (.ref k1) ∧ Fld Z h a "com/example/libpalin/libpalin/LoopArms" "partnerKeys" "[I" (.ref k2)
theorem pd0 : parseMethodDescriptor "([I[ILjava/util/function/IntToLongFunction;)V" = some ⟨[.array (.int), .array (.int), .object "java/util/function/IntToLongFunction"], none⟩ := by decide +kernel
set_option maxRecDepth 65536 in
set_option maxHeartbeats 40000000 in
theorem rmL1 (l : Launch) (Z : State) (a0 : Array Value) (hw : ∀ d ∈ tables_1, d.before a0 Z = true) (ws : List Jvm.Cond) (a : Addr) (k1 : Addr) (k2 : Addr) (kc : ClassId) (y0 : Int32) (y1 : Int32) (h0 : Heap) (n0 : Nat) (Z0 : n0 ≤ h0.size) (F_keys : Fld Z h0 a "com/example/libpalin/libpalin/LoopArms" "keys" "[I" (.null)) (F_partnerKeys : Fld Z h0 a "com/example/libpalin/libpalin/LoopArms" "partnerKeys" "[I" (.null)) (F_units : Fld Z h0 a "com/example/libpalin/libpalin/LoopArms" "units" "I" (.int (0 : Int32))) (F_arms : Fld Z h0 a "com/example/libpalin/libpalin/LoopArms" "arms" "[I" (.null)) (F_readsPastHoles : Fld Z h0 a "com/example/libpalin/libpalin/LoopArms" "readsPastHoles" "Ljava/util/function/IntToLongFunction;" (.null)) (EXa : Exa Z h0 a "com/example/libpalin/libpalin/LoopArms") (la : n0 ≤ a) (A1 : Ary Z h0 k1 kc .int [.int y0, .int y1]) (nk1 : k1 ≠ a) :
    Con l Z (⟨"com/example/libpalin/libpalin/LoopArms", "<init>", "([I[I)V"⟩ : MethodName) prog_9_method_1_code 3 none ws ({ frames := 2, cells := 2, slots := 4, locals := 3076 } : Room) #[(.ref a), (.ref k1), (.ref k2)] h0 (({ frames := 2, cells := 2, slots := 4, locals := 3076 } : Room).cells) (({ frames := 2, cells := 2, slots := 4, locals := 3076 } : Room).slots) (Q_rmL1 Z a k1 k2 kc y0 y1 h0 n0) := by
  refine Con.ofN (plainFor_of_name pn0) ?_
  intro p e s m below meth c s₁ hx hby hml hnamed hnm hret hlk hZ X0 e0
  have hown : s.vm.findClass "com/example/libpalin/libpalin/LoopArms" = some m.cls := findClass_of_methodNamed hnamed
  have N0 := Fr.nil n0
  refine goE (L := #[.val (.ref a), .val (.ref k1), .val (.ref k2)]) (ef1 m a k1 k2) ?_
  refine gAloadN X0 hx (hb hby d1_0) (q := 1) rfl rfl rfl ?_
  refine gAloadN X0 hx (hb hby d1_1) (q := 2) rfl rfl rfl ?_
  refine gAloadN X0 hx (hb hby d1_2) (q := 3) rfl rfl rfl ?_
  refine gAloadN X0 hx (hb hby d1_3) (q := 4) rfl rfl rfl ?_
  refine gMakes X0 hx hZ (fi := 15) (ty := .array .int) (hw _ (List.mem_of_getElem? (i := 7) rfl)) hnamed (hw _ (List.mem_of_getElem? (i := 10) rfl)) rfl ⟨rfl, rfl⟩ (by decide +kernel) e0 (by rw [hml]; rfl) (hb hby d1_4) (q := 9) rfl (Nat.le_of_eq rfl) (by decide) (by decide) (fun T1 h1 a1 X1 e1 g1 E1 => ?_)
  have F2 := Fld.ext E1 F_keys
  have F3 := Fld.ext E1 F_partnerKeys
  have F4 := Fld.ext E1 F_units
  have F5 := Fld.ext E1 F_arms
  have F6 := Fld.ext E1 F_readsPastHoles
  have E7 := Exa.ext E1 EXa
  have A8 := Ary.ext E1 A1
  have ge_a1 : h0.size ≤ a1 := by rw [g1]; exact (Keep.refl h0 [a]).1
  have K9 := (Keep.refl h0 [a]).ext E1
  have le_a1 : n0 ≤ a1 := by rw [g1]; exact Z0
  have ne_a_a1 : a ≠ a1 := by rw [g1]; exact Nat.ne_of_lt EXa.lt
  have ne_k1_a1 : k1 ≠ a1 := by rw [g1]; exact Nat.ne_of_lt A1.lt
  have Z10 := Nat.le_trans Z0 E1.1
  refine gCallN X1 hx hZ rfl hown (hw _ (List.mem_of_getElem? (i := 11) rfl)) (hw _ (List.mem_of_getElem? (i := 12) rfl)) (hw _ (List.mem_of_getElem? (i := 3) rfl)) (hw _ (List.mem_of_getElem? (i := 13) rfl)) (by decide) (rmL2 l Z a0 hw [] a k1 k2 a1 kc y0 y1 h1 n0 Z10 F2 F3 F4 F5 F6 E7 la A8 nk1) (W := 0) (by decide) (by decide) e1 (by rw [hml]; rfl) [(.ref k1), (.ref k2), (.ref a1)] (lenOf pd0 rfl) rfl (S := []) rfl (Nat.le_of_eq rfl) (hb hby d1_9) (q := 12) rfl (by decide) (by decide) (fun r11 T11 M11 X11 q11 => ?_)
  obtain ⟨rfl, M11n, K11, P11e, P11k, P11p⟩ := q11
  have N12 := Fr.app N0 M11n
  have A16 := Ary.keep A8 K11 (ninS nk1 nin0)
  have Z17 := Nat.le_trans Z10 K11.1
  have KK18 := K9.trans K11 (allS (Or.inl (List.mem_of_getElem? (i := 0) rfl)) all0)
  dsimp only [Option.toList, List.cons_append, List.nil_append]
  exact gRetV X11 hx hlk hret (hb hby d1_12) (by decide) (by decide) (by exact ⟨rfl, N12, KK18, P11e, P11k, P11p⟩)
theorem d4_0 : decode prog_9_method_5_code 0 = .ok (.aload_n 0, 1) := by decide +kernel
theorem d4_1 : decode prog_9_method_5_code 1 = .ok (.getfield 16, 3) := by decide +kernel
theorem d4_4 : decode prog_9_method_5_code 4 = .ok (.iload_n 1, 1) := by decide +kernel
theorem d4_5 : decode prog_9_method_5_code 5 = .ok (.iaload, 1) := by decide +kernel
theorem d4_6 : decode prog_9_method_5_code 6 = .ok (.aload_n 0, 1) := by decide +kernel
theorem d4_7 : decode prog_9_method_5_code 7 = .ok (.getfield 20, 3) := by decide +kernel
theorem d4_10 : decode prog_9_method_5_code 10 = .ok (.iload_n 2, 1) := by decide +kernel
theorem d4_11 : decode prog_9_method_5_code 11 = .ok (.iaload, 1) := by decide +kernel
theorem d4_12 : decode prog_9_method_5_code 12 = .ok (.if_icmp .ne 7, 3) := by decide +kernel
theorem d4_15 : decode prog_9_method_5_code 15 = .ok (.iconst 1, 1) := by decide +kernel
theorem d4_16 : decode prog_9_method_5_code 16 = .ok (.goto 4, 3) := by decide +kernel
theorem d4_19 : decode prog_9_method_5_code 19 = .ok (.iconst 0, 1) := by decide +kernel
theorem d4_20 : decode prog_9_method_5_code 20 = .ok (.ireturn, 1) := by decide +kernel
theorem ef2 (m : MethodId) (x0 : Addr) (x1 : Int32) (x2 : Int32) : entryFrame m #[(.ref x0), (.int x1), (.int x2)] 3 = mkF m 0 #[.val (.ref x0), .val (.int x1), .val (.int x2)] [] := by first | (simp [entryFrame, mkF, argsToLocals, Value.category]; done) | rfl
def Q_rmMir (Z : State) (a : Addr) (k1 : Addr) (k2 : Addr) (i : Int32) (j : Int32) (kc : ClassId) (kd : ClassId) (ks : List Value) (ps : List Value) (y1 : Int32) (y2 : Int32) (h0 : Heap) (n0 : Nat) (v : Option Value) (h : Heap) (L : List Loc) : Prop := v = some (.int (if y1 = y2 then (1 : Int32) else (0 : Int32))) ∧ Fr n0 L ∧ h = h0
set_option maxRecDepth 65536 in
set_option maxHeartbeats 40000000 in
theorem rmMir (l : Launch) (Z : State) (a0 : Array Value) (hw : ∀ d ∈ tables_1, d.before a0 Z = true) (ws : List Jvm.Cond) (a : Addr) (k1 : Addr) (k2 : Addr) (i : Int32) (j : Int32) (kc : ClassId) (kd : ClassId) (ks : List Value) (ps : List Value) (y1 : Int32) (y2 : Int32) (h0 : Heap) (n0 : Nat) (Z0 : n0 ≤ h0.size) (F1 : Fld Z h0 a "com/example/libpalin/libpalin/LoopArms" "keys" "[I" (.ref k1)) (F2 : Fld Z h0 a "com/example/libpalin/libpalin/LoopArms" "partnerKeys" "[I" (.ref k2)) (A1 : Ary Z h0 k1 kc .int ks) (A2 : Ary Z h0 k2 kd .int ps) (g1i : ¬ (i < 0 ∨ ks.length ≤ i.toNatClampNeg)) (g1v : ks[i.toNatClampNeg]? = some (.int y1)) (g2i : ¬ (j < 0 ∨ ps.length ≤ j.toNatClampNeg)) (g2v : ps[j.toNatClampNeg]? = some (.int y2)) :
    Con l Z (⟨"com/example/libpalin/libpalin/LoopArms", "mirrors", "(II)Z"⟩ : MethodName) prog_9_method_5_code 3 (some (.boolean)) ws ({ frames := 0, cells := 0, slots := 0, locals := 0 } : Room) #[(.ref a), (.int i), (.int j)] h0 (({ frames := 0, cells := 0, slots := 0, locals := 0 } : Room).cells) (({ frames := 0, cells := 0, slots := 0, locals := 0 } : Room).slots) (Q_rmMir Z a k1 k2 i j kc kd ks ps y1 y2 h0 n0) := by
  refine Con.of (plainFor_of_name pn0) ?_
  intro p e s m below meth c s₁ hx hby hml hown hnm hret hlk hZ X0 e0
  have N0 := Fr.nil n0
  refine goE (L := #[.val (.ref a), .val (.int i), .val (.int j)]) (ef2 m a i j) ?_
  refine gAloadN X0 hx (hb hby d4_0) (q := 1) rfl rfl rfl ?_
  refine gGetF X0 hx hZ (host := "") hown (Or.inl (hw _ (List.mem_of_getElem? (i := 17) rfl))) Via.refl e0 F1 (hb hby d4_1) (q := 4) rfl (fun T1 X1 e1 => ?_)
  refine gIloadN X1 hx (hb hby d4_4) (q := 5) rfl rfl ?_
  refine gIaload X1 hx hZ e1 A1 (hb hby d4_5) (q := 6) rfl g1i g1v ?_
  refine gAloadN X1 hx (hb hby d4_6) (q := 7) rfl rfl rfl ?_
  refine gGetF X1 hx hZ (host := "") hown (Or.inl (hw _ (List.mem_of_getElem? (i := 19) rfl))) Via.refl e1 F2 (hb hby d4_7) (q := 10) rfl (fun T2 X2 e2 => ?_)
  refine gIloadN X2 hx (hb hby d4_10) (q := 11) rfl rfl ?_
  refine gIaload X2 hx hZ e2 A2 (hb hby d4_11) (q := 12) rfl g2i g2v ?_
  have J12_5 : ∀ v4 : Int32, v4 = (if y1 = y2 then (1 : Int32) else (0 : Int32)) → Go p.tables e below (Done s (Q_rmMir Z a k1 k2 i j kc kd ks ps y1 y2 h0 n0) (({ frames := 0, cells := 0, slots := 0, locals := 0 } : Room).cells) (({ frames := 0, cells := 0, slots := 0, locals := 0 } : Room).slots)) (T2.setTop (mkF m 20 #[.val (.ref a), .val (.int i), .val (.int j)] [(.int v4)])) := by
    intro v4 hv4
    exact gRetZ X2 hx hlk hret (hb hby d4_20) (by decide) (by decide) (by rw [hv4]; (repeat' split) <;> first | exact Or.inl rfl | exact Or.inr rfl) ⟨by rw [hv4], N0, e2⟩
  by_cases c3 : y1 = y2
  · refine gIcmpN X2 hx (hb hby d4_12) (q := 15) rfl (XT.ii_ne_f c3) ?_
    refine gIconst X2 hx (1 : Int32) (hb hby d4_15) (q := 16) rfl (by decide) ?_
    refine gGoto X2 hx (hb hby d4_16) (q := 20) (by decide) (by decide) ?_
    exact J12_5 _ (by first | rfl | (rw [if_pos c3]; done) | (simp only [if_pos c3]; done) | (simp only [if_pos c3]; done) | (simp only [if_pos c3, if_true, if_false]; done) | (exfalso; simp at c3; done))
  · refine gIcmpY X2 hx (hb hby d4_12) (q := 19) (by decide) (by decide) (XT.ii_ne_t c3) ?_
    refine gIconst X2 hx (0 : Int32) (hb hby d4_19) (q := 20) rfl (by decide) ?_
    exact J12_5 _ (by first | rfl | (rw [if_neg c3]; done) | (simp only [if_neg c3]; done) | (simp only [if_neg c3]; done) | (simp only [if_neg c3, if_true, if_false]; done) | (exfalso; simp at c3; done))

theorem pn1 : plainName "com/example/libpalin/libpalin/LoopArmsMirrorsPinLaw" = true := by first | (simp [plainName, overriddenIn]; done) | decide +kernel
theorem ef3 (m : MethodId) (x0 : Int32) (x1 : Int32) (x2 : Int32) (x3 : Int32) (x4 : Int32) : entryFrame m #[(.int x0), (.int x1), (.int x2), (.int x3), (.int x4)] maxLocals = mkF m 0 #[.val (.int x0), .val (.int x1), .val (.int x2), .val (.int x3), .val (.int x4), .unset, .unset, .unset, .unset, .unset, .unset, .unset, .unset] [] := by first | (simp [entryFrame, mkF, argsToLocals, Value.category, maxLocals]; done) | rfl
def Q_rm0 (Z : State) (x0 : Int32) (x1 : Int32) (x2 : Int32) (x3 : Int32) (x4 : Int32) (h0 : Heap) (n0 : Nat) (v : Option Value) (h : Heap) (L : List Loc) : Prop := v = some (.int 1) ∧ Fr n0 L
theorem pd1 : parseMethodDescriptor "([I[I)V" = some ⟨[.array (.int), .array (.int)], none⟩ := by decide +kernel
theorem pd2 : parseMethodDescriptor "(II)Z" = some ⟨[.int, .int], some (.boolean)⟩ := by decide +kernel
set_option maxRecDepth 65536 in
set_option maxHeartbeats 40000000 in
theorem own_law (x0 : Int32) (x1 : Int32) (x2 : Int32) (x3 : Int32) (x4 : Int32) (v2 : Int32) (hv2 : v2 = (if (x4 &&& (1 : Int32)) = (0 : Int32) then x2 else x0)) (v5 : Int32) (hv5 : v5 = (if (x4 &&& (2 : Int32)) = (0 : Int32) then x3 else x0)) (v8 : Int32) (hv8 : v8 = (if (x4 &&& (4 : Int32)) = (0 : Int32) then x1 else x0)) (v53 : Int32) (hv53 : v53 = (if x0 = v2 then (1 : Int32) else (0 : Int32))) (v56 : Int32) (hv56 : v56 = (if (if x0 = v2 then (1 : Int32) else (0 : Int32)) = v53 then (if (if x0 = v5 then (1 : Int32) else (0 : Int32)) = (if x0 = v5 then (1 : Int32) else (0 : Int32)) then (if (if v8 = v2 then (1 : Int32) else (0 : Int32)) = (if v8 = v2 then (1 : Int32) else (0 : Int32)) then (if (if v8 = v5 then (1 : Int32) else (0 : Int32)) = (if v8 = v5 then (1 : Int32) else (0 : Int32)) then (1 : Int32) else (0 : Int32)) else (0 : Int32)) else (0 : Int32)) else (0 : Int32))) (v83 : Int32) (hv83 : v83 = (if v56 = (0 : Int32) then (0 : Int32) else (if (if x0 = v8 then (1 : Int32) else (0 : Int32)) = (if x0 = v8 then (1 : Int32) else (0 : Int32)) then (if (if v8 = x0 then (1 : Int32) else (0 : Int32)) = (if x0 = v8 then (1 : Int32) else (0 : Int32)) then (if (if x0 = x0 then (1 : Int32) else (0 : Int32)) = (0 : Int32) then (0 : Int32) else (1 : Int32)) else (0 : Int32)) else (0 : Int32))))  : v83 = 1 := by
  have e1 : (if v8 = x0 then (1 : Int32) else (0 : Int32)) = (if x0 = v8 then (1 : Int32) else (0 : Int32)) := by
    by_cases h : x0 = v8
    · rw [if_pos h, if_pos h.symm]
    · rw [if_neg h, if_neg (fun z => h z.symm)]
  rw [hv83, e1]
  clear hv83 e1
  simp_all
set_option maxRecDepth 65536 in
set_option maxHeartbeats 40000000 in
theorem rm0 (l : Launch) (Z : State) (a0 : Array Value) (hw : ∀ d ∈ tables_1, d.before a0 Z = true) (ws : List Jvm.Cond) (x0 : Int32) (x1 : Int32) (x2 : Int32) (x3 : Int32) (x4 : Int32) (h0 : Heap) (n0 : Nat) (Z0 : n0 ≤ h0.size)  :
    Con l Z x code maxLocals ret ws room_1 #[(.int x0), (.int x1), (.int x2), (.int x3), (.int x4)] h0 (room_1.cells) (room_1.slots) (Q_rm0 Z x0 x1 x2 x3 x4 h0 n0) := by
  refine Con.of (plainFor_of_name pn1) ?_
  intro p e s m below meth c s₁ hx hby hml hown hnm hret hlk hZ X0 e0
  have N0 := Fr.nil n0
  refine goE (L := #[.val (.int x0), .val (.int x1), .val (.int x2), .val (.int x3), .val (.int x4), .unset, .unset, .unset, .unset, .unset, .unset, .unset, .unset]) (ef3 m x0 x1 x2 x3 x4) ?_
  refine gIload X0 hx (hb hby at_0) (q := 2) rfl rfl ?_
  refine gIconst X0 hx (1 : Int32) (hb hby at_2) (q := 3) rfl (by decide) ?_
  refine gIand X0 hx (hb hby at_3) (q := 4) rfl ?_
  have J4_3 : ∀ v2 : Int32, v2 = (if (x4 &&& (1 : Int32)) = (0 : Int32) then x2 else x0) → Go p.tables e below (Done s (Q_rm0 Z x0 x1 x2 x3 x4 h0 n0) (room_1.cells) (room_1.slots)) (s₁.setTop (mkF m 12 #[.val (.int x0), .val (.int x1), .val (.int x2), .val (.int x3), .val (.int x4), .unset, .unset, .unset, .unset, .unset, .unset, .unset, .unset] [(.int v2)])) := by
    intro v2 hv2
    refine gIstore X0 hx (hb hby at_12) (q := 14) rfl (L' := #[.val (.int x0), .val (.int x1), .val (.int x2), .val (.int x3), .val (.int x4), .val (.int v2), .unset, .unset, .unset, .unset, .unset, .unset, .unset]) rfl ?_
    refine gIload X0 hx (hb hby at_14) (q := 16) rfl rfl ?_
    refine gIconst X0 hx (2 : Int32) (hb hby at_16) (q := 17) rfl (by decide) ?_
    refine gIand X0 hx (hb hby at_17) (q := 18) rfl ?_
    have J18_6 : ∀ v5 : Int32, v5 = (if (x4 &&& (2 : Int32)) = (0 : Int32) then x3 else x0) → Go p.tables e below (Done s (Q_rm0 Z x0 x1 x2 x3 x4 h0 n0) (room_1.cells) (room_1.slots)) (s₁.setTop (mkF m 26 #[.val (.int x0), .val (.int x1), .val (.int x2), .val (.int x3), .val (.int x4), .val (.int v2), .unset, .unset, .unset, .unset, .unset, .unset, .unset] [(.int v5)])) := by
      intro v5 hv5
      refine gIstore X0 hx (hb hby at_26) (q := 28) rfl (L' := #[.val (.int x0), .val (.int x1), .val (.int x2), .val (.int x3), .val (.int x4), .val (.int v2), .val (.int v5), .unset, .unset, .unset, .unset, .unset, .unset]) rfl ?_
      refine gIload X0 hx (hb hby at_28) (q := 30) rfl rfl ?_
      refine gIconst X0 hx (4 : Int32) (hb hby at_30) (q := 31) rfl (by decide) ?_
      refine gIand X0 hx (hb hby at_31) (q := 32) rfl ?_
      have J32_9 : ∀ v8 : Int32, v8 = (if (x4 &&& (4 : Int32)) = (0 : Int32) then x1 else x0) → Go p.tables e below (Done s (Q_rm0 Z x0 x1 x2 x3 x4 h0 n0) (room_1.cells) (room_1.slots)) (s₁.setTop (mkF m 40 #[.val (.int x0), .val (.int x1), .val (.int x2), .val (.int x3), .val (.int x4), .val (.int v2), .val (.int v5), .unset, .unset, .unset, .unset, .unset, .unset] [(.int v8)])) := by
        intro v8 hv8
        refine gIstore X0 hx (hb hby at_40) (q := 42) rfl (L' := #[.val (.int x0), .val (.int x1), .val (.int x2), .val (.int x3), .val (.int x4), .val (.int v2), .val (.int v5), .val (.int v8), .unset, .unset, .unset, .unset, .unset]) rfl ?_
        refine gIconst X0 hx (2 : Int32) (hb hby at_42) (q := 43) rfl (by decide) ?_
        refine gNewP X0 hx hZ (hw _ (List.mem_of_getElem? (i := 0) rfl)) e0 (hb hby at_43) (q := 45) rfl (by decide) (cap := 2) (by decide) (by decide) (by decide) (by decide) (fun T10 h10 a10 k10 X10 e10 g10 E10 A10 => ?_)
        have le_a10 : n0 ≤ a10 := by rw [g10]; exact Z0
        have Z11 := Nat.le_trans Z0 E10.1
        have B10 : Ary Z h10 a10 k10 (.int) [(.int (0 : Int32)), (.int (0 : Int32))] := A10
        refine gDup X10 hx (hb hby at_45) (q := 46) rfl rfl ?_
        refine gIconst X10 hx (0 : Int32) (hb hby at_46) (q := 47) rfl (by decide) ?_
        refine gIloadN X10 hx (hb hby at_47) (q := 48) rfl rfl ?_
        refine gIastore X10 hx hZ e10 B10 (hb hby at_48) (q := 49) rfl (show ¬ (((0 : Int32) : Int32) < 0 ∨ 2 ≤ ((0 : Int32) : Int32).toNatClampNeg) by decide) (fun T12 h12 X12 e12 W12 A12 => ?_)
        have B12 : Ary Z h12 a10 k10 (.int) [(.int x0), (.int (0 : Int32))] := A12
        have N13 := Fr.snoc X12 N0 le_a10
        have Z15 : n0 ≤ h12.size := by rw [W12.size]; exact Z11
        refine gDup X12 hx (hb hby at_49) (q := 50) rfl rfl ?_
        refine gIconst X12 hx (1 : Int32) (hb hby at_50) (q := 51) rfl (by decide) ?_
        refine gIload X12 hx (hb hby at_51) (q := 53) rfl rfl ?_
        refine gIastore X12 hx hZ e12 B12 (hb hby at_53) (q := 54) rfl (show ¬ (((1 : Int32) : Int32) < 0 ∨ 2 ≤ ((1 : Int32) : Int32).toNatClampNeg) by decide) (fun T16 h16 X16 e16 W16 A16 => ?_)
        have B16 : Ary Z h16 a10 k10 (.int) [(.int x0), (.int v8)] := A16
        have N17 := Fr.snoc X16 N13 le_a10
        have Z19 : n0 ≤ h16.size := by rw [W16.size]; exact Z15
        refine gAstore X16 hx (hb hby at_54) (q := 56) rfl rfl (L' := #[.val (.int x0), .val (.int x1), .val (.int x2), .val (.int x3), .val (.int x4), .val (.int v2), .val (.int v5), .val (.int v8), .val (.ref a10), .unset, .unset, .unset, .unset]) rfl ?_
        refine gIconst X16 hx (2 : Int32) (hb hby at_56) (q := 57) rfl (by decide) ?_
        refine gNewP X16 hx hZ (hw _ (List.mem_of_getElem? (i := 0) rfl)) e16 (hb hby at_57) (q := 59) rfl (by decide) (cap := 2) (by decide) (by decide) (by decide) (by decide) (fun T20 h20 a20 k20 X20 e20 g20 E20 A20 => ?_)
        have A21 := Ary.ext E20 B16
        have le_a20 : n0 ≤ a20 := by rw [g20]; exact Z19
        have ne_a10_a20 : a10 ≠ a20 := by rw [g20]; exact Nat.ne_of_lt B16.lt
        have Z22 := Nat.le_trans Z19 E20.1
        have B20 : Ary Z h20 a20 k20 (.int) [(.int (0 : Int32)), (.int (0 : Int32))] := A20
        refine gDup X20 hx (hb hby at_59) (q := 60) rfl rfl ?_
        refine gIconst X20 hx (0 : Int32) (hb hby at_60) (q := 61) rfl (by decide) ?_
        refine gIload X20 hx (hb hby at_61) (q := 63) rfl rfl ?_
        refine gIastore X20 hx hZ e20 B20 (hb hby at_63) (q := 64) rfl (show ¬ (((0 : Int32) : Int32) < 0 ∨ 2 ≤ ((0 : Int32) : Int32).toNatClampNeg) by decide) (fun T23 h23 X23 e23 W23 A23 => ?_)
        have B23 : Ary Z h23 a20 k20 (.int) [(.int v2), (.int (0 : Int32))] := A23
        have N24 := Fr.snoc X23 N17 le_a20
        have A25 := Ary.other W23 A21 ne_a10_a20
        have Z27 : n0 ≤ h23.size := by rw [W23.size]; exact Z22
        refine gDup X23 hx (hb hby at_64) (q := 65) rfl rfl ?_
        refine gIconst X23 hx (1 : Int32) (hb hby at_65) (q := 66) rfl (by decide) ?_
        refine gIload X23 hx (hb hby at_66) (q := 68) rfl rfl ?_
        refine gIastore X23 hx hZ e23 B23 (hb hby at_68) (q := 69) rfl (show ¬ (((1 : Int32) : Int32) < 0 ∨ 2 ≤ ((1 : Int32) : Int32).toNatClampNeg) by decide) (fun T28 h28 X28 e28 W28 A28 => ?_)
        have B28 : Ary Z h28 a20 k20 (.int) [(.int v2), (.int v5)] := A28
        have N29 := Fr.snoc X28 N24 le_a20
        have A30 := Ary.other W28 A25 ne_a10_a20
        have Z32 : n0 ≤ h28.size := by rw [W28.size]; exact Z27
        refine gAstore X28 hx (hb hby at_69) (q := 71) rfl rfl (L' := #[.val (.int x0), .val (.int x1), .val (.int x2), .val (.int x3), .val (.int x4), .val (.int v2), .val (.int v5), .val (.int v8), .val (.ref a10), .val (.ref a20), .unset, .unset, .unset]) rfl ?_
        refine gNewO X28 hx hZ hown (hw _ (List.mem_of_getElem? (i := 1) rfl)) (hw _ (List.mem_of_getElem? (i := 2) rfl)) (hw _ (List.mem_of_getElem? (i := 3) rfl)) e28 (hb hby at_71) (q := 74) rfl (by decide) (by decide) (fun T33 h33 a33 X33 e33 g33 E33 A33 D33 => ?_)
        have A34 := Ary.ext E33 A30
        have A35 := Ary.ext E33 B28
        have le_a33 : n0 ≤ a33 := by rw [g33]; exact Z32
        have ne_a10_a33 : a10 ≠ a33 := by rw [g33]; exact Nat.ne_of_lt A30.lt
        have ne_a20_a33 : a20 ≠ a33 := by rw [g33]; exact Nat.ne_of_lt B28.lt
        have Z36 := Nat.le_trans Z32 E33.1
        have F37 : Fld Z h33 a33 "com/example/libpalin/libpalin/LoopArms" "keys" "[I" (.null) := D33 (Or.inr (hw _ (List.mem_of_getElem? (i := 18) rfl))) (ty := .array (.int)) (by decide)
        have F38 : Fld Z h33 a33 "com/example/libpalin/libpalin/LoopArms" "partnerKeys" "[I" (.null) := D33 (Or.inr (hw _ (List.mem_of_getElem? (i := 20) rfl))) (ty := .array (.int)) (by decide)
        have F39 : Fld Z h33 a33 "com/example/libpalin/libpalin/LoopArms" "units" "I" (.int (0 : Int32)) := D33 (Or.inr (hw _ (List.mem_of_getElem? (i := 22) rfl))) (ty := .int) (by decide)
        have F40 : Fld Z h33 a33 "com/example/libpalin/libpalin/LoopArms" "arms" "[I" (.null) := D33 (Or.inr (hw _ (List.mem_of_getElem? (i := 24) rfl))) (ty := .array (.int)) (by decide)
        have F41 : Fld Z h33 a33 "com/example/libpalin/libpalin/LoopArms" "readsPastHoles" "Ljava/util/function/IntToLongFunction;" (.null) := D33 (Or.inr (hw _ (List.mem_of_getElem? (i := 26) rfl))) (ty := .object "java/util/function/IntToLongFunction") (by decide)
        clear D33
        refine gDup X33 hx (hb hby at_74) (q := 75) rfl rfl ?_
        refine gAload X33 hx (hb hby at_75) (q := 77) rfl rfl rfl ?_
        refine gAload X33 hx (hb hby at_77) (q := 79) rfl rfl rfl ?_
        refine gCallN X33 hx hZ rfl hown (hw _ (List.mem_of_getElem? (i := 4) rfl)) (hw _ (List.mem_of_getElem? (i := 5) rfl)) (hw _ (List.mem_of_getElem? (i := 3) rfl)) (hw _ (List.mem_of_getElem? (i := 6) rfl)) (by decide) (rmL1 l Z a0 hw [] a33 a10 a20 k10 x0 v8 h33 n0 Z36 F37 F38 F39 F40 F41 A33 le_a33 A34 ne_a10_a33) (W := 1) (by decide) (by decide) e33 (by rw [hml]; rfl) [(.ref a10), (.ref a20)] (lenOf pd1 rfl) rfl (S := [(.ref a33)]) rfl (Nat.le_of_eq rfl) (hb hby at_79) (q := 82) rfl (by decide) (by decide) (fun r42 T42 M42 X42 q42 => ?_)
        obtain ⟨rfl, M42n, K42, P42e, P42k, P42p⟩ := q42
        have N43 := Fr.app N29 M42n
        have A44 := Ary.keep A34 K42 (ninS ne_a10_a33 nin0)
        have A45 := Ary.keep A35 K42 (ninS ne_a20_a33 nin0)
        have Z49 := Nat.le_trans Z36 K42.1
        dsimp only [Option.toList, List.cons_append, List.nil_append]
        refine gAstore X42 hx (hb hby at_82) (q := 84) rfl rfl (L' := #[.val (.int x0), .val (.int x1), .val (.int x2), .val (.int x3), .val (.int x4), .val (.int v2), .val (.int v5), .val (.int v8), .val (.ref a10), .val (.ref a20), .val (.ref a33), .unset, .unset]) rfl ?_
        refine gAload X42 hx (hb hby at_84) (q := 86) rfl rfl rfl ?_
        refine gIconst X42 hx (0 : Int32) (hb hby at_86) (q := 87) rfl (by decide) ?_
        refine gIconst X42 hx (0 : Int32) (hb hby at_87) (q := 88) rfl (by decide) ?_
        refine gCallV X42 hx hZ hown (hw _ (List.mem_of_getElem? (i := 27) rfl)) (hw _ (List.mem_of_getElem? (i := 28) rfl)) (hw _ (List.mem_of_getElem? (i := 30) rfl)) (hw _ (List.mem_of_getElem? (i := 29) rfl)) (hw _ (List.mem_of_getElem? (i := 3) rfl)) (hw _ (List.mem_of_getElem? (i := 31) rfl)) (notFace_of_selects (args := #[]) (mvT hZ (hw _ (List.mem_of_getElem? (i := 30) rfl)))) (by decide) (rmMir l Z a0 hw [] a33 a10 a20 (0 : Int32) (0 : Int32) k10 k20 [(.int x0), (.int v8)] [(.int v2), (.int v5)] x0 v2 T42.heap n0 Z49 P42k P42p A44 A45 (show ¬ (((0 : Int32) : Int32) < 0 ∨ 2 ≤ ((0 : Int32) : Int32).toNatClampNeg) by decide) rfl (show ¬ (((0 : Int32) : Int32) < 0 ∨ 2 ≤ ((0 : Int32) : Int32).toNatClampNeg) by decide) rfl) (W := 0) (by decide) (by decide) rfl (by rw [hml]; rfl) P42e [(.int (0 : Int32)), (.int (0 : Int32))] (lenOf pd2 rfl) rfl (S := []) rfl (Nat.le_of_eq rfl) (hb hby at_88) (q := 91) rfl (by decide) (by decide) (fun r50 T50 M50 X50 q50 => ?_)
        obtain ⟨rfl, M50n, e50⟩ := q50
        have N51 := Fr.app N43 M50n
        dsimp only [Option.toList, List.cons_append, List.nil_append]
        refine gIloadN X50 hx (hb hby at_91) (q := 92) rfl rfl ?_
        refine gIload X50 hx (hb hby at_92) (q := 94) rfl rfl ?_
        have J94_54 : ∀ v53 : Int32, v53 = (if x0 = v2 then (1 : Int32) else (0 : Int32)) → Go p.tables e below (Done s (Q_rm0 Z x0 x1 x2 x3 x4 h0 n0) (room_1.cells) (room_1.slots)) (T50.setTop (mkF m 102 #[.val (.int x0), .val (.int x1), .val (.int x2), .val (.int x3), .val (.int x4), .val (.int v2), .val (.int v5), .val (.int v8), .val (.ref a10), .val (.ref a20), .val (.ref a33), .unset, .unset] [(.int v53), (.int (if x0 = v2 then (1 : Int32) else (0 : Int32)))])) := by
          intro v53 hv53
          have J102_57 : ∀ (T58 : State) (L58 : List Loc), Stand p l e room_1 s m #[(.int x0), (.int x1), (.int x2), (.int x3), (.int x4)] below meth c T58 L58 5 16 → T58.heap = T42.heap → Fr n0 L58 → ∀ v56 : Int32, v56 = (if (if x0 = v2 then (1 : Int32) else (0 : Int32)) = v53 then (if (if x0 = v5 then (1 : Int32) else (0 : Int32)) = (if x0 = v5 then (1 : Int32) else (0 : Int32)) then (if (if v8 = v2 then (1 : Int32) else (0 : Int32)) = (if v8 = v2 then (1 : Int32) else (0 : Int32)) then (if (if v8 = v5 then (1 : Int32) else (0 : Int32)) = (if v8 = v5 then (1 : Int32) else (0 : Int32)) then (1 : Int32) else (0 : Int32)) else (0 : Int32)) else (0 : Int32)) else (0 : Int32)) → Go p.tables e below (Done s (Q_rm0 Z x0 x1 x2 x3 x4 h0 n0) (room_1.cells) (room_1.slots)) (T58.setTop (mkF m 175 #[.val (.int x0), .val (.int x1), .val (.int x2), .val (.int x3), .val (.int x4), .val (.int v2), .val (.int v5), .val (.int v8), .val (.ref a10), .val (.ref a20), .val (.ref a33), .unset, .unset] [(.int v56)])) := by
            intro T58 L58 X58 e58 N58 v56 hv56
            refine gIstore X58 hx (hb hby at_175) (q := 177) rfl (L' := #[.val (.int x0), .val (.int x1), .val (.int x2), .val (.int x3), .val (.int x4), .val (.int v2), .val (.int v5), .val (.int v8), .val (.ref a10), .val (.ref a20), .val (.ref a33), .val (.int v56), .unset]) rfl ?_
            refine gNewO X58 hx hZ hown (hw _ (List.mem_of_getElem? (i := 1) rfl)) (hw _ (List.mem_of_getElem? (i := 2) rfl)) (hw _ (List.mem_of_getElem? (i := 3) rfl)) e58 (hb hby at_177) (q := 180) rfl (by decide) (by decide) (fun T59 h59 a59 X59 e59 g59 E59 A59 D59 => ?_)
            have A60 := Ary.ext E59 A44
            have A61 := Ary.ext E59 A45
            have E62 := Exa.ext E59 P42e
            have F63 := Fld.ext E59 P42k
            have F64 := Fld.ext E59 P42p
            have le_a59 : n0 ≤ a59 := by rw [g59]; exact Z49
            have ne_a10_a59 : a10 ≠ a59 := by rw [g59]; exact Nat.ne_of_lt A44.lt
            have ne_a20_a59 : a20 ≠ a59 := by rw [g59]; exact Nat.ne_of_lt A45.lt
            have ne_a33_a59 : a33 ≠ a59 := by rw [g59]; exact Nat.ne_of_lt P42e.lt
            have Z65 := Nat.le_trans Z49 E59.1
            have F66 : Fld Z h59 a59 "com/example/libpalin/libpalin/LoopArms" "keys" "[I" (.null) := D59 (Or.inr (hw _ (List.mem_of_getElem? (i := 18) rfl))) (ty := .array (.int)) (by decide)
            have F67 : Fld Z h59 a59 "com/example/libpalin/libpalin/LoopArms" "partnerKeys" "[I" (.null) := D59 (Or.inr (hw _ (List.mem_of_getElem? (i := 20) rfl))) (ty := .array (.int)) (by decide)
            have F68 : Fld Z h59 a59 "com/example/libpalin/libpalin/LoopArms" "units" "I" (.int (0 : Int32)) := D59 (Or.inr (hw _ (List.mem_of_getElem? (i := 22) rfl))) (ty := .int) (by decide)
            have F69 : Fld Z h59 a59 "com/example/libpalin/libpalin/LoopArms" "arms" "[I" (.null) := D59 (Or.inr (hw _ (List.mem_of_getElem? (i := 24) rfl))) (ty := .array (.int)) (by decide)
            have F70 : Fld Z h59 a59 "com/example/libpalin/libpalin/LoopArms" "readsPastHoles" "Ljava/util/function/IntToLongFunction;" (.null) := D59 (Or.inr (hw _ (List.mem_of_getElem? (i := 26) rfl))) (ty := .object "java/util/function/IntToLongFunction") (by decide)
            clear D59
            refine gDup X59 hx (hb hby at_180) (q := 181) rfl rfl ?_
            refine gAload X59 hx (hb hby at_181) (q := 183) rfl rfl rfl ?_
            refine gAload X59 hx (hb hby at_183) (q := 185) rfl rfl rfl ?_
            refine gCallN X59 hx hZ rfl hown (hw _ (List.mem_of_getElem? (i := 4) rfl)) (hw _ (List.mem_of_getElem? (i := 5) rfl)) (hw _ (List.mem_of_getElem? (i := 3) rfl)) (hw _ (List.mem_of_getElem? (i := 6) rfl)) (by decide) (rmL1 l Z a0 hw [] a59 a10 a10 k10 x0 v8 h59 n0 Z65 F66 F67 F68 F69 F70 A59 le_a59 A60 ne_a10_a59) (W := 1) (by decide) (by decide) e59 (by rw [hml]; rfl) [(.ref a10), (.ref a10)] (lenOf pd1 rfl) rfl (S := [(.ref a59)]) rfl (Nat.le_of_eq rfl) (hb hby at_185) (q := 188) rfl (by decide) (by decide) (fun r71 T71 M71 X71 q71 => ?_)
            obtain ⟨rfl, M71n, K71, P71e, P71k, P71p⟩ := q71
            have N72 := Fr.app N58 M71n
            have A73 := Ary.keep A60 K71 (ninS ne_a10_a59 nin0)
            have A74 := Ary.keep A61 K71 (ninS ne_a20_a59 nin0)
            have E75 := Exa.keep E62 K71
            have F76 := Fld.keep F63 K71 (ninS ne_a33_a59 nin0)
            have F77 := Fld.keep F64 K71 (ninS ne_a33_a59 nin0)
            have Z81 := Nat.le_trans Z65 K71.1
            dsimp only [Option.toList, List.cons_append, List.nil_append]
            refine gAstore X71 hx (hb hby at_188) (q := 190) rfl rfl (L' := #[.val (.int x0), .val (.int x1), .val (.int x2), .val (.int x3), .val (.int x4), .val (.int v2), .val (.int v5), .val (.int v8), .val (.ref a10), .val (.ref a20), .val (.ref a33), .val (.int v56), .val (.ref a59)]) rfl ?_
            refine gIload X71 hx (hb hby at_190) (q := 192) rfl rfl ?_
            have J192_84 : ∀ (T85 : State) (L85 : List Loc), Stand p l e room_1 s m #[(.int x0), (.int x1), (.int x2), (.int x3), (.int x4)] below meth c T85 L85 8 28 → T85.heap = T71.heap → Fr n0 L85 → ∀ v83 : Int32, v83 = (if v56 = (0 : Int32) then (0 : Int32) else (if (if x0 = v8 then (1 : Int32) else (0 : Int32)) = (if x0 = v8 then (1 : Int32) else (0 : Int32)) then (if (if v8 = x0 then (1 : Int32) else (0 : Int32)) = (if x0 = v8 then (1 : Int32) else (0 : Int32)) then (if (if x0 = x0 then (1 : Int32) else (0 : Int32)) = (0 : Int32) then (0 : Int32) else (1 : Int32)) else (0 : Int32)) else (0 : Int32))) → Go p.tables e below (Done s (Q_rm0 Z x0 x1 x2 x3 x4 h0 n0) (room_1.cells) (room_1.slots)) (T85.setTop (mkF m 252 #[.val (.int x0), .val (.int x1), .val (.int x2), .val (.int x3), .val (.int x4), .val (.int v2), .val (.int v5), .val (.int v8), .val (.ref a10), .val (.ref a20), .val (.ref a33), .val (.int v56), .val (.ref a59)] [(.int v83)])) := by
              intro T85 L85 X85 e85 N85 v83 hv83
              refine gIstore X85 hx (hb hby at_252) (q := 254) rfl (L' := #[.val (.int x0), .val (.int x1), .val (.int x2), .val (.int x3), .val (.int x4), .val (.int v2), .val (.int v5), .val (.int v8), .val (.ref a10), .val (.ref a20), .val (.ref a33), .val (.int v83), .val (.ref a59)]) rfl ?_
              refine gIload X85 hx (hb hby at_254) (q := 256) rfl rfl ?_
              have hone : v83 = 1 := own_law x0 x1 x2 x3 x4 v2 hv2 v5 hv5 v8 hv8 v53 hv53 v56 hv56 v83 hv83 
              exact gRetZ X85 hx hlk hret (hb hby at_256) (by decide) (by decide) (Or.inr hone) ⟨by rw [hone], N85⟩
            by_cases c82 : v56 = (0 : Int32)
            · refine gIfY X71 hx (hb hby at_192) (q := 251) (by decide) (by decide) (XT.i0_eq_t c82) ?_
              refine gIconst X71 hx (0 : Int32) (hb hby at_251) (q := 252) rfl (by decide) ?_
              exact J192_84 T71 _ X71 rfl N72 _ (by first | rfl | (rw [if_pos c82]; done) | (simp only [if_pos c82]; done) | (simp only [if_pos c82]; done) | (simp only [if_pos c82, if_true, if_false]; done) | (exfalso; simp at c82; done))
            · refine gIfN X71 hx (hb hby at_192) (q := 195) rfl (XT.i0_eq_f c82) ?_
              refine gAload X71 hx (hb hby at_195) (q := 197) rfl rfl rfl ?_
              refine gIconst X71 hx (0 : Int32) (hb hby at_197) (q := 198) rfl (by decide) ?_
              refine gIconst X71 hx (1 : Int32) (hb hby at_198) (q := 199) rfl (by decide) ?_
              refine gCallV X71 hx hZ hown (hw _ (List.mem_of_getElem? (i := 27) rfl)) (hw _ (List.mem_of_getElem? (i := 28) rfl)) (hw _ (List.mem_of_getElem? (i := 30) rfl)) (hw _ (List.mem_of_getElem? (i := 29) rfl)) (hw _ (List.mem_of_getElem? (i := 3) rfl)) (hw _ (List.mem_of_getElem? (i := 31) rfl)) (notFace_of_selects (args := #[]) (mvT hZ (hw _ (List.mem_of_getElem? (i := 30) rfl)))) (by decide) (rmMir l Z a0 hw [] a59 a10 a10 (0 : Int32) (1 : Int32) k10 k10 [(.int x0), (.int v8)] [(.int x0), (.int v8)] x0 v8 T71.heap n0 Z81 P71k P71p A73 A73 (show ¬ (((0 : Int32) : Int32) < 0 ∨ 2 ≤ ((0 : Int32) : Int32).toNatClampNeg) by decide) rfl (show ¬ (((1 : Int32) : Int32) < 0 ∨ 2 ≤ ((1 : Int32) : Int32).toNatClampNeg) by decide) rfl) (W := 0) (by decide) (by decide) rfl (by rw [hml]; rfl) P71e [(.int (0 : Int32)), (.int (1 : Int32))] (lenOf pd2 rfl) rfl (S := []) rfl (Nat.le_of_eq rfl) (hb hby at_199) (q := 202) rfl (by decide) (by decide) (fun r86 T86 M86 X86 q86 => ?_)
              obtain ⟨rfl, M86n, e86⟩ := q86
              have N87 := Fr.app N72 M86n
              dsimp only [Option.toList, List.cons_append, List.nil_append]
              refine gIloadN X86 hx (hb hby at_202) (q := 203) rfl rfl ?_
              refine gIload X86 hx (hb hby at_203) (q := 205) rfl rfl ?_
              have J205_90 : ∀ v89 : Int32, v89 = (if x0 = v8 then (1 : Int32) else (0 : Int32)) → Go p.tables e below (Done s (Q_rm0 Z x0 x1 x2 x3 x4 h0 n0) (room_1.cells) (room_1.slots)) (T86.setTop (mkF m 213 #[.val (.int x0), .val (.int x1), .val (.int x2), .val (.int x3), .val (.int x4), .val (.int v2), .val (.int v5), .val (.int v8), .val (.ref a10), .val (.ref a20), .val (.ref a33), .val (.int v56), .val (.ref a59)] [(.int v89), (.int (if x0 = v8 then (1 : Int32) else (0 : Int32)))])) := by
                intro v89 hv89
                by_cases c91 : (if x0 = v8 then (1 : Int32) else (0 : Int32)) = v89
                · refine gIcmpN X86 hx (hb hby at_213) (q := 216) rfl (XT.ii_ne_f c91) ?_
                  refine gAload X86 hx (hb hby at_216) (q := 218) rfl rfl rfl ?_
                  refine gIconst X86 hx (1 : Int32) (hb hby at_218) (q := 219) rfl (by decide) ?_
                  refine gIconst X86 hx (0 : Int32) (hb hby at_219) (q := 220) rfl (by decide) ?_
                  refine gCallV X86 hx hZ hown (hw _ (List.mem_of_getElem? (i := 27) rfl)) (hw _ (List.mem_of_getElem? (i := 28) rfl)) (hw _ (List.mem_of_getElem? (i := 30) rfl)) (hw _ (List.mem_of_getElem? (i := 29) rfl)) (hw _ (List.mem_of_getElem? (i := 3) rfl)) (hw _ (List.mem_of_getElem? (i := 31) rfl)) (notFace_of_selects (args := #[]) (mvT hZ (hw _ (List.mem_of_getElem? (i := 30) rfl)))) (by decide) (rmMir l Z a0 hw [] a59 a10 a10 (1 : Int32) (0 : Int32) k10 k10 [(.int x0), (.int v8)] [(.int x0), (.int v8)] v8 x0 T71.heap n0 Z81 P71k P71p A73 A73 (show ¬ (((1 : Int32) : Int32) < 0 ∨ 2 ≤ ((1 : Int32) : Int32).toNatClampNeg) by decide) rfl (show ¬ (((0 : Int32) : Int32) < 0 ∨ 2 ≤ ((0 : Int32) : Int32).toNatClampNeg) by decide) rfl) (W := 0) (by decide) (by decide) e86 (by rw [hml]; rfl) P71e [(.int (1 : Int32)), (.int (0 : Int32))] (lenOf pd2 rfl) rfl (S := []) rfl (Nat.le_of_eq rfl) (hb hby at_220) (q := 223) rfl (by decide) (by decide) (fun r92 T92 M92 X92 q92 => ?_)
                  obtain ⟨rfl, M92n, e92⟩ := q92
                  have N93 := Fr.app N87 M92n
                  dsimp only [Option.toList, List.cons_append, List.nil_append]
                  refine gIloadN X92 hx (hb hby at_223) (q := 224) rfl rfl ?_
                  refine gIload X92 hx (hb hby at_224) (q := 226) rfl rfl ?_
                  have J226_96 : ∀ v95 : Int32, v95 = (if x0 = v8 then (1 : Int32) else (0 : Int32)) → Go p.tables e below (Done s (Q_rm0 Z x0 x1 x2 x3 x4 h0 n0) (room_1.cells) (room_1.slots)) (T92.setTop (mkF m 234 #[.val (.int x0), .val (.int x1), .val (.int x2), .val (.int x3), .val (.int x4), .val (.int v2), .val (.int v5), .val (.int v8), .val (.ref a10), .val (.ref a20), .val (.ref a33), .val (.int v56), .val (.ref a59)] [(.int v95), (.int (if v8 = x0 then (1 : Int32) else (0 : Int32)))])) := by
                    intro v95 hv95
                    by_cases c97 : (if v8 = x0 then (1 : Int32) else (0 : Int32)) = v95
                    · refine gIcmpN X92 hx (hb hby at_234) (q := 237) rfl (XT.ii_ne_f c97) ?_
                      refine gAload X92 hx (hb hby at_237) (q := 239) rfl rfl rfl ?_
                      refine gIconst X92 hx (0 : Int32) (hb hby at_239) (q := 240) rfl (by decide) ?_
                      refine gIconst X92 hx (0 : Int32) (hb hby at_240) (q := 241) rfl (by decide) ?_
                      refine gCallV X92 hx hZ hown (hw _ (List.mem_of_getElem? (i := 27) rfl)) (hw _ (List.mem_of_getElem? (i := 28) rfl)) (hw _ (List.mem_of_getElem? (i := 30) rfl)) (hw _ (List.mem_of_getElem? (i := 29) rfl)) (hw _ (List.mem_of_getElem? (i := 3) rfl)) (hw _ (List.mem_of_getElem? (i := 31) rfl)) (notFace_of_selects (args := #[]) (mvT hZ (hw _ (List.mem_of_getElem? (i := 30) rfl)))) (by decide) (rmMir l Z a0 hw [] a59 a10 a10 (0 : Int32) (0 : Int32) k10 k10 [(.int x0), (.int v8)] [(.int x0), (.int v8)] x0 x0 T71.heap n0 Z81 P71k P71p A73 A73 (show ¬ (((0 : Int32) : Int32) < 0 ∨ 2 ≤ ((0 : Int32) : Int32).toNatClampNeg) by decide) rfl (show ¬ (((0 : Int32) : Int32) < 0 ∨ 2 ≤ ((0 : Int32) : Int32).toNatClampNeg) by decide) rfl) (W := 0) (by decide) (by decide) e92 (by rw [hml]; rfl) P71e [(.int (0 : Int32)), (.int (0 : Int32))] (lenOf pd2 rfl) rfl (S := []) rfl (Nat.le_of_eq rfl) (hb hby at_241) (q := 244) rfl (by decide) (by decide) (fun r98 T98 M98 X98 q98 => ?_)
                      obtain ⟨rfl, M98n, e98⟩ := q98
                      have N99 := Fr.app N93 M98n
                      dsimp only [Option.toList, List.cons_append, List.nil_append]
                      by_cases c100 : (if x0 = x0 then (1 : Int32) else (0 : Int32)) = (0 : Int32)
                      · refine gIfY X98 hx (hb hby at_244) (q := 251) (by decide) (by decide) (XT.i0_eq_t c100) ?_
                        refine gIconst X98 hx (0 : Int32) (hb hby at_251) (q := 252) rfl (by decide) ?_
                        exact J192_84 T98 _ X98 e98 N99 _ (by first | rfl | (subst hv89 hv95; rw [if_neg c82, if_pos c91, if_pos c97, if_pos c100]; done) | (simp only [if_neg c82, if_pos c91, if_pos c97, if_pos c100, hv89, hv95]; done) | (simp only [if_neg c82, if_pos c91, if_pos c97, if_pos c100, ← hv89, ← hv95]; done) | (simp only [if_neg c82, if_pos c91, if_pos c97, if_pos c100, hv89, hv95, if_true, if_false]; done) | (exfalso; simp at c100; done))
                      · refine gIfN X98 hx (hb hby at_244) (q := 247) rfl (XT.i0_eq_f c100) ?_
                        refine gIconst X98 hx (1 : Int32) (hb hby at_247) (q := 248) rfl (by decide) ?_
                        refine gGoto X98 hx (hb hby at_248) (q := 252) (by decide) (by decide) ?_
                        exact J192_84 T98 _ X98 e98 N99 _ (by first | rfl | (subst hv89 hv95; rw [if_neg c82, if_pos c91, if_pos c97, if_neg c100]; done) | (simp only [if_neg c82, if_pos c91, if_pos c97, if_neg c100, hv89, hv95]; done) | (simp only [if_neg c82, if_pos c91, if_pos c97, if_neg c100, ← hv89, ← hv95]; done) | (simp only [if_neg c82, if_pos c91, if_pos c97, if_neg c100, hv89, hv95, if_true, if_false]; done) | (exfalso; simp at c100; done))
                    · refine gIcmpY X92 hx (hb hby at_234) (q := 251) (by decide) (by decide) (XT.ii_ne_t c97) ?_
                      refine gIconst X92 hx (0 : Int32) (hb hby at_251) (q := 252) rfl (by decide) ?_
                      exact J192_84 T92 _ X92 e92 N93 _ (by first | rfl | (subst hv89 hv95; rw [if_neg c82, if_pos c91, if_neg c97]; done) | (simp only [if_neg c82, if_pos c91, if_neg c97, hv89, hv95]; done) | (simp only [if_neg c82, if_pos c91, if_neg c97, ← hv89, ← hv95]; done) | (simp only [if_neg c82, if_pos c91, if_neg c97, hv89, hv95, if_true, if_false]; done) | (exfalso; simp at c97; done))
                  by_cases c94 : x0 = v8
                  · refine gIcmpN X92 hx (hb hby at_226) (q := 229) rfl (XT.ii_ne_f c94) ?_
                    refine gIconst X92 hx (1 : Int32) (hb hby at_229) (q := 230) rfl (by decide) ?_
                    refine gGoto X92 hx (hb hby at_230) (q := 234) (by decide) (by decide) ?_
                    exact J226_96 _ (by first | rfl | (rw [if_pos c94]; done) | (simp only [if_neg c82, if_pos c91, if_pos c94]; done) | (simp only [if_neg c82, if_pos c91, if_pos c94]; done) | (simp only [if_neg c82, if_pos c91, if_pos c94, if_true, if_false]; done) | (exfalso; simp at c94; done))
                  · refine gIcmpY X92 hx (hb hby at_226) (q := 233) (by decide) (by decide) (XT.ii_ne_t c94) ?_
                    refine gIconst X92 hx (0 : Int32) (hb hby at_233) (q := 234) rfl (by decide) ?_
                    exact J226_96 _ (by first | rfl | (rw [if_neg c94]; done) | (simp only [if_neg c82, if_pos c91, if_neg c94]; done) | (simp only [if_neg c82, if_pos c91, if_neg c94]; done) | (simp only [if_neg c82, if_pos c91, if_neg c94, if_true, if_false]; done) | (exfalso; simp at c94; done))
                · refine gIcmpY X86 hx (hb hby at_213) (q := 251) (by decide) (by decide) (XT.ii_ne_t c91) ?_
                  refine gIconst X86 hx (0 : Int32) (hb hby at_251) (q := 252) rfl (by decide) ?_
                  exact J192_84 T86 _ X86 e86 N87 _ (by first | rfl | (subst hv89; rw [if_neg c82, if_neg c91]; done) | (simp only [if_neg c82, if_neg c91, hv89]; done) | (simp only [if_neg c82, if_neg c91, ← hv89]; done) | (simp only [if_neg c82, if_neg c91, hv89, if_true, if_false]; done) | (exfalso; simp at c91; done))
              by_cases c88 : x0 = v8
              · refine gIcmpN X86 hx (hb hby at_205) (q := 208) rfl (XT.ii_ne_f c88) ?_
                refine gIconst X86 hx (1 : Int32) (hb hby at_208) (q := 209) rfl (by decide) ?_
                refine gGoto X86 hx (hb hby at_209) (q := 213) (by decide) (by decide) ?_
                exact J205_90 _ (by first | rfl | (rw [if_pos c88]; done) | (simp only [if_neg c82, if_pos c88]; done) | (simp only [if_neg c82, if_pos c88]; done) | (simp only [if_neg c82, if_pos c88, if_true, if_false]; done) | (exfalso; simp at c88; done))
              · refine gIcmpY X86 hx (hb hby at_205) (q := 212) (by decide) (by decide) (XT.ii_ne_t c88) ?_
                refine gIconst X86 hx (0 : Int32) (hb hby at_212) (q := 213) rfl (by decide) ?_
                exact J205_90 _ (by first | rfl | (rw [if_neg c88]; done) | (simp only [if_neg c82, if_neg c88]; done) | (simp only [if_neg c82, if_neg c88]; done) | (simp only [if_neg c82, if_neg c88, if_true, if_false]; done) | (exfalso; simp at c88; done))
          by_cases c55 : (if x0 = v2 then (1 : Int32) else (0 : Int32)) = v53
          · refine gIcmpN X50 hx (hb hby at_102) (q := 105) rfl (XT.ii_ne_f c55) ?_
            refine gAload X50 hx (hb hby at_105) (q := 107) rfl rfl rfl ?_
            refine gIconst X50 hx (0 : Int32) (hb hby at_107) (q := 108) rfl (by decide) ?_
            refine gIconst X50 hx (1 : Int32) (hb hby at_108) (q := 109) rfl (by decide) ?_
            refine gCallV X50 hx hZ hown (hw _ (List.mem_of_getElem? (i := 27) rfl)) (hw _ (List.mem_of_getElem? (i := 28) rfl)) (hw _ (List.mem_of_getElem? (i := 30) rfl)) (hw _ (List.mem_of_getElem? (i := 29) rfl)) (hw _ (List.mem_of_getElem? (i := 3) rfl)) (hw _ (List.mem_of_getElem? (i := 31) rfl)) (notFace_of_selects (args := #[]) (mvT hZ (hw _ (List.mem_of_getElem? (i := 30) rfl)))) (by decide) (rmMir l Z a0 hw [] a33 a10 a20 (0 : Int32) (1 : Int32) k10 k20 [(.int x0), (.int v8)] [(.int v2), (.int v5)] x0 v5 T42.heap n0 Z49 P42k P42p A44 A45 (show ¬ (((0 : Int32) : Int32) < 0 ∨ 2 ≤ ((0 : Int32) : Int32).toNatClampNeg) by decide) rfl (show ¬ (((1 : Int32) : Int32) < 0 ∨ 2 ≤ ((1 : Int32) : Int32).toNatClampNeg) by decide) rfl) (W := 0) (by decide) (by decide) e50 (by rw [hml]; rfl) P42e [(.int (0 : Int32)), (.int (1 : Int32))] (lenOf pd2 rfl) rfl (S := []) rfl (Nat.le_of_eq rfl) (hb hby at_109) (q := 112) rfl (by decide) (by decide) (fun r101 T101 M101 X101 q101 => ?_)
            obtain ⟨rfl, M101n, e101⟩ := q101
            have N102 := Fr.app N51 M101n
            dsimp only [Option.toList, List.cons_append, List.nil_append]
            refine gIloadN X101 hx (hb hby at_112) (q := 113) rfl rfl ?_
            refine gIload X101 hx (hb hby at_113) (q := 115) rfl rfl ?_
            have J115_105 : ∀ v104 : Int32, v104 = (if x0 = v5 then (1 : Int32) else (0 : Int32)) → Go p.tables e below (Done s (Q_rm0 Z x0 x1 x2 x3 x4 h0 n0) (room_1.cells) (room_1.slots)) (T101.setTop (mkF m 123 #[.val (.int x0), .val (.int x1), .val (.int x2), .val (.int x3), .val (.int x4), .val (.int v2), .val (.int v5), .val (.int v8), .val (.ref a10), .val (.ref a20), .val (.ref a33), .unset, .unset] [(.int v104), (.int (if x0 = v5 then (1 : Int32) else (0 : Int32)))])) := by
              intro v104 hv104
              by_cases c106 : (if x0 = v5 then (1 : Int32) else (0 : Int32)) = v104
              · refine gIcmpN X101 hx (hb hby at_123) (q := 126) rfl (XT.ii_ne_f c106) ?_
                refine gAload X101 hx (hb hby at_126) (q := 128) rfl rfl rfl ?_
                refine gIconst X101 hx (1 : Int32) (hb hby at_128) (q := 129) rfl (by decide) ?_
                refine gIconst X101 hx (0 : Int32) (hb hby at_129) (q := 130) rfl (by decide) ?_
                refine gCallV X101 hx hZ hown (hw _ (List.mem_of_getElem? (i := 27) rfl)) (hw _ (List.mem_of_getElem? (i := 28) rfl)) (hw _ (List.mem_of_getElem? (i := 30) rfl)) (hw _ (List.mem_of_getElem? (i := 29) rfl)) (hw _ (List.mem_of_getElem? (i := 3) rfl)) (hw _ (List.mem_of_getElem? (i := 31) rfl)) (notFace_of_selects (args := #[]) (mvT hZ (hw _ (List.mem_of_getElem? (i := 30) rfl)))) (by decide) (rmMir l Z a0 hw [] a33 a10 a20 (1 : Int32) (0 : Int32) k10 k20 [(.int x0), (.int v8)] [(.int v2), (.int v5)] v8 v2 T42.heap n0 Z49 P42k P42p A44 A45 (show ¬ (((1 : Int32) : Int32) < 0 ∨ 2 ≤ ((1 : Int32) : Int32).toNatClampNeg) by decide) rfl (show ¬ (((0 : Int32) : Int32) < 0 ∨ 2 ≤ ((0 : Int32) : Int32).toNatClampNeg) by decide) rfl) (W := 0) (by decide) (by decide) e101 (by rw [hml]; rfl) P42e [(.int (1 : Int32)), (.int (0 : Int32))] (lenOf pd2 rfl) rfl (S := []) rfl (Nat.le_of_eq rfl) (hb hby at_130) (q := 133) rfl (by decide) (by decide) (fun r107 T107 M107 X107 q107 => ?_)
                obtain ⟨rfl, M107n, e107⟩ := q107
                have N108 := Fr.app N102 M107n
                dsimp only [Option.toList, List.cons_append, List.nil_append]
                refine gIload X107 hx (hb hby at_133) (q := 135) rfl rfl ?_
                refine gIload X107 hx (hb hby at_135) (q := 137) rfl rfl ?_
                have J137_111 : ∀ v110 : Int32, v110 = (if v8 = v2 then (1 : Int32) else (0 : Int32)) → Go p.tables e below (Done s (Q_rm0 Z x0 x1 x2 x3 x4 h0 n0) (room_1.cells) (room_1.slots)) (T107.setTop (mkF m 145 #[.val (.int x0), .val (.int x1), .val (.int x2), .val (.int x3), .val (.int x4), .val (.int v2), .val (.int v5), .val (.int v8), .val (.ref a10), .val (.ref a20), .val (.ref a33), .unset, .unset] [(.int v110), (.int (if v8 = v2 then (1 : Int32) else (0 : Int32)))])) := by
                  intro v110 hv110
                  by_cases c112 : (if v8 = v2 then (1 : Int32) else (0 : Int32)) = v110
                  · refine gIcmpN X107 hx (hb hby at_145) (q := 148) rfl (XT.ii_ne_f c112) ?_
                    refine gAload X107 hx (hb hby at_148) (q := 150) rfl rfl rfl ?_
                    refine gIconst X107 hx (1 : Int32) (hb hby at_150) (q := 151) rfl (by decide) ?_
                    refine gIconst X107 hx (1 : Int32) (hb hby at_151) (q := 152) rfl (by decide) ?_
                    refine gCallV X107 hx hZ hown (hw _ (List.mem_of_getElem? (i := 27) rfl)) (hw _ (List.mem_of_getElem? (i := 28) rfl)) (hw _ (List.mem_of_getElem? (i := 30) rfl)) (hw _ (List.mem_of_getElem? (i := 29) rfl)) (hw _ (List.mem_of_getElem? (i := 3) rfl)) (hw _ (List.mem_of_getElem? (i := 31) rfl)) (notFace_of_selects (args := #[]) (mvT hZ (hw _ (List.mem_of_getElem? (i := 30) rfl)))) (by decide) (rmMir l Z a0 hw [] a33 a10 a20 (1 : Int32) (1 : Int32) k10 k20 [(.int x0), (.int v8)] [(.int v2), (.int v5)] v8 v5 T42.heap n0 Z49 P42k P42p A44 A45 (show ¬ (((1 : Int32) : Int32) < 0 ∨ 2 ≤ ((1 : Int32) : Int32).toNatClampNeg) by decide) rfl (show ¬ (((1 : Int32) : Int32) < 0 ∨ 2 ≤ ((1 : Int32) : Int32).toNatClampNeg) by decide) rfl) (W := 0) (by decide) (by decide) e107 (by rw [hml]; rfl) P42e [(.int (1 : Int32)), (.int (1 : Int32))] (lenOf pd2 rfl) rfl (S := []) rfl (Nat.le_of_eq rfl) (hb hby at_152) (q := 155) rfl (by decide) (by decide) (fun r113 T113 M113 X113 q113 => ?_)
                    obtain ⟨rfl, M113n, e113⟩ := q113
                    have N114 := Fr.app N108 M113n
                    dsimp only [Option.toList, List.cons_append, List.nil_append]
                    refine gIload X113 hx (hb hby at_155) (q := 157) rfl rfl ?_
                    refine gIload X113 hx (hb hby at_157) (q := 159) rfl rfl ?_
                    have J159_117 : ∀ v116 : Int32, v116 = (if v8 = v5 then (1 : Int32) else (0 : Int32)) → Go p.tables e below (Done s (Q_rm0 Z x0 x1 x2 x3 x4 h0 n0) (room_1.cells) (room_1.slots)) (T113.setTop (mkF m 167 #[.val (.int x0), .val (.int x1), .val (.int x2), .val (.int x3), .val (.int x4), .val (.int v2), .val (.int v5), .val (.int v8), .val (.ref a10), .val (.ref a20), .val (.ref a33), .unset, .unset] [(.int v116), (.int (if v8 = v5 then (1 : Int32) else (0 : Int32)))])) := by
                      intro v116 hv116
                      by_cases c118 : (if v8 = v5 then (1 : Int32) else (0 : Int32)) = v116
                      · refine gIcmpN X113 hx (hb hby at_167) (q := 170) rfl (XT.ii_ne_f c118) ?_
                        refine gIconst X113 hx (1 : Int32) (hb hby at_170) (q := 171) rfl (by decide) ?_
                        refine gGoto X113 hx (hb hby at_171) (q := 175) (by decide) (by decide) ?_
                        exact J102_57 T113 _ X113 e113 N114 _ (by first | rfl | (subst hv104 hv110 hv116; rw [if_pos c55, if_pos c106, if_pos c112, if_pos c118]; done) | (simp only [if_pos c55, if_pos c106, if_pos c112, if_pos c118, hv104, hv110, hv116]; done) | (simp only [if_pos c55, if_pos c106, if_pos c112, if_pos c118, ← hv104, ← hv110, ← hv116]; done) | (simp only [if_pos c55, if_pos c106, if_pos c112, if_pos c118, hv104, hv110, hv116, if_true, if_false]; done) | (exfalso; simp at c118; done))
                      · refine gIcmpY X113 hx (hb hby at_167) (q := 174) (by decide) (by decide) (XT.ii_ne_t c118) ?_
                        refine gIconst X113 hx (0 : Int32) (hb hby at_174) (q := 175) rfl (by decide) ?_
                        exact J102_57 T113 _ X113 e113 N114 _ (by first | rfl | (subst hv104 hv110 hv116; rw [if_pos c55, if_pos c106, if_pos c112, if_neg c118]; done) | (simp only [if_pos c55, if_pos c106, if_pos c112, if_neg c118, hv104, hv110, hv116]; done) | (simp only [if_pos c55, if_pos c106, if_pos c112, if_neg c118, ← hv104, ← hv110, ← hv116]; done) | (simp only [if_pos c55, if_pos c106, if_pos c112, if_neg c118, hv104, hv110, hv116, if_true, if_false]; done) | (exfalso; simp at c118; done))
                    by_cases c115 : v8 = v5
                    · refine gIcmpN X113 hx (hb hby at_159) (q := 162) rfl (XT.ii_ne_f c115) ?_
                      refine gIconst X113 hx (1 : Int32) (hb hby at_162) (q := 163) rfl (by decide) ?_
                      refine gGoto X113 hx (hb hby at_163) (q := 167) (by decide) (by decide) ?_
                      exact J159_117 _ (by first | rfl | (rw [if_pos c115]; done) | (simp only [if_pos c55, if_pos c106, if_pos c112, if_pos c115]; done) | (simp only [if_pos c55, if_pos c106, if_pos c112, if_pos c115]; done) | (simp only [if_pos c55, if_pos c106, if_pos c112, if_pos c115, if_true, if_false]; done) | (exfalso; simp at c115; done))
                    · refine gIcmpY X113 hx (hb hby at_159) (q := 166) (by decide) (by decide) (XT.ii_ne_t c115) ?_
                      refine gIconst X113 hx (0 : Int32) (hb hby at_166) (q := 167) rfl (by decide) ?_
                      exact J159_117 _ (by first | rfl | (rw [if_neg c115]; done) | (simp only [if_pos c55, if_pos c106, if_pos c112, if_neg c115]; done) | (simp only [if_pos c55, if_pos c106, if_pos c112, if_neg c115]; done) | (simp only [if_pos c55, if_pos c106, if_pos c112, if_neg c115, if_true, if_false]; done) | (exfalso; simp at c115; done))
                  · refine gIcmpY X107 hx (hb hby at_145) (q := 174) (by decide) (by decide) (XT.ii_ne_t c112) ?_
                    refine gIconst X107 hx (0 : Int32) (hb hby at_174) (q := 175) rfl (by decide) ?_
                    exact J102_57 T107 _ X107 e107 N108 _ (by first | rfl | (subst hv104 hv110; rw [if_pos c55, if_pos c106, if_neg c112]; done) | (simp only [if_pos c55, if_pos c106, if_neg c112, hv104, hv110]; done) | (simp only [if_pos c55, if_pos c106, if_neg c112, ← hv104, ← hv110]; done) | (simp only [if_pos c55, if_pos c106, if_neg c112, hv104, hv110, if_true, if_false]; done) | (exfalso; simp at c112; done))
                by_cases c109 : v8 = v2
                · refine gIcmpN X107 hx (hb hby at_137) (q := 140) rfl (XT.ii_ne_f c109) ?_
                  refine gIconst X107 hx (1 : Int32) (hb hby at_140) (q := 141) rfl (by decide) ?_
                  refine gGoto X107 hx (hb hby at_141) (q := 145) (by decide) (by decide) ?_
                  exact J137_111 _ (by first | rfl | (rw [if_pos c109]; done) | (simp only [if_pos c55, if_pos c106, if_pos c109]; done) | (simp only [if_pos c55, if_pos c106, if_pos c109]; done) | (simp only [if_pos c55, if_pos c106, if_pos c109, if_true, if_false]; done) | (exfalso; simp at c109; done))
                · refine gIcmpY X107 hx (hb hby at_137) (q := 144) (by decide) (by decide) (XT.ii_ne_t c109) ?_
                  refine gIconst X107 hx (0 : Int32) (hb hby at_144) (q := 145) rfl (by decide) ?_
                  exact J137_111 _ (by first | rfl | (rw [if_neg c109]; done) | (simp only [if_pos c55, if_pos c106, if_neg c109]; done) | (simp only [if_pos c55, if_pos c106, if_neg c109]; done) | (simp only [if_pos c55, if_pos c106, if_neg c109, if_true, if_false]; done) | (exfalso; simp at c109; done))
              · refine gIcmpY X101 hx (hb hby at_123) (q := 174) (by decide) (by decide) (XT.ii_ne_t c106) ?_
                refine gIconst X101 hx (0 : Int32) (hb hby at_174) (q := 175) rfl (by decide) ?_
                exact J102_57 T101 _ X101 e101 N102 _ (by first | rfl | (subst hv104; rw [if_pos c55, if_neg c106]; done) | (simp only [if_pos c55, if_neg c106, hv104]; done) | (simp only [if_pos c55, if_neg c106, ← hv104]; done) | (simp only [if_pos c55, if_neg c106, hv104, if_true, if_false]; done) | (exfalso; simp at c106; done))
            by_cases c103 : x0 = v5
            · refine gIcmpN X101 hx (hb hby at_115) (q := 118) rfl (XT.ii_ne_f c103) ?_
              refine gIconst X101 hx (1 : Int32) (hb hby at_118) (q := 119) rfl (by decide) ?_
              refine gGoto X101 hx (hb hby at_119) (q := 123) (by decide) (by decide) ?_
              exact J115_105 _ (by first | rfl | (rw [if_pos c103]; done) | (simp only [if_pos c55, if_pos c103]; done) | (simp only [if_pos c55, if_pos c103]; done) | (simp only [if_pos c55, if_pos c103, if_true, if_false]; done) | (exfalso; simp at c103; done))
            · refine gIcmpY X101 hx (hb hby at_115) (q := 122) (by decide) (by decide) (XT.ii_ne_t c103) ?_
              refine gIconst X101 hx (0 : Int32) (hb hby at_122) (q := 123) rfl (by decide) ?_
              exact J115_105 _ (by first | rfl | (rw [if_neg c103]; done) | (simp only [if_pos c55, if_neg c103]; done) | (simp only [if_pos c55, if_neg c103]; done) | (simp only [if_pos c55, if_neg c103, if_true, if_false]; done) | (exfalso; simp at c103; done))
          · refine gIcmpY X50 hx (hb hby at_102) (q := 174) (by decide) (by decide) (XT.ii_ne_t c55) ?_
            refine gIconst X50 hx (0 : Int32) (hb hby at_174) (q := 175) rfl (by decide) ?_
            exact J102_57 T50 _ X50 e50 N51 _ (by first | rfl | (rw [if_neg c55]; done) | (simp only [if_neg c55]; done) | (simp only [if_neg c55]; done) | (simp only [if_neg c55, if_true, if_false]; done) | (exfalso; simp at c55; done))
        by_cases c52 : x0 = v2
        · refine gIcmpN X50 hx (hb hby at_94) (q := 97) rfl (XT.ii_ne_f c52) ?_
          refine gIconst X50 hx (1 : Int32) (hb hby at_97) (q := 98) rfl (by decide) ?_
          refine gGoto X50 hx (hb hby at_98) (q := 102) (by decide) (by decide) ?_
          exact J94_54 _ (by first | rfl | (rw [if_pos c52]; done) | (simp only [if_pos c52]; done) | (simp only [if_pos c52]; done) | (simp only [if_pos c52, if_true, if_false]; done) | (exfalso; simp at c52; done))
        · refine gIcmpY X50 hx (hb hby at_94) (q := 101) (by decide) (by decide) (XT.ii_ne_t c52) ?_
          refine gIconst X50 hx (0 : Int32) (hb hby at_101) (q := 102) rfl (by decide) ?_
          exact J94_54 _ (by first | rfl | (rw [if_neg c52]; done) | (simp only [if_neg c52]; done) | (simp only [if_neg c52]; done) | (simp only [if_neg c52, if_true, if_false]; done) | (exfalso; simp at c52; done))
      by_cases c7 : (x4 &&& (4 : Int32)) = (0 : Int32)
      · refine gIfY X0 hx (hb hby at_32) (q := 39) (by decide) (by decide) (XT.i0_eq_t c7) ?_
        refine gIloadN X0 hx (hb hby at_39) (q := 40) rfl rfl ?_
        exact J32_9 _ (by first | rfl | (rw [if_pos c7]; done) | (simp only [if_pos c7]; done) | (simp only [if_pos c7]; done) | (simp only [if_pos c7, if_true, if_false]; done) | (exfalso; simp at c7; done))
      · refine gIfN X0 hx (hb hby at_32) (q := 35) rfl (XT.i0_eq_f c7) ?_
        refine gIloadN X0 hx (hb hby at_35) (q := 36) rfl rfl ?_
        refine gGoto X0 hx (hb hby at_36) (q := 40) (by decide) (by decide) ?_
        exact J32_9 _ (by first | rfl | (rw [if_neg c7]; done) | (simp only [if_neg c7]; done) | (simp only [if_neg c7]; done) | (simp only [if_neg c7, if_true, if_false]; done) | (exfalso; simp at c7; done))
    by_cases c4 : (x4 &&& (2 : Int32)) = (0 : Int32)
    · refine gIfY X0 hx (hb hby at_18) (q := 25) (by decide) (by decide) (XT.i0_eq_t c4) ?_
      refine gIloadN X0 hx (hb hby at_25) (q := 26) rfl rfl ?_
      exact J18_6 _ (by first | rfl | (rw [if_pos c4]; done) | (simp only [if_pos c4]; done) | (simp only [if_pos c4]; done) | (simp only [if_pos c4, if_true, if_false]; done) | (exfalso; simp at c4; done))
    · refine gIfN X0 hx (hb hby at_18) (q := 21) rfl (XT.i0_eq_f c4) ?_
      refine gIloadN X0 hx (hb hby at_21) (q := 22) rfl rfl ?_
      refine gGoto X0 hx (hb hby at_22) (q := 26) (by decide) (by decide) ?_
      exact J18_6 _ (by first | rfl | (rw [if_neg c4]; done) | (simp only [if_neg c4]; done) | (simp only [if_neg c4]; done) | (simp only [if_neg c4, if_true, if_false]; done) | (exfalso; simp at c4; done))
  by_cases c1 : (x4 &&& (1 : Int32)) = (0 : Int32)
  · refine gIfY X0 hx (hb hby at_4) (q := 11) (by decide) (by decide) (XT.i0_eq_t c1) ?_
    refine gIloadN X0 hx (hb hby at_11) (q := 12) rfl rfl ?_
    exact J4_3 _ (by first | rfl | (rw [if_pos c1]; done) | (simp only [if_pos c1]; done) | (simp only [if_pos c1]; done) | (simp only [if_pos c1, if_true, if_false]; done) | (exfalso; simp at c1; done))
  · refine gIfN X0 hx (hb hby at_4) (q := 7) rfl (XT.i0_eq_f c1) ?_
    refine gIloadN X0 hx (hb hby at_7) (q := 8) rfl rfl ?_
    refine gGoto X0 hx (hb hby at_8) (q := 12) (by decide) (by decide) ?_
    exact J4_3 _ (by first | rfl | (rw [if_neg c1]; done) | (simp only [if_neg c1]; done) | (simp only [if_neg c1]; done) | (simp only [if_neg c1, if_true, if_false]; done) | (exfalso; simp at c1; done))
set_option maxRecDepth 65536 in
set_option maxHeartbeats 40000000 in
theorem comes_1 {Post : Tables → Env → Array Value → State → Outcome → State → Prop} (hpost : ∀ tb e args s v u, (limb_1_1.after args s (.returned v) u = true ∧ limb_1_2.after args s (.returned v) u = true ∧ True) → FrameEnd s (.returned v) u (Jvm.fieldLocs frame_1_writes args s ++ Jvm.arrayLocs frame_1_arrays args s ++ Jvm.staticLocs frame_1_statics s) 24 128 → Post tb e args s (.returned v) u) :
    ArmFor flags0 classFile x code maxLocals ret World_1 tables_1 room_1 Calls_1 rest_1 Pre_1 Post := by
  intro l hfl _ _ p e ha hc hk s m args below hf hA hF happ hP
  obtain ⟨hcalls, hrest, hpre⟩ := hP
  obtain ⟨-, -, -, hnamed, -, -, -, hat⟩ := (Spec.applies_iff hf).mp happ
  obtain ⟨hg, hn⟩ := and_e (Cond.before_iff.mp (show (Jvm.Cond.and given_1 narrow_1).before args s = true from hpre))
  obtain ⟨hcount, hg⟩ := and_e hg
  obtain ⟨hk0, hg⟩ := and_e hg
  obtain ⟨hk1, hg⟩ := and_e hg
  obtain ⟨hk2, hg⟩ := and_e hg
  obtain ⟨hk3, hg⟩ := and_e hg
  have hk4 := hg
  obtain ⟨w0, w1, w2, w3, w4, rfl⟩ : ∃ w0 w1 w2 w3 w4 : Value, args = #[w0, w1, w2, w3, w4] := by
    have hs : args.size = 5 := by simpa [Cond.value, given_1] using hcount
    obtain ⟨L⟩ := args
    match L, hs with
    | [w0, w1, w2, w3, w4], _ => exact ⟨w0, w1, w2, w3, w4, rfl⟩
  have hw := fun d (hd : d ∈ tables_1) => atoms_spec (ws := Jvm.Cond.code x code maxLocals ret :: tables_1) hat d (List.mem_cons_of_mem _ hd)
  have hfit : Fit s := fun {y c} hc i hi => by
    obtain ⟨ha, rfl⟩ := Array.getElem?_eq_some_iff.mp hc
    have q := List.all_eq_true.mp ((Array.all_eq_true_iff_forall_mem.mp hF) _ (Array.getElem_mem ha)) i (List.mem_range.mpr hi)
    simpa [Array.getElem?_eq_getElem hi] using q
  obtain ⟨i0, hi0⟩ := is_v hk0
  obtain rfl : w0 = (.int i0) := Option.some.inj hi0
  obtain ⟨i1, hi1⟩ := is_v hk1
  obtain rfl : w1 = (.int i1) := Option.some.inj hi1
  obtain ⟨i2, hi2⟩ := is_v hk2
  obtain rfl : w2 = (.int i2) := Option.some.inj hi2
  obtain ⟨i3, hi3⟩ := is_v hk3
  obtain rfl : w3 = (.int i3) := Option.some.inj hi3
  obtain ⟨i4, hi4⟩ := is_v hk4
  obtain rfl : w4 = (.int i4) := Option.some.inj hi4
  obtain ⟨n, o, h1, h2, h3, _, L, rfl, ⟨rfl, N⟩, hq⟩ := rm0 l s _ hw tables_1 i0 i1 i2 i3 i4  s.heap s.heap.size (Nat.le_refl _)  p e ha hc hk s m _ below hf ((Spec.applies_iff_loose hf).mp happ).1 ⟨rfl, State.Warmed39.refl s, rfl⟩ trivial
  refine ⟨n, _, h1, h2, h3, hpost _ _ _ _ _ _ ⟨Cond.after_iff.mpr rfl, Cond.after_iff.mpr (eq_i res_at (Term.int_eval (1)) rfl), trivial⟩ ⟨hq.1, hq.2.1, (hq.2.2.sift fun y hy => Or.inr (N y hy)).mono (by decide) (by decide)⟩⟩
theorem main_1_1 : Claimed_1_1 := comes_1 fun _ _ _ _ _ _ h hF => ⟨h.1, Jvm.RoadKit.wide hF⟩
theorem main_1_2 : Claimed_1_2 := comes_1 fun _ _ _ _ _ _ h hF => ⟨h.2.1, Jvm.RoadKit.wide hF⟩
end Jvm.Pilot.@@N@@
namespace Jvm.Pilot.@@N@@
open Jvm Jvm.ClassFile Sem Op Lib Jvm.Free Jvm.Stand Jvm.Pilot.@@N@@.Jvm.D
/-! MADE BY PROGRAM (witnessworld.py) out of the Statement's table words and the real class files: 11 classes; the members and pool entries that the words name. The judged class is class 1, her method 1. -/
namespace start1
open Jvm.ClassFile
def u (s : String) : CpInfo := .utf8 (stringToUtf16 s)
/-- a pool by its gaps: so many unusable entries, then the entry; so many at the end -/
def gap : Nat → List CpInfo → List CpInfo
  | 0, r => r
  | n + 1, r => .unusable :: gap n r
def poolList (es : List (Nat × CpInfo)) (last : Nat) : List CpInfo := es.foldr (fun e r => gap e.1 (e.2 :: r)) (gap last [])
def pool (es : List (Nat × CpInfo)) (last : Nat) : Array CpInfo := ⟨poolList es last⟩
def fileOf (pool : Array CpInfo) (this : Nat) (attrs : Array Attribute := #[]) (ms : Array MethodInfo := #[]) (fl : Nat := 33) (sup : Nat := 0) (ifs : Array Nat := #[]) (fds : Array FieldInfo := #[]) : ClassFile where
  minorVersion := 0
  majorVersion := 65
  constantPool := pool
  accessFlags := fl
  thisClass := this
  superClass := sup
  interfaces := ifs
  fields := fds
  methods := ms
  attributes := attrs
def plain (name : String) (sup : Option ClassId) : Class where
  name := name
  kind := .ordinary
  loader := none
  accessFlags := 33
  super := sup
  interfaces := #[]
  cf := none
  fields := #[]
  methods := #[]
  instanceTypes := #[]
  staticTypes := #[]
  resolved := #[]
  callSites := []
  init := .initialized
  statics := none
  mirror := none

def pool0 : Array CpInfo := pool [(5, u "<init>"), (0, u "()V"), (1, .class_ 10), (1, u "java/lang/Object")] 113

def k0c0 : Code := { maxStack := 0, maxLocals := 1, code := object_method_1_code, exceptionTable := #[], attributes := #[] }
def k0m0 : Method := { name := "<init>", desc := "()V", sig := { parameters := [], returnType := none }, accessFlags := 1, code := some k0c0 }
/-- java/lang/Object -/
def k0 : Class := { plain "java/lang/Object" none with
  accessFlags := 33
  interfaces := #[]
  cf := some (fileOf pool0 8 #[] #[{ accessFlags := 1, nameIndex := 5, descriptorIndex := 6, attributes := #[] }] 33 0 #[] #[])
  fields := #[]
  methods := #[k0m0]
  instanceTypes := #[]
  staticTypes := #[]
  resolved := Array.replicate 124 none
  statics := none }

def pool1 : Array CpInfo := pool [(2, .class_ 4), (1, u "java/lang/Object"), (0, u "<init>"), (0, u "()V"), (0, .class_ 8), (0, u "com/example/libpalin/libpalin/LoopArms"), (0, .methodref 7 10), (0, .nameAndType 5 11), (0, u "([I[I)V"), (0, .methodref 7 13), (0, .nameAndType 14 15), (0, u "mirrors"), (0, u "(II)Z"), (0, .class_ 17), (0, u "com/example/libpalin/libpalin/LoopArmsMirrorsPinLaw"), (2, u "law"), (0, u "(IIIII)Z")] 5

def k1m0 : Method := { name := "<init>", desc := "()V", sig := { parameters := [], returnType := none }, accessFlags := 1, code := none }
def k1c1 : Code := { maxStack := 4, maxLocals := 13, code := code, exceptionTable := #[], attributes := #[] }
def k1m1 : Method := { name := "law", desc := "(IIIII)Z", sig := { parameters := [.int, .int, .int, .int, .int], returnType := some .boolean }, accessFlags := 9, code := some k1c1 }
/-- com/example/libpalin/libpalin/LoopArmsMirrorsPinLaw -/
def k1 : Class := { plain "com/example/libpalin/libpalin/LoopArmsMirrorsPinLaw" (some 0) with
  accessFlags := 49
  interfaces := #[]
  cf := some (fileOf pool1 16 #[] #[{ accessFlags := 1, nameIndex := 5, descriptorIndex := 6, attributes := #[] }, { accessFlags := 9, nameIndex := 20, descriptorIndex := 21, attributes := #[] }] 49 2 #[] #[])
  fields := #[]
  methods := #[k1m0, k1m1]
  instanceTypes := #[]
  staticTypes := #[]
  resolved := Array.replicate 27 none
  statics := none }

def pool2 : Array CpInfo := pool [(1, .invokeDynamic 0 2), (0, .nameAndType 3 4), (0, u "applyAsLong"), (0, u "([I)Ljava/util/function/IntToLongFunction;"), (0, .methodref 6 7), (0, .class_ 8), (0, .nameAndType 9 10), (0, u "com/example/libpalin/libpalin/LoopArms"), (0, u "<init>"), (0, u "([I[ILjava/util/function/IntToLongFunction;)V"), (0, .methodref 12 13), (0, .class_ 14), (0, .nameAndType 9 15), (0, u "java/lang/Object"), (0, u "()V"), (0, .fieldref 6 17), (0, .nameAndType 18 19), (0, u "keys"), (0, u "[I"), (0, .fieldref 6 21), (0, .nameAndType 22 19), (0, u "partnerKeys"), (0, .fieldref 6 24), (0, .nameAndType 25 26), (0, u "units"), (0, u "I"), (0, .fieldref 6 28), (0, .nameAndType 29 19), (0, u "arms"), (0, .fieldref 6 31), (0, .nameAndType 32 33), (0, u "readsPastHoles"), (0, u "Ljava/util/function/IntToLongFunction;"), (20, u "reads"), (0, u "J"), (4, u "(I)J"), (2, u "readsPastHolesLeft"), (10, u "mirrors"), (0, u "(II)Z"), (11, u "extensions"), (0, u "Lcom/example/libpalin/libpalin/CommonExtensions;"), (11, u "([I[I)V"), (9, u "lambda$new$0"), (0, u "([II)J"), (3, .methodType 60), (0, .methodHandle 6 117), (0, .methodref 6 118), (0, .nameAndType 110 111), (0, .methodHandle 6 120), (0, .methodref 121 122), (0, .class_ 123), (0, .nameAndType 124 125), (0, u "java/lang/invoke/LambdaMetafactory"), (0, u "metafactory"), (0, u "(Ljava/lang/invoke/MethodHandles$Lookup;Ljava/lang/String;Ljava/lang/invoke/MethodType;Ljava/lang/invoke/MethodType;Ljava/lang/invoke/MethodHandle;Ljava/lang/invoke/MethodType;)Ljava/lang/invoke/CallSite;")] 6

def k2c0 : Code := { maxStack := 4, maxLocals := 3, code := prog_9_method_1_code, exceptionTable := #[], attributes := #[] }
def k2m0 : Method := { name := "<init>", desc := "([I[I)V", sig := { parameters := [(.array .int), (.array .int)], returnType := none }, accessFlags := 0, code := some k2c0 }
def k2c1 : Code := { maxStack := 3, maxLocals := 4, code := prog_9_method_2_code, exceptionTable := #[], attributes := #[] }
def k2m1 : Method := { name := "<init>", desc := "([I[ILjava/util/function/IntToLongFunction;)V", sig := { parameters := [(.array .int), (.array .int), (.object "java/util/function/IntToLongFunction")], returnType := none }, accessFlags := 0, code := some k2c1 }
def k2c2 : Code := { maxStack := 3, maxLocals := 3, code := prog_9_method_5_code, exceptionTable := #[], attributes := #[] }
def k2m2 : Method := { name := "mirrors", desc := "(II)Z", sig := { parameters := [.int, .int], returnType := some .boolean }, accessFlags := 0, code := some k2c2 }
def k2c3 : Code := { maxStack := 4, maxLocals := 2, code := ⟨#[0x1b, 0x85, 0x2a, 0xbe, 0x85, 0x69, 0xad]⟩, exceptionTable := #[], attributes := #[] }
def k2m3 : Method := { name := "lambda$new$0", desc := "([II)J", sig := { parameters := [(.array .int), .int], returnType := some .long }, accessFlags := 4106, code := some k2c3 }
/-- com/example/libpalin/libpalin/LoopArms -/
def k2 : Class := { plain "com/example/libpalin/libpalin/LoopArms" (some 0) with
  accessFlags := 48
  interfaces := #[]
  cf := some (fileOf pool2 6 #[.bootstrapMethods #[⟨119, #[115, 116, 115]⟩]] #[{ accessFlags := 0, nameIndex := 9, descriptorIndex := 100, attributes := #[] }, { accessFlags := 0, nameIndex := 9, descriptorIndex := 10, attributes := #[] }, { accessFlags := 0, nameIndex := 74, descriptorIndex := 75, attributes := #[] }, { accessFlags := 4106, nameIndex := 110, descriptorIndex := 111, attributes := #[] }] 48 12 #[] #[{ accessFlags := 18, nameIndex := 18, descriptorIndex := 19, attributes := #[] }, { accessFlags := 18, nameIndex := 22, descriptorIndex := 19, attributes := #[] }, { accessFlags := 18, nameIndex := 25, descriptorIndex := 26, attributes := #[] }, { accessFlags := 18, nameIndex := 29, descriptorIndex := 19, attributes := #[] }, { accessFlags := 18, nameIndex := 32, descriptorIndex := 33, attributes := #[] }, { accessFlags := 2, nameIndex := 54, descriptorIndex := 55, attributes := #[] }, { accessFlags := 2, nameIndex := 63, descriptorIndex := 55, attributes := #[] }, { accessFlags := 2, nameIndex := 87, descriptorIndex := 88, attributes := #[] }])
  fields := #[{ name := "keys", type := (.array .int), accessFlags := 18, slot := 0, constantValue := 0 }, { name := "partnerKeys", type := (.array .int), accessFlags := 18, slot := 1, constantValue := 0 }, { name := "units", type := .int, accessFlags := 18, slot := 2, constantValue := 0 }, { name := "arms", type := (.array .int), accessFlags := 18, slot := 3, constantValue := 0 }, { name := "readsPastHoles", type := (.object "java/util/function/IntToLongFunction"), accessFlags := 18, slot := 4, constantValue := 0 }, { name := "reads", type := .long, accessFlags := 2, slot := 5, constantValue := 0 }, { name := "readsPastHolesLeft", type := .long, accessFlags := 2, slot := 6, constantValue := 0 }, { name := "extensions", type := (.object "com/example/libpalin/libpalin/CommonExtensions"), accessFlags := 2, slot := 7, constantValue := 0 }]
  methods := #[k2m0, k2m1, k2m2, k2m3]
  instanceTypes := #[(.array .int), (.array .int), .int, (.array .int), (.object "java/util/function/IntToLongFunction"), .long, .long, (.object "com/example/libpalin/libpalin/CommonExtensions")]
  staticTypes := #[]
  resolved := Array.replicate 132 none
  callSites := [(0, 4, .makes 10)]
  statics := none }

def pool3 : Array CpInfo := pool [(1, .class_ 2), (0, u "java/util/function/IntToLongFunction"), (0, .class_ 4), (0, u "java/lang/Object"), (0, u "applyAsLong"), (0, u "(I)J")] 4

def k3m0 : Method := { name := "applyAsLong", desc := "(I)J", sig := { parameters := [.int], returnType := some .long }, accessFlags := 1025, code := none }
/-- java/util/function/IntToLongFunction -/
def k3 : Class := { plain "java/util/function/IntToLongFunction" (some 0) with
  accessFlags := 1537
  interfaces := #[]
  cf := some (fileOf pool3 1 #[] #[{ accessFlags := 1025, nameIndex := 5, descriptorIndex := 6, attributes := #[] }] 1537 3 #[] #[])
  fields := #[]
  methods := #[k3m0]
  instanceTypes := #[]
  staticTypes := #[]
  resolved := Array.replicate 11 none
  statics := none }

def pool4 : Array CpInfo := pool [(1, u "java/lang/Cloneable"), (0, .class_ 1), (0, u "java/lang/Object"), (0, .class_ 3)] 3

/-- java/lang/Cloneable -/
def k4 : Class := { plain "java/lang/Cloneable" (some 0) with
  accessFlags := 1537
  interfaces := #[]
  cf := some (fileOf pool4 2 #[] #[] 1537 4 #[] #[])
  fields := #[]
  methods := #[]
  instanceTypes := #[]
  staticTypes := #[]
  resolved := Array.replicate 8 none
  statics := none }

def pool5 : Array CpInfo := pool [(1, u "java/io/Serializable"), (0, .class_ 1), (0, u "java/lang/Object"), (0, .class_ 3)] 3

/-- java/io/Serializable -/
def k5 : Class := { plain "java/io/Serializable" (some 0) with
  accessFlags := 1537
  interfaces := #[]
  cf := some (fileOf pool5 2 #[] #[] 1537 4 #[] #[])
  fields := #[]
  methods := #[]
  instanceTypes := #[]
  staticTypes := #[]
  resolved := Array.replicate 8 none
  statics := none }

/-- the primitive byte -/
def k6 : Class := { plain "byte" none with kind := .primitive 'B', accessFlags := 0x411 }
/-- [B -/
def k7 : Class := { plain "[B" (some 0) with kind := .array 6 .byte, interfaces := #[4, 5], accessFlags := 1041 }

/-- the primitive int -/
def k8 : Class := { plain "int" none with kind := .primitive 'I', accessFlags := 0x411 }
/-- [I -/
def k9 : Class := { plain "[I" (some 0) with kind := .array 8 .int, interfaces := #[4, 5], accessFlags := 1041 }

def classes0 : Array Class := #[k0, k1, k2, k3, k4, k5, k6, k7, k8, k9]
/-- the class that the rule has made for the site at 4 of com/example/libpalin/libpalin/LoopArms.<init> -/
def k10 : Class := Jvm.LamKit.madeRec { classes := classes0 } "com/example/libpalin/libpalin/LoopArms" (Jvm.Lambda.Shape.mk "java/util/function/IntToLongFunction" "applyAsLong" (Jvm.ClassFile.MethodDescriptor.mk ([Jvm.ClassFile.FieldType.int] : List Jvm.ClassFile.FieldType) (Option.some Jvm.ClassFile.FieldType.long)) ([(Jvm.ClassFile.FieldType.array Jvm.ClassFile.FieldType.int)] : List Jvm.ClassFile.FieldType) (6 : Nat) "com/example/libpalin/libpalin/LoopArms" "lambda$new$0" (Jvm.ClassFile.MethodDescriptor.mk ([(Jvm.ClassFile.FieldType.array Jvm.ClassFile.FieldType.int), Jvm.ClassFile.FieldType.int] : List Jvm.ClassFile.FieldType) (Option.some Jvm.ClassFile.FieldType.long)) false (Jvm.ClassFile.MethodDescriptor.mk ([Jvm.ClassFile.FieldType.int] : List Jvm.ClassFile.FieldType) (Option.some Jvm.ClassFile.FieldType.long))) 10

def heap : Heap := #[]
def classes : Array Class := #[k0, k1, k2, k3, k4, k5, k6, k7, k8, k9, k10]
def interned : List (Array UInt16 × Addr) := []
def slotsUsed : Nat := 0
def theMethod : MethodId := ⟨1, 1⟩
def args0 : Array Value := #[.int 5, .int 3, .int 7, .int 2, .int 1]
def aboutOver (below : List Frame) : State where
  vm := { classes := classes, interned := interned.toArray }
  heap := heap
  slotsUsed := slotsUsed
  threads := #[{ frames := .invoking theMethod args0 :: below }]
def below0 : List Frame := [.native { method := ⟨0, 0⟩, args := #[] }]
def about1 : State := aboutOver below0
def p0 : Program := .bare "" "" ""
def e0 : Env := launch0.env 0 0 0
theorem w_frames : about1.frames = Frame.invoking theMethod args0 :: below0 := rfl
set_option maxRecDepth 65536 in
theorem w_args : argsFit about1.vm theMethod args0 = true := by decide +kernel
set_option maxRecDepth 65536 in
theorem w_heap : heapFits about1 = true := by decide +kernel
set_option maxRecDepth 65536 in
theorem w_runnable : about1.curStatus? = some .runnable := by decide +kernel
set_option maxRecDepth 65536 in
theorem w_alone : about1.alone = true := by decide +kernel
set_option maxRecDepth 65536 in
theorem w_named : about1.methodNamed? x = some theMethod := by decide +kernel
set_option maxRecDepth 65536 in
theorem w_hears : about1.hears theMethod below0 = true := by decide +kernel
set_option maxRecDepth 65536 in
theorem w_ripe : about1.ripe theMethod args0 below0 = true := by decide +kernel
theorem w_running : about1.status = .running := rfl
set_option maxRecDepth 65536 in
theorem w_room : about1.hasRoom e0.platform room_1 = true :=
  launch0.hasRoom_least _ room_1 (by decide +kernel) (by decide +kernel) (by decide +kernel) (by decide +kernel) (by decide +kernel) (by decide +kernel)
theorem allAtoms_all (ts : List Jvm.Cond) (a : Array Jvm.Value) (st : Jvm.State) : (allAtoms ts).before a st = ts.all (fun c => c.before a st) := by
  induction ts with
  | nil => rfl
  | cons c t ih =>
    show (Jvm.Cond.and c (allAtoms t)).before a st = _
    rw [Jvm.Cond.before_and, ih, List.all_cons]
def words1 : List Jvm.Cond := Jvm.Cond.code x code maxLocals ret :: tables_1
/-- a 'code' word, met by the world's own term for the bytes: nothing is compared byte by byte -/
theorem code_word {y : MethodName} {bytes : ByteArray} {mx : Nat} {rt : Option FieldType} {a : Array Value} {s : State} {m : MethodId} {meth : Method} {c : Code} (h1 : s.methodNamed? y = some m) (h2 : s.vm.method? m = some meth) (h3 : meth.code = some c) (h4 : c.code = bytes)
    (h5 : (c.maxLocals == mx && c.exceptionTable.isEmpty && decide (c.maxStack ≤ mostOperands) && decide (meth.sig.returnType = rt) && !meth.locks && decide (parseMethodDescriptor y.desc = some meth.sig)) = true) : (Jvm.Cond.code y bytes mx rt).before a s = true := by
  simp only [Bool.and_eq_true, beq_iff_eq, Bool.not_eq_true', decide_eq_true_eq] at h5
  obtain ⟨⟨⟨⟨⟨g1, g2⟩, g3⟩, g4⟩, g5⟩, g6⟩ := h5
  simp [Cond.before, Cond.holds, Cond.value, h1, h2, h3, h4, g1, g2, g3, g4, g5, g6]
def isCode : Jvm.Cond → Bool
  | .code _ _ _ _ => true
  | _ => false
theorem all_split {L : List Jvm.Cond} {P : Jvm.Cond → Bool} (h1 : L.all (fun c => isCode c || P c) = true) (h2 : ∀ c ∈ L.filter isCode, P c = true) : L.all P = true := by
  refine List.all_eq_true.mpr fun c hc => ?_
  have h := List.all_eq_true.mp h1 c hc
  rcases Bool.eq_false_or_eq_true (isCode c) with hi | hi
  · exact h2 c (List.mem_filter.mpr ⟨hc, hi⟩)
  · simpa [hi] using h
set_option maxRecDepth 65536 in
theorem w_c0 : (Jvm.Cond.code x code maxLocals ret).before args0 about1 = true := code_word (m := ⟨1, 1⟩) (meth := k1m1) (c := k1c1) (by decide +kernel) rfl rfl rfl (by decide +kernel)
set_option maxRecDepth 65536 in
theorem w_c1 : (Jvm.Cond.code ({ cls := "com/example/libpalin/libpalin/LoopArms", name := "<init>", desc := "([I[I)V" } : Jvm.MethodName) prog_9_method_1_code (3 : Nat) (Option.none : Option Jvm.ClassFile.FieldType)).before args0 about1 = true := code_word (m := ⟨2, 0⟩) (meth := k2m0) (c := k2c0) (by decide +kernel) rfl rfl rfl (by decide +kernel)
set_option maxRecDepth 65536 in
theorem w_c2 : (Jvm.Cond.code ({ cls := "com/example/libpalin/libpalin/LoopArms", name := "<init>", desc := "([I[ILjava/util/function/IntToLongFunction;)V" } : Jvm.MethodName) prog_9_method_2_code (4 : Nat) (Option.none : Option Jvm.ClassFile.FieldType)).before args0 about1 = true := code_word (m := ⟨2, 1⟩) (meth := k2m1) (c := k2c1) (by decide +kernel) rfl rfl rfl (by decide +kernel)
set_option maxRecDepth 65536 in
theorem w_c3 : (Jvm.Cond.code ({ cls := "java/lang/Object", name := "<init>", desc := "()V" } : Jvm.MethodName) object_method_1_code (1 : Nat) (Option.none : Option Jvm.ClassFile.FieldType)).before args0 about1 = true := code_word (m := ⟨0, 0⟩) (meth := k0m0) (c := k0c0) (by decide +kernel) rfl rfl rfl (by decide +kernel)
set_option maxRecDepth 65536 in
theorem w_c4 : (Jvm.Cond.code ({ cls := "com/example/libpalin/libpalin/LoopArms", name := "mirrors", desc := "(II)Z" } : Jvm.MethodName) prog_9_method_5_code (3 : Nat) (Option.some Jvm.ClassFile.FieldType.boolean)).before args0 about1 = true := code_word (m := ⟨2, 2⟩) (meth := k2m2) (c := k2c2) (by decide +kernel) rfl rfl rfl (by decide +kernel)
def codes1 : List Jvm.Cond := [Jvm.Cond.code x code maxLocals ret, Jvm.Cond.code ({ cls := "com/example/libpalin/libpalin/LoopArms", name := "<init>", desc := "([I[I)V" } : Jvm.MethodName) prog_9_method_1_code (3 : Nat) (Option.none : Option Jvm.ClassFile.FieldType), Jvm.Cond.code ({ cls := "com/example/libpalin/libpalin/LoopArms", name := "<init>", desc := "([I[ILjava/util/function/IntToLongFunction;)V" } : Jvm.MethodName) prog_9_method_2_code (4 : Nat) (Option.none : Option Jvm.ClassFile.FieldType), Jvm.Cond.code ({ cls := "java/lang/Object", name := "<init>", desc := "()V" } : Jvm.MethodName) object_method_1_code (1 : Nat) (Option.none : Option Jvm.ClassFile.FieldType), Jvm.Cond.code ({ cls := "com/example/libpalin/libpalin/LoopArms", name := "mirrors", desc := "(II)Z" } : Jvm.MethodName) prog_9_method_5_code (3 : Nat) (Option.some Jvm.ClassFile.FieldType.boolean)]
set_option maxRecDepth 65536 in
theorem codes_eq : words1.filter isCode = codes1 := rfl
theorem w_codes : ∀ c ∈ words1.filter isCode, c.before args0 about1 = true := by
  rw [codes_eq]
  intro c hc
  simp only [codes1, List.mem_cons, List.not_mem_nil, or_false] at hc
  rcases hc with rfl | rfl | rfl | rfl | rfl
  · exact w_c0
  · exact w_c1
  · exact w_c2
  · exact w_c3
  · exact w_c4
set_option maxRecDepth 65536 in
theorem w_t1 : (words1.take 24).all (fun c => isCode c || c.before args0 about1) = true := by decide +kernel
set_option maxRecDepth 65536 in
theorem w_t2 : (words1.drop 24).all (fun c => isCode c || c.before args0 about1) = true := by decide +kernel
theorem w_tables : (allAtoms (Jvm.Cond.code x code maxLocals ret :: tables_1)).before args0 about1 = true := by
  rw [allAtoms_all]
  show words1.all (fun c => c.before args0 about1) = true
  refine all_split ?_ w_codes
  rw [← List.take_append_drop 24 words1, List.all_append, w_t1, w_t2]
  rfl
set_option maxRecDepth 65536 in
theorem w_case : (Jvm.Cond.and given_1 narrow_1).before args0 about1 = true := by decide +kernel
theorem w_applies : (headSpec (Jvm.Cond.code x code maxLocals ret :: tables_1) room_1).applies x e0.platform about1 = true :=
  (Spec.applies_iff w_frames).mpr ⟨w_running, w_runnable, w_alone, w_named, w_hears, w_ripe, w_room, w_tables⟩
theorem atStart : AtStart classFile x code maxLocals ret World_1 tables_1 room_1 Calls_1 rest_1 Pre_1 launch0 p0 e0 about1 theMethod args0 below0 :=
  ⟨lists_1, trivial, launch0.admits_env _ _ _, launch0.least_env, fairChoices_fair.cas, fairChoices_fair.clock, w_frames, w_args, w_heap, w_applies, trivial, trivial, w_case⟩
end start1
theorem witness_1 : WitnessClaimed_1 := ⟨start1.p0, start1.e0, start1.about1, start1.theMethod, start1.args0, start1.below0, start1.atStart⟩
end Jvm.Pilot.@@N@@
