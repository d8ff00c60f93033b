import JvmDerived
import JvmDerived.Pilot.@@N@@Statement
import JvmDerived.Pilot.@@N@@Code
set_option linter.unusedVariables false
set_option linter.unusedSimpArgs false
namespace Jvm.OwnKit
open Sem ClassFile Op Lib Jvm.Stand Jvm.Free Jvm.LawKit Jvm.RoadKit
def Go (tb : Tables) (e : Env) (below : List Frame) (P : State → Outcome → Prop) (S : State) : Prop :=
  ∃ s₂ o, Steps tb e below S s₂ ∧ s₂.status = .running ∧ Ended s₂ below o ∧ P s₂ o
theorem go {tb : Tables} {e : Env} {below : List Frame} {P : State → Outcome → Prop} {S S' : State} (h : ∀ t, Steps tb e below S' t → Steps tb e below S t) (k : Go tb e below P S') : Go tb e below P S := by
  obtain ⟨s₂, o, h1, h2⟩ := k
  exact ⟨s₂, o, h _ h1, h2⟩
theorem goT {tb : Tables} {e : Env} {below : List Frame} {P : State → Outcome → Prop} {S S' : State} (h : Steps tb e below S S') (k : Go tb e below P S') : Go tb e below P S := go (fun _ q => h.trans q) k
def Done (s : State) (Q : Option Value → Heap → List Loc → Prop) (k n : Nat) (t : State) (o : Outcome) : Prop := ∃ v L, o = .returned v ∧ Q v t.heap L ∧ FrameEnd s o t L k n
/-- a body's contract: called with just these arguments, over this heap -/
def Con (l : Launch) (Z : State) (y : MethodName) (bytes : ByteArray) (maxL : Nat) (rt : Option FieldType) (ws : List Jvm.Cond) (rm : Room) (as' : Array Value) (h : Heap) (k n : Nat) (Q : Option Value → Heap → List Loc → Prop) : Prop :=
  MetFree l y (head1 (Jvm.Cond.code y bytes maxL rt :: ws) rm) (fun a U => a = as' ∧ Z.Warmed39 U.vm ∧ U.heap = h) (fun _ _ _ _ _ => True) (fun _ U o U' => ∃ v L, o = .returned v ∧ Q v U'.heap L ∧ FrameEnd U o U' L k n)
theorem Con.of {l : Launch} {Z : State} {y : MethodName} {bytes : ByteArray} {maxL : Nat} {rt : Option FieldType} {ws : List Jvm.Cond} {rm : Room} {as' : Array Value} {h : Heap} {k n : Nat} {Q : Option Value → Heap → List Loc → Prop} (hp : plainFor y = true)
    (body : ∀ (p : Program) (e : Env) (s : State) (m : MethodId) (below : List Frame) (meth : Method) (c : Code) (s₁ : State), p.tables.exec = Jvm.exec → c.code = bytes → c.maxLocals = maxL → s.vm.findClass y.cls = some m.cls → meth.name = y.name → meth.sig.returnType = rt → meth.locks = false → Z.Warmed39 s.vm →
      Stand p l e rm s m as' below meth c s₁ [] 0 0 → s₁.heap = h → Go p.tables e below (Done s Q k n) (s₁.setTop (entryFrame m as' maxL))) : Con l Z y bytes maxL rt ws rm as' h k n Q := by
  refine MetFree.of_bodySF hp hisR ?_
  intro p e s m args below meth c s₁ Bd hml0 hP hK
  obtain ⟨rfl, hZ, hh⟩ := hP
  exact body p e s m below meth c s₁ Bd.exec Bd.bytes hml0 (findClass_of_methodNamed Bd.named) (name_of_methodNamed Bd.named Bd.method).1 Bd.returns Bd.notSynchronized hZ (Stand.of_body Bd) (by rw [← hh, Bd.state]; rfl)
section Steps1
variable {p : Program} {l : Launch} {e : Env} {R : Room} {s : State} {m : MethodId} {args : Array Value} {below : List Frame} {meth : Method} {c : Code} {T : State} {locs : List Loc} {cells slots : Nat} {P : State → Outcome → Prop} {pc q : Nat} {L L' : Array Slot} {S : List Value}
theorem goE {args' : Array Value} {n : Nat} (hq : entryFrame m args' n = mkF m 0 L []) (K : Go p.tables e below P (T.setTop (mkF m 0 L []))) : Go p.tables e below P (T.setTop (entryFrame m args' n)) := go (fun _ k => castTop hq k) K
theorem gIloadN (X : Stand p l e R s m args below meth c T locs cells slots) (hx : p.tables.exec = Jvm.exec) {k : Fin 4} {v : Int32} (hd : decode c.code pc = .ok (.iload_n k, 1)) (hq : pc + 1 = q) (hl : L[k.val]? = some (.val (.int v))) (K : Go p.tables e below P (T.setTop (mkF m q L (.int v :: S)))) : Go p.tables e below P (T.setTop (mkF m pc L (S))) := by subst hq; exact go (fun t k => XS.iloadN X.here hx rfl hd hl k) K
theorem gIload (X : Stand p l e R s m args below meth c T locs cells slots) (hx : p.tables.exec = Jvm.exec) {k : Nat} {v : Int32} (hd : decode c.code pc = .ok (.iload k, 2)) (hq : pc + 2 = q) (hl : L[k]? = some (.val (.int v))) (K : Go p.tables e below P (T.setTop (mkF m q L (.int v :: S)))) : Go p.tables e below P (T.setTop (mkF m pc L (S))) := by subst hq; exact go (fun t k => XS.iload X.here hx rfl hd hl k) K
theorem gLloadN (X : Stand p l e R s m args below meth c T locs cells slots) (hx : p.tables.exec = Jvm.exec) {k : Fin 4} {v : Int64} (hd : decode c.code pc = .ok (.lload_n k, 1)) (hq : pc + 1 = q) (hl : L[k.val]? = some (.val (.long v))) (K : Go p.tables e below P (T.setTop (mkF m q L (.long v :: S)))) : Go p.tables e below P (T.setTop (mkF m pc L (S))) := by subst hq; exact go (fun t k => XT.lloadN X.here hx rfl hd hl k) K
theorem gLload (X : Stand p l e R s m args below meth c T locs cells slots) (hx : p.tables.exec = Jvm.exec) {k : Nat} {v : Int64} (hd : decode c.code pc = .ok (.lload k, 2)) (hq : pc + 2 = q) (hl : L[k]? = some (.val (.long v))) (K : Go p.tables e below P (T.setTop (mkF m q L (.long v :: S)))) : Go p.tables e below P (T.setTop (mkF m pc L (S))) := by subst hq; exact go (fun t k => XT.lload X.here hx rfl hd hl k) K
theorem gAloadN (X : Stand p l e R s m args below meth c T locs cells slots) (hx : p.tables.exec = Jvm.exec) {k : Fin 4} {v : Value} (hd : decode c.code pc = .ok (.aload_n k, 1)) (hq : pc + 1 = q) (hl : L[k.val]? = some (.val v)) (hv : v.isRef = true) (K : Go p.tables e below P (T.setTop (mkF m q L (v :: S)))) : Go p.tables e below P (T.setTop (mkF m pc L (S))) := by subst hq; exact go (fun t k => XS.aloadN X.here hx rfl hd hl hv k) K
theorem gAload (X : Stand p l e R s m args below meth c T locs cells slots) (hx : p.tables.exec = Jvm.exec) {k : Nat} {v : Value} (hd : decode c.code pc = .ok (.aload k, 2)) (hq : pc + 2 = q) (hl : L[k]? = some (.val v)) (hv : v.isRef = true) (K : Go p.tables e below P (T.setTop (mkF m q L (v :: S)))) : Go p.tables e below P (T.setTop (mkF m pc L (S))) := by subst hq; exact go (fun t k => XS.aload X.here hx rfl hd hl hv k) K
theorem gIconst (X : Stand p l e R s m args below meth c T locs cells slots) (hx : p.tables.exec = Jvm.exec) {i : Int} (v : Int32) (hd : decode c.code pc = .ok (.iconst i, 1)) (hq : pc + 1 = q) (hv : Int32.ofInt i = v) (K : Go p.tables e below P (T.setTop (mkF m q L (.int v :: S)))) : Go p.tables e below P (T.setTop (mkF m pc L (S))) := by subst hq; exact go (fun t k => XT.iconstV X.here hx rfl v hd hv k) K
theorem gBipush (X : Stand p l e R s m args below meth c T locs cells slots) (hx : p.tables.exec = Jvm.exec) {i : Int} (v : Int32) (hd : decode c.code pc = .ok (.bipush i, 2)) (hq : pc + 2 = q) (hv : (Int8.ofInt i).toInt32 = v) (K : Go p.tables e below P (T.setTop (mkF m q L (.int v :: S)))) : Go p.tables e below P (T.setTop (mkF m pc L (S))) := by subst hq; exact go (fun t k => XT.bipushV X.here hx rfl v hd hv k) K
theorem gSipush (X : Stand p l e R s m args below meth c T locs cells slots) (hx : p.tables.exec = Jvm.exec) {i : Int} (v : Int32) (hd : decode c.code pc = .ok (.sipush i, 3)) (hq : pc + 3 = q) (hv : (Int16.ofInt i).toInt32 = v) (K : Go p.tables e below P (T.setTop (mkF m q L (.int v :: S)))) : Go p.tables e below P (T.setTop (mkF m pc L (S))) := by subst hq; exact go (fun t k => XT.sipushV X.here hx rfl v hd hv k) K
theorem gLconst (X : Stand p l e R s m args below meth c T locs cells slots) (hx : p.tables.exec = Jvm.exec) {k : Fin 2} (v : Int64) (hd : decode c.code pc = .ok (.lconst k, 1)) (hq : pc + 1 = q) (hv : Int64.ofNat k = v) (K : Go p.tables e below P (T.setTop (mkF m q L (.long v :: S)))) : Go p.tables e below P (T.setTop (mkF m pc L (S))) := by subst hq; exact go (fun t k => XT.lconstV X.here hx rfl v hd hv k) K
theorem gNull (X : Stand p l e R s m args below meth c T locs cells slots) (hx : p.tables.exec = Jvm.exec)  (hd : decode c.code pc = .ok (.aconst_null, 1)) (hq : pc + 1 = q)  (K : Go p.tables e below P (T.setTop (mkF m q L (.null :: S)))) : Go p.tables e below P (T.setTop (mkF m pc L (S))) := by subst hq; exact go (fun t k => XS.aconstNull X.here hx rfl hd  k) K
theorem gLdc (X : Stand p l e R s m args below meth c T locs cells slots) (hx : p.tables.exec = Jvm.exec) {Z : State} {a0 : Array Value} (hZ : Z.Warmed39 s.vm) {own : String} {i : Nat} {v : Int32} (hown : s.vm.findClass own = some m.cls) (w : (Jvm.Cond.constant own i v).before a0 Z = true) (hd : decode c.code pc = .ok (.ldc i, 2)) (hq : pc + 2 = q) (K : Go p.tables e below P (T.setTop (mkF m q L (.int v :: S)))) : Go p.tables e below P (T.setTop (mkF m pc L (S))) := by subst hq; exact go (fun t k => Stand.ldcI X hx hown (mvT hZ w) rfl hd k) K
theorem gLdcW (X : Stand p l e R s m args below meth c T locs cells slots) (hx : p.tables.exec = Jvm.exec) {Z : State} {a0 : Array Value} (hZ : Z.Warmed39 s.vm) {own : String} {i : Nat} {v : Int32} (hown : s.vm.findClass own = some m.cls) (w : (Jvm.Cond.constant own i v).before a0 Z = true) (hd : decode c.code pc = .ok (.ldc_w i, 3)) (hq : pc + 3 = q) (K : Go p.tables e below P (T.setTop (mkF m q L (.int v :: S)))) : Go p.tables e below P (T.setTop (mkF m pc L (S))) := by subst hq; exact go (fun t k => Stand.ldcWI X hx hown (mvT hZ w) rfl hd k) K
theorem gLdc2 (X : Stand p l e R s m args below meth c T locs cells slots) (hx : p.tables.exec = Jvm.exec) {Z : State} {a0 : Array Value} (hZ : Z.Warmed39 s.vm) {own : String} {i : Nat} {v : Int64} (hown : s.vm.findClass own = some m.cls) (w : (Jvm.Cond.constantLong own i v).before a0 Z = true) (hd : decode c.code pc = .ok (.ldc2_w i, 3)) (hq : pc + 3 = q) (K : Go p.tables e below P (T.setTop (mkF m q L (.long v :: S)))) : Go p.tables e below P (T.setTop (mkF m pc L (S))) := by subst hq; exact go (fun t k => Stand.ldc2J X hx hown (mvT hZ w) rfl hd k) K
theorem gIadd (X : Stand p l e R s m args below meth c T locs cells slots) (hx : p.tables.exec = Jvm.exec) {x y : Int32} (hd : decode c.code pc = .ok (.iadd, 1)) (hq : pc + 1 = q)  (K : Go p.tables e below P (T.setTop (mkF m q L (.int (x + y) :: S)))) : Go p.tables e below P (T.setTop (mkF m pc L (.int y :: .int x :: S))) := by subst hq; exact go (fun t k => XS.iadd X.here hx rfl hd rfl  k) K
theorem gIsub (X : Stand p l e R s m args below meth c T locs cells slots) (hx : p.tables.exec = Jvm.exec) {x y : Int32} (hd : decode c.code pc = .ok (.isub, 1)) (hq : pc + 1 = q)  (K : Go p.tables e below P (T.setTop (mkF m q L (.int (x - y) :: S)))) : Go p.tables e below P (T.setTop (mkF m pc L (.int y :: .int x :: S))) := by subst hq; exact go (fun t k => XS.isub X.here hx rfl hd rfl  k) K
theorem gIand (X : Stand p l e R s m args below meth c T locs cells slots) (hx : p.tables.exec = Jvm.exec) {x y : Int32} (hd : decode c.code pc = .ok (.iand, 1)) (hq : pc + 1 = q)  (K : Go p.tables e below P (T.setTop (mkF m q L (.int (x &&& y) :: S)))) : Go p.tables e below P (T.setTop (mkF m pc L (.int y :: .int x :: S))) := by subst hq; exact go (fun t k => XS.iand X.here hx rfl hd rfl  k) K
theorem gImul (X : Stand p l e R s m args below meth c T locs cells slots) (hx : p.tables.exec = Jvm.exec) {x y : Int32} (hd : decode c.code pc = .ok (.imul, 1)) (hq : pc + 1 = q)  (K : Go p.tables e below P (T.setTop (mkF m q L (.int (x * y) :: S)))) : Go p.tables e below P (T.setTop (mkF m pc L (.int y :: .int x :: S))) := by subst hq; exact go (fun t k => XS.imul X.here hx rfl hd rfl  k) K
theorem gIxor (X : Stand p l e R s m args below meth c T locs cells slots) (hx : p.tables.exec = Jvm.exec) {x y : Int32} (hd : decode c.code pc = .ok (.ixor, 1)) (hq : pc + 1 = q)  (K : Go p.tables e below P (T.setTop (mkF m q L (.int (x ^^^ y) :: S)))) : Go p.tables e below P (T.setTop (mkF m pc L (.int y :: .int x :: S))) := by subst hq; exact go (fun t k => XT.ixor X.here hx rfl hd rfl  k) K
theorem gIor (X : Stand p l e R s m args below meth c T locs cells slots) (hx : p.tables.exec = Jvm.exec) {x y : Int32} (hd : decode c.code pc = .ok (.ior, 1)) (hq : pc + 1 = q)  (K : Go p.tables e below P (T.setTop (mkF m q L (.int (x ||| y) :: S)))) : Go p.tables e below P (T.setTop (mkF m pc L (.int y :: .int x :: S))) := by subst hq; exact go (fun t k => XT.ior X.here hx rfl hd rfl  k) K
theorem gIshl (X : Stand p l e R s m args below meth c T locs cells slots) (hx : p.tables.exec = Jvm.exec) {x y : Int32} (hd : decode c.code pc = .ok (.ishl, 1)) (hq : pc + 1 = q)  (K : Go p.tables e below P (T.setTop (mkF m q L (.int (x <<< (y &&& 31)) :: S)))) : Go p.tables e below P (T.setTop (mkF m pc L (.int y :: .int x :: S))) := by subst hq; exact go (fun t k => XT.ishl X.here hx rfl hd rfl  k) K
theorem gIshr (X : Stand p l e R s m args below meth c T locs cells slots) (hx : p.tables.exec = Jvm.exec) {x y : Int32} (hd : decode c.code pc = .ok (.ishr, 1)) (hq : pc + 1 = q)  (K : Go p.tables e below P (T.setTop (mkF m q L (.int (x >>> (y &&& 31)) :: S)))) : Go p.tables e below P (T.setTop (mkF m pc L (.int y :: .int x :: S))) := by subst hq; exact go (fun t k => XT.ishr X.here hx rfl hd rfl  k) K
theorem gIushr (X : Stand p l e R s m args below meth c T locs cells slots) (hx : p.tables.exec = Jvm.exec) {x y : Int32} (hd : decode c.code pc = .ok (.iushr, 1)) (hq : pc + 1 = q)  (K : Go p.tables e below P (T.setTop (mkF m q L (.int (XT.ushr x y) :: S)))) : Go p.tables e below P (T.setTop (mkF m pc L (.int y :: .int x :: S))) := by subst hq; exact go (fun t k => XT.iushr X.here hx rfl hd rfl  k) K
theorem gIdiv (X : Stand p l e R s m args below meth c T locs cells slots) (hx : p.tables.exec = Jvm.exec) {x y : Int32} (hd : decode c.code pc = .ok (.idiv, 1)) (hq : pc + 1 = q) (hy : y ≠ 0) (K : Go p.tables e below P (T.setTop (mkF m q L (.int (x / y) :: S)))) : Go p.tables e below P (T.setTop (mkF m pc L (.int y :: .int x :: S))) := by subst hq; exact go (fun t k => XS.idiv X.here hx rfl hd rfl hy k) K
theorem gIrem (X : Stand p l e R s m args below meth c T locs cells slots) (hx : p.tables.exec = Jvm.exec) {x y : Int32} (hd : decode c.code pc = .ok (.irem, 1)) (hq : pc + 1 = q) (hy : y ≠ 0) (K : Go p.tables e below P (T.setTop (mkF m q L (.int (x % y) :: S)))) : Go p.tables e below P (T.setTop (mkF m pc L (.int y :: .int x :: S))) := by subst hq; exact go (fun t k => iremM X hx rfl hd rfl hy k) K
theorem gIneg (X : Stand p l e R s m args below meth c T locs cells slots) (hx : p.tables.exec = Jvm.exec) {x : Int32} (hd : decode c.code pc = .ok (.ineg, 1)) (hq : pc + 1 = q)  (K : Go p.tables e below P (T.setTop (mkF m q L (.int (-x) :: S)))) : Go p.tables e below P (T.setTop (mkF m pc L (.int x :: S))) := by subst hq; exact go (fun t k => XS.ineg X.here hx rfl hd rfl  k) K
theorem gLadd (X : Stand p l e R s m args below meth c T locs cells slots) (hx : p.tables.exec = Jvm.exec) {x y : Int64} (hd : decode c.code pc = .ok (.ladd, 1)) (hq : pc + 1 = q)  (K : Go p.tables e below P (T.setTop (mkF m q L (.long (x + y) :: S)))) : Go p.tables e below P (T.setTop (mkF m pc L (.long y :: .long x :: S))) := by subst hq; exact go (fun t k => XT.ladd X.here hx rfl hd rfl  k) K
theorem gLsub (X : Stand p l e R s m args below meth c T locs cells slots) (hx : p.tables.exec = Jvm.exec) {x y : Int64} (hd : decode c.code pc = .ok (.lsub, 1)) (hq : pc + 1 = q)  (K : Go p.tables e below P (T.setTop (mkF m q L (.long (x - y) :: S)))) : Go p.tables e below P (T.setTop (mkF m pc L (.long y :: .long x :: S))) := by subst hq; exact go (fun t k => XT.lsub X.here hx rfl hd rfl  k) K
theorem gLmul (X : Stand p l e R s m args below meth c T locs cells slots) (hx : p.tables.exec = Jvm.exec) {x y : Int64} (hd : decode c.code pc = .ok (.lmul, 1)) (hq : pc + 1 = q)  (K : Go p.tables e below P (T.setTop (mkF m q L (.long (x * y) :: S)))) : Go p.tables e below P (T.setTop (mkF m pc L (.long y :: .long x :: S))) := by subst hq; exact go (fun t k => XT.lmul X.here hx rfl hd rfl  k) K
theorem gLand (X : Stand p l e R s m args below meth c T locs cells slots) (hx : p.tables.exec = Jvm.exec) {x y : Int64} (hd : decode c.code pc = .ok (.land, 1)) (hq : pc + 1 = q)  (K : Go p.tables e below P (T.setTop (mkF m q L (.long (x &&& y) :: S)))) : Go p.tables e below P (T.setTop (mkF m pc L (.long y :: .long x :: S))) := by subst hq; exact go (fun t k => XT.land X.here hx rfl hd rfl  k) K
theorem gLor (X : Stand p l e R s m args below meth c T locs cells slots) (hx : p.tables.exec = Jvm.exec) {x y : Int64} (hd : decode c.code pc = .ok (.lor, 1)) (hq : pc + 1 = q)  (K : Go p.tables e below P (T.setTop (mkF m q L (.long (x ||| y) :: S)))) : Go p.tables e below P (T.setTop (mkF m pc L (.long y :: .long x :: S))) := by subst hq; exact go (fun t k => XT.lor X.here hx rfl hd rfl  k) K
theorem gLxor (X : Stand p l e R s m args below meth c T locs cells slots) (hx : p.tables.exec = Jvm.exec) {x y : Int64} (hd : decode c.code pc = .ok (.lxor, 1)) (hq : pc + 1 = q)  (K : Go p.tables e below P (T.setTop (mkF m q L (.long (x ^^^ y) :: S)))) : Go p.tables e below P (T.setTop (mkF m pc L (.long y :: .long x :: S))) := by subst hq; exact go (fun t k => XT.lxor X.here hx rfl hd rfl  k) K
theorem gLcmp (X : Stand p l e R s m args below meth c T locs cells slots) (hx : p.tables.exec = Jvm.exec) {x y : Int64} (hd : decode c.code pc = .ok (.lcmp, 1)) (hq : pc + 1 = q)  (K : Go p.tables e below P (T.setTop (mkF m q L (.int (XT.cmpL x y) :: S)))) : Go p.tables e below P (T.setTop (mkF m pc L (.long y :: .long x :: S))) := by subst hq; exact go (fun t k => XT.lcmp X.here hx rfl hd rfl  k) K
theorem gLneg (X : Stand p l e R s m args below meth c T locs cells slots) (hx : p.tables.exec = Jvm.exec) {x : Int64} (hd : decode c.code pc = .ok (.lneg, 1)) (hq : pc + 1 = q)  (K : Go p.tables e below P (T.setTop (mkF m q L (.long (-x) :: S)))) : Go p.tables e below P (T.setTop (mkF m pc L (.long x :: S))) := by subst hq; exact go (fun t k => XT.lneg X.here hx rfl hd rfl  k) K
theorem gI2l (X : Stand p l e R s m args below meth c T locs cells slots) (hx : p.tables.exec = Jvm.exec) {x : Int32} (hd : decode c.code pc = .ok (.i2l, 1)) (hq : pc + 1 = q)  (K : Go p.tables e below P (T.setTop (mkF m q L (.long x.toInt64 :: S)))) : Go p.tables e below P (T.setTop (mkF m pc L (.int x :: S))) := by subst hq; exact go (fun t k => XT.i2l X.here hx rfl hd rfl  k) K
theorem gL2i (X : Stand p l e R s m args below meth c T locs cells slots) (hx : p.tables.exec = Jvm.exec) {x : Int64} (hd : decode c.code pc = .ok (.l2i, 1)) (hq : pc + 1 = q)  (K : Go p.tables e below P (T.setTop (mkF m q L (.int x.toInt32 :: S)))) : Go p.tables e below P (T.setTop (mkF m pc L (.long x :: S))) := by subst hq; exact go (fun t k => XT.l2i X.here hx rfl hd rfl  k) K
theorem gI2c (X : Stand p l e R s m args below meth c T locs cells slots) (hx : p.tables.exec = Jvm.exec) {x : Int32} (hd : decode c.code pc = .ok (.i2c, 1)) (hq : pc + 1 = q)  (K : Go p.tables e below P (T.setTop (mkF m q L (.int x.toUInt32.toUInt16.toUInt32.toInt32 :: S)))) : Go p.tables e below P (T.setTop (mkF m pc L (.int x :: S))) := by subst hq; exact go (fun t k => XT.i2c X.here hx rfl hd rfl  k) K
theorem gI2b (X : Stand p l e R s m args below meth c T locs cells slots) (hx : p.tables.exec = Jvm.exec) {x : Int32} (hd : decode c.code pc = .ok (.i2b, 1)) (hq : pc + 1 = q)  (K : Go p.tables e below P (T.setTop (mkF m q L (.int x.toInt8.toInt32 :: S)))) : Go p.tables e below P (T.setTop (mkF m pc L (.int x :: S))) := by subst hq; exact go (fun t k => XT.i2b X.here hx rfl hd rfl  k) K
theorem gLdiv (X : Stand p l e R s m args below meth c T locs cells slots) (hx : p.tables.exec = Jvm.exec) {x y : Int64} (hd : decode c.code pc = .ok (.ldiv, 1)) (hq : pc + 1 = q) (hy : y ≠ 0) (K : Go p.tables e below P (T.setTop (mkF m q L (.long (x / y) :: S)))) : Go p.tables e below P (T.setTop (mkF m pc L (.long y :: .long x :: S))) := by subst hq; exact go (fun t k => XT.ldiv X.here hx rfl hd rfl hy k) K
theorem gLshl (X : Stand p l e R s m args below meth c T locs cells slots) (hx : p.tables.exec = Jvm.exec) {x : Int64} {y : Int32} (hd : decode c.code pc = .ok (.lshl, 1)) (hq : pc + 1 = q)  (K : Go p.tables e below P (T.setTop (mkF m q L (.long (x <<< (y.toInt64 &&& 63)) :: S)))) : Go p.tables e below P (T.setTop (mkF m pc L (.int y :: .long x :: S))) := by subst hq; exact go (fun t k => XT.lshl X.here hx rfl hd rfl  k) K
theorem gLshr (X : Stand p l e R s m args below meth c T locs cells slots) (hx : p.tables.exec = Jvm.exec) {x : Int64} {y : Int32} (hd : decode c.code pc = .ok (.lshr, 1)) (hq : pc + 1 = q)  (K : Go p.tables e below P (T.setTop (mkF m q L (.long (x >>> (y.toInt64 &&& 63)) :: S)))) : Go p.tables e below P (T.setTop (mkF m pc L (.int y :: .long x :: S))) := by subst hq; exact go (fun t k => XT.lshr X.here hx rfl hd rfl  k) K
theorem gLushr (X : Stand p l e R s m args below meth c T locs cells slots) (hx : p.tables.exec = Jvm.exec) {x : Int64} {y : Int32} (hd : decode c.code pc = .ok (.lushr, 1)) (hq : pc + 1 = q)  (K : Go p.tables e below P (T.setTop (mkF m q L (.long (XT.ushrL x y) :: S)))) : Go p.tables e below P (T.setTop (mkF m pc L (.int y :: .long x :: S))) := by subst hq; exact go (fun t k => XT.lushr X.here hx rfl hd rfl  k) K
theorem gLrem (X : Stand p l e R s m args below meth c T locs cells slots) (hx : p.tables.exec = Jvm.exec) {x y : Int64} (hd : decode c.code pc = .ok (.lrem, 1)) (hq : pc + 1 = q) (hy : y ≠ 0) (K : Go p.tables e below P (T.setTop (mkF m q L (.long (x - (x / y) * y) :: S)))) : Go p.tables e below P (T.setTop (mkF m pc L (.long y :: .long x :: S))) := by subst hq; exact go (fun t k => XT.lrem X.here hx rfl hd rfl hy k) K
theorem gIstoreN (X : Stand p l e R s m args below meth c T locs cells slots) (hx : p.tables.exec = Jvm.exec) {k : Fin 4} {x : Int32} (hd : decode c.code pc = .ok (.istore_n k, 1)) (hq : pc + 1 = q) (hl : storeLocals L k.val (.int x) = some L') (K : Go p.tables e below P (T.setTop (mkF m q L' (S)))) : Go p.tables e below P (T.setTop (mkF m pc L (.int x :: S))) := by subst hq; exact go (fun t k => XS.istoreN X.here hx rfl hd rfl hl k) K
theorem gIstore (X : Stand p l e R s m args below meth c T locs cells slots) (hx : p.tables.exec = Jvm.exec) {k : Nat} {x : Int32} (hd : decode c.code pc = .ok (.istore k, 2)) (hq : pc + 2 = q) (hl : storeLocals L k (.int x) = some L') (K : Go p.tables e below P (T.setTop (mkF m q L' (S)))) : Go p.tables e below P (T.setTop (mkF m pc L (.int x :: S))) := by subst hq; exact go (fun t k => XS.istore X.here hx rfl hd rfl hl k) K
theorem gLstoreN (X : Stand p l e R s m args below meth c T locs cells slots) (hx : p.tables.exec = Jvm.exec) {k : Fin 4} {x : Int64} (hd : decode c.code pc = .ok (.lstore_n k, 1)) (hq : pc + 1 = q) (hl : storeLocals L k.val (.long x) = some L') (K : Go p.tables e below P (T.setTop (mkF m q L' (S)))) : Go p.tables e below P (T.setTop (mkF m pc L (.long x :: S))) := by subst hq; exact go (fun t k => XT.lstoreN X.here hx rfl hd rfl hl k) K
theorem gLstore (X : Stand p l e R s m args below meth c T locs cells slots) (hx : p.tables.exec = Jvm.exec) {k : Nat} {x : Int64} (hd : decode c.code pc = .ok (.lstore k, 2)) (hq : pc + 2 = q) (hl : storeLocals L k (.long x) = some L') (K : Go p.tables e below P (T.setTop (mkF m q L' (S)))) : Go p.tables e below P (T.setTop (mkF m pc L (.long x :: S))) := by subst hq; exact go (fun t k => XT.lstore X.here hx rfl hd rfl hl k) K
theorem gAstoreN (X : Stand p l e R s m args below meth c T locs cells slots) (hx : p.tables.exec = Jvm.exec) {k : Fin 4} {x : Value} (hd : decode c.code pc = .ok (.astore_n k, 1)) (hq : pc + 1 = q) (hv : x.isRef = true) (hl : storeLocals L k.val x = some L') (K : Go p.tables e below P (T.setTop (mkF m q L' (S)))) : Go p.tables e below P (T.setTop (mkF m pc L (x :: S))) := by subst hq; exact go (fun t k => XS.astoreN X.here hx rfl hd rfl hv hl k) K
theorem gAstore (X : Stand p l e R s m args below meth c T locs cells slots) (hx : p.tables.exec = Jvm.exec) {k : Nat} {x : Value} (hd : decode c.code pc = .ok (.astore k, 2)) (hq : pc + 2 = q) (hv : x.isRef = true) (hl : storeLocals L k x = some L') (K : Go p.tables e below P (T.setTop (mkF m q L' (S)))) : Go p.tables e below P (T.setTop (mkF m pc L (x :: S))) := by subst hq; exact go (fun t k => XS.astore X.here hx rfl hd rfl hv hl k) K
theorem gIinc (X : Stand p l e R s m args below meth c T locs cells slots) (hx : p.tables.exec = Jvm.exec) {k : Nat} {cst : Int} {x : Int32} (v : Int32) (hd : decode c.code pc = .ok (.iinc k cst, 3)) (hq : pc + 3 = q) (hv : Int32.ofInt cst = v) (hl : L[k]? = some (.val (.int x))) (hl' : storeLocals L k (.int (x + v)) = some L') (K : Go p.tables e below P (T.setTop (mkF m q L' (S)))) : Go p.tables e below P (T.setTop (mkF m pc L (S))) := by subst hq; exact go (fun t k => XT.iincV X.here hx rfl v hd hv hl hl' k) K
theorem gDup (X : Stand p l e R s m args below meth c T locs cells slots) (hx : p.tables.exec = Jvm.exec) {x : Value} (hd : decode c.code pc = .ok (.dup, 1)) (hq : pc + 1 = q) (hc : x.category = 1) (K : Go p.tables e below P (T.setTop (mkF m q L (x :: x :: S)))) : Go p.tables e below P (T.setTop (mkF m pc L (x :: S))) := by subst hq; exact go (fun t k => XS.dup X.here hx rfl hd rfl hc k) K
theorem gPop (X : Stand p l e R s m args below meth c T locs cells slots) (hx : p.tables.exec = Jvm.exec) {x : Value} (hd : decode c.code pc = .ok (.pop, 1)) (hq : pc + 1 = q) (hc : x.category = 1) (K : Go p.tables e below P (T.setTop (mkF m q L (S)))) : Go p.tables e below P (T.setTop (mkF m pc L (x :: S))) := by subst hq; exact go (fun t k => XT.pop X.here hx rfl hd rfl hc k) K
theorem gDupX1 (X : Stand p l e R s m args below meth c T locs cells slots) (hx : p.tables.exec = Jvm.exec) {x y : Value} (hd : decode c.code pc = .ok (.dup_x1, 1)) (hq : pc + 1 = q) (hc : x.category = 1) (hc' : y.category = 1) (K : Go p.tables e below P (T.setTop (mkF m q L (x :: y :: x :: S)))) : Go p.tables e below P (T.setTop (mkF m pc L (x :: y :: S))) := by subst hq; exact go (fun t k => XT.dupX1 X.here hx rfl hd rfl hc hc' k) K
theorem gDup2 (X : Stand p l e R s m args below meth c T locs cells slots) (hx : p.tables.exec = Jvm.exec) {x y : Value} (hd : decode c.code pc = .ok (.dup2, 1)) (hq : pc + 1 = q) (hc : x.category = 1) (hc' : y.category = 1) (K : Go p.tables e below P (T.setTop (mkF m q L (x :: y :: x :: y :: S)))) : Go p.tables e below P (T.setTop (mkF m pc L (x :: y :: S))) := by subst hq; exact go (fun t k => XT.dup2 X.here hx rfl hd rfl hc hc' k) K
theorem gDup2L (X : Stand p l e R s m args below meth c T locs cells slots) (hx : p.tables.exec = Jvm.exec) {x : Int64} (hd : decode c.code pc = .ok (.dup2, 1)) (hq : pc + 1 = q)  (K : Go p.tables e below P (T.setTop (mkF m q L (.long x :: .long x :: S)))) : Go p.tables e below P (T.setTop (mkF m pc L (.long x :: S))) := by subst hq; exact go (fun t k => XT.dup2L X.here hx rfl hd rfl  k) K
theorem gGoto (X : Stand p l e R s m args below meth c T locs cells slots) (hx : p.tables.exec = Jvm.exec) {o : Int} (hd : decode c.code pc = .ok (.goto o, 3)) (ho : 0 ≤ (pc : Int) + o) (hq : ((pc : Int) + o).toNat = q) (K : Go p.tables e below P (T.setTop (mkF m q L (S)))) : Go p.tables e below P (T.setTop (mkF m pc L (S))) := go (fun t k => XS.goto X.here hx rfl rfl hd ho hq k) K
theorem gIfY (X : Stand p l e R s m args below meth c T locs cells slots) (hx : p.tables.exec = Jvm.exec) {cd : ClassFile.Cond} {x : Int32} {o : Int} (hd : decode c.code pc = .ok (.ifCond cd o, 3)) (ho : 0 ≤ (pc : Int) + o) (hq : ((pc : Int) + o).toNat = q) (hc : ifCond.holds cd x = true) (K : Go p.tables e below P (T.setTop (mkF m q L (S)))) : Go p.tables e below P (T.setTop (mkF m pc L (.int x :: S))) := go (fun t k => XS.ifYes X.here hx rfl rfl hd rfl hc ho hq k) K
theorem gIfN (X : Stand p l e R s m args below meth c T locs cells slots) (hx : p.tables.exec = Jvm.exec) {cd : ClassFile.Cond} {x : Int32} {o : Int} (hd : decode c.code pc = .ok (.ifCond cd o, 3)) (hq : pc + 3 = q) (hc : ifCond.holds cd x = false) (K : Go p.tables e below P (T.setTop (mkF m q L (S)))) : Go p.tables e below P (T.setTop (mkF m pc L (.int x :: S))) := by subst hq; exact go (fun t k => XS.ifNo X.here hx rfl hd rfl hc k) K
theorem gIcmpY (X : Stand p l e R s m args below meth c T locs cells slots) (hx : p.tables.exec = Jvm.exec) {cd : ClassFile.Cond} {x y : Int32} {o : Int} (hd : decode c.code pc = .ok (.if_icmp cd o, 3)) (ho : 0 ≤ (pc : Int) + o) (hq : ((pc : Int) + o).toNat = q) (hc : if_icmp.holds cd x y = true) (K : Go p.tables e below P (T.setTop (mkF m q L (S)))) : Go p.tables e below P (T.setTop (mkF m pc L (.int y :: .int x :: S))) := go (fun t k => XS.icmpYes X.here hx rfl rfl hd rfl hc ho hq k) K
theorem gIcmpN (X : Stand p l e R s m args below meth c T locs cells slots) (hx : p.tables.exec = Jvm.exec) {cd : ClassFile.Cond} {x y : Int32} {o : Int} (hd : decode c.code pc = .ok (.if_icmp cd o, 3)) (hq : pc + 3 = q) (hc : if_icmp.holds cd x y = false) (K : Go p.tables e below P (T.setTop (mkF m q L (S)))) : Go p.tables e below P (T.setTop (mkF m pc L (.int y :: .int x :: S))) := by subst hq; exact go (fun t k => XS.icmpNo X.here hx rfl hd rfl hc k) K
theorem gAcmpY (X : Stand p l e R s m args below meth c T locs cells slots) (hx : p.tables.exec = Jvm.exec) {cd : ClassFile.ACond} {x y : Value} {o : Int} (hd : decode c.code pc = .ok (.if_acmp cd o, 3)) (ho : 0 ≤ (pc : Int) + o) (hq : ((pc : Int) + o).toNat = q) (h1 : x.isRef = true) (h2 : y.isRef = true) (hc : XT.acmp cd x y = true) (K : Go p.tables e below P (T.setTop (mkF m q L (S)))) : Go p.tables e below P (T.setTop (mkF m pc L (y :: x :: S))) := go (fun t k => XT.acmpYes X.here hx rfl rfl hd rfl h1 h2 hc ho hq k) K
theorem gAcmpN (X : Stand p l e R s m args below meth c T locs cells slots) (hx : p.tables.exec = Jvm.exec) {cd : ClassFile.ACond} {x y : Value} {o : Int} (hd : decode c.code pc = .ok (.if_acmp cd o, 3)) (hq : pc + 3 = q) (h1 : x.isRef = true) (h2 : y.isRef = true) (hc : XT.acmp cd x y = false) (K : Go p.tables e below P (T.setTop (mkF m q L (S)))) : Go p.tables e below P (T.setTop (mkF m pc L (y :: x :: S))) := by subst hq; exact go (fun t k => XT.acmpNo X.here hx rfl hd rfl h1 h2 hc k) K
theorem gNullY (X : Stand p l e R s m args below meth c T locs cells slots) (hx : p.tables.exec = Jvm.exec) {v : Value} {o : Int} (hd : decode c.code pc = .ok (.ifnull o, 3)) (ho : 0 ≤ (pc : Int) + o) (hq : ((pc : Int) + o).toNat = q) (hv : v = .null) (K : Go p.tables e below P (T.setTop (mkF m q L (S)))) : Go p.tables e below P (T.setTop (mkF m pc L (v :: S))) := go (fun t k => XT.nullYes X.here hx rfl rfl hd rfl hv ho hq k) K
theorem gNullN (X : Stand p l e R s m args below meth c T locs cells slots) (hx : p.tables.exec = Jvm.exec) {v : Value} {o : Int} (hd : decode c.code pc = .ok (.ifnull o, 3)) (hq : pc + 3 = q) (hr : v.isRef = true) (hv : ¬ v = .null) (K : Go p.tables e below P (T.setTop (mkF m q L (S)))) : Go p.tables e below P (T.setTop (mkF m pc L (v :: S))) := by subst hq; exact go (fun t k => XT.nullNo X.here hx rfl hd rfl hr hv k) K
theorem gNonY (X : Stand p l e R s m args below meth c T locs cells slots) (hx : p.tables.exec = Jvm.exec) {v : Value} {o : Int} (hd : decode c.code pc = .ok (.ifnonnull o, 3)) (ho : 0 ≤ (pc : Int) + o) (hq : ((pc : Int) + o).toNat = q) (hr : v.isRef = true) (hv : ¬ v = .null) (K : Go p.tables e below P (T.setTop (mkF m q L (S)))) : Go p.tables e below P (T.setTop (mkF m pc L (v :: S))) := go (fun t k => XT.nonnullYes X.here hx rfl rfl hd rfl hr hv ho hq k) K
theorem gNonN (X : Stand p l e R s m args below meth c T locs cells slots) (hx : p.tables.exec = Jvm.exec) {v : Value} {o : Int} (hd : decode c.code pc = .ok (.ifnonnull o, 3)) (hq : pc + 3 = q) (hv : v = .null) (K : Go p.tables e below P (T.setTop (mkF m q L (S)))) : Go p.tables e below P (T.setTop (mkF m pc L (v :: S))) := by subst hq; exact go (fun t k => XT.nonnullNo X.here hx rfl hd rfl hv k) K
theorem gRet (X : Stand p l e R s m args below meth c T locs cells slots) (hx : p.tables.exec = Jvm.exec) {Q : Option Value → Heap → List Loc → Prop} {k n : Nat} {w : Value} {t : FieldType} {i : Instr} (hlk : meth.locks = false) (hret : meth.sig.returnType = some t) (hn : narrow t w = w)
    (hi : (i = .ireturn ∧ (t = .int ∨ t = .boolean ∨ t = .byte ∨ t = .char ∨ t = .short) ∧ ∃ z, w = .int z) ∨ (i = .lreturn ∧ t = .long ∧ ∃ z, w = .long z) ∨ (i = .dreturn ∧ t = .double ∧ ∃ z, w = .double z) ∨ (i = .freturn ∧ t = .float ∧ ∃ z, w = .float z) ∨ (i = .areturn ∧ t.isReference = true ∧ w.isRef = true))
    (hd : decode c.code pc = .ok (i, 1)) (hk : cells ≤ k) (hs : slots ≤ n) (hQ : Q (some w) T.heap locs) : Go p.tables e below (Done s Q k n) (T.setTop (mkF m pc L (w :: S))) := by
  obtain ⟨fs, hr, hrun, hended, hW, hsame⟩ := X.leave (v := some w) (fun h => by rw [hret] at h; cases h) hlk
  exact ⟨_, _, retOut X hx hret hn hi hd hr, hrun, hended, _, _, rfl, hQ, ⟨_, rfl⟩, hW, hsame.mono hk hs⟩
theorem gRetI (X : Stand p l e R s m args below meth c T locs cells slots) (hx : p.tables.exec = Jvm.exec) {Q : Option Value → Heap → List Loc → Prop} {k n : Nat} {z : Int32} (hlk : meth.locks = false) (hret : meth.sig.returnType = some .int) (hd : decode c.code pc = .ok (.ireturn, 1)) (hk : cells ≤ k) (hs : slots ≤ n) (hQ : Q (some (.int z)) T.heap locs) : Go p.tables e below (Done s Q k n) (T.setTop (mkF m pc L (.int z :: S))) :=
  gRet X hx hlk hret rfl (Or.inl ⟨rfl, Or.inl rfl, _, rfl⟩) hd hk hs hQ
theorem gRetZ (X : Stand p l e R s m args below meth c T locs cells slots) (hx : p.tables.exec = Jvm.exec) {Q : Option Value → Heap → List Loc → Prop} {k n : Nat} {z : Int32} (hlk : meth.locks = false) (hret : meth.sig.returnType = some .boolean) (hd : decode c.code pc = .ok (.ireturn, 1)) (hk : cells ≤ k) (hs : slots ≤ n) (hz : z = 0 ∨ z = 1) (hQ : Q (some (.int z)) T.heap locs) : Go p.tables e below (Done s Q k n) (T.setTop (mkF m pc L (.int z :: S))) :=
  gRet X hx hlk hret (by rcases hz with rfl | rfl <;> rfl) (Or.inl ⟨rfl, Or.inr (Or.inl rfl), _, rfl⟩) hd hk hs hQ
theorem gRetJ (X : Stand p l e R s m args below meth c T locs cells slots) (hx : p.tables.exec = Jvm.exec) {Q : Option Value → Heap → List Loc → Prop} {k n : Nat} {z : Int64} (hlk : meth.locks = false) (hret : meth.sig.returnType = some .long) (hd : decode c.code pc = .ok (.lreturn, 1)) (hk : cells ≤ k) (hs : slots ≤ n) (hQ : Q (some (.long z)) T.heap locs) : Go p.tables e below (Done s Q k n) (T.setTop (mkF m pc L (.long z :: S))) :=
  gRet X hx hlk hret rfl (Or.inr (Or.inl ⟨rfl, rfl, _, rfl⟩)) hd hk hs hQ
theorem gRetA (X : Stand p l e R s m args below meth c T locs cells slots) (hx : p.tables.exec = Jvm.exec) {Q : Option Value → Heap → List Loc → Prop} {k n : Nat} {w : Value} {t : FieldType} (hlk : meth.locks = false) (hret : meth.sig.returnType = some t) (ht : t.isReference = true) (hw : w.isRef = true) (hd : decode c.code pc = .ok (.areturn, 1)) (hk : cells ≤ k) (hs : slots ≤ n) (hQ : Q (some w) T.heap locs) : Go p.tables e below (Done s Q k n) (T.setTop (mkF m pc L (w :: S))) :=
  gRet X hx hlk hret (by cases t <;> simp [FieldType.isReference] at ht <;> cases w <;> simp [Value.isRef] at hw <;> rfl) (Or.inr (Or.inr (Or.inr (Or.inr ⟨rfl, ht, hw⟩)))) hd hk hs hQ
theorem gRetV (X : Stand p l e R s m args below meth c T locs cells slots) (hx : p.tables.exec = Jvm.exec) {Q : Option Value → Heap → List Loc → Prop} {k n : Nat} (hlk : meth.locks = false) (hret : meth.sig.returnType = none) (hd : decode c.code pc = .ok (.return_, 1)) (hk : cells ≤ k) (hs : slots ≤ n) (hQ : Q none T.heap locs) : Go p.tables e below (Done s Q k n) (T.setTop (mkF m pc L [])) := by
  obtain ⟨fs, hr, hrun, hended, hW, hsame⟩ := X.leave (v := none) (fun _ => rfl) hlk
  exact ⟨_, _, X.returnOut hx hret hd hr, hrun, hended, _, _, rfl, hQ, ⟨_, rfl⟩, hW, hsame.mono hk hs⟩
end Steps1
section Steps2
variable {p : Program} {l : Launch} {e : Env} {R : Room} {s : State} {m : MethodId} {args : Array Value} {below : List Frame} {meth : Method} {c : Code} {T : State} {locs : List Loc} {cells slots : Nat} {P : State → Outcome → Prop} {pc q : Nat} {L L' : Array Slot} {S : List Value} {Z : State} {a0 : Array Value} {h : Heap}
theorem gGetF (X : Stand p l e R s m args below meth c T locs cells slots) (hx : p.tables.exec = Jvm.exec) (hZ : Z.Warmed39 s.vm) {own R0 O n d host : String} {i : Nat} (hown : s.vm.findClass own = some m.cls) (w : (Jvm.Cond.fieldLink own i R0 n d).before a0 Z = true ∨ (Jvm.Cond.fieldLinkNest own i R0 n d host).before a0 Z = true) (via : Via Z R0 O n d)
    (eT : T.heap = h) {a : Addr} {v : Value} (F : Fld Z h a O n d v) (hd : decode c.code pc = .ok (.getfield i, 3)) (hq : pc + 3 = q)
    (K : ∀ T', Stand p l e R s m args below meth c T' locs cells slots → T'.heap = h → Go p.tables e below P (T'.setTop (mkF m q L (v :: S)))) : Go p.tables e below P (T.setTop (mkF m pc L (.ref a :: S))) := by
  subst hq
  obtain ⟨T', X', e', st⟩ := getF X hx hZ hown w via eT F (g := mkF m pc L (.ref a :: S)) rfl rfl hd
  exact go st (K T' X' e')
theorem gGetS (X : Stand p l e R s m args below meth c T locs cells slots) (hx : p.tables.exec = Jvm.exec) (hZ : Z.Warmed39 s.vm) {own R0 O n d : String} {i : Nat} (hown : s.vm.findClass own = some m.cls) (w : (Jvm.Cond.fieldLink own i R0 n d).before a0 Z = true) (via : Via Z R0 O n d)
    (eT : T.heap = h) {v : Value} (F : Sta Z h O n d v) (hd : decode c.code pc = .ok (.getstatic i, 3)) (hq : pc + 3 = q)
    (K : ∀ T', Stand p l e R s m args below meth c T' locs cells slots → T'.heap = h → Go p.tables e below P (T'.setTop (mkF m q L (v :: S)))) : Go p.tables e below P (T.setTop (mkF m pc L S)) := by
  subst hq
  obtain ⟨T', X', e', st⟩ := getS X hx hZ (host := "") hown w via eT F (g := mkF m pc L S) rfl hd
  exact go st (K T' X' e')
theorem gPutF (X : Stand p l e R s m args below meth c T locs cells slots) (hx : p.tables.exec = Jvm.exec) (hZ : Z.Warmed39 s.vm) {own R0 O n d host C : String} {i kk : Nat} {ty : FieldType} (hown : s.vm.findClass own = some m.cls) (w : (Jvm.Cond.fieldLink own i R0 n d).before a0 Z = true ∨ (Jvm.Cond.fieldLinkNest own i R0 n d host).before a0 Z = true) (via : Via Z R0 O n d)
    (eT : T.heap = h) {a : Addr} {v old : Value} (F : Fld Z h a O n d old) (E : Exa Z h a C) (Ly : (Jvm.Cond.lays C O n d).before a0 Z = true ∨ ((Jvm.Cond.laysFinal C O n d).before a0 Z = true ∧ own = O ∧ meth.name = "<init>")) (wi : (Jvm.Cond.instantiable C kk).before a0 Z = true)
    (hty : parseFieldDescriptor d = some ty) (hn : narrow ty v = v) (hf : fits ty v = true) (hd : decode c.code pc = .ok (.putfield i, 3)) (hq : pc + 3 = q)
    (K : ∀ T' h', Stand p l e R s m args below meth c T' (locs ++ [⟨a, Jvm.RoadKit.slotOf Z O n d⟩]) cells slots → T'.heap = h' → Wr h h' a (Jvm.RoadKit.slotOf Z O n d) v → Go p.tables e below P (T'.setTop (mkF m q L S))) : Go p.tables e below P (T.setTop (mkF m pc L (v :: .ref a :: S))) := by
  subst hq
  obtain ⟨T', h', X', e', W', st⟩ := putF X hx hZ hown w via eT F E Ly wi hty hn hf (g := mkF m pc L (v :: .ref a :: S)) rfl rfl hd
  exact go st (K T' h' X' e' W')
theorem gNewO (X : Stand p l e R s m args below meth c T locs cells slots) (hx : p.tables.exec = Jvm.exec) (hZ : Z.Warmed39 s.vm) {own C : String} {i n : Nat} (hown : s.vm.findClass own = some m.cls) (w : (Jvm.Cond.classLink own i C).before a0 Z = true) (wi : (Jvm.Cond.instantiable C n).before a0 Z = true) (wz : (Jvm.Cond.initialized C).before a0 Z = true) (eT : T.heap = h)
    (hd : decode c.code pc = .ok (.new i, 3)) (hq : pc + 3 = q) (hc : cells + 1 ≤ R.cells) (hl : slots + n ≤ R.slots)
    (K : ∀ T' h' a, Stand p l e R s m args below meth c T' locs (cells + 1) (slots + n) → T'.heap = h' → a = h.size → Ext h h' → Exa Z h' a C → (∀ {O nm d : String} {ty : FieldType}, Laid Z a0 C O nm d → parseFieldDescriptor d = some ty → Fld Z h' a O nm d (defaultValue ty)) → Go p.tables e below P (T'.setTop (mkF m q L (.ref a :: S)))) : Go p.tables e below P (T.setTop (mkF m pc L S)) := by
  subst hq
  obtain ⟨T', h', X', e', E', A', D', -, st⟩ := newO X hx hZ hown w wi wz eT (g := mkF m pc L S) rfl hd hc hl
  exact go st (K T' h' _ X' e' rfl E' A' D')
theorem gInitO (X : Stand p l e R s m args below meth c T locs cells slots) (hx : p.tables.exec = Jvm.exec) (hZ : Z.Warmed39 s.vm) {own : String} {i : Nat} (hown : s.vm.findClass own = some m.cls) (w1 : (Jvm.Cond.methodLink own i Lib.objectInit).before a0 Z = true) (w2 : (Jvm.Cond.instanceMethod Lib.objectInit).before a0 Z = true) (w3 : (Jvm.Cond.code Lib.objectInit ⟨#[0xb1]⟩ 1 none).before a0 Z = true) (eT : T.heap = h)
    (hsize : L.size = c.maxLocals) {a : Addr} (hd : decode c.code pc = .ok (.invokespecial i, 3)) (hq : pc + 3 = q) (hf : 1 ≤ R.frames) {W : Nat} (hW : (S.map fun v => v.category).sum ≤ W) (hl : W + 12 ≤ R.locals)
    (K : ∀ T', Stand p l e R s m args below meth c T' locs cells slots → T'.heap = h → Go p.tables e below P (T'.setTop (mkF m q L S))) : Go p.tables e below P (T.setTop (mkF m pc L (.ref a :: S))) := by
  subst hq
  obtain ⟨T', X', e', st⟩ := initO X hx hZ hown w1 w2 w3 eT (g := mkF m pc L (.ref a :: S)) rfl hsize rfl hd hf (W := W) (by show 2 * 0 + _ ≤ _; rw [Nat.mul_zero, Nat.zero_add]; exact hW) hl
  exact go st (K T' X' e')
/-! calls by a contract -/
theorem gCallS (X : Stand p l e R s m args below meth c T locs cells slots) (hx : p.tables.exec = Jvm.exec) (hZ : Z.Warmed39 s.vm) {own : String} {i : Nat} {y : MethodName} {bytes : ByteArray} {maxL : Nat} {rt : Option FieldType} {rm : Room} {as' : Array Value} {Q : Option Value → Heap → List Loc → Prop} (hown : s.vm.findClass own = some m.cls)
    (w1 : (Jvm.Cond.methodLink own i y).before a0 Z = true) (w2 : (Jvm.Cond.static y).before a0 Z = true) (w3 : (Jvm.Cond.initialized y.cls).before a0 Z = true) (w4 : (Jvm.Cond.code y bytes maxL rt).before a0 Z = true) (hy : y.cls ≠ "java/lang/invoke/MethodHandle" ∧ y.cls ≠ "java/lang/invoke/VarHandle")
    (hM : Con l Z y bytes maxL rt [] rm as' h rm.cells rm.slots Q) {W : Nat} (hf : rm.frames + 1 ≤ R.frames) (hlo : W + (maxL + 11) + rm.locals ≤ R.locals) (eT : T.heap = h) (hsize : L.size = c.maxLocals)
    {S0 : List Value} (argsL : List Value) (hlen : ∀ sig, parseMethodDescriptor y.desc = some sig → argsL.length = sig.parameters.length) (has : argsL.toArray = as') (hst : S0 = argsL.reverse ++ S) (hW : (S.map fun v => v.category).sum ≤ W) (hd : decode c.code pc = .ok (.invokestatic i, 3)) (hq : pc + 3 = q)
    (hc : cells + rm.cells ≤ R.cells) (hs : slots + rm.slots ≤ R.slots)
    (K : ∀ v T' Lc, Stand p l e R s m args below meth c T' (locs ++ Lc) (cells + rm.cells) (slots + rm.slots) → Q v T'.heap Lc → Go p.tables e below P (T'.setTop (mkF m q L (v.toList ++ S)))) : Go p.tables e below P (T.setTop (mkF m pc L S0)) := by
  subst hq has hst
  obtain ⟨v, _, ⟨T', L1, k1, n1⟩, -, X', ⟨Lc, hQ, h1, h2, h3⟩, st⟩ := Jvm.LawKit.callS X hx hown (mvT hZ w1) (mvT hZ w2) (mvT hZ w3) (mvT hZ w4) hy (backOf (W := W) hM hZ w4 w3 hf hlo) (g := mkF m pc L (argsL.reverse ++ S)) rfl hsize (argsL := argsL) (rest := S) hlen rfl (by show 2 * 0 + _ ≤ _; rw [Nat.mul_zero, Nat.zero_add]; exact hW) hd (fun _ _ => ⟨rfl, eT, hc, hs⟩)
  dsimp only [Pt.U, Pt.locs, Pt.cells, Pt.slots] at X' h1 h2 h3 st hQ
  subst h1 h2 h3
  exact go st (K v T' Lc X' hQ)
theorem gCallSN (X : Stand p l e R s m args below meth c T locs cells slots) (hx : p.tables.exec = Jvm.exec) (hZ : Z.Warmed39 s.vm) {own host : String} {i : Nat} {y : MethodName} {bytes : ByteArray} {maxL : Nat} {rt : Option FieldType} {rm : Room} {as' : Array Value} {Q : Option Value → Heap → List Loc → Prop} (hown : s.vm.findClass own = some m.cls)
    (w1 : (Jvm.Cond.methodLinkNest own i y host).before a0 Z = true) (w2 : (Jvm.Cond.static y).before a0 Z = true) (w3 : (Jvm.Cond.initialized y.cls).before a0 Z = true) (w4 : (Jvm.Cond.code y bytes maxL rt).before a0 Z = true) (hy : y.cls ≠ "java/lang/invoke/MethodHandle" ∧ y.cls ≠ "java/lang/invoke/VarHandle")
    (hM : Con l Z y bytes maxL rt [] rm as' h rm.cells rm.slots Q) {W : Nat} (hf : rm.frames + 1 ≤ R.frames) (hlo : W + (maxL + 11) + rm.locals ≤ R.locals) (eT : T.heap = h) (hsize : L.size = c.maxLocals)
    {S0 : List Value} (argsL : List Value) (hlen : ∀ sig, parseMethodDescriptor y.desc = some sig → argsL.length = sig.parameters.length) (has : argsL.toArray = as') (hst : S0 = argsL.reverse ++ S) (hW : (S.map fun v => v.category).sum ≤ W) (hd : decode c.code pc = .ok (.invokestatic i, 3)) (hq : pc + 3 = q)
    (hc : cells + rm.cells ≤ R.cells) (hs : slots + rm.slots ≤ R.slots)
    (K : ∀ v T' Lc, Stand p l e R s m args below meth c T' (locs ++ Lc) (cells + rm.cells) (slots + rm.slots) → Q v T'.heap Lc → Go p.tables e below P (T'.setTop (mkF m q L (v.toList ++ S)))) : Go p.tables e below P (T.setTop (mkF m pc L S0)) := by
  subst hq has hst
  obtain ⟨v, _, ⟨T', L1, k1, n1⟩, -, X', ⟨Lc, hQ, h1, h2, h3⟩, st⟩ := callSN X hx hown (Cond.methodLinkNest_wide hZ w1 :) (mvT hZ w2) (mvT hZ w3) (mvT hZ w4) hy (backOf (W := W) hM hZ w4 w3 hf hlo) (g := mkF m pc L (argsL.reverse ++ S)) rfl hsize (argsL := argsL) (rest := S) hlen rfl (by show 2 * 0 + _ ≤ _; rw [Nat.mul_zero, Nat.zero_add]; exact hW) hd (fun _ _ => ⟨rfl, eT, hc, hs⟩)
  dsimp only [Pt.U, Pt.locs, Pt.cells, Pt.slots] at X' h1 h2 h3 st hQ
  subst h1 h2 h3
  exact goT st (K v T' Lc X' hQ)
theorem gCallN (X : Stand p l e R s m args below meth c T locs cells slots) (hx : p.tables.exec = Jvm.exec) (hZ : Z.Warmed39 s.vm) {own : String} {i : Nat} {y : MethodName} {bytes : ByteArray} {maxL : Nat} {rm : Room} {as' : Array Value} {Q : Option Value → Heap → List Loc → Prop} (hy1 : y.name = "<init>") (hown : s.vm.findClass own = some m.cls)
    (w1 : (Jvm.Cond.methodLink own i y).before a0 Z = true) (w2 : (Jvm.Cond.instanceMethod y).before a0 Z = true) (w3 : (Jvm.Cond.initialized y.cls).before a0 Z = true) (w4 : (Jvm.Cond.code y bytes maxL none).before a0 Z = true) (hy : y.cls ≠ "java/lang/invoke/MethodHandle" ∧ y.cls ≠ "java/lang/invoke/VarHandle")
    (hM : Con l Z y bytes maxL none [] rm as' h rm.cells rm.slots Q) {W : Nat} (hf : rm.frames + 1 ≤ R.frames) (hlo : W + (maxL + 11) + rm.locals ≤ R.locals) (eT : T.heap = h) (hsize : L.size = c.maxLocals)
    {S0 : List Value} {a : Addr} (argsL : List Value) (hlen : ∀ sig, parseMethodDescriptor y.desc = some sig → argsL.length = sig.parameters.length) (has : (.ref a :: argsL).toArray = as') (hst : S0 = argsL.reverse ++ .ref a :: S) (hW : (S.map fun v => v.category).sum ≤ W) (hd : decode c.code pc = .ok (.invokespecial i, 3)) (hq : pc + 3 = q)
    (hc : cells + rm.cells ≤ R.cells) (hs : slots + rm.slots ≤ R.slots)
    (K : ∀ v T' Lc, Stand p l e R s m args below meth c T' (locs ++ Lc) (cells + rm.cells) (slots + rm.slots) → Q v T'.heap Lc → Go p.tables e below P (T'.setTop (mkF m q L (v.toList ++ S)))) : Go p.tables e below P (T.setTop (mkF m pc L S0)) := by
  subst hq has hst
  obtain ⟨v, _, ⟨T', L1, k1, n1⟩, -, X', ⟨Lc, hQ, h1, h2, h3⟩, st⟩ := X.specialBack hx hy1 hown (mvT hZ w1) (mvT hZ w2) (mvT hZ w4) hy (backOf (W := W) hM hZ w4 w3 hf hlo) (g := mkF m pc L (argsL.reverse ++ .ref a :: S)) rfl hsize (Steps.refl _) (a := a) (argsL := argsL) (rest := S) hlen rfl (by show 2 * 0 + _ ≤ _; rw [Nat.mul_zero, Nat.zero_add]; exact hW) hd (fun _ _ => ⟨rfl, eT, hc, hs⟩)
  dsimp only [Pt.U, Pt.locs, Pt.cells, Pt.slots] at X' h1 h2 h3 st hQ
  subst h1 h2 h3
  exact goT st (K v T' Lc X' hQ)
theorem gCallV (X : Stand p l e R s m args below meth c T locs cells slots) (hx : p.tables.exec = Jvm.exec) (hZ : Z.Warmed39 s.vm) {own C : String} {i : Nat} {y z : MethodName} {bytes : ByteArray} {maxL : Nat} {rt : Option FieldType} {rm : Room} {as' : Array Value} {Q : Option Value → Heap → List Loc → Prop} (hown : s.vm.findClass own = some m.cls)
    (w1 : (Jvm.Cond.methodLink own i y).before a0 Z = true) (w2 : (Jvm.Cond.declares y).before a0 Z = true) (w5 : (Jvm.Cond.selects C y z).before a0 Z = true) (w6 : (Jvm.Cond.instanceMethod z).before a0 Z = true) (w3 : (Jvm.Cond.initialized z.cls).before a0 Z = true) (w4 : (Jvm.Cond.code z bytes maxL rt).before a0 Z = true) (hnf : NotFace s y) (hy : y.cls ≠ "java/lang/invoke/MethodHandle" ∧ y.cls ≠ "java/lang/invoke/VarHandle")
    (hM : Con l Z z bytes maxL rt [] rm as' h rm.cells rm.slots Q) {W : Nat} (hf : rm.frames + 1 ≤ R.frames) (hlo : W + (maxL + 11) + rm.locals ≤ R.locals) (eT : T.heap = h) (hsize : L.size = c.maxLocals)
    {S0 : List Value} {a : Addr} (E : Exa Z h a C) (argsL : List Value) (hlen : ∀ sig, parseMethodDescriptor y.desc = some sig → argsL.length = sig.parameters.length) (has : (.ref a :: argsL).toArray = as') (hst : S0 = argsL.reverse ++ .ref a :: S) (hW : (S.map fun v => v.category).sum ≤ W) (hd : decode c.code pc = .ok (.invokevirtual i, 3)) (hq : pc + 3 = q)
    (hc : cells + rm.cells ≤ R.cells) (hs : slots + rm.slots ≤ R.slots)
    (K : ∀ v T' Lc, Stand p l e R s m args below meth c T' (locs ++ Lc) (cells + rm.cells) (slots + rm.slots) → Q v T'.heap Lc → Go p.tables e below P (T'.setTop (mkF m q L (v.toList ++ S)))) : Go p.tables e below P (T.setTop (mkF m pc L S0)) := by
  subst hq has hst
  obtain ⟨cq, kq, q1, q2, q3⟩ := isOf hZ eT E
  obtain ⟨v, _, ⟨T', L1, k1, n1⟩, -, X', ⟨Lc, hQ, h1, h2, h3⟩, st⟩ := X.virtualBack hx hown (mvT hZ w1) (mvT hZ w2) hnf (mvT hZ w5) (mvT hZ w6) hy (backOf (W := W) hM hZ w4 w3 hf hlo) q1 q3 (g := mkF m pc L (argsL.reverse ++ .ref a :: S)) rfl hsize (Steps.refl _) (argsL := argsL) (rest := S) hlen rfl (by show 2 * 0 + _ ≤ _; rw [Nat.mul_zero, Nat.zero_add]; exact hW) hd (fun _ _ => ⟨rfl, eT, hc, hs⟩)
  dsimp only [Pt.U, Pt.locs, Pt.cells, Pt.slots] at X' h1 h2 h3 st hQ
  subst h1 h2 h3
  exact goT st (K v T' Lc X' hQ)
end Steps2
end Jvm.OwnKit
namespace Jvm.OwnKit
open Sem ClassFile Op Lib Jvm.Stand Jvm.Free Jvm.LawKit Jvm.RoadKit
/-- the array at a: its class, its element type, its values -/
def Ary (Z : State) (h : Heap) (a : Addr) (k : ClassId) (ty : FieldType) (vs : List Value) : Prop := ∃ c : Cell, Arr Z h a c ty ∧ c.cls = k ∧ c.slots.toList = vs
section Ary
variable {Z : State} {h h' : Heap} {a b : Addr} {k : ClassId} {ty : FieldType} {vs : List Value} {sl : Nat} {v : Value} {ws : List Addr}
theorem Ary.ext (E : Ext h h') (F : Ary Z h a k ty vs) : Ary Z h' a k ty vs := by obtain ⟨c, A, r⟩ := F; exact ⟨c, A.ext E, r⟩
theorem Ary.other (W : Wr h h' a sl v) (F : Ary Z h b k ty vs) (q : b ≠ a) : Ary Z h' b k ty vs := by obtain ⟨c, A, r⟩ := F; exact ⟨c, A.other W q, r⟩
theorem Ary.keep (F : Ary Z h a k ty vs) (K : Keep h h' ws) (q : a ∉ ws) : Ary Z h' a k ty vs := by obtain ⟨c, A, r⟩ := F; exact ⟨c, ⟨K.2.1 a c A.1 q, A.2⟩, r⟩
theorem Ary.lt (F : Ary Z h a k ty vs) : a < h.size := by obtain ⟨c, A, -⟩ := F; exact A.lt
theorem Ary.same (W : Wr h h' a sl v) (F : Ary Z h a k ty vs) : Ary Z h' a k ty (vs.set sl v) := by
  obtain ⟨c, A, r1, r2⟩ := F
  exact ⟨_, A.same W, r1, by subst r2; simp [Cell.setSlot]⟩
theorem Ary.new {n : Int32} (A : Arr Z h a (newA k ty n) ty) : Ary Z h a k ty (List.replicate n.toNatClampNeg (defaultValue ty)) := ⟨_, A, rfl, by simp [newA]⟩
theorem Ary.ne_exa {a0 : Array Value} {C : String} {n : Nat} (F : Ary Z h a k ty vs) (E : Exa Z h b C) (wi : (Jvm.Cond.instantiable C n).before a0 Z = true) : a ≠ b := by obtain ⟨c, A, -⟩ := F; exact (ne_arr E wi A).symm
end Ary
section Steps3
variable {p : Program} {l : Launch} {e : Env} {R : Room} {s : State} {m : MethodId} {args : Array Value} {below : List Frame} {meth : Method} {c : Code} {T : State} {locs : List Loc} {cells slots : Nat} {P : State → Outcome → Prop} {pc q : Nat} {L L' : Array Slot} {S : List Value} {Z : State} {a0 : Array Value} {h : Heap} {a : Addr} {k : ClassId} {vs : List Value}
theorem gIaload (X : Stand p l e R s m args below meth c T locs cells slots) (hx : p.tables.exec = Jvm.exec) (hZ : Z.Warmed39 s.vm) (eT : T.heap = h) (A : Ary Z h a k .int vs) {j : Int32} {v : Value} (hd : decode c.code pc = .ok (.iaload, 1)) (hq : pc + 1 = q) (hj : ¬ (j < 0 ∨ vs.length ≤ j.toNatClampNeg)) (hv : vs[j.toNatClampNeg]? = some v) (K : Go p.tables e below P (T.setTop (mkF m q L (v :: S)))) : Go p.tables e below P (T.setTop (mkF m pc L (.int j :: .ref a :: S))) := by
  subst hq eT
  obtain ⟨cl, A, -, rfl⟩ := A
  exact go (fun t k => X.iaload hx (j := j) (v := v) A.1 (State.isArrayOf_alike hZ.alike A.2.1) A.2.2 (by simpa using hj) (by simpa using hv) (g := mkF m pc L (.int j :: .ref a :: S)) rfl rfl hd _ k) K
theorem gLaload (X : Stand p l e R s m args below meth c T locs cells slots) (hx : p.tables.exec = Jvm.exec) (hZ : Z.Warmed39 s.vm) (eT : T.heap = h) (A : Ary Z h a k .long vs) {j : Int32} {v : Value} (hd : decode c.code pc = .ok (.laload, 1)) (hq : pc + 1 = q) (hj : ¬ (j < 0 ∨ vs.length ≤ j.toNatClampNeg)) (hv : vs[j.toNatClampNeg]? = some v) (K : Go p.tables e below P (T.setTop (mkF m q L (v :: S)))) : Go p.tables e below P (T.setTop (mkF m pc L (.int j :: .ref a :: S))) := by
  subst hq eT
  obtain ⟨cl, A, -, rfl⟩ := A
  exact go (fun t k => X.laload hx (j := j) (v := v) A.1 (State.isArrayOf_alike hZ.alike A.2.1) A.2.2 (by simpa using hj) (by simpa using hv) (g := mkF m pc L (.int j :: .ref a :: S)) rfl rfl hd _ k) K
theorem gCaload (X : Stand p l e R s m args below meth c T locs cells slots) (hx : p.tables.exec = Jvm.exec) (hZ : Z.Warmed39 s.vm) (eT : T.heap = h) (A : Ary Z h a k .char vs) {j : Int32} {v : Value} (hd : decode c.code pc = .ok (.caload, 1)) (hq : pc + 1 = q) (hj : ¬ (j < 0 ∨ vs.length ≤ j.toNatClampNeg)) (hv : vs[j.toNatClampNeg]? = some v) (K : Go p.tables e below P (T.setTop (mkF m q L (v :: S)))) : Go p.tables e below P (T.setTop (mkF m pc L (.int j :: .ref a :: S))) := by
  subst hq eT
  obtain ⟨cl, A, -, rfl⟩ := A
  exact go (fun t k => X.caload hx (j := j) (v := v) A.1 (State.isArrayOf_alike hZ.alike A.2.1) A.2.2 (by simpa using hj) (by simpa using hv) (g := mkF m pc L (.int j :: .ref a :: S)) rfl rfl hd _ k) K
theorem gAaload (X : Stand p l e R s m args below meth c T locs cells slots) (hx : p.tables.exec = Jvm.exec) (hZ : Z.Warmed39 s.vm) (eT : T.heap = h) {ty : FieldType} (A : Ary Z h a k ty vs) (ht : ty.isReference = true) {j : Int32} {v : Value} (hd : decode c.code pc = .ok (.aaload, 1)) (hq : pc + 1 = q) (hj : ¬ (j < 0 ∨ vs.length ≤ j.toNatClampNeg)) (hv : vs[j.toNatClampNeg]? = some v) (K : Go p.tables e below P (T.setTop (mkF m q L (v :: S)))) : Go p.tables e below P (T.setTop (mkF m pc L (.int j :: .ref a :: S))) := by
  subst hq eT
  obtain ⟨cl, A, -, rfl⟩ := A
  exact go (fun t k => X.aaload hx (j := j) (v := v) A.1 (State.isArrayOf_alike hZ.alike A.2.1) ht A.2.2 (by simpa using hj) (by simpa using hv) (g := mkF m pc L (.int j :: .ref a :: S)) rfl rfl hd _ k) K
theorem gLen (X : Stand p l e R s m args below meth c T locs cells slots) (hx : p.tables.exec = Jvm.exec) (hZ : Z.Warmed39 s.vm) (eT : T.heap = h) {ty : FieldType} (A : Ary Z h a k ty vs) {n : Int32} (hn : vs.length.toInt32 = n) (hd : decode c.code pc = .ok (.arraylength, 1)) (hq : pc + 1 = q) (K : Go p.tables e below P (T.setTop (mkF m q L (.int n :: S)))) : Go p.tables e below P (T.setTop (mkF m pc L (.ref a :: S))) := by
  subst hq eT hn
  obtain ⟨cl, A, -, rfl⟩ := A
  exact go (fun t k => X.arraylength hx A.1 (State.isArrayOf_alike hZ.alike A.2.1) (g := mkF m pc L (.ref a :: S)) rfl rfl hd _ (by simpa using k)) K
theorem gIastore (X : Stand p l e R s m args below meth c T locs cells slots) (hx : p.tables.exec = Jvm.exec) (hZ : Z.Warmed39 s.vm) (eT : T.heap = h) (A : Ary Z h a k .int vs) {j : Int32} {x : Int32} (hd : decode c.code pc = .ok (.iastore, 1)) (hq : pc + 1 = q) (hj : ¬ (j < 0 ∨ vs.length ≤ j.toNatClampNeg))
    (K : ∀ T' h', Stand p l e R s m args below meth c T' (locs ++ [⟨a, j.toNatClampNeg⟩]) cells slots → T'.heap = h' → Wr h h' a j.toNatClampNeg (.int x) → Ary Z h' a k .int (vs.set j.toNatClampNeg (.int x)) → Go p.tables e below P (T'.setTop (mkF m q L (S)))) : Go p.tables e below P (T.setTop (mkF m pc L (.int x :: .int j :: .ref a :: S))) := by
  subst hq
  have A' := A
  obtain ⟨cl, Ac, r1, r2⟩ := A'
  obtain ⟨T', h', X', e', W', st⟩ := stI X hx hZ eT Ac (j := j) (x := x) (by subst r2; simpa using hj) (g := mkF m pc L (.int x :: .int j :: .ref a :: S)) rfl rfl hd
  exact go st (K T' h' X' e' W' (Ary.same W' A))
theorem gLastore (X : Stand p l e R s m args below meth c T locs cells slots) (hx : p.tables.exec = Jvm.exec) (hZ : Z.Warmed39 s.vm) (eT : T.heap = h) (A : Ary Z h a k .long vs) {j : Int32} {x : Int64} (hd : decode c.code pc = .ok (.lastore, 1)) (hq : pc + 1 = q) (hj : ¬ (j < 0 ∨ vs.length ≤ j.toNatClampNeg))
    (K : ∀ T' h', Stand p l e R s m args below meth c T' (locs ++ [⟨a, j.toNatClampNeg⟩]) cells slots → T'.heap = h' → Wr h h' a j.toNatClampNeg (.long x) → Ary Z h' a k .long (vs.set j.toNatClampNeg (.long x)) → Go p.tables e below P (T'.setTop (mkF m q L (S)))) : Go p.tables e below P (T.setTop (mkF m pc L (.long x :: .int j :: .ref a :: S))) := by
  subst hq
  have A' := A
  obtain ⟨cl, Ac, r1, r2⟩ := A'
  obtain ⟨T', h', X', e', W', st⟩ := stJ X hx hZ eT Ac (j := j) (x := x) (by subst r2; simpa using hj) (g := mkF m pc L (.long x :: .int j :: .ref a :: S)) rfl rfl hd
  exact go st (K T' h' X' e' W' (Ary.same W' A))
theorem gCastore (X : Stand p l e R s m args below meth c T locs cells slots) (hx : p.tables.exec = Jvm.exec) (hZ : Z.Warmed39 s.vm) (eT : T.heap = h) (A : Ary Z h a k .char vs) {j x : Int32} (hd : decode c.code pc = .ok (.castore, 1)) (hq : pc + 1 = q) (hj : ¬ (j < 0 ∨ vs.length ≤ j.toNatClampNeg))
    (K : ∀ T' h', Stand p l e R s m args below meth c T' (locs ++ [⟨a, j.toNatClampNeg⟩]) cells slots → T'.heap = h' → Wr h h' a j.toNatClampNeg (.int (nar .char x)) → Ary Z h' a k .char (vs.set j.toNatClampNeg (.int (nar .char x))) → Go p.tables e below P (T'.setTop (mkF m q L (S)))) : Go p.tables e below P (T.setTop (mkF m pc L (.int x :: .int j :: .ref a :: S))) := by
  subst hq
  have A' := A
  obtain ⟨cl, Ac, r1, r2⟩ := A'
  obtain ⟨T', h', X', e', W', st⟩ := stC X hx hZ eT Ac (j := j) (x := x) (by subst r2; simpa using hj) (g := mkF m pc L (.int x :: .int j :: .ref a :: S)) rfl rfl hd
  exact go st (K T' h' X' e' W' (Ary.same W' A))
theorem gAastore (X : Stand p l e R s m args below meth c T locs cells slots) (hx : p.tables.exec = Jvm.exec) (hZ : Z.Warmed39 s.vm) (eT : T.heap = h) {ty : FieldType} (A : Ary Z h a k ty vs) (ht : ty.isReference = true) {j : Int32} {v : Value} (F : Sto Z h a v) (hd : decode c.code pc = .ok (.aastore, 1)) (hq : pc + 1 = q) (hj : ¬ (j < 0 ∨ vs.length ≤ j.toNatClampNeg))
    (K : ∀ T' h', Stand p l e R s m args below meth c T' (locs ++ [⟨a, j.toNatClampNeg⟩]) cells slots → T'.heap = h' → Wr h h' a j.toNatClampNeg v → Ary Z h' a k ty (vs.set j.toNatClampNeg v) → Go p.tables e below P (T'.setTop (mkF m q L (S)))) : Go p.tables e below P (T.setTop (mkF m pc L (v :: .int j :: .ref a :: S))) := by
  subst hq
  have A' := A
  obtain ⟨cl, Ac, r1, r2⟩ := A'
  obtain ⟨T', h', X', e', W', st⟩ := stR X hx hZ eT Ac (j := j) (by subst r2; simpa using hj) ht F (g := mkF m pc L (v :: .int j :: .ref a :: S)) rfl rfl hd
  exact go st (K T' h' X' e' W' (Ary.same W' A))
theorem Sto.ofA {Z : State} {h : Heap} {a y : Addr} {k : ClassId} {ty : FieldType} {vs : List Value} {C : String} (A : Ary Z h a k ty vs) (O : Ovr Z k C) (I : Ins Z h y C true) : Sto Z h a (.ref y) := by obtain ⟨c, Ac, r, -⟩ := A; exact Sto.ofV Ac r O I
theorem gNewP (X : Stand p l e R s m args below meth c T locs cells slots) (hx : p.tables.exec = Jvm.exec) (hZ : Z.Warmed39 s.vm) {aty : ArrayType} (w : (Jvm.Cond.arrayClass (newarray.typeOf aty)).before a0 Z = true) (eT : T.heap = h) (hd : decode c.code pc = .ok (.newarray aty, 2)) (hq : pc + 2 = q) {n : Int32} (hn : ¬ n < 0) {cap : Nat} (hcap : n.toNatClampNeg ≤ cap) (hb : cap * 8 ≤ 536870912) (hc : cells + 1 ≤ R.cells) (hl : slots + cap ≤ R.slots)
    (K : ∀ T' h' a cA, Stand p l e R s m args below meth c T' locs (cells + 1) (slots + cap) → T'.heap = h' → a = h.size → Ext h h' → Ary Z h' a cA (newarray.typeOf aty) (List.replicate n.toNatClampNeg (defaultValue (newarray.typeOf aty))) → Go p.tables e below P (T'.setTop (mkF m q L (.ref a :: S)))) : Go p.tables e below P (T.setTop (mkF m pc L (.int n :: S))) := by
  subst hq
  obtain ⟨T', h', cA, X', e', E', A', st⟩ := newP X hx hZ w eT (g := mkF m pc L (.int n :: S)) rfl hd rfl hn hcap hb hc hl
  exact go st (K T' h' _ cA X' e' rfl E' (Ary.new A'))
theorem gNewR (X : Stand p l e R s m args below meth c T locs cells slots) (hx : p.tables.exec = Jvm.exec) (hZ : Z.Warmed39 s.vm) {own C : String} {i : Nat} (hown : s.vm.findClass own = some m.cls) (w1 : (Jvm.Cond.classLink own i C).before a0 Z = true) (w2 : (Jvm.Cond.arrayOver (.object C)).before a0 Z = true) (eT : T.heap = h) (hd : decode c.code pc = .ok (.anewarray i, 3)) (hq : pc + 3 = q) {n : Int32} (hn : ¬ n < 0) {cap : Nat} (hcap : n.toNatClampNeg ≤ cap) (hb : cap * 8 ≤ 536870912) (hc : cells + 1 ≤ R.cells) (hl : slots + cap ≤ R.slots)
    (K : ∀ T' h' a cA, Stand p l e R s m args below meth c T' locs (cells + 1) (slots + cap) → T'.heap = h' → a = h.size → Ext h h' → Ary Z h' a cA (.object C) (List.replicate n.toNatClampNeg .null) → Ovr Z cA C → Go p.tables e below P (T'.setTop (mkF m q L (.ref a :: S)))) : Go p.tables e below P (T.setTop (mkF m pc L (.int n :: S))) := by
  subst hq
  obtain ⟨T', h', cA, X', e', E', A', O', st⟩ := newR X hx hZ hown w1 w2 eT (g := mkF m pc L (.int n :: S)) rfl hd rfl hn hcap hb hc hl
  exact go st (K T' h' _ cA X' e' rfl E' (Ary.new A') O')
end Steps3
end Jvm.OwnKit
namespace Jvm.OwnKit
open Sem ClassFile Op Lib Jvm.Stand Jvm.Free Jvm.LawKit Jvm.RoadKit
theorem own_inst {Z : State} {a0 : Array Value} {K : String} {n : Nat} (w : (Jvm.Cond.instantiable K n).before a0 Z = true) : ∃ t k, Z.vm.findClass K = some t ∧ Z.vm.classes[t]? = some k ∧ k.kind = .ordinary ∧ k.isInterface = false := by
  obtain ⟨t, k, h1, h2, h3, h4, -⟩ := Cond.instantiable_spec w
  exact ⟨t, k, h1, h2, h3, by simp only [Bool.or_eq_false_iff] at h4; exact h4.1⟩
theorem own_nsRoot {Z : State} {a0 : Array Value} {O K : String} {n : Nat} (w : (Jvm.Cond.noSuperclass O).before a0 Z = true) (wk : (Jvm.Cond.instantiable K n).before a0 Z = true) (hn : O ≠ K) : NS Z O K := by
  obtain ⟨c, k, h1, h2, h3, -, -⟩ := Cond.noSuperclass_spec w
  obtain ⟨t, k', g1, -⟩ := own_inst wk
  have ne := ids_ne h1 g1 hn
  refine ⟨c, t, h1, g1, fun fuel => ?_⟩
  cases fuel with
  | zero => rfl
  | succ f => simp [Vm.isSubclassAux, ne, h2, h3]
theorem own_nsNo {Z : State} {a0 : Array Value} {C S K : String} {n : Nat} (w : (Jvm.Cond.superclass C S).before a0 Z = true) (wk : (Jvm.Cond.instantiable K n).before a0 Z = true) (m : NS Z C K) (hn : C ≠ K) : ∃ c t, Z.vm.findClass C = some c ∧ Z.vm.findClass K = some t ∧ Z.vm.assignable c t = false := by
  obtain ⟨c, t, h0, g0, n3⟩ := m
  obtain ⟨p, k, kp, h1, h2, h3, h4, h5, -, h7⟩ := Cond.superclass_spec h0 w
  obtain ⟨t', k', g1, g2, g3, g4⟩ := own_inst wk
  cases g0.symm.trans g1
  have ne := ids_ne h0 g0 hn
  refine ⟨c, t, h0, g0, ?_⟩
  show Z.vm.assignableAux (255 + 1) c t = false
  simp [Vm.assignableAux, ne, h2, g2, h5, g3, g4, Vm.isSubclass, n3]
section Steps4
variable {p : Program} {l : Launch} {e : Env} {R : Room} {s : State} {m : MethodId} {args : Array Value} {below : List Frame} {meth : Method} {c : Code} {T : State} {locs : List Loc} {cells slots : Nat} {P : State → Outcome → Prop} {pc q : Nat} {L L' : Array Slot} {S : List Value} {Z : State} {a0 : Array Value} {h : Heap} {a : Addr}
theorem gInstY (X : Stand p l e R s m args below meth c T locs cells slots) (hx : p.tables.exec = Jvm.exec) (hZ : Z.Warmed39 s.vm) {own K : String} {i : Nat} (hown : s.vm.findClass own = some m.cls) (w : (Jvm.Cond.classLink own i K).before a0 Z = true) (eT : T.heap = h) (F : Ins Z h a K true) (hd : decode c.code pc = .ok (.instanceof i, 3)) (hq : pc + 3 = q)
    (K1 : ∀ T', Stand p l e R s m args below meth c T' locs cells slots → T'.heap = h → Go p.tables e below P (T'.setTop (mkF m q L (.int 1 :: S)))) : Go p.tables e below P (T.setTop (mkF m pc L (.ref a :: S))) := by
  subst hq
  obtain ⟨T', X', e', st⟩ := instY X hx hZ hown w eT F (g := mkF m pc L (.ref a :: S)) rfl rfl hd
  exact go st (K1 T' X' e')
theorem gInstNo (X : Stand p l e R s m args below meth c T locs cells slots) (hx : p.tables.exec = Jvm.exec) (hZ : Z.Warmed39 s.vm) {own K C : String} {i : Nat} (hown : s.vm.findClass own = some m.cls) (w : (Jvm.Cond.classLink own i K).before a0 Z = true) (eT : T.heap = h) (E : Exa Z h a C) (F : ∃ c t, Z.vm.findClass C = some c ∧ Z.vm.findClass K = some t ∧ Z.vm.assignable c t = false) (hd : decode c.code pc = .ok (.instanceof i, 3)) (hq : pc + 3 = q)
    (K1 : ∀ T', Stand p l e R s m args below meth c T' locs cells slots → T'.heap = h → Go p.tables e below P (T'.setTop (mkF m q L (.int 0 :: S)))) : Go p.tables e below P (T.setTop (mkF m pc L (.ref a :: S))) := by
  subst hq
  obtain ⟨T', X', e', st⟩ := instNo X hx hZ hown w eT E F (g := mkF m pc L (.ref a :: S)) rfl rfl hd
  exact go st (K1 T' X' e')
theorem gInstNull (X : Stand p l e R s m args below meth c T locs cells slots) (hx : p.tables.exec = Jvm.exec) {i : Nat} (hd : decode c.code pc = .ok (.instanceof i, 3)) (hq : pc + 3 = q) (K1 : Go p.tables e below P (T.setTop (mkF m q L (.int 0 :: S)))) : Go p.tables e below P (T.setTop (mkF m pc L (.null :: S))) := by
  subst hq
  exact go (fun t k => X.instanceofNull hx (g := mkF m pc L (.null :: S)) rfl rfl hd _ k) K1
theorem gCastY (X : Stand p l e R s m args below meth c T locs cells slots) (hx : p.tables.exec = Jvm.exec) (hZ : Z.Warmed39 s.vm) {own K : String} {i : Nat} (hown : s.vm.findClass own = some m.cls) (w : (Jvm.Cond.classLink own i K).before a0 Z = true) (eT : T.heap = h) (F : Ins Z h a K true) (hd : decode c.code pc = .ok (.checkcast i, 3)) (hq : pc + 3 = q)
    (K1 : ∀ T', Stand p l e R s m args below meth c T' locs cells slots → T'.heap = h → Go p.tables e below P (T'.setTop (mkF m q L (.ref a :: S)))) : Go p.tables e below P (T.setTop (mkF m pc L (.ref a :: S))) := by
  subst hq
  obtain ⟨T', X', e', st⟩ := castY X hx hZ hown w eT F (g := mkF m pc L (.ref a :: S)) rfl rfl hd
  exact go st (K1 T' X' e')
theorem gLdcF (X : Stand p l e R s m args below meth c T locs cells slots) (hx : p.tables.exec = Jvm.exec) (hZ : Z.Warmed39 s.vm) {own : String} {i : Nat} {b : UInt32} (hown : s.vm.findClass own = some m.cls) (w : (Jvm.Cond.constantFloat own i b).before a0 Z = true) (hd : decode c.code pc = .ok (.ldc i, 2)) (hq : pc + 2 = q) (K1 : Go p.tables e below P (T.setTop (mkF m q L (.float b :: S)))) : Go p.tables e below P (T.setTop (mkF m pc L (S))) := by
  subst hq; exact go (X.ldcFloatC hx hown (mvT hZ w) (g := mkF m pc L S) rfl hd) K1
end Steps4
end Jvm.OwnKit
namespace Jvm.Pilot.@@N@@
open Jvm Jvm.ClassFile Sem Op Lib Jvm.Free Jvm.Stand Jvm.LawKit Jvm.RoadKit Bundle Jvm.OwnKit Jvm.Pilot.@@N@@.Jvm.D
theorem d5_0 : decode jdk_71_method_1_code 0 = .ok (.aload_n 0, 1) := by decide +kernel
theorem d5_1 : decode jdk_71_method_1_code 1 = .ok (.invokespecial 1, 3) := by decide +kernel
theorem d5_4 : decode jdk_71_method_1_code 4 = .ok (.return_, 1) := by decide +kernel
theorem pn0 : plainName "java/util/AbstractMap" = true := by first | (simp [plainName, overriddenIn]; done) | decide +kernel
theorem ef0 (m : MethodId) (x0 : Addr) : entryFrame m #[(.ref x0)] 1 = mkF m 0 #[.val (.ref x0)] [] := by first | (simp [entryFrame, mkF, argsToLocals, Value.category]; done) | rfl
def Q_rmAM (Z : State) (a : Addr) (h0 : Heap) (n0 : Nat) (v : Option Value) (h : Heap) (L : List Loc) : Prop := v = none ∧ Fr n0 L ∧ h = h0
set_option maxRecDepth 65536 in
set_option maxHeartbeats 40000000 in
theorem rmAM (l : Launch) (Z : State) (a0 : Array Value) (hw : ∀ d ∈ tables_1, d.before a0 Z = true) (ws : List Jvm.Cond) (a : Addr) (h0 : Heap) (n0 : Nat) (Z0 : n0 ≤ h0.size)  :
    Con l Z (⟨"java/util/AbstractMap", "<init>", "()V"⟩ : MethodName) jdk_71_method_1_code 1 none ws ({ frames := 1, cells := 0, slots := 0, locals := 12 } : Room) #[(.ref a)] h0 (({ frames := 1, cells := 0, slots := 0, locals := 12 } : Room).cells) (({ frames := 1, cells := 0, slots := 0, locals := 12 } : Room).slots) (Q_rmAM Z a h0 n0) := by
  refine Con.of (plainFor_of_name pn0) ?_
  intro p e s m below meth c s₁ hx hby hml hown hnm hret hlk hZ X0 e0
  have N0 := Fr.nil n0
  refine goE (L := #[.val (.ref a)]) (ef0 m a) ?_
  refine gAloadN X0 hx (hb hby d5_0) (q := 1) rfl rfl rfl ?_
  refine gInitO X0 hx hZ hown (hw _ (List.mem_of_getElem? (i := 28) rfl)) (hw _ (List.mem_of_getElem? (i := 8) rfl)) (hw _ (List.mem_of_getElem? (i := 9) rfl)) e0 (by rw [hml]; rfl) (hb hby d5_1) (q := 4) rfl (by decide) (W := 0) (Nat.le_of_eq rfl) (by decide) (fun T1 X1 e1 => ?_)
  exact gRetV X1 hx hlk hret (hb hby d5_4) (by decide) (by decide) ⟨rfl, N0, e1⟩
theorem d8_0 : decode jdk_22_method_1_code 0 = .ok (.aload_n 0, 1) := by decide +kernel
theorem d8_1 : decode jdk_22_method_1_code 1 = .ok (.invokespecial 1, 3) := by decide +kernel
theorem d8_4 : decode jdk_22_method_1_code 4 = .ok (.return_, 1) := by decide +kernel
theorem pn1 : plainName "java/util/AbstractCollection" = true := by first | (simp [plainName, overriddenIn]; done) | decide +kernel
theorem ef1 (m : MethodId) (x0 : Addr) : entryFrame m #[(.ref x0)] 1 = mkF m 0 #[.val (.ref x0)] [] := by first | (simp [entryFrame, mkF, argsToLocals, Value.category]; done) | rfl
def Q_rmAC (Z : State) (a : Addr) (h0 : Heap) (n0 : Nat) (v : Option Value) (h : Heap) (L : List Loc) : Prop := v = none ∧ Fr n0 L ∧ h = h0
set_option maxRecDepth 65536 in
set_option maxHeartbeats 40000000 in
theorem rmAC (l : Launch) (Z : State) (a0 : Array Value) (hw : ∀ d ∈ tables_1, d.before a0 Z = true) (ws : List Jvm.Cond) (a : Addr) (h0 : Heap) (n0 : Nat) (Z0 : n0 ≤ h0.size)  :
    Con l Z (⟨"java/util/AbstractCollection", "<init>", "()V"⟩ : MethodName) jdk_22_method_1_code 1 none ws ({ frames := 1, cells := 0, slots := 0, locals := 12 } : Room) #[(.ref a)] h0 (({ frames := 1, cells := 0, slots := 0, locals := 12 } : Room).cells) (({ frames := 1, cells := 0, slots := 0, locals := 12 } : Room).slots) (Q_rmAC Z a h0 n0) := by
  refine Con.of (plainFor_of_name pn1) ?_
  intro p e s m below meth c s₁ hx hby hml hown hnm hret hlk hZ X0 e0
  have N0 := Fr.nil n0
  refine goE (L := #[.val (.ref a)]) (ef1 m a) ?_
  refine gAloadN X0 hx (hb hby d8_0) (q := 1) rfl rfl rfl ?_
  refine gInitO X0 hx hZ hown (hw _ (List.mem_of_getElem? (i := 56) rfl)) (hw _ (List.mem_of_getElem? (i := 8) rfl)) (hw _ (List.mem_of_getElem? (i := 9) rfl)) e0 (by rw [hml]; rfl) (hb hby d8_1) (q := 4) rfl (by decide) (W := 0) (Nat.le_of_eq rfl) (by decide) (fun T1 X1 e1 => ?_)
  exact gRetV X1 hx hlk hret (hb hby d8_4) (by decide) (by decide) ⟨rfl, N0, e1⟩
theorem d4_0 : decode jdk_69_method_7_code 0 = .ok (.aload_n 0, 1) := by decide +kernel
theorem d4_1 : decode jdk_69_method_7_code 1 = .ok (.invokespecial 43, 3) := by decide +kernel
theorem d4_4 : decode jdk_69_method_7_code 4 = .ok (.aload_n 0, 1) := by decide +kernel
theorem d4_5 : decode jdk_69_method_7_code 5 = .ok (.ldc 92, 2) := by decide +kernel
theorem d4_7 : decode jdk_69_method_7_code 7 = .ok (.putfield 81, 3) := by decide +kernel
theorem d4_10 : decode jdk_69_method_7_code 10 = .ok (.return_, 1) := by decide +kernel
theorem pn2 : plainName "java/util/HashMap" = true := by first | (simp [plainName, overriddenIn]; done) | decide +kernel
theorem ef2 (m : MethodId) (x0 : Addr) : entryFrame m #[(.ref x0)] 1 = mkF m 0 #[.val (.ref x0)] [] := by first | (simp [entryFrame, mkF, argsToLocals, Value.category]; done) | rfl
def Q_rmHM (Z : State) (a : Addr) (h0 : Heap) (n0 : Nat) (v : Option Value) (h : Heap) (L : List Loc) : Prop := v = none ∧ Fr n0 L ∧ Keep h0 h [a] ∧ Exa Z h a "java/util/LinkedHashMap" ∧ Fld Z h a "java/util/LinkedHashMap" "putMode" "I" (.int (0 : Int32)) ∧ Fld Z h a "java/util/LinkedHashMap" "accessOrder" "Z" (.int (0 : Int32))
theorem pd0 : parseMethodDescriptor "()V" = some ⟨[], none⟩ := by decide +kernel
set_option maxRecDepth 65536 in
set_option maxHeartbeats 40000000 in
theorem rmHM (l : Launch) (Z : State) (a0 : Array Value) (hw : ∀ d ∈ tables_1, d.before a0 Z = true) (ws : List Jvm.Cond) (a : Addr) (h0 : Heap) (n0 : Nat) (Z0 : n0 ≤ h0.size) (F_loadFactor : Fld Z h0 a "java/util/HashMap" "loadFactor" "F" (.float (0 : UInt32))) (F_putMode : Fld Z h0 a "java/util/LinkedHashMap" "putMode" "I" (.int (0 : Int32))) (F_accessOrder : Fld Z h0 a "java/util/LinkedHashMap" "accessOrder" "Z" (.int (0 : Int32))) (EXa : Exa Z h0 a "java/util/LinkedHashMap") (la : n0 ≤ a) :
    Con l Z (⟨"java/util/HashMap", "<init>", "()V"⟩ : MethodName) jdk_69_method_7_code 1 none ws ({ frames := 2, cells := 0, slots := 0, locals := 24 } : Room) #[(.ref a)] h0 (({ frames := 2, cells := 0, slots := 0, locals := 24 } : Room).cells) (({ frames := 2, cells := 0, slots := 0, locals := 24 } : Room).slots) (Q_rmHM Z a h0 n0) := by
  refine Con.of (plainFor_of_name pn2) ?_
  intro p e s m below meth c s₁ hx hby hml hown hnm hret hlk hZ X0 e0
  have N0 := Fr.nil n0
  refine goE (L := #[.val (.ref a)]) (ef2 m a) ?_
  refine gAloadN X0 hx (hb hby d4_0) (q := 1) rfl rfl rfl ?_
  refine gCallN X0 hx hZ rfl hown (hw _ (List.mem_of_getElem? (i := 22) rfl)) (hw _ (List.mem_of_getElem? (i := 23) rfl)) (hw _ (List.mem_of_getElem? (i := 26) rfl)) (hw _ (List.mem_of_getElem? (i := 27) rfl)) (by decide) (rmAM l Z a0 hw [] a h0 n0 Z0) (W := 0) (by decide) (by decide) e0 (by rw [hml]; rfl) [] (lenOf pd0 rfl) rfl (S := []) rfl (Nat.le_of_eq rfl) (hb hby d4_1) (q := 4) rfl (by decide) (by decide) (fun r1 T1 M1 X1 q1 => ?_)
  obtain ⟨rfl, M1n, e1⟩ := q1
  have N2 := Fr.app N0 M1n
  dsimp only [Option.toList, List.cons_append, List.nil_append]
  refine gAloadN X1 hx (hb hby d4_4) (q := 5) rfl rfl rfl ?_
  refine gLdcF X1 hx hZ hown (hw _ (List.mem_of_getElem? (i := 29) rfl)) (hb hby d4_5) (q := 7) rfl ?_
  refine gPutF X1 hx hZ (host := "") hown (Or.inl (hw _ (List.mem_of_getElem? (i := 30) rfl))) Via.refl e1 F_loadFactor EXa (Or.inr ⟨(hw _ (List.mem_of_getElem? (i := 31) rfl)), rfl, hnm⟩) (hw _ (List.mem_of_getElem? (i := 11) rfl)) (ty := .float) (by decide) rfl rfl (hb hby d4_7) (q := 10) rfl (fun T3 h3 X3 e3 W3 => ?_)
  have N4 := Fr.snoc X3 N2 la
  have K5 := (Keep.refl h0 [a]).wr W3 (Or.inl (List.mem_of_getElem? (i := 0) rfl))
  have F6 := Fld.same W3 F_loadFactor
  have F7 := Fld.other W3 F_putMode (Or.inr (slot_ne (Or.inl (hw _ (List.mem_of_getElem? (i := 33) rfl))) (Or.inr (hw _ (List.mem_of_getElem? (i := 31) rfl))) (by decide) (t := .int) (by decide) (t' := .float) (by decide)))
  have F8 := Fld.other W3 F_accessOrder (Or.inr (slot_ne (Or.inr (hw _ (List.mem_of_getElem? (i := 35) rfl))) (Or.inr (hw _ (List.mem_of_getElem? (i := 31) rfl))) (by decide) (t := .boolean) (by decide) (t' := .float) (by decide)))
  have E9 := Exa.wr W3 EXa
  have Z10 : n0 ≤ h3.size := by rw [W3.size]; exact Z0
  exact gRetV X3 hx hlk hret (hb hby d4_10) (by decide) (by decide) (by rw [e3]; exact ⟨rfl, N4, K5, E9, F7, F8⟩)
theorem d3_0 : decode jdk_94_method_16_code 0 = .ok (.aload_n 0, 1) := by decide +kernel
theorem d3_1 : decode jdk_94_method_16_code 1 = .ok (.invokespecial 87, 3) := by decide +kernel
theorem d3_4 : decode jdk_94_method_16_code 4 = .ok (.aload_n 0, 1) := by decide +kernel
theorem d3_5 : decode jdk_94_method_16_code 5 = .ok (.iconst 0, 1) := by decide +kernel
theorem d3_6 : decode jdk_94_method_16_code 6 = .ok (.putfield 1, 3) := by decide +kernel
theorem d3_9 : decode jdk_94_method_16_code 9 = .ok (.aload_n 0, 1) := by decide +kernel
theorem d3_10 : decode jdk_94_method_16_code 10 = .ok (.iconst 0, 1) := by decide +kernel
theorem d3_11 : decode jdk_94_method_16_code 11 = .ok (.putfield 64, 3) := by decide +kernel
theorem d3_14 : decode jdk_94_method_16_code 14 = .ok (.return_, 1) := by decide +kernel
theorem pn3 : plainName "java/util/LinkedHashMap" = true := by first | (simp [plainName, overriddenIn]; done) | decide +kernel
theorem ef3 (m : MethodId) (x0 : Addr) : entryFrame m #[(.ref x0)] 1 = mkF m 0 #[.val (.ref x0)] [] := by first | (simp [entryFrame, mkF, argsToLocals, Value.category]; done) | rfl
def Q_rmLH (Z : State) (a : Addr) (h0 : Heap) (n0 : Nat) (v : Option Value) (h : Heap) (L : List Loc) : Prop := v = none ∧ Fr n0 L ∧ Keep h0 h [a] ∧ Exa Z h a "java/util/LinkedHashMap"
set_option maxRecDepth 65536 in
set_option maxHeartbeats 40000000 in
theorem rmLH (l : Launch) (Z : State) (a0 : Array Value) (hw : ∀ d ∈ tables_1, d.before a0 Z = true) (ws : List Jvm.Cond) (a : Addr) (h0 : Heap) (n0 : Nat) (Z0 : n0 ≤ h0.size) (F_loadFactor : Fld Z h0 a "java/util/HashMap" "loadFactor" "F" (.float (0 : UInt32))) (F_putMode : Fld Z h0 a "java/util/LinkedHashMap" "putMode" "I" (.int (0 : Int32))) (F_accessOrder : Fld Z h0 a "java/util/LinkedHashMap" "accessOrder" "Z" (.int (0 : Int32))) (EXa : Exa Z h0 a "java/util/LinkedHashMap") (la : n0 ≤ a) :
    Con l Z (⟨"java/util/LinkedHashMap", "<init>", "()V"⟩ : MethodName) jdk_94_method_16_code 1 none ws ({ frames := 3, cells := 0, slots := 0, locals := 36 } : Room) #[(.ref a)] h0 (({ frames := 3, cells := 0, slots := 0, locals := 36 } : Room).cells) (({ frames := 3, cells := 0, slots := 0, locals := 36 } : Room).slots) (Q_rmLH Z a h0 n0) := by
  refine Con.of (plainFor_of_name pn3) ?_
  intro p e s m below meth c s₁ hx hby hml hown hnm hret hlk hZ X0 e0
  have N0 := Fr.nil n0
  refine goE (L := #[.val (.ref a)]) (ef3 m a) ?_
  refine gAloadN X0 hx (hb hby d3_0) (q := 1) rfl rfl rfl ?_
  refine gCallN X0 hx hZ rfl hown (hw _ (List.mem_of_getElem? (i := 16) rfl)) (hw _ (List.mem_of_getElem? (i := 17) rfl)) (hw _ (List.mem_of_getElem? (i := 20) rfl)) (hw _ (List.mem_of_getElem? (i := 21) rfl)) (by decide) (rmHM l Z a0 hw [] a h0 n0 Z0 F_loadFactor F_putMode F_accessOrder EXa la ) (W := 0) (by decide) (by decide) e0 (by rw [hml]; rfl) [] (lenOf pd0 rfl) rfl (S := []) rfl (Nat.le_of_eq rfl) (hb hby d3_1) (q := 4) rfl (by decide) (by decide) (fun r1 T1 M1 X1 q1 => ?_)
  obtain ⟨rfl, M1n, K1, P1e, P1_0, P1_1⟩ := q1
  have N2 := Fr.app N0 M1n
  have Z4 := Nat.le_trans Z0 K1.1
  have KK5 := (Keep.refl h0 [a]).trans K1 (allS (Or.inl (List.mem_of_getElem? (i := 0) rfl)) all0)
  dsimp only [Option.toList, List.cons_append, List.nil_append]
  refine gAloadN X1 hx (hb hby d3_4) (q := 5) rfl rfl rfl ?_
  refine gIconst X1 hx (0 : Int32) (hb hby d3_5) (q := 6) rfl (by decide) ?_
  refine gPutF X1 hx hZ (host := "") hown (Or.inl (hw _ (List.mem_of_getElem? (i := 32) rfl))) Via.refl rfl P1_0 P1e (Or.inl (hw _ (List.mem_of_getElem? (i := 33) rfl))) (hw _ (List.mem_of_getElem? (i := 11) rfl)) (ty := .int) (by decide) rfl rfl (hb hby d3_6) (q := 9) rfl (fun T6 h6 X6 e6 W6 => ?_)
  have N7 := Fr.snoc X6 N2 la
  have K8 := KK5.wr W6 (Or.inl (List.mem_of_getElem? (i := 0) rfl))
  have E9 := Exa.wr W6 P1e
  have F10 := Fld.same W6 P1_0
  have F11 := Fld.other W6 P1_1 (Or.inr (slot_ne (Or.inr (hw _ (List.mem_of_getElem? (i := 35) rfl))) (Or.inl (hw _ (List.mem_of_getElem? (i := 33) rfl))) (by decide) (t := .boolean) (by decide) (t' := .int) (by decide)))
  have Z12 : n0 ≤ h6.size := by rw [W6.size]; exact Z4
  refine gAloadN X6 hx (hb hby d3_9) (q := 10) rfl rfl rfl ?_
  refine gIconst X6 hx (0 : Int32) (hb hby d3_10) (q := 11) rfl (by decide) ?_
  refine gPutF X6 hx hZ (host := "") hown (Or.inl (hw _ (List.mem_of_getElem? (i := 34) rfl))) Via.refl e6 F11 E9 (Or.inr ⟨(hw _ (List.mem_of_getElem? (i := 35) rfl)), rfl, hnm⟩) (hw _ (List.mem_of_getElem? (i := 11) rfl)) (ty := .boolean) (by decide) rfl rfl (hb hby d3_11) (q := 14) rfl (fun T13 h13 X13 e13 W13 => ?_)
  have N14 := Fr.snoc X13 N7 la
  have K15 := K8.wr W13 (Or.inl (List.mem_of_getElem? (i := 0) rfl))
  have E16 := Exa.wr W13 E9
  have F17 := Fld.other W13 F10 (Or.inr (slot_ne (Or.inl (hw _ (List.mem_of_getElem? (i := 33) rfl))) (Or.inr (hw _ (List.mem_of_getElem? (i := 35) rfl))) (by decide) (t := .int) (by decide) (t' := .boolean) (by decide)))
  have F18 := Fld.same W13 F11
  have Z19 : n0 ≤ h13.size := by rw [W13.size]; exact Z12
  exact gRetV X13 hx hlk hret (hb hby d3_14) (by decide) (by decide) (by rw [e13]; exact ⟨rfl, N14, K15, E16⟩)
theorem d7_0 : decode jdk_39_method_1_code 0 = .ok (.aload_n 0, 1) := by decide +kernel
theorem d7_1 : decode jdk_39_method_1_code 1 = .ok (.invokespecial 1, 3) := by decide +kernel
theorem d7_4 : decode jdk_39_method_1_code 4 = .ok (.aload_n 0, 1) := by decide +kernel
theorem d7_5 : decode jdk_39_method_1_code 5 = .ok (.iconst 0, 1) := by decide +kernel
theorem d7_6 : decode jdk_39_method_1_code 6 = .ok (.putfield 7, 3) := by decide +kernel
theorem d7_9 : decode jdk_39_method_1_code 9 = .ok (.return_, 1) := by decide +kernel
theorem pn4 : plainName "java/util/AbstractList" = true := by first | (simp [plainName, overriddenIn]; done) | decide +kernel
theorem ef4 (m : MethodId) (x0 : Addr) : entryFrame m #[(.ref x0)] 1 = mkF m 0 #[.val (.ref x0)] [] := by first | (simp [entryFrame, mkF, argsToLocals, Value.category]; done) | rfl
def Q_rmAb (Z : State) (a : Addr) (h0 : Heap) (n0 : Nat) (v : Option Value) (h : Heap) (L : List Loc) : Prop := v = none ∧ Fr n0 L ∧ Keep h0 h [a] ∧ Exa Z h a "java/util/ArrayList" ∧ Fld Z h a "java/util/ArrayList" "elementData" "[Ljava/lang/Object;" (.null)
set_option maxRecDepth 65536 in
set_option maxHeartbeats 40000000 in
theorem rmAb (l : Launch) (Z : State) (a0 : Array Value) (hw : ∀ d ∈ tables_1, d.before a0 Z = true) (ws : List Jvm.Cond) (a : Addr) (h0 : Heap) (n0 : Nat) (Z0 : n0 ≤ h0.size) (F_modCount : Fld Z h0 a "java/util/AbstractList" "modCount" "I" (.int (0 : Int32))) (F_elementData : Fld Z h0 a "java/util/ArrayList" "elementData" "[Ljava/lang/Object;" (.null)) (EXa : Exa Z h0 a "java/util/ArrayList") (la : n0 ≤ a) :
    Con l Z (⟨"java/util/AbstractList", "<init>", "()V"⟩ : MethodName) jdk_39_method_1_code 1 none ws ({ frames := 2, cells := 0, slots := 0, locals := 24 } : Room) #[(.ref a)] h0 (({ frames := 2, cells := 0, slots := 0, locals := 24 } : Room).cells) (({ frames := 2, cells := 0, slots := 0, locals := 24 } : Room).slots) (Q_rmAb Z a h0 n0) := by
  refine Con.of (plainFor_of_name pn4) ?_
  intro p e s m below meth c s₁ hx hby hml hown hnm hret hlk hZ X0 e0
  have N0 := Fr.nil n0
  refine goE (L := #[.val (.ref a)]) (ef4 m a) ?_
  refine gAloadN X0 hx (hb hby d7_0) (q := 1) rfl rfl rfl ?_
  refine gCallN X0 hx hZ rfl hown (hw _ (List.mem_of_getElem? (i := 50) rfl)) (hw _ (List.mem_of_getElem? (i := 51) rfl)) (hw _ (List.mem_of_getElem? (i := 54) rfl)) (hw _ (List.mem_of_getElem? (i := 55) rfl)) (by decide) (rmAC l Z a0 hw [] a h0 n0 Z0) (W := 0) (by decide) (by decide) e0 (by rw [hml]; rfl) [] (lenOf pd0 rfl) rfl (S := []) rfl (Nat.le_of_eq rfl) (hb hby d7_1) (q := 4) rfl (by decide) (by decide) (fun r1 T1 M1 X1 q1 => ?_)
  obtain ⟨rfl, M1n, e1⟩ := q1
  have N2 := Fr.app N0 M1n
  dsimp only [Option.toList, List.cons_append, List.nil_append]
  refine gAloadN X1 hx (hb hby d7_4) (q := 5) rfl rfl rfl ?_
  refine gIconst X1 hx (0 : Int32) (hb hby d7_5) (q := 6) rfl (by decide) ?_
  refine gPutF X1 hx hZ (host := "") hown (Or.inl (hw _ (List.mem_of_getElem? (i := 57) rfl))) Via.refl e1 F_modCount EXa (Or.inl (hw _ (List.mem_of_getElem? (i := 58) rfl))) (hw _ (List.mem_of_getElem? (i := 39) rfl)) (ty := .int) (by decide) rfl rfl (hb hby d7_6) (q := 9) rfl (fun T3 h3 X3 e3 W3 => ?_)
  have N4 := Fr.snoc X3 N2 la
  have K5 := (Keep.refl h0 [a]).wr W3 (Or.inl (List.mem_of_getElem? (i := 0) rfl))
  have F6 := Fld.same W3 F_modCount
  have F7 := Fld.other W3 F_elementData (Or.inr (slot_ne (Or.inl (hw _ (List.mem_of_getElem? (i := 61) rfl))) (Or.inl (hw _ (List.mem_of_getElem? (i := 58) rfl))) (by decide) (t := .array (.object "java/lang/Object")) (by decide) (t' := .int) (by decide)))
  have E8 := Exa.wr W3 EXa
  have Z9 : n0 ≤ h3.size := by rw [W3.size]; exact Z0
  exact gRetV X3 hx hlk hret (hb hby d7_9) (by decide) (by decide) (by rw [e3]; exact ⟨rfl, N4, K5, E8, F7⟩)
theorem d6_0 : decode jdk_38_method_2_code 0 = .ok (.aload_n 0, 1) := by decide +kernel
theorem d6_1 : decode jdk_38_method_2_code 1 = .ok (.invokespecial 1, 3) := by decide +kernel
theorem d6_4 : decode jdk_38_method_2_code 4 = .ok (.aload_n 0, 1) := by decide +kernel
theorem d6_5 : decode jdk_38_method_2_code 5 = .ok (.getstatic 39, 3) := by decide +kernel
theorem d6_8 : decode jdk_38_method_2_code 8 = .ok (.putfield 9, 3) := by decide +kernel
theorem d6_11 : decode jdk_38_method_2_code 11 = .ok (.return_, 1) := by decide +kernel
theorem pn5 : plainName "java/util/ArrayList" = true := by first | (simp [plainName, overriddenIn]; done) | decide +kernel
theorem ef5 (m : MethodId) (x0 : Addr) : entryFrame m #[(.ref x0)] 1 = mkF m 0 #[.val (.ref x0)] [] := by first | (simp [entryFrame, mkF, argsToLocals, Value.category]; done) | rfl
def Q_rmAL (Z : State) (a : Addr) (h0 : Heap) (n0 : Nat) (v : Option Value) (h : Heap) (L : List Loc) : Prop := v = none ∧ Fr n0 L ∧ Keep h0 h [a] ∧ Exa Z h a "java/util/ArrayList"
set_option maxRecDepth 65536 in
set_option maxHeartbeats 40000000 in
theorem rmAL (l : Launch) (Z : State) (a0 : Array Value) (hw : ∀ d ∈ tables_1, d.before a0 Z = true) (ws : List Jvm.Cond) (a : Addr) (h0 : Heap) (n0 : Nat) (Z0 : n0 ≤ h0.size) (F_modCount : Fld Z h0 a "java/util/AbstractList" "modCount" "I" (.int (0 : Int32))) (F_elementData : Fld Z h0 a "java/util/ArrayList" "elementData" "[Ljava/lang/Object;" (.null)) (EXa : Exa Z h0 a "java/util/ArrayList") (la : n0 ≤ a) (rd : Addr) (O0 : Old Z n0 h0) (SD : Sta Z Z.heap "java/util/ArrayList" "DEFAULTCAPACITY_EMPTY_ELEMENTDATA" "[Ljava/lang/Object;" (.ref rd)) :
    Con l Z (⟨"java/util/ArrayList", "<init>", "()V"⟩ : MethodName) jdk_38_method_2_code 1 none ws ({ frames := 3, cells := 0, slots := 0, locals := 36 } : Room) #[(.ref a)] h0 (({ frames := 3, cells := 0, slots := 0, locals := 36 } : Room).cells) (({ frames := 3, cells := 0, slots := 0, locals := 36 } : Room).slots) (Q_rmAL Z a h0 n0) := by
  refine Con.of (plainFor_of_name pn5) ?_
  intro p e s m below meth c s₁ hx hby hml hown hnm hret hlk hZ X0 e0
  have N0 := Fr.nil n0
  refine goE (L := #[.val (.ref a)]) (ef5 m a) ?_
  refine gAloadN X0 hx (hb hby d6_0) (q := 1) rfl rfl rfl ?_
  refine gCallN X0 hx hZ rfl hown (hw _ (List.mem_of_getElem? (i := 44) rfl)) (hw _ (List.mem_of_getElem? (i := 45) rfl)) (hw _ (List.mem_of_getElem? (i := 48) rfl)) (hw _ (List.mem_of_getElem? (i := 49) rfl)) (by decide) (rmAb l Z a0 hw [] a h0 n0 Z0 F_modCount F_elementData EXa la ) (W := 0) (by decide) (by decide) e0 (by rw [hml]; rfl) [] (lenOf pd0 rfl) rfl (S := []) rfl (Nat.le_of_eq rfl) (hb hby d6_1) (q := 4) rfl (by decide) (by decide) (fun r1 T1 M1 X1 q1 => ?_)
  obtain ⟨rfl, M1n, K1, P1e, P1_0⟩ := q1
  have N2 := Fr.app N0 M1n
  have O4 := O0.keep K1 (allS la all0)
  have Z5 := Nat.le_trans Z0 K1.1
  have KK6 := (Keep.refl h0 [a]).trans K1 (allS (Or.inl (List.mem_of_getElem? (i := 0) rfl)) all0)
  dsimp only [Option.toList, List.cons_append, List.nil_append]
  refine gAloadN X1 hx (hb hby d6_4) (q := 5) rfl rfl rfl ?_
  refine gGetS X1 hx hZ hown (hw _ (List.mem_of_getElem? (i := 59) rfl)) Via.refl rfl (Sta.ext O4.2 SD) (hb hby d6_5) (q := 8) rfl (fun T7 X7 e7 => ?_)
  refine gPutF X7 hx hZ (host := "") hown (Or.inl (hw _ (List.mem_of_getElem? (i := 60) rfl))) Via.refl e7 P1_0 P1e (Or.inl (hw _ (List.mem_of_getElem? (i := 61) rfl))) (hw _ (List.mem_of_getElem? (i := 39) rfl)) (ty := .array (.object "java/lang/Object")) (by decide) rfl rfl (hb hby d6_8) (q := 11) rfl (fun T8 h8 X8 e8 W8 => ?_)
  have N9 := Fr.snoc X8 N2 la
  have K10 := KK6.wr W8 (Or.inl (List.mem_of_getElem? (i := 0) rfl))
  have E11 := Exa.wr W8 P1e
  have F12 := Fld.same W8 P1_0
  have O13 := O4.wr W8 la
  have Z14 : n0 ≤ h8.size := by rw [W8.size]; exact Z5
  exact gRetV X8 hx hlk hret (hb hby d6_11) (by decide) (by decide) (by rw [e8]; exact ⟨rfl, N9, K10, E11⟩)
theorem d1_0 : decode prog_43_method_1_code 0 = .ok (.aload_n 0, 1) := by decide +kernel
theorem d1_1 : decode prog_43_method_1_code 1 = .ok (.invokespecial 1, 3) := by decide +kernel
theorem d1_4 : decode prog_43_method_1_code 4 = .ok (.aload_n 0, 1) := by decide +kernel
theorem d1_5 : decode prog_43_method_1_code 5 = .ok (.new 7, 3) := by decide +kernel
theorem d1_8 : decode prog_43_method_1_code 8 = .ok (.dup, 1) := by decide +kernel
theorem d1_9 : decode prog_43_method_1_code 9 = .ok (.invokespecial 9, 3) := by decide +kernel
theorem d1_12 : decode prog_43_method_1_code 12 = .ok (.putfield 10, 3) := by decide +kernel
theorem d1_15 : decode prog_43_method_1_code 15 = .ok (.aload_n 0, 1) := by decide +kernel
theorem d1_16 : decode prog_43_method_1_code 16 = .ok (.new 16, 3) := by decide +kernel
theorem d1_19 : decode prog_43_method_1_code 19 = .ok (.dup, 1) := by decide +kernel
theorem d1_20 : decode prog_43_method_1_code 20 = .ok (.invokespecial 18, 3) := by decide +kernel
theorem d1_23 : decode prog_43_method_1_code 23 = .ok (.putfield 19, 3) := by decide +kernel
theorem d1_26 : decode prog_43_method_1_code 26 = .ok (.aload_n 0, 1) := by decide +kernel
theorem d1_27 : decode prog_43_method_1_code 27 = .ok (.new 16, 3) := by decide +kernel
theorem d1_30 : decode prog_43_method_1_code 30 = .ok (.dup, 1) := by decide +kernel
theorem d1_31 : decode prog_43_method_1_code 31 = .ok (.invokespecial 18, 3) := by decide +kernel
theorem d1_34 : decode prog_43_method_1_code 34 = .ok (.putfield 23, 3) := by decide +kernel
theorem d1_37 : decode prog_43_method_1_code 37 = .ok (.aload_n 0, 1) := by decide +kernel
theorem d1_38 : decode prog_43_method_1_code 38 = .ok (.new 7, 3) := by decide +kernel
theorem d1_41 : decode prog_43_method_1_code 41 = .ok (.dup, 1) := by decide +kernel
theorem d1_42 : decode prog_43_method_1_code 42 = .ok (.invokespecial 9, 3) := by decide +kernel
theorem d1_45 : decode prog_43_method_1_code 45 = .ok (.putfield 26, 3) := by decide +kernel
theorem d1_48 : decode prog_43_method_1_code 48 = .ok (.aload_n 0, 1) := by decide +kernel
theorem d1_49 : decode prog_43_method_1_code 49 = .ok (.aload_n 1, 1) := by decide +kernel
theorem d1_50 : decode prog_43_method_1_code 50 = .ok (.putfield 29, 3) := by decide +kernel
theorem d1_53 : decode prog_43_method_1_code 53 = .ok (.aload_n 0, 1) := by decide +kernel
theorem d1_54 : decode prog_43_method_1_code 54 = .ok (.aload_n 2, 1) := by decide +kernel
theorem d1_55 : decode prog_43_method_1_code 55 = .ok (.putfield 33, 3) := by decide +kernel
theorem d1_58 : decode prog_43_method_1_code 58 = .ok (.return_, 1) := by decide +kernel
theorem pn6 : plainName "com/example/hoarewright/hoarewright/loy/LoyClass" = true := by first | (simp [plainName, overriddenIn]; done) | decide +kernel
theorem ef6 (m : MethodId) (x0 : Addr) : entryFrame m #[(.ref x0), (.null), (.null)] 3 = mkF m 0 #[.val (.ref x0), .val (.null), .val (.null)] [] := by first | (simp [entryFrame, mkF, argsToLocals, Value.category]; done) | rfl
def Q_rmLoy (Z : State) (a : Addr) (h0 : Heap) (n0 : Nat) (v : Option Value) (h : Heap) (L : List Loc) : Prop := v = none ∧ Fr n0 L ∧ Keep h0 h [a] ∧ Exa Z h a "com/example/hoarewright/hoarewright/loy/LoyClass" ∧ Fld Z h a "com/example/hoarewright/hoarewright/loy/LoyClass" "superclass" "Lcom/example/hoarewright/hoarewright/loy/LoyClass;" (.null)
set_option maxRecDepth 65536 in
set_option maxHeartbeats 40000000 in
theorem rmLoy (l : Launch) (Z : State) (a0 : Array Value) (hw : ∀ d ∈ tables_1, d.before a0 Z = true) (ws : List Jvm.Cond) (a : Addr) (h0 : Heap) (n0 : Nat) (Z0 : n0 ≤ h0.size) (F_fields : Fld Z h0 a "com/example/hoarewright/hoarewright/loy/LoyClass" "fields" "Ljava/util/Map;" (.null)) (F_invariants : Fld Z h0 a "com/example/hoarewright/hoarewright/loy/LoyClass" "invariants" "Ljava/util/List;" (.null)) (F_depends : Fld Z h0 a "com/example/hoarewright/hoarewright/loy/LoyClass" "depends" "Ljava/util/List;" (.null)) (F_methods : Fld Z h0 a "com/example/hoarewright/hoarewright/loy/LoyClass" "methods" "Ljava/util/Map;" (.null)) (F_name : Fld Z h0 a "com/example/hoarewright/hoarewright/loy/LoyClass" "name" "Ljava/lang/String;" (.null)) (F_location : Fld Z h0 a "com/example/hoarewright/hoarewright/loy/LoyClass" "location" "Lcom/example/hoarewright/hoarewright/analysis/Location;" (.null)) (F_superclass : Fld Z h0 a "com/example/hoarewright/hoarewright/loy/LoyClass" "superclass" "Lcom/example/hoarewright/hoarewright/loy/LoyClass;" (.null)) (EXa : Exa Z h0 a "com/example/hoarewright/hoarewright/loy/LoyClass") (la : n0 ≤ a) (rd : Addr) (O0 : Old Z n0 h0) (SD : Sta Z Z.heap "java/util/ArrayList" "DEFAULTCAPACITY_EMPTY_ELEMENTDATA" "[Ljava/lang/Object;" (.ref rd)) :
    Con l Z (⟨"com/example/hoarewright/hoarewright/loy/LoyClass", "<init>", "(Ljava/lang/String;Lcom/example/hoarewright/hoarewright/analysis/Location;)V"⟩ : MethodName) prog_43_method_1_code 3 none ws ({ frames := 4, cells := 4, slots := 30, locals := 50 } : Room) #[(.ref a), (.null), (.null)] h0 (({ frames := 4, cells := 4, slots := 30, locals := 50 } : Room).cells) (({ frames := 4, cells := 4, slots := 30, locals := 50 } : Room).slots) (Q_rmLoy Z a h0 n0) := by
  refine Con.of (plainFor_of_name pn6) ?_
  intro p e s m below meth c s₁ hx hby hml hown hnm hret hlk hZ X0 e0
  have N0 := Fr.nil n0
  refine goE (L := #[.val (.ref a), .val (.null), .val (.null)]) (ef6 m a) ?_
  refine gAloadN X0 hx (hb hby d1_0) (q := 1) rfl rfl rfl ?_
  refine gInitO X0 hx hZ hown (hw _ (List.mem_of_getElem? (i := 7) rfl)) (hw _ (List.mem_of_getElem? (i := 8) rfl)) (hw _ (List.mem_of_getElem? (i := 9) rfl)) e0 (by rw [hml]; rfl) (hb hby d1_1) (q := 4) rfl (by decide) (W := 0) (Nat.le_of_eq rfl) (by decide) (fun T1 X1 e1 => ?_)
  refine gAloadN X1 hx (hb hby d1_4) (q := 5) rfl rfl rfl ?_
  refine gNewO X1 hx hZ hown (hw _ (List.mem_of_getElem? (i := 10) rfl)) (hw _ (List.mem_of_getElem? (i := 11) rfl)) (hw _ (List.mem_of_getElem? (i := 12) rfl)) e1 (hb hby d1_5) (q := 8) rfl (by decide) (by decide) (fun T2 h2 a2 X2 e2 g2 E2 A2 D2 => ?_)
  have F3 := Fld.ext E2 F_fields
  have F4 := Fld.ext E2 F_invariants
  have F5 := Fld.ext E2 F_depends
  have F6 := Fld.ext E2 F_methods
  have F7 := Fld.ext E2 F_name
  have F8 := Fld.ext E2 F_location
  have F9 := Fld.ext E2 F_superclass
  have E10 := Exa.ext E2 EXa
  have O11 := O0.ext E2
  have ge_a2 : h0.size ≤ a2 := by rw [g2]; exact (Keep.refl h0 [a]).1
  have K12 := (Keep.refl h0 [a]).ext E2
  have le_a2 : n0 ≤ a2 := by rw [g2]; exact Z0
  have ne_a_a2 : a ≠ a2 := by rw [g2]; exact Nat.ne_of_lt EXa.lt
  have Z13 := Nat.le_trans Z0 E2.1
  have F14 : Fld Z h2 a2 "java/util/HashMap" "loadFactor" "F" (.float (0 : UInt32)) := D2 (Or.inr (hw _ (List.mem_of_getElem? (i := 31) rfl))) (ty := .float) (by decide)
  have F15 : Fld Z h2 a2 "java/util/LinkedHashMap" "putMode" "I" (.int (0 : Int32)) := D2 (Or.inl (hw _ (List.mem_of_getElem? (i := 33) rfl))) (ty := .int) (by decide)
  have F16 : Fld Z h2 a2 "java/util/LinkedHashMap" "accessOrder" "Z" (.int (0 : Int32)) := D2 (Or.inr (hw _ (List.mem_of_getElem? (i := 35) rfl))) (ty := .boolean) (by decide)
  clear D2
  refine gDup X2 hx (hb hby d1_8) (q := 9) rfl rfl ?_
  refine gCallN X2 hx hZ rfl hown (hw _ (List.mem_of_getElem? (i := 13) rfl)) (hw _ (List.mem_of_getElem? (i := 14) rfl)) (hw _ (List.mem_of_getElem? (i := 12) rfl)) (hw _ (List.mem_of_getElem? (i := 15) rfl)) (by decide) (rmLH l Z a0 hw [] a2 h2 n0 Z13 F14 F15 F16 A2 le_a2 ) (W := 2) (by decide) (by decide) e2 (by rw [hml]; rfl) [] (lenOf pd0 rfl) rfl (S := [(.ref a2), (.ref a)]) rfl (Nat.le_of_eq rfl) (hb hby d1_9) (q := 12) rfl (by decide) (by decide) (fun r17 T17 M17 X17 q17 => ?_)
  obtain ⟨rfl, M17n, K17, P17e⟩ := q17
  have N18 := Fr.app N0 M17n
  have F19 := Fld.keep F3 K17 (ninS ne_a_a2 nin0)
  have F20 := Fld.keep F4 K17 (ninS ne_a_a2 nin0)
  have F21 := Fld.keep F5 K17 (ninS ne_a_a2 nin0)
  have F22 := Fld.keep F6 K17 (ninS ne_a_a2 nin0)
  have F23 := Fld.keep F7 K17 (ninS ne_a_a2 nin0)
  have F24 := Fld.keep F8 K17 (ninS ne_a_a2 nin0)
  have F25 := Fld.keep F9 K17 (ninS ne_a_a2 nin0)
  have E26 := Exa.keep E10 K17
  have O30 := O11.keep K17 (allS le_a2 all0)
  have Z31 := Nat.le_trans Z13 K17.1
  have KK32 := K12.trans K17 (allS (Or.inr ge_a2) all0)
  dsimp only [Option.toList, List.cons_append, List.nil_append]
  refine gPutF X17 hx hZ (host := "") hown (Or.inl (hw _ (List.mem_of_getElem? (i := 36) rfl))) Via.refl rfl F19 E26 (Or.inr ⟨(hw _ (List.mem_of_getElem? (i := 37) rfl)), rfl, hnm⟩) (hw _ (List.mem_of_getElem? (i := 2) rfl)) (ty := .object "java/util/Map") (by decide) rfl rfl (hb hby d1_12) (q := 15) rfl (fun T33 h33 X33 e33 W33 => ?_)
  have N34 := Fr.snoc X33 N18 la
  have K35 := KK32.wr W33 (Or.inl (List.mem_of_getElem? (i := 0) rfl))
  have F36 := Fld.same W33 F19
  have F37 := Fld.other W33 F20 (Or.inr (slot_ne (Or.inr (hw _ (List.mem_of_getElem? (i := 63) rfl))) (Or.inr (hw _ (List.mem_of_getElem? (i := 37) rfl))) (by decide) (t := .object "java/util/List") (by decide) (t' := .object "java/util/Map") (by decide)))
  have F38 := Fld.other W33 F21 (Or.inr (slot_ne (Or.inr (hw _ (List.mem_of_getElem? (i := 65) rfl))) (Or.inr (hw _ (List.mem_of_getElem? (i := 37) rfl))) (by decide) (t := .object "java/util/List") (by decide) (t' := .object "java/util/Map") (by decide)))
  have F39 := Fld.other W33 F22 (Or.inr (slot_ne (Or.inr (hw _ (List.mem_of_getElem? (i := 67) rfl))) (Or.inr (hw _ (List.mem_of_getElem? (i := 37) rfl))) (by decide) (t := .object "java/util/Map") (by decide) (t' := .object "java/util/Map") (by decide)))
  have F40 := Fld.other W33 F23 (Or.inr (slot_ne (Or.inr (hw _ (List.mem_of_getElem? (i := 69) rfl))) (Or.inr (hw _ (List.mem_of_getElem? (i := 37) rfl))) (by decide) (t := .object "java/lang/String") (by decide) (t' := .object "java/util/Map") (by decide)))
  have F41 := Fld.other W33 F24 (Or.inr (slot_ne (Or.inr (hw _ (List.mem_of_getElem? (i := 71) rfl))) (Or.inr (hw _ (List.mem_of_getElem? (i := 37) rfl))) (by decide) (t := .object "com/example/hoarewright/hoarewright/analysis/Location") (by decide) (t' := .object "java/util/Map") (by decide)))
  have F42 := Fld.other W33 F25 (Or.inr (slot_ne (Or.inl (hw _ (List.mem_of_getElem? (i := 81) rfl))) (Or.inr (hw _ (List.mem_of_getElem? (i := 37) rfl))) (by decide) (t := .object "com/example/hoarewright/hoarewright/loy/LoyClass") (by decide) (t' := .object "java/util/Map") (by decide)))
  have E43 := Exa.wr W33 E26
  have E44 := Exa.wr W33 P17e
  have O45 := O30.wr W33 la
  have Z46 : n0 ≤ h33.size := by rw [W33.size]; exact Z31
  refine gAloadN X33 hx (hb hby d1_15) (q := 16) rfl rfl rfl ?_
  refine gNewO X33 hx hZ hown (hw _ (List.mem_of_getElem? (i := 38) rfl)) (hw _ (List.mem_of_getElem? (i := 39) rfl)) (hw _ (List.mem_of_getElem? (i := 40) rfl)) e33 (hb hby d1_16) (q := 19) rfl (by decide) (by decide) (fun T47 h47 a47 X47 e47 g47 E47 A47 D47 => ?_)
  have F48 := Fld.ext E47 F36
  have F49 := Fld.ext E47 F37
  have F50 := Fld.ext E47 F38
  have F51 := Fld.ext E47 F39
  have F52 := Fld.ext E47 F40
  have F53 := Fld.ext E47 F41
  have F54 := Fld.ext E47 F42
  have E55 := Exa.ext E47 E43
  have E56 := Exa.ext E47 E44
  have O57 := O45.ext E47
  have ge_a47 : h0.size ≤ a47 := by rw [g47]; exact K35.1
  have K58 := K35.ext E47
  have le_a47 : n0 ≤ a47 := by rw [g47]; exact Z46
  have ne_a_a47 : a ≠ a47 := by rw [g47]; exact Nat.ne_of_lt E43.lt
  have ne_a2_a47 : a2 ≠ a47 := by rw [g47]; exact Nat.ne_of_lt E44.lt
  have Z59 := Nat.le_trans Z46 E47.1
  have F60 : Fld Z h47 a47 "java/util/AbstractList" "modCount" "I" (.int (0 : Int32)) := D47 (Or.inl (hw _ (List.mem_of_getElem? (i := 58) rfl))) (ty := .int) (by decide)
  have F61 : Fld Z h47 a47 "java/util/ArrayList" "elementData" "[Ljava/lang/Object;" (.null) := D47 (Or.inl (hw _ (List.mem_of_getElem? (i := 61) rfl))) (ty := .array (.object "java/lang/Object")) (by decide)
  clear D47
  refine gDup X47 hx (hb hby d1_19) (q := 20) rfl rfl ?_
  refine gCallN X47 hx hZ rfl hown (hw _ (List.mem_of_getElem? (i := 41) rfl)) (hw _ (List.mem_of_getElem? (i := 42) rfl)) (hw _ (List.mem_of_getElem? (i := 40) rfl)) (hw _ (List.mem_of_getElem? (i := 43) rfl)) (by decide) (rmAL l Z a0 hw [] a47 h47 n0 Z59 F60 F61 A47 le_a47 rd O57 SD) (W := 2) (by decide) (by decide) e47 (by rw [hml]; rfl) [] (lenOf pd0 rfl) rfl (S := [(.ref a47), (.ref a)]) rfl (Nat.le_of_eq rfl) (hb hby d1_20) (q := 23) rfl (by decide) (by decide) (fun r62 T62 M62 X62 q62 => ?_)
  obtain ⟨rfl, M62n, K62, P62e⟩ := q62
  have N63 := Fr.app N34 M62n
  have F64 := Fld.keep F48 K62 (ninS ne_a_a47 nin0)
  have F65 := Fld.keep F49 K62 (ninS ne_a_a47 nin0)
  have F66 := Fld.keep F50 K62 (ninS ne_a_a47 nin0)
  have F67 := Fld.keep F51 K62 (ninS ne_a_a47 nin0)
  have F68 := Fld.keep F52 K62 (ninS ne_a_a47 nin0)
  have F69 := Fld.keep F53 K62 (ninS ne_a_a47 nin0)
  have F70 := Fld.keep F54 K62 (ninS ne_a_a47 nin0)
  have E71 := Exa.keep E55 K62
  have E72 := Exa.keep E56 K62
  have O75 := O57.keep K62 (allS le_a47 all0)
  have Z76 := Nat.le_trans Z59 K62.1
  have KK77 := K58.trans K62 (allS (Or.inr ge_a47) all0)
  dsimp only [Option.toList, List.cons_append, List.nil_append]
  refine gPutF X62 hx hZ (host := "") hown (Or.inl (hw _ (List.mem_of_getElem? (i := 62) rfl))) Via.refl rfl F65 E71 (Or.inr ⟨(hw _ (List.mem_of_getElem? (i := 63) rfl)), rfl, hnm⟩) (hw _ (List.mem_of_getElem? (i := 2) rfl)) (ty := .object "java/util/List") (by decide) rfl rfl (hb hby d1_23) (q := 26) rfl (fun T78 h78 X78 e78 W78 => ?_)
  have N79 := Fr.snoc X78 N63 la
  have K80 := KK77.wr W78 (Or.inl (List.mem_of_getElem? (i := 0) rfl))
  have F81 := Fld.other W78 F64 (Or.inr (slot_ne (Or.inr (hw _ (List.mem_of_getElem? (i := 37) rfl))) (Or.inr (hw _ (List.mem_of_getElem? (i := 63) rfl))) (by decide) (t := .object "java/util/Map") (by decide) (t' := .object "java/util/List") (by decide)))
  have F82 := Fld.same W78 F65
  have F83 := Fld.other W78 F66 (Or.inr (slot_ne (Or.inr (hw _ (List.mem_of_getElem? (i := 65) rfl))) (Or.inr (hw _ (List.mem_of_getElem? (i := 63) rfl))) (by decide) (t := .object "java/util/List") (by decide) (t' := .object "java/util/List") (by decide)))
  have F84 := Fld.other W78 F67 (Or.inr (slot_ne (Or.inr (hw _ (List.mem_of_getElem? (i := 67) rfl))) (Or.inr (hw _ (List.mem_of_getElem? (i := 63) rfl))) (by decide) (t := .object "java/util/Map") (by decide) (t' := .object "java/util/List") (by decide)))
  have F85 := Fld.other W78 F68 (Or.inr (slot_ne (Or.inr (hw _ (List.mem_of_getElem? (i := 69) rfl))) (Or.inr (hw _ (List.mem_of_getElem? (i := 63) rfl))) (by decide) (t := .object "java/lang/String") (by decide) (t' := .object "java/util/List") (by decide)))
  have F86 := Fld.other W78 F69 (Or.inr (slot_ne (Or.inr (hw _ (List.mem_of_getElem? (i := 71) rfl))) (Or.inr (hw _ (List.mem_of_getElem? (i := 63) rfl))) (by decide) (t := .object "com/example/hoarewright/hoarewright/analysis/Location") (by decide) (t' := .object "java/util/List") (by decide)))
  have F87 := Fld.other W78 F70 (Or.inr (slot_ne (Or.inl (hw _ (List.mem_of_getElem? (i := 81) rfl))) (Or.inr (hw _ (List.mem_of_getElem? (i := 63) rfl))) (by decide) (t := .object "com/example/hoarewright/hoarewright/loy/LoyClass") (by decide) (t' := .object "java/util/List") (by decide)))
  have E88 := Exa.wr W78 E71
  have E89 := Exa.wr W78 E72
  have E90 := Exa.wr W78 P62e
  have O91 := O75.wr W78 la
  have Z92 : n0 ≤ h78.size := by rw [W78.size]; exact Z76
  refine gAloadN X78 hx (hb hby d1_26) (q := 27) rfl rfl rfl ?_
  refine gNewO X78 hx hZ hown (hw _ (List.mem_of_getElem? (i := 38) rfl)) (hw _ (List.mem_of_getElem? (i := 39) rfl)) (hw _ (List.mem_of_getElem? (i := 40) rfl)) e78 (hb hby d1_27) (q := 30) rfl (by decide) (by decide) (fun T93 h93 a93 X93 e93 g93 E93 A93 D93 => ?_)
  have F94 := Fld.ext E93 F81
  have F95 := Fld.ext E93 F82
  have F96 := Fld.ext E93 F83
  have F97 := Fld.ext E93 F84
  have F98 := Fld.ext E93 F85
  have F99 := Fld.ext E93 F86
  have F100 := Fld.ext E93 F87
  have E101 := Exa.ext E93 E88
  have E102 := Exa.ext E93 E89
  have E103 := Exa.ext E93 E90
  have O104 := O91.ext E93
  have ge_a93 : h0.size ≤ a93 := by rw [g93]; exact K80.1
  have K105 := K80.ext E93
  have le_a93 : n0 ≤ a93 := by rw [g93]; exact Z92
  have ne_a_a93 : a ≠ a93 := by rw [g93]; exact Nat.ne_of_lt E88.lt
  have ne_a2_a93 : a2 ≠ a93 := by rw [g93]; exact Nat.ne_of_lt E89.lt
  have ne_a47_a93 : a47 ≠ a93 := by rw [g93]; exact Nat.ne_of_lt E90.lt
  have Z106 := Nat.le_trans Z92 E93.1
  have F107 : Fld Z h93 a93 "java/util/AbstractList" "modCount" "I" (.int (0 : Int32)) := D93 (Or.inl (hw _ (List.mem_of_getElem? (i := 58) rfl))) (ty := .int) (by decide)
  have F108 : Fld Z h93 a93 "java/util/ArrayList" "elementData" "[Ljava/lang/Object;" (.null) := D93 (Or.inl (hw _ (List.mem_of_getElem? (i := 61) rfl))) (ty := .array (.object "java/lang/Object")) (by decide)
  clear D93
  refine gDup X93 hx (hb hby d1_30) (q := 31) rfl rfl ?_
  refine gCallN X93 hx hZ rfl hown (hw _ (List.mem_of_getElem? (i := 41) rfl)) (hw _ (List.mem_of_getElem? (i := 42) rfl)) (hw _ (List.mem_of_getElem? (i := 40) rfl)) (hw _ (List.mem_of_getElem? (i := 43) rfl)) (by decide) (rmAL l Z a0 hw [] a93 h93 n0 Z106 F107 F108 A93 le_a93 rd O104 SD) (W := 2) (by decide) (by decide) e93 (by rw [hml]; rfl) [] (lenOf pd0 rfl) rfl (S := [(.ref a93), (.ref a)]) rfl (Nat.le_of_eq rfl) (hb hby d1_31) (q := 34) rfl (by decide) (by decide) (fun r109 T109 M109 X109 q109 => ?_)
  obtain ⟨rfl, M109n, K109, P109e⟩ := q109
  have N110 := Fr.app N79 M109n
  have F111 := Fld.keep F94 K109 (ninS ne_a_a93 nin0)
  have F112 := Fld.keep F95 K109 (ninS ne_a_a93 nin0)
  have F113 := Fld.keep F96 K109 (ninS ne_a_a93 nin0)
  have F114 := Fld.keep F97 K109 (ninS ne_a_a93 nin0)
  have F115 := Fld.keep F98 K109 (ninS ne_a_a93 nin0)
  have F116 := Fld.keep F99 K109 (ninS ne_a_a93 nin0)
  have F117 := Fld.keep F100 K109 (ninS ne_a_a93 nin0)
  have E118 := Exa.keep E101 K109
  have E119 := Exa.keep E102 K109
  have E120 := Exa.keep E103 K109
  have O123 := O104.keep K109 (allS le_a93 all0)
  have Z124 := Nat.le_trans Z106 K109.1
  have KK125 := K105.trans K109 (allS (Or.inr ge_a93) all0)
  dsimp only [Option.toList, List.cons_append, List.nil_append]
  refine gPutF X109 hx hZ (host := "") hown (Or.inl (hw _ (List.mem_of_getElem? (i := 64) rfl))) Via.refl rfl F113 E118 (Or.inr ⟨(hw _ (List.mem_of_getElem? (i := 65) rfl)), rfl, hnm⟩) (hw _ (List.mem_of_getElem? (i := 2) rfl)) (ty := .object "java/util/List") (by decide) rfl rfl (hb hby d1_34) (q := 37) rfl (fun T126 h126 X126 e126 W126 => ?_)
  have N127 := Fr.snoc X126 N110 la
  have K128 := KK125.wr W126 (Or.inl (List.mem_of_getElem? (i := 0) rfl))
  have F129 := Fld.other W126 F111 (Or.inr (slot_ne (Or.inr (hw _ (List.mem_of_getElem? (i := 37) rfl))) (Or.inr (hw _ (List.mem_of_getElem? (i := 65) rfl))) (by decide) (t := .object "java/util/Map") (by decide) (t' := .object "java/util/List") (by decide)))
  have F130 := Fld.other W126 F112 (Or.inr (slot_ne (Or.inr (hw _ (List.mem_of_getElem? (i := 63) rfl))) (Or.inr (hw _ (List.mem_of_getElem? (i := 65) rfl))) (by decide) (t := .object "java/util/List") (by decide) (t' := .object "java/util/List") (by decide)))
  have F131 := Fld.same W126 F113
  have F132 := Fld.other W126 F114 (Or.inr (slot_ne (Or.inr (hw _ (List.mem_of_getElem? (i := 67) rfl))) (Or.inr (hw _ (List.mem_of_getElem? (i := 65) rfl))) (by decide) (t := .object "java/util/Map") (by decide) (t' := .object "java/util/List") (by decide)))
  have F133 := Fld.other W126 F115 (Or.inr (slot_ne (Or.inr (hw _ (List.mem_of_getElem? (i := 69) rfl))) (Or.inr (hw _ (List.mem_of_getElem? (i := 65) rfl))) (by decide) (t := .object "java/lang/String") (by decide) (t' := .object "java/util/List") (by decide)))
  have F134 := Fld.other W126 F116 (Or.inr (slot_ne (Or.inr (hw _ (List.mem_of_getElem? (i := 71) rfl))) (Or.inr (hw _ (List.mem_of_getElem? (i := 65) rfl))) (by decide) (t := .object "com/example/hoarewright/hoarewright/analysis/Location") (by decide) (t' := .object "java/util/List") (by decide)))
  have F135 := Fld.other W126 F117 (Or.inr (slot_ne (Or.inl (hw _ (List.mem_of_getElem? (i := 81) rfl))) (Or.inr (hw _ (List.mem_of_getElem? (i := 65) rfl))) (by decide) (t := .object "com/example/hoarewright/hoarewright/loy/LoyClass") (by decide) (t' := .object "java/util/List") (by decide)))
  have E136 := Exa.wr W126 E118
  have E137 := Exa.wr W126 E119
  have E138 := Exa.wr W126 E120
  have E139 := Exa.wr W126 P109e
  have O140 := O123.wr W126 la
  have Z141 : n0 ≤ h126.size := by rw [W126.size]; exact Z124
  refine gAloadN X126 hx (hb hby d1_37) (q := 38) rfl rfl rfl ?_
  refine gNewO X126 hx hZ hown (hw _ (List.mem_of_getElem? (i := 10) rfl)) (hw _ (List.mem_of_getElem? (i := 11) rfl)) (hw _ (List.mem_of_getElem? (i := 12) rfl)) e126 (hb hby d1_38) (q := 41) rfl (by decide) (by decide) (fun T142 h142 a142 X142 e142 g142 E142 A142 D142 => ?_)
  have F143 := Fld.ext E142 F129
  have F144 := Fld.ext E142 F130
  have F145 := Fld.ext E142 F131
  have F146 := Fld.ext E142 F132
  have F147 := Fld.ext E142 F133
  have F148 := Fld.ext E142 F134
  have F149 := Fld.ext E142 F135
  have E150 := Exa.ext E142 E136
  have E151 := Exa.ext E142 E137
  have E152 := Exa.ext E142 E138
  have E153 := Exa.ext E142 E139
  have O154 := O140.ext E142
  have ge_a142 : h0.size ≤ a142 := by rw [g142]; exact K128.1
  have K155 := K128.ext E142
  have le_a142 : n0 ≤ a142 := by rw [g142]; exact Z141
  have ne_a_a142 : a ≠ a142 := by rw [g142]; exact Nat.ne_of_lt E136.lt
  have ne_a2_a142 : a2 ≠ a142 := by rw [g142]; exact Nat.ne_of_lt E137.lt
  have ne_a47_a142 : a47 ≠ a142 := by rw [g142]; exact Nat.ne_of_lt E138.lt
  have ne_a93_a142 : a93 ≠ a142 := by rw [g142]; exact Nat.ne_of_lt E139.lt
  have Z156 := Nat.le_trans Z141 E142.1
  have F157 : Fld Z h142 a142 "java/util/HashMap" "loadFactor" "F" (.float (0 : UInt32)) := D142 (Or.inr (hw _ (List.mem_of_getElem? (i := 31) rfl))) (ty := .float) (by decide)
  have F158 : Fld Z h142 a142 "java/util/LinkedHashMap" "putMode" "I" (.int (0 : Int32)) := D142 (Or.inl (hw _ (List.mem_of_getElem? (i := 33) rfl))) (ty := .int) (by decide)
  have F159 : Fld Z h142 a142 "java/util/LinkedHashMap" "accessOrder" "Z" (.int (0 : Int32)) := D142 (Or.inr (hw _ (List.mem_of_getElem? (i := 35) rfl))) (ty := .boolean) (by decide)
  clear D142
  refine gDup X142 hx (hb hby d1_41) (q := 42) rfl rfl ?_
  refine gCallN X142 hx hZ rfl hown (hw _ (List.mem_of_getElem? (i := 13) rfl)) (hw _ (List.mem_of_getElem? (i := 14) rfl)) (hw _ (List.mem_of_getElem? (i := 12) rfl)) (hw _ (List.mem_of_getElem? (i := 15) rfl)) (by decide) (rmLH l Z a0 hw [] a142 h142 n0 Z156 F157 F158 F159 A142 le_a142 ) (W := 2) (by decide) (by decide) e142 (by rw [hml]; rfl) [] (lenOf pd0 rfl) rfl (S := [(.ref a142), (.ref a)]) rfl (Nat.le_of_eq rfl) (hb hby d1_42) (q := 45) rfl (by decide) (by decide) (fun r160 T160 M160 X160 q160 => ?_)
  obtain ⟨rfl, M160n, K160, P160e⟩ := q160
  have N161 := Fr.app N127 M160n
  have F162 := Fld.keep F143 K160 (ninS ne_a_a142 nin0)
  have F163 := Fld.keep F144 K160 (ninS ne_a_a142 nin0)
  have F164 := Fld.keep F145 K160 (ninS ne_a_a142 nin0)
  have F165 := Fld.keep F146 K160 (ninS ne_a_a142 nin0)
  have F166 := Fld.keep F147 K160 (ninS ne_a_a142 nin0)
  have F167 := Fld.keep F148 K160 (ninS ne_a_a142 nin0)
  have F168 := Fld.keep F149 K160 (ninS ne_a_a142 nin0)
  have E169 := Exa.keep E150 K160
  have E170 := Exa.keep E151 K160
  have E171 := Exa.keep E152 K160
  have E172 := Exa.keep E153 K160
  have O176 := O154.keep K160 (allS le_a142 all0)
  have Z177 := Nat.le_trans Z156 K160.1
  have KK178 := K155.trans K160 (allS (Or.inr ge_a142) all0)
  dsimp only [Option.toList, List.cons_append, List.nil_append]
  refine gPutF X160 hx hZ (host := "") hown (Or.inl (hw _ (List.mem_of_getElem? (i := 66) rfl))) Via.refl rfl F165 E169 (Or.inr ⟨(hw _ (List.mem_of_getElem? (i := 67) rfl)), rfl, hnm⟩) (hw _ (List.mem_of_getElem? (i := 2) rfl)) (ty := .object "java/util/Map") (by decide) rfl rfl (hb hby d1_45) (q := 48) rfl (fun T179 h179 X179 e179 W179 => ?_)
  have N180 := Fr.snoc X179 N161 la
  have K181 := KK178.wr W179 (Or.inl (List.mem_of_getElem? (i := 0) rfl))
  have F182 := Fld.other W179 F162 (Or.inr (slot_ne (Or.inr (hw _ (List.mem_of_getElem? (i := 37) rfl))) (Or.inr (hw _ (List.mem_of_getElem? (i := 67) rfl))) (by decide) (t := .object "java/util/Map") (by decide) (t' := .object "java/util/Map") (by decide)))
  have F183 := Fld.other W179 F163 (Or.inr (slot_ne (Or.inr (hw _ (List.mem_of_getElem? (i := 63) rfl))) (Or.inr (hw _ (List.mem_of_getElem? (i := 67) rfl))) (by decide) (t := .object "java/util/List") (by decide) (t' := .object "java/util/Map") (by decide)))
  have F184 := Fld.other W179 F164 (Or.inr (slot_ne (Or.inr (hw _ (List.mem_of_getElem? (i := 65) rfl))) (Or.inr (hw _ (List.mem_of_getElem? (i := 67) rfl))) (by decide) (t := .object "java/util/List") (by decide) (t' := .object "java/util/Map") (by decide)))
  have F185 := Fld.same W179 F165
  have F186 := Fld.other W179 F166 (Or.inr (slot_ne (Or.inr (hw _ (List.mem_of_getElem? (i := 69) rfl))) (Or.inr (hw _ (List.mem_of_getElem? (i := 67) rfl))) (by decide) (t := .object "java/lang/String") (by decide) (t' := .object "java/util/Map") (by decide)))
  have F187 := Fld.other W179 F167 (Or.inr (slot_ne (Or.inr (hw _ (List.mem_of_getElem? (i := 71) rfl))) (Or.inr (hw _ (List.mem_of_getElem? (i := 67) rfl))) (by decide) (t := .object "com/example/hoarewright/hoarewright/analysis/Location") (by decide) (t' := .object "java/util/Map") (by decide)))
  have F188 := Fld.other W179 F168 (Or.inr (slot_ne (Or.inl (hw _ (List.mem_of_getElem? (i := 81) rfl))) (Or.inr (hw _ (List.mem_of_getElem? (i := 67) rfl))) (by decide) (t := .object "com/example/hoarewright/hoarewright/loy/LoyClass") (by decide) (t' := .object "java/util/Map") (by decide)))
  have E189 := Exa.wr W179 E169
  have E190 := Exa.wr W179 E170
  have E191 := Exa.wr W179 E171
  have E192 := Exa.wr W179 E172
  have E193 := Exa.wr W179 P160e
  have O194 := O176.wr W179 la
  have Z195 : n0 ≤ h179.size := by rw [W179.size]; exact Z177
  refine gAloadN X179 hx (hb hby d1_48) (q := 49) rfl rfl rfl ?_
  refine gAloadN X179 hx (hb hby d1_49) (q := 50) rfl rfl rfl ?_
  refine gPutF X179 hx hZ (host := "") hown (Or.inl (hw _ (List.mem_of_getElem? (i := 68) rfl))) Via.refl e179 F186 E189 (Or.inr ⟨(hw _ (List.mem_of_getElem? (i := 69) rfl)), rfl, hnm⟩) (hw _ (List.mem_of_getElem? (i := 2) rfl)) (ty := .object "java/lang/String") (by decide) rfl rfl (hb hby d1_50) (q := 53) rfl (fun T196 h196 X196 e196 W196 => ?_)
  have N197 := Fr.snoc X196 N180 la
  have K198 := K181.wr W196 (Or.inl (List.mem_of_getElem? (i := 0) rfl))
  have F199 := Fld.other W196 F182 (Or.inr (slot_ne (Or.inr (hw _ (List.mem_of_getElem? (i := 37) rfl))) (Or.inr (hw _ (List.mem_of_getElem? (i := 69) rfl))) (by decide) (t := .object "java/util/Map") (by decide) (t' := .object "java/lang/String") (by decide)))
  have F200 := Fld.other W196 F183 (Or.inr (slot_ne (Or.inr (hw _ (List.mem_of_getElem? (i := 63) rfl))) (Or.inr (hw _ (List.mem_of_getElem? (i := 69) rfl))) (by decide) (t := .object "java/util/List") (by decide) (t' := .object "java/lang/String") (by decide)))
  have F201 := Fld.other W196 F184 (Or.inr (slot_ne (Or.inr (hw _ (List.mem_of_getElem? (i := 65) rfl))) (Or.inr (hw _ (List.mem_of_getElem? (i := 69) rfl))) (by decide) (t := .object "java/util/List") (by decide) (t' := .object "java/lang/String") (by decide)))
  have F202 := Fld.other W196 F185 (Or.inr (slot_ne (Or.inr (hw _ (List.mem_of_getElem? (i := 67) rfl))) (Or.inr (hw _ (List.mem_of_getElem? (i := 69) rfl))) (by decide) (t := .object "java/util/Map") (by decide) (t' := .object "java/lang/String") (by decide)))
  have F203 := Fld.same W196 F186
  have F204 := Fld.other W196 F187 (Or.inr (slot_ne (Or.inr (hw _ (List.mem_of_getElem? (i := 71) rfl))) (Or.inr (hw _ (List.mem_of_getElem? (i := 69) rfl))) (by decide) (t := .object "com/example/hoarewright/hoarewright/analysis/Location") (by decide) (t' := .object "java/lang/String") (by decide)))
  have F205 := Fld.other W196 F188 (Or.inr (slot_ne (Or.inl (hw _ (List.mem_of_getElem? (i := 81) rfl))) (Or.inr (hw _ (List.mem_of_getElem? (i := 69) rfl))) (by decide) (t := .object "com/example/hoarewright/hoarewright/loy/LoyClass") (by decide) (t' := .object "java/lang/String") (by decide)))
  have E206 := Exa.wr W196 E189
  have E207 := Exa.wr W196 E190
  have E208 := Exa.wr W196 E191
  have E209 := Exa.wr W196 E192
  have E210 := Exa.wr W196 E193
  have O211 := O194.wr W196 la
  have Z212 : n0 ≤ h196.size := by rw [W196.size]; exact Z195
  refine gAloadN X196 hx (hb hby d1_53) (q := 54) rfl rfl rfl ?_
  refine gAloadN X196 hx (hb hby d1_54) (q := 55) rfl rfl rfl ?_
  refine gPutF X196 hx hZ (host := "") hown (Or.inl (hw _ (List.mem_of_getElem? (i := 70) rfl))) Via.refl e196 F204 E206 (Or.inr ⟨(hw _ (List.mem_of_getElem? (i := 71) rfl)), rfl, hnm⟩) (hw _ (List.mem_of_getElem? (i := 2) rfl)) (ty := .object "com/example/hoarewright/hoarewright/analysis/Location") (by decide) rfl rfl (hb hby d1_55) (q := 58) rfl (fun T213 h213 X213 e213 W213 => ?_)
  have N214 := Fr.snoc X213 N197 la
  have K215 := K198.wr W213 (Or.inl (List.mem_of_getElem? (i := 0) rfl))
  have F216 := Fld.other W213 F199 (Or.inr (slot_ne (Or.inr (hw _ (List.mem_of_getElem? (i := 37) rfl))) (Or.inr (hw _ (List.mem_of_getElem? (i := 71) rfl))) (by decide) (t := .object "java/util/Map") (by decide) (t' := .object "com/example/hoarewright/hoarewright/analysis/Location") (by decide)))
  have F217 := Fld.other W213 F200 (Or.inr (slot_ne (Or.inr (hw _ (List.mem_of_getElem? (i := 63) rfl))) (Or.inr (hw _ (List.mem_of_getElem? (i := 71) rfl))) (by decide) (t := .object "java/util/List") (by decide) (t' := .object "com/example/hoarewright/hoarewright/analysis/Location") (by decide)))
  have F218 := Fld.other W213 F201 (Or.inr (slot_ne (Or.inr (hw _ (List.mem_of_getElem? (i := 65) rfl))) (Or.inr (hw _ (List.mem_of_getElem? (i := 71) rfl))) (by decide) (t := .object "java/util/List") (by decide) (t' := .object "com/example/hoarewright/hoarewright/analysis/Location") (by decide)))
  have F219 := Fld.other W213 F202 (Or.inr (slot_ne (Or.inr (hw _ (List.mem_of_getElem? (i := 67) rfl))) (Or.inr (hw _ (List.mem_of_getElem? (i := 71) rfl))) (by decide) (t := .object "java/util/Map") (by decide) (t' := .object "com/example/hoarewright/hoarewright/analysis/Location") (by decide)))
  have F220 := Fld.other W213 F203 (Or.inr (slot_ne (Or.inr (hw _ (List.mem_of_getElem? (i := 69) rfl))) (Or.inr (hw _ (List.mem_of_getElem? (i := 71) rfl))) (by decide) (t := .object "java/lang/String") (by decide) (t' := .object "com/example/hoarewright/hoarewright/analysis/Location") (by decide)))
  have F221 := Fld.same W213 F204
  have F222 := Fld.other W213 F205 (Or.inr (slot_ne (Or.inl (hw _ (List.mem_of_getElem? (i := 81) rfl))) (Or.inr (hw _ (List.mem_of_getElem? (i := 71) rfl))) (by decide) (t := .object "com/example/hoarewright/hoarewright/loy/LoyClass") (by decide) (t' := .object "com/example/hoarewright/hoarewright/analysis/Location") (by decide)))
  have E223 := Exa.wr W213 E206
  have E224 := Exa.wr W213 E207
  have E225 := Exa.wr W213 E208
  have E226 := Exa.wr W213 E209
  have E227 := Exa.wr W213 E210
  have O228 := O211.wr W213 la
  have Z229 : n0 ≤ h213.size := by rw [W213.size]; exact Z212
  exact gRetV X213 hx hlk hret (hb hby d1_58) (by decide) (by decide) (by rw [e213]; exact ⟨rfl, N214, K215, E223, F222⟩)
theorem d10_0 : decode prog_43_method_13_code 0 = .ok (.aload_n 0, 1) := by decide +kernel
theorem d10_1 : decode prog_43_method_13_code 1 = .ok (.aload_n 1, 1) := by decide +kernel
theorem d10_2 : decode prog_43_method_13_code 2 = .ok (.putfield 37, 3) := by decide +kernel
theorem d10_5 : decode prog_43_method_13_code 5 = .ok (.return_, 1) := by decide +kernel
theorem ef7 (m : MethodId) (x0 : Addr) (x1 : Addr) : entryFrame m #[(.ref x0), (.ref x1)] 2 = mkF m 0 #[.val (.ref x0), .val (.ref x1)] [] := by first | (simp [entryFrame, mkF, argsToLocals, Value.category]; done) | rfl
def Q_rmExt (Z : State) (a : Addr) (b : Addr) (h0 : Heap) (n0 : Nat) (v : Option Value) (h : Heap) (L : List Loc) : Prop := v = none ∧ Fr n0 L ∧ Keep h0 h [a] ∧ Exa Z h a "com/example/hoarewright/hoarewright/loy/LoyClass" ∧ Fld Z h a "com/example/hoarewright/hoarewright/loy/LoyClass" "superclass" "Lcom/example/hoarewright/hoarewright/loy/LoyClass;" (.ref b)
set_option maxRecDepth 65536 in
set_option maxHeartbeats 40000000 in
theorem rmExt (l : Launch) (Z : State) (a0 : Array Value) (hw : ∀ d ∈ tables_1, d.before a0 Z = true) (ws : List Jvm.Cond) (a : Addr) (b : Addr) (h0 : Heap) (n0 : Nat) (Z0 : n0 ≤ h0.size) (F1 : Fld Z h0 a "com/example/hoarewright/hoarewright/loy/LoyClass" "superclass" "Lcom/example/hoarewright/hoarewright/loy/LoyClass;" .null) (EXa : Exa Z h0 a "com/example/hoarewright/hoarewright/loy/LoyClass") (la : n0 ≤ a) :
    Con l Z (⟨"com/example/hoarewright/hoarewright/loy/LoyClass", "extend", "(Lcom/example/hoarewright/hoarewright/loy/LoyClass;)V"⟩ : MethodName) prog_43_method_13_code 2 none ws ({ frames := 0, cells := 0, slots := 0, locals := 0 } : Room) #[(.ref a), (.ref b)] h0 (({ frames := 0, cells := 0, slots := 0, locals := 0 } : Room).cells) (({ frames := 0, cells := 0, slots := 0, locals := 0 } : Room).slots) (Q_rmExt Z a b h0 n0) := by
  refine Con.of (plainFor_of_name pn6) ?_
  intro p e s m below meth c s₁ hx hby hml hown hnm hret hlk hZ X0 e0
  have N0 := Fr.nil n0
  refine goE (L := #[.val (.ref a), .val (.ref b)]) (ef7 m a b) ?_
  refine gAloadN X0 hx (hb hby d10_0) (q := 1) rfl rfl rfl ?_
  refine gAloadN X0 hx (hb hby d10_1) (q := 2) rfl rfl rfl ?_
  refine gPutF X0 hx hZ (host := "") hown (Or.inl (hw _ (List.mem_of_getElem? (i := 80) rfl))) Via.refl e0 F1 EXa (Or.inl (hw _ (List.mem_of_getElem? (i := 81) rfl))) (hw _ (List.mem_of_getElem? (i := 2) rfl)) (ty := .object "com/example/hoarewright/hoarewright/loy/LoyClass") (by decide) rfl rfl (hb hby d10_2) (q := 5) rfl (fun T1 h1 X1 e1 W1 => ?_)
  have N2 := Fr.snoc X1 N0 la
  have K3 := (Keep.refl h0 [a]).wr W1 (Or.inl (List.mem_of_getElem? (i := 0) rfl))
  have F4 := Fld.same W1 F1
  have E5 := Exa.wr W1 EXa
  have Z6 : n0 ≤ h1.size := by rw [W1.size]; exact Z0
  exact gRetV X1 hx hlk hret (hb hby d10_5) (by decide) (by decide) (by rw [e1]; exact ⟨rfl, N2, K3, E5, F4⟩)
def own_r3 (y3 b : Addr) : Int32 := if (.ref y3 : Value) = .ref b then 1 else 0
def own_r2 (y2 y3 b : Addr) (s2 : Value) : Int32 := if (.ref y2 : Value) = .ref b then 1 else if s2 = .null then 0 else own_r3 y3 b
def own_r1 (y1 y2 y3 b : Addr) (s1 s2 : Value) : Int32 := if (.ref y1 : Value) = .ref b then 1 else if s1 = .null then 0 else if s1 = .ref y2 then own_r2 y2 y3 b s2 else own_r3 y3 b
def own_r0 (y0 y1 y2 y3 b : Addr) (s0 s1 s2 : Value) : Int32 := if (.ref y0 : Value) = .ref b then 1 else if s0 = .null then 0 else if s0 = .ref y1 then own_r1 y1 y2 y3 b s1 s2 else if s0 = .ref y2 then own_r2 y2 y3 b s2 else own_r3 y3 b
theorem d9_0 : decode prog_43_method_5_code 0 = .ok (.iconst 0, 1) := by decide +kernel
theorem d9_1 : decode prog_43_method_5_code 1 = .ok (.istore_n 2, 1) := by decide +kernel
theorem d9_2 : decode prog_43_method_5_code 2 = .ok (.aload_n 0, 1) := by decide +kernel
theorem d9_3 : decode prog_43_method_5_code 3 = .ok (.astore_n 3, 1) := by decide +kernel
theorem d9_4 : decode prog_43_method_5_code 4 = .ok (.aload_n 3, 1) := by decide +kernel
theorem d9_5 : decode prog_43_method_5_code 5 = .ok (.ifnull 26, 3) := by decide +kernel
theorem d9_8 : decode prog_43_method_5_code 8 = .ok (.iload_n 2, 1) := by decide +kernel
theorem d9_9 : decode prog_43_method_5_code 9 = .ok (.ifCond .ne 22, 3) := by decide +kernel
theorem d9_12 : decode prog_43_method_5_code 12 = .ok (.aload_n 3, 1) := by decide +kernel
theorem d9_13 : decode prog_43_method_5_code 13 = .ok (.aload_n 1, 1) := by decide +kernel
theorem d9_14 : decode prog_43_method_5_code 14 = .ok (.if_acmp .ne 7, 3) := by decide +kernel
theorem d9_17 : decode prog_43_method_5_code 17 = .ok (.iconst 1, 1) := by decide +kernel
theorem d9_18 : decode prog_43_method_5_code 18 = .ok (.goto 4, 3) := by decide +kernel
theorem d9_21 : decode prog_43_method_5_code 21 = .ok (.iconst 0, 1) := by decide +kernel
theorem d9_22 : decode prog_43_method_5_code 22 = .ok (.istore_n 2, 1) := by decide +kernel
theorem d9_23 : decode prog_43_method_5_code 23 = .ok (.aload_n 3, 1) := by decide +kernel
theorem d9_24 : decode prog_43_method_5_code 24 = .ok (.getfield 37, 3) := by decide +kernel
theorem d9_27 : decode prog_43_method_5_code 27 = .ok (.astore_n 3, 1) := by decide +kernel
theorem d9_28 : decode prog_43_method_5_code 28 = .ok (.goto (-24), 3) := by decide +kernel
theorem d9_31 : decode prog_43_method_5_code 31 = .ok (.iload_n 2, 1) := by decide +kernel
theorem d9_32 : decode prog_43_method_5_code 32 = .ok (.ireturn, 1) := by decide +kernel
theorem ef8 (m : MethodId) (x0 : Addr) (x1 : Addr) : entryFrame m #[(.ref x0), (.ref x1)] 4 = mkF m 0 #[.val (.ref x0), .val (.ref x1), .unset, .unset] [] := by first | (simp [entryFrame, mkF, argsToLocals, Value.category]; done) | rfl
def Q_rmIs3 (Z : State) (y3 : Addr) (b : Addr) (h0 : Heap) (n0 : Nat) (v : Option Value) (h : Heap) (L : List Loc) : Prop := v = some (.int (own_r3 y3 b )) ∧ Fr n0 L ∧ h = h0
set_option maxRecDepth 65536 in
set_option maxHeartbeats 40000000 in
theorem rmIs3 (l : Launch) (Z : State) (a0 : Array Value) (hw : ∀ d ∈ tables_1, d.before a0 Z = true) (ws : List Jvm.Cond) (y3 : Addr) (b : Addr) (h0 : Heap) (n0 : Nat) (Z0 : n0 ≤ h0.size) (F3 : Fld Z h0 y3 "com/example/hoarewright/hoarewright/loy/LoyClass" "superclass" "Lcom/example/hoarewright/hoarewright/loy/LoyClass;" .null)   :
    Con l Z (⟨"com/example/hoarewright/hoarewright/loy/LoyClass", "isA", "(Lcom/example/hoarewright/hoarewright/loy/LoyClass;)Z"⟩ : MethodName) prog_43_method_5_code 4 (some (.boolean)) ws ({ frames := 0, cells := 0, slots := 0, locals := 0 } : Room) #[(.ref y3), (.ref b)] h0 (({ frames := 0, cells := 0, slots := 0, locals := 0 } : Room).cells) (({ frames := 0, cells := 0, slots := 0, locals := 0 } : Room).slots) (Q_rmIs3 Z y3 b h0 n0) := by
  refine Con.of (plainFor_of_name pn6) ?_
  intro p e s m below meth c s₁ hx hby hml hown hnm hret hlk hZ X0 e0
  have N0 := Fr.nil n0
  refine goE (L := #[.val (.ref y3), .val (.ref b), .unset, .unset]) (ef8 m y3 b) ?_
  refine gIconst X0 hx (0 : Int32) (hb hby d9_0) (q := 1) rfl (by decide) ?_
  refine gIstoreN X0 hx (hb hby d9_1) (q := 2) rfl (L' := #[.val (.ref y3), .val (.ref b), .val (.int (0 : Int32)), .unset]) rfl ?_
  refine gAloadN X0 hx (hb hby d9_2) (q := 3) rfl rfl rfl ?_
  refine gAstoreN X0 hx (hb hby d9_3) (q := 4) rfl rfl (L' := #[.val (.ref y3), .val (.ref b), .val (.int (0 : Int32)), .val (.ref y3)]) rfl ?_
  refine gAloadN X0 hx (hb hby d9_4) (q := 5) rfl rfl rfl ?_
  refine gNullN X0 hx (hb hby d9_5) (q := 8) rfl rfl Value.noConfusion ?_
  refine gIloadN X0 hx (hb hby d9_8) (q := 9) rfl rfl ?_
  refine gIfN X0 hx (hb hby d9_9) (q := 12) rfl (XT.i0_ne_f (by decide)) ?_
  refine gAloadN X0 hx (hb hby d9_12) (q := 13) rfl rfl rfl ?_
  refine gAloadN X0 hx (hb hby d9_13) (q := 14) rfl rfl rfl ?_
  by_cases c1 : (.ref y3 : Value) = (.ref b : Value)
  · refine gAcmpN X0 hx (hb hby d9_14) (q := 17) rfl rfl rfl (XT.aa_ne_f c1) ?_
    refine gIconst X0 hx (1 : Int32) (hb hby d9_17) (q := 18) rfl (by decide) ?_
    refine gGoto X0 hx (hb hby d9_18) (q := 22) (by decide) (by decide) ?_
    refine gIstoreN X0 hx (hb hby d9_22) (q := 23) rfl (L' := #[.val (.ref y3), .val (.ref b), .val (.int (1 : Int32)), .val (.ref y3)]) rfl ?_
    refine gAloadN X0 hx (hb hby d9_23) (q := 24) rfl rfl rfl ?_
    refine gGetF X0 hx hZ (host := "") hown (Or.inl (hw _ (List.mem_of_getElem? (i := 80) rfl))) Via.refl e0 F3 (hb hby d9_24) (q := 27) rfl (fun T2 X2 e2 => ?_)
    refine gAstoreN X2 hx (hb hby d9_27) (q := 28) rfl rfl (L' := #[.val (.ref y3), .val (.ref b), .val (.int (1 : Int32)), .val (.null)]) rfl ?_
    refine gGoto X2 hx (hb hby d9_28) (q := 4) (by decide) (by decide) ?_
    refine gAloadN X2 hx (hb hby d9_4) (q := 5) rfl rfl rfl ?_
    refine gNullY X2 hx (hb hby d9_5) (q := 31) (by decide) (by decide) rfl ?_
    refine gIloadN X2 hx (hb hby d9_31) (q := 32) rfl rfl ?_
    obtain rfl := Value.ref.inj c1
    exact gRetZ X2 hx hlk hret (hb hby d9_32) (by decide) (by decide) (by simp) ⟨by simp [own_r0, own_r1, own_r2, own_r3], N0, e2⟩
  · refine gAcmpY X0 hx (hb hby d9_14) (q := 21) (by decide) (by decide) rfl rfl (XT.aa_ne_t c1) ?_
    refine gIconst X0 hx (0 : Int32) (hb hby d9_21) (q := 22) rfl (by decide) ?_
    refine gIstoreN X0 hx (hb hby d9_22) (q := 23) rfl (L' := #[.val (.ref y3), .val (.ref b), .val (.int (0 : Int32)), .val (.ref y3)]) rfl ?_
    refine gAloadN X0 hx (hb hby d9_23) (q := 24) rfl rfl rfl ?_
    refine gGetF X0 hx hZ (host := "") hown (Or.inl (hw _ (List.mem_of_getElem? (i := 80) rfl))) Via.refl e0 F3 (hb hby d9_24) (q := 27) rfl (fun T3 X3 e3 => ?_)
    refine gAstoreN X3 hx (hb hby d9_27) (q := 28) rfl rfl (L' := #[.val (.ref y3), .val (.ref b), .val (.int (0 : Int32)), .val (.null)]) rfl ?_
    refine gGoto X3 hx (hb hby d9_28) (q := 4) (by decide) (by decide) ?_
    refine gAloadN X3 hx (hb hby d9_4) (q := 5) rfl rfl rfl ?_
    refine gNullY X3 hx (hb hby d9_5) (q := 31) (by decide) (by decide) rfl ?_
    refine gIloadN X3 hx (hb hby d9_31) (q := 32) rfl rfl ?_
    exact gRetZ X3 hx hlk hret (hb hby d9_32) (by decide) (by decide) (by simp) ⟨by simp [own_r0, own_r1, own_r2, own_r3, c1], N0, e3⟩
theorem ef9 (m : MethodId) (x0 : Addr) (x1 : Addr) : entryFrame m #[(.ref x0), (.ref x1)] 4 = mkF m 0 #[.val (.ref x0), .val (.ref x1), .unset, .unset] [] := by first | (simp [entryFrame, mkF, argsToLocals, Value.category]; done) | rfl
def Q_rmIs2 (Z : State) (y2 : Addr) (y3 : Addr) (b : Addr) (s2 : Value) (h0 : Heap) (n0 : Nat) (v : Option Value) (h : Heap) (L : List Loc) : Prop := v = some (.int (own_r2 y2 y3 b s2)) ∧ Fr n0 L ∧ h = h0
set_option maxRecDepth 65536 in
set_option maxHeartbeats 40000000 in
theorem rmIs2 (l : Launch) (Z : State) (a0 : Array Value) (hw : ∀ d ∈ tables_1, d.before a0 Z = true) (ws : List Jvm.Cond) (y2 : Addr) (y3 : Addr) (b : Addr) (s2 : Value) (h0 : Heap) (n0 : Nat) (Z0 : n0 ≤ h0.size) (F2 : Fld Z h0 y2 "com/example/hoarewright/hoarewright/loy/LoyClass" "superclass" "Lcom/example/hoarewright/hoarewright/loy/LoyClass;" s2) (F3 : Fld Z h0 y3 "com/example/hoarewright/hoarewright/loy/LoyClass" "superclass" "Lcom/example/hoarewright/hoarewright/loy/LoyClass;" .null) (hs2 : s2 = .null ∨ s2 = .ref y3) (n23 : y2 ≠ y3) :
    Con l Z (⟨"com/example/hoarewright/hoarewright/loy/LoyClass", "isA", "(Lcom/example/hoarewright/hoarewright/loy/LoyClass;)Z"⟩ : MethodName) prog_43_method_5_code 4 (some (.boolean)) ws ({ frames := 0, cells := 0, slots := 0, locals := 0 } : Room) #[(.ref y2), (.ref b)] h0 (({ frames := 0, cells := 0, slots := 0, locals := 0 } : Room).cells) (({ frames := 0, cells := 0, slots := 0, locals := 0 } : Room).slots) (Q_rmIs2 Z y2 y3 b s2 h0 n0) := by
  refine Con.of (plainFor_of_name pn6) ?_
  intro p e s m below meth c s₁ hx hby hml hown hnm hret hlk hZ X0 e0
  have N0 := Fr.nil n0
  refine goE (L := #[.val (.ref y2), .val (.ref b), .unset, .unset]) (ef9 m y2 b) ?_
  refine gIconst X0 hx (0 : Int32) (hb hby d9_0) (q := 1) rfl (by decide) ?_
  refine gIstoreN X0 hx (hb hby d9_1) (q := 2) rfl (L' := #[.val (.ref y2), .val (.ref b), .val (.int (0 : Int32)), .unset]) rfl ?_
  refine gAloadN X0 hx (hb hby d9_2) (q := 3) rfl rfl rfl ?_
  refine gAstoreN X0 hx (hb hby d9_3) (q := 4) rfl rfl (L' := #[.val (.ref y2), .val (.ref b), .val (.int (0 : Int32)), .val (.ref y2)]) rfl ?_
  refine gAloadN X0 hx (hb hby d9_4) (q := 5) rfl rfl rfl ?_
  refine gNullN X0 hx (hb hby d9_5) (q := 8) rfl rfl Value.noConfusion ?_
  refine gIloadN X0 hx (hb hby d9_8) (q := 9) rfl rfl ?_
  refine gIfN X0 hx (hb hby d9_9) (q := 12) rfl (XT.i0_ne_f (by decide)) ?_
  refine gAloadN X0 hx (hb hby d9_12) (q := 13) rfl rfl rfl ?_
  refine gAloadN X0 hx (hb hby d9_13) (q := 14) rfl rfl rfl ?_
  by_cases c1 : (.ref y2 : Value) = (.ref b : Value)
  · refine gAcmpN X0 hx (hb hby d9_14) (q := 17) rfl rfl rfl (XT.aa_ne_f c1) ?_
    refine gIconst X0 hx (1 : Int32) (hb hby d9_17) (q := 18) rfl (by decide) ?_
    refine gGoto X0 hx (hb hby d9_18) (q := 22) (by decide) (by decide) ?_
    refine gIstoreN X0 hx (hb hby d9_22) (q := 23) rfl (L' := #[.val (.ref y2), .val (.ref b), .val (.int (1 : Int32)), .val (.ref y2)]) rfl ?_
    refine gAloadN X0 hx (hb hby d9_23) (q := 24) rfl rfl rfl ?_
    refine gGetF X0 hx hZ (host := "") hown (Or.inl (hw _ (List.mem_of_getElem? (i := 80) rfl))) Via.refl e0 F2 (hb hby d9_24) (q := 27) rfl (fun T2 X2 e2 => ?_)
    rcases hs2 with rfl | rfl
    · skip
      refine gAstoreN X2 hx (hb hby d9_27) (q := 28) rfl rfl (L' := #[.val (.ref y2), .val (.ref b), .val (.int (1 : Int32)), .val (.null)]) rfl ?_
      refine gGoto X2 hx (hb hby d9_28) (q := 4) (by decide) (by decide) ?_
      refine gAloadN X2 hx (hb hby d9_4) (q := 5) rfl rfl rfl ?_
      refine gNullY X2 hx (hb hby d9_5) (q := 31) (by decide) (by decide) rfl ?_
      refine gIloadN X2 hx (hb hby d9_31) (q := 32) rfl rfl ?_
      obtain rfl := Value.ref.inj c1
      exact gRetZ X2 hx hlk hret (hb hby d9_32) (by decide) (by decide) (by simp) ⟨by simp [own_r0, own_r1, own_r2, own_r3, n23, n23.symm], N0, e2⟩
    · skip
      refine gAstoreN X2 hx (hb hby d9_27) (q := 28) rfl rfl (L' := #[.val (.ref y2), .val (.ref b), .val (.int (1 : Int32)), .val (.ref y3)]) rfl ?_
      refine gGoto X2 hx (hb hby d9_28) (q := 4) (by decide) (by decide) ?_
      refine gAloadN X2 hx (hb hby d9_4) (q := 5) rfl rfl rfl ?_
      refine gNullN X2 hx (hb hby d9_5) (q := 8) rfl rfl Value.noConfusion ?_
      refine gIloadN X2 hx (hb hby d9_8) (q := 9) rfl rfl ?_
      refine gIfY X2 hx (hb hby d9_9) (q := 31) (by decide) (by decide) (XT.i0_ne_t (by decide)) ?_
      refine gIloadN X2 hx (hb hby d9_31) (q := 32) rfl rfl ?_
      obtain rfl := Value.ref.inj c1
      exact gRetZ X2 hx hlk hret (hb hby d9_32) (by decide) (by decide) (by simp) ⟨by simp [own_r0, own_r1, own_r2, own_r3, n23, n23.symm], N0, e2⟩
  · refine gAcmpY X0 hx (hb hby d9_14) (q := 21) (by decide) (by decide) rfl rfl (XT.aa_ne_t c1) ?_
    refine gIconst X0 hx (0 : Int32) (hb hby d9_21) (q := 22) rfl (by decide) ?_
    refine gIstoreN X0 hx (hb hby d9_22) (q := 23) rfl (L' := #[.val (.ref y2), .val (.ref b), .val (.int (0 : Int32)), .val (.ref y2)]) rfl ?_
    refine gAloadN X0 hx (hb hby d9_23) (q := 24) rfl rfl rfl ?_
    refine gGetF X0 hx hZ (host := "") hown (Or.inl (hw _ (List.mem_of_getElem? (i := 80) rfl))) Via.refl e0 F2 (hb hby d9_24) (q := 27) rfl (fun T3 X3 e3 => ?_)
    rcases hs2 with rfl | rfl
    · skip
      refine gAstoreN X3 hx (hb hby d9_27) (q := 28) rfl rfl (L' := #[.val (.ref y2), .val (.ref b), .val (.int (0 : Int32)), .val (.null)]) rfl ?_
      refine gGoto X3 hx (hb hby d9_28) (q := 4) (by decide) (by decide) ?_
      refine gAloadN X3 hx (hb hby d9_4) (q := 5) rfl rfl rfl ?_
      refine gNullY X3 hx (hb hby d9_5) (q := 31) (by decide) (by decide) rfl ?_
      refine gIloadN X3 hx (hb hby d9_31) (q := 32) rfl rfl ?_
      exact gRetZ X3 hx hlk hret (hb hby d9_32) (by decide) (by decide) (by simp) ⟨by simp [own_r0, own_r1, own_r2, own_r3, c1, n23, n23.symm], N0, e3⟩
    · skip
      refine gAstoreN X3 hx (hb hby d9_27) (q := 28) rfl rfl (L' := #[.val (.ref y2), .val (.ref b), .val (.int (0 : Int32)), .val (.ref y3)]) rfl ?_
      refine gGoto X3 hx (hb hby d9_28) (q := 4) (by decide) (by decide) ?_
      refine gAloadN X3 hx (hb hby d9_4) (q := 5) rfl rfl rfl ?_
      refine gNullN X3 hx (hb hby d9_5) (q := 8) rfl rfl Value.noConfusion ?_
      refine gIloadN X3 hx (hb hby d9_8) (q := 9) rfl rfl ?_
      refine gIfN X3 hx (hb hby d9_9) (q := 12) rfl (XT.i0_ne_f (by decide)) ?_
      refine gAloadN X3 hx (hb hby d9_12) (q := 13) rfl rfl rfl ?_
      refine gAloadN X3 hx (hb hby d9_13) (q := 14) rfl rfl rfl ?_
      by_cases c4 : (.ref y3 : Value) = (.ref b : Value)
      · refine gAcmpN X3 hx (hb hby d9_14) (q := 17) rfl rfl rfl (XT.aa_ne_f c4) ?_
        refine gIconst X3 hx (1 : Int32) (hb hby d9_17) (q := 18) rfl (by decide) ?_
        refine gGoto X3 hx (hb hby d9_18) (q := 22) (by decide) (by decide) ?_
        refine gIstoreN X3 hx (hb hby d9_22) (q := 23) rfl (L' := #[.val (.ref y2), .val (.ref b), .val (.int (1 : Int32)), .val (.ref y3)]) rfl ?_
        refine gAloadN X3 hx (hb hby d9_23) (q := 24) rfl rfl rfl ?_
        refine gGetF X3 hx hZ (host := "") hown (Or.inl (hw _ (List.mem_of_getElem? (i := 80) rfl))) Via.refl e3 F3 (hb hby d9_24) (q := 27) rfl (fun T5 X5 e5 => ?_)
        refine gAstoreN X5 hx (hb hby d9_27) (q := 28) rfl rfl (L' := #[.val (.ref y2), .val (.ref b), .val (.int (1 : Int32)), .val (.null)]) rfl ?_
        refine gGoto X5 hx (hb hby d9_28) (q := 4) (by decide) (by decide) ?_
        refine gAloadN X5 hx (hb hby d9_4) (q := 5) rfl rfl rfl ?_
        refine gNullY X5 hx (hb hby d9_5) (q := 31) (by decide) (by decide) rfl ?_
        refine gIloadN X5 hx (hb hby d9_31) (q := 32) rfl rfl ?_
        obtain rfl := Value.ref.inj c4
        exact gRetZ X5 hx hlk hret (hb hby d9_32) (by decide) (by decide) (by simp) ⟨by simp [own_r0, own_r1, own_r2, own_r3, c1, n23, n23.symm], N0, e5⟩
      · refine gAcmpY X3 hx (hb hby d9_14) (q := 21) (by decide) (by decide) rfl rfl (XT.aa_ne_t c4) ?_
        refine gIconst X3 hx (0 : Int32) (hb hby d9_21) (q := 22) rfl (by decide) ?_
        refine gIstoreN X3 hx (hb hby d9_22) (q := 23) rfl (L' := #[.val (.ref y2), .val (.ref b), .val (.int (0 : Int32)), .val (.ref y3)]) rfl ?_
        refine gAloadN X3 hx (hb hby d9_23) (q := 24) rfl rfl rfl ?_
        refine gGetF X3 hx hZ (host := "") hown (Or.inl (hw _ (List.mem_of_getElem? (i := 80) rfl))) Via.refl e3 F3 (hb hby d9_24) (q := 27) rfl (fun T6 X6 e6 => ?_)
        refine gAstoreN X6 hx (hb hby d9_27) (q := 28) rfl rfl (L' := #[.val (.ref y2), .val (.ref b), .val (.int (0 : Int32)), .val (.null)]) rfl ?_
        refine gGoto X6 hx (hb hby d9_28) (q := 4) (by decide) (by decide) ?_
        refine gAloadN X6 hx (hb hby d9_4) (q := 5) rfl rfl rfl ?_
        refine gNullY X6 hx (hb hby d9_5) (q := 31) (by decide) (by decide) rfl ?_
        refine gIloadN X6 hx (hb hby d9_31) (q := 32) rfl rfl ?_
        exact gRetZ X6 hx hlk hret (hb hby d9_32) (by decide) (by decide) (by simp) ⟨by simp [own_r0, own_r1, own_r2, own_r3, c1, c4, n23, n23.symm], N0, e6⟩
theorem ef10 (m : MethodId) (x0 : Addr) (x1 : Addr) : entryFrame m #[(.ref x0), (.ref x1)] 4 = mkF m 0 #[.val (.ref x0), .val (.ref x1), .unset, .unset] [] := by first | (simp [entryFrame, mkF, argsToLocals, Value.category]; done) | rfl
def Q_rmIs1 (Z : State) (y1 : Addr) (y2 : Addr) (y3 : Addr) (b : Addr) (s1 : Value) (s2 : Value) (h0 : Heap) (n0 : Nat) (v : Option Value) (h : Heap) (L : List Loc) : Prop := v = some (.int (own_r1 y1 y2 y3 b s1 s2)) ∧ Fr n0 L ∧ h = h0
set_option maxRecDepth 65536 in
set_option maxHeartbeats 40000000 in
theorem rmIs1 (l : Launch) (Z : State) (a0 : Array Value) (hw : ∀ d ∈ tables_1, d.before a0 Z = true) (ws : List Jvm.Cond) (y1 : Addr) (y2 : Addr) (y3 : Addr) (b : Addr) (s1 : Value) (s2 : Value) (h0 : Heap) (n0 : Nat) (Z0 : n0 ≤ h0.size) (F1 : Fld Z h0 y1 "com/example/hoarewright/hoarewright/loy/LoyClass" "superclass" "Lcom/example/hoarewright/hoarewright/loy/LoyClass;" s1) (F2 : Fld Z h0 y2 "com/example/hoarewright/hoarewright/loy/LoyClass" "superclass" "Lcom/example/hoarewright/hoarewright/loy/LoyClass;" s2) (F3 : Fld Z h0 y3 "com/example/hoarewright/hoarewright/loy/LoyClass" "superclass" "Lcom/example/hoarewright/hoarewright/loy/LoyClass;" .null) (hs1 : s1 = .null ∨ s1 = .ref y2 ∨ s1 = .ref y3) (hs2 : s2 = .null ∨ s2 = .ref y3) (n12 : y1 ≠ y2) (n13 : y1 ≠ y3) (n23 : y2 ≠ y3) :
    Con l Z (⟨"com/example/hoarewright/hoarewright/loy/LoyClass", "isA", "(Lcom/example/hoarewright/hoarewright/loy/LoyClass;)Z"⟩ : MethodName) prog_43_method_5_code 4 (some (.boolean)) ws ({ frames := 0, cells := 0, slots := 0, locals := 0 } : Room) #[(.ref y1), (.ref b)] h0 (({ frames := 0, cells := 0, slots := 0, locals := 0 } : Room).cells) (({ frames := 0, cells := 0, slots := 0, locals := 0 } : Room).slots) (Q_rmIs1 Z y1 y2 y3 b s1 s2 h0 n0) := by
  refine Con.of (plainFor_of_name pn6) ?_
  intro p e s m below meth c s₁ hx hby hml hown hnm hret hlk hZ X0 e0
  have N0 := Fr.nil n0
  refine goE (L := #[.val (.ref y1), .val (.ref b), .unset, .unset]) (ef10 m y1 b) ?_
  refine gIconst X0 hx (0 : Int32) (hb hby d9_0) (q := 1) rfl (by decide) ?_
  refine gIstoreN X0 hx (hb hby d9_1) (q := 2) rfl (L' := #[.val (.ref y1), .val (.ref b), .val (.int (0 : Int32)), .unset]) rfl ?_
  refine gAloadN X0 hx (hb hby d9_2) (q := 3) rfl rfl rfl ?_
  refine gAstoreN X0 hx (hb hby d9_3) (q := 4) rfl rfl (L' := #[.val (.ref y1), .val (.ref b), .val (.int (0 : Int32)), .val (.ref y1)]) rfl ?_
  refine gAloadN X0 hx (hb hby d9_4) (q := 5) rfl rfl rfl ?_
  refine gNullN X0 hx (hb hby d9_5) (q := 8) rfl rfl Value.noConfusion ?_
  refine gIloadN X0 hx (hb hby d9_8) (q := 9) rfl rfl ?_
  refine gIfN X0 hx (hb hby d9_9) (q := 12) rfl (XT.i0_ne_f (by decide)) ?_
  refine gAloadN X0 hx (hb hby d9_12) (q := 13) rfl rfl rfl ?_
  refine gAloadN X0 hx (hb hby d9_13) (q := 14) rfl rfl rfl ?_
  by_cases c1 : (.ref y1 : Value) = (.ref b : Value)
  · refine gAcmpN X0 hx (hb hby d9_14) (q := 17) rfl rfl rfl (XT.aa_ne_f c1) ?_
    refine gIconst X0 hx (1 : Int32) (hb hby d9_17) (q := 18) rfl (by decide) ?_
    refine gGoto X0 hx (hb hby d9_18) (q := 22) (by decide) (by decide) ?_
    refine gIstoreN X0 hx (hb hby d9_22) (q := 23) rfl (L' := #[.val (.ref y1), .val (.ref b), .val (.int (1 : Int32)), .val (.ref y1)]) rfl ?_
    refine gAloadN X0 hx (hb hby d9_23) (q := 24) rfl rfl rfl ?_
    refine gGetF X0 hx hZ (host := "") hown (Or.inl (hw _ (List.mem_of_getElem? (i := 80) rfl))) Via.refl e0 F1 (hb hby d9_24) (q := 27) rfl (fun T2 X2 e2 => ?_)
    rcases hs1 with rfl | rfl | rfl
    · skip
      refine gAstoreN X2 hx (hb hby d9_27) (q := 28) rfl rfl (L' := #[.val (.ref y1), .val (.ref b), .val (.int (1 : Int32)), .val (.null)]) rfl ?_
      refine gGoto X2 hx (hb hby d9_28) (q := 4) (by decide) (by decide) ?_
      refine gAloadN X2 hx (hb hby d9_4) (q := 5) rfl rfl rfl ?_
      refine gNullY X2 hx (hb hby d9_5) (q := 31) (by decide) (by decide) rfl ?_
      refine gIloadN X2 hx (hb hby d9_31) (q := 32) rfl rfl ?_
      obtain rfl := Value.ref.inj c1
      exact gRetZ X2 hx hlk hret (hb hby d9_32) (by decide) (by decide) (by simp) ⟨by simp [own_r0, own_r1, own_r2, own_r3, n12, n12.symm, n13, n13.symm, n23, n23.symm], N0, e2⟩
    · skip
      refine gAstoreN X2 hx (hb hby d9_27) (q := 28) rfl rfl (L' := #[.val (.ref y1), .val (.ref b), .val (.int (1 : Int32)), .val (.ref y2)]) rfl ?_
      refine gGoto X2 hx (hb hby d9_28) (q := 4) (by decide) (by decide) ?_
      refine gAloadN X2 hx (hb hby d9_4) (q := 5) rfl rfl rfl ?_
      refine gNullN X2 hx (hb hby d9_5) (q := 8) rfl rfl Value.noConfusion ?_
      refine gIloadN X2 hx (hb hby d9_8) (q := 9) rfl rfl ?_
      refine gIfY X2 hx (hb hby d9_9) (q := 31) (by decide) (by decide) (XT.i0_ne_t (by decide)) ?_
      refine gIloadN X2 hx (hb hby d9_31) (q := 32) rfl rfl ?_
      obtain rfl := Value.ref.inj c1
      exact gRetZ X2 hx hlk hret (hb hby d9_32) (by decide) (by decide) (by simp) ⟨by simp [own_r0, own_r1, own_r2, own_r3, n12, n12.symm, n13, n13.symm, n23, n23.symm], N0, e2⟩
    · skip
      refine gAstoreN X2 hx (hb hby d9_27) (q := 28) rfl rfl (L' := #[.val (.ref y1), .val (.ref b), .val (.int (1 : Int32)), .val (.ref y3)]) rfl ?_
      refine gGoto X2 hx (hb hby d9_28) (q := 4) (by decide) (by decide) ?_
      refine gAloadN X2 hx (hb hby d9_4) (q := 5) rfl rfl rfl ?_
      refine gNullN X2 hx (hb hby d9_5) (q := 8) rfl rfl Value.noConfusion ?_
      refine gIloadN X2 hx (hb hby d9_8) (q := 9) rfl rfl ?_
      refine gIfY X2 hx (hb hby d9_9) (q := 31) (by decide) (by decide) (XT.i0_ne_t (by decide)) ?_
      refine gIloadN X2 hx (hb hby d9_31) (q := 32) rfl rfl ?_
      obtain rfl := Value.ref.inj c1
      exact gRetZ X2 hx hlk hret (hb hby d9_32) (by decide) (by decide) (by simp) ⟨by simp [own_r0, own_r1, own_r2, own_r3, n12, n12.symm, n13, n13.symm, n23, n23.symm], N0, e2⟩
  · refine gAcmpY X0 hx (hb hby d9_14) (q := 21) (by decide) (by decide) rfl rfl (XT.aa_ne_t c1) ?_
    refine gIconst X0 hx (0 : Int32) (hb hby d9_21) (q := 22) rfl (by decide) ?_
    refine gIstoreN X0 hx (hb hby d9_22) (q := 23) rfl (L' := #[.val (.ref y1), .val (.ref b), .val (.int (0 : Int32)), .val (.ref y1)]) rfl ?_
    refine gAloadN X0 hx (hb hby d9_23) (q := 24) rfl rfl rfl ?_
    refine gGetF X0 hx hZ (host := "") hown (Or.inl (hw _ (List.mem_of_getElem? (i := 80) rfl))) Via.refl e0 F1 (hb hby d9_24) (q := 27) rfl (fun T3 X3 e3 => ?_)
    rcases hs1 with rfl | rfl | rfl
    · skip
      refine gAstoreN X3 hx (hb hby d9_27) (q := 28) rfl rfl (L' := #[.val (.ref y1), .val (.ref b), .val (.int (0 : Int32)), .val (.null)]) rfl ?_
      refine gGoto X3 hx (hb hby d9_28) (q := 4) (by decide) (by decide) ?_
      refine gAloadN X3 hx (hb hby d9_4) (q := 5) rfl rfl rfl ?_
      refine gNullY X3 hx (hb hby d9_5) (q := 31) (by decide) (by decide) rfl ?_
      refine gIloadN X3 hx (hb hby d9_31) (q := 32) rfl rfl ?_
      exact gRetZ X3 hx hlk hret (hb hby d9_32) (by decide) (by decide) (by simp) ⟨by simp [own_r0, own_r1, own_r2, own_r3, c1, n12, n12.symm, n13, n13.symm, n23, n23.symm], N0, e3⟩
    · skip
      refine gAstoreN X3 hx (hb hby d9_27) (q := 28) rfl rfl (L' := #[.val (.ref y1), .val (.ref b), .val (.int (0 : Int32)), .val (.ref y2)]) rfl ?_
      refine gGoto X3 hx (hb hby d9_28) (q := 4) (by decide) (by decide) ?_
      refine gAloadN X3 hx (hb hby d9_4) (q := 5) rfl rfl rfl ?_
      refine gNullN X3 hx (hb hby d9_5) (q := 8) rfl rfl Value.noConfusion ?_
      refine gIloadN X3 hx (hb hby d9_8) (q := 9) rfl rfl ?_
      refine gIfN X3 hx (hb hby d9_9) (q := 12) rfl (XT.i0_ne_f (by decide)) ?_
      refine gAloadN X3 hx (hb hby d9_12) (q := 13) rfl rfl rfl ?_
      refine gAloadN X3 hx (hb hby d9_13) (q := 14) rfl rfl rfl ?_
      by_cases c4 : (.ref y2 : Value) = (.ref b : Value)
      · refine gAcmpN X3 hx (hb hby d9_14) (q := 17) rfl rfl rfl (XT.aa_ne_f c4) ?_
        refine gIconst X3 hx (1 : Int32) (hb hby d9_17) (q := 18) rfl (by decide) ?_
        refine gGoto X3 hx (hb hby d9_18) (q := 22) (by decide) (by decide) ?_
        refine gIstoreN X3 hx (hb hby d9_22) (q := 23) rfl (L' := #[.val (.ref y1), .val (.ref b), .val (.int (1 : Int32)), .val (.ref y2)]) rfl ?_
        refine gAloadN X3 hx (hb hby d9_23) (q := 24) rfl rfl rfl ?_
        refine gGetF X3 hx hZ (host := "") hown (Or.inl (hw _ (List.mem_of_getElem? (i := 80) rfl))) Via.refl e3 F2 (hb hby d9_24) (q := 27) rfl (fun T5 X5 e5 => ?_)
        rcases hs2 with rfl | rfl
        · skip
          refine gAstoreN X5 hx (hb hby d9_27) (q := 28) rfl rfl (L' := #[.val (.ref y1), .val (.ref b), .val (.int (1 : Int32)), .val (.null)]) rfl ?_
          refine gGoto X5 hx (hb hby d9_28) (q := 4) (by decide) (by decide) ?_
          refine gAloadN X5 hx (hb hby d9_4) (q := 5) rfl rfl rfl ?_
          refine gNullY X5 hx (hb hby d9_5) (q := 31) (by decide) (by decide) rfl ?_
          refine gIloadN X5 hx (hb hby d9_31) (q := 32) rfl rfl ?_
          obtain rfl := Value.ref.inj c4
          exact gRetZ X5 hx hlk hret (hb hby d9_32) (by decide) (by decide) (by simp) ⟨by simp [own_r0, own_r1, own_r2, own_r3, c1, n12, n12.symm, n13, n13.symm, n23, n23.symm], N0, e5⟩
        · skip
          refine gAstoreN X5 hx (hb hby d9_27) (q := 28) rfl rfl (L' := #[.val (.ref y1), .val (.ref b), .val (.int (1 : Int32)), .val (.ref y3)]) rfl ?_
          refine gGoto X5 hx (hb hby d9_28) (q := 4) (by decide) (by decide) ?_
          refine gAloadN X5 hx (hb hby d9_4) (q := 5) rfl rfl rfl ?_
          refine gNullN X5 hx (hb hby d9_5) (q := 8) rfl rfl Value.noConfusion ?_
          refine gIloadN X5 hx (hb hby d9_8) (q := 9) rfl rfl ?_
          refine gIfY X5 hx (hb hby d9_9) (q := 31) (by decide) (by decide) (XT.i0_ne_t (by decide)) ?_
          refine gIloadN X5 hx (hb hby d9_31) (q := 32) rfl rfl ?_
          obtain rfl := Value.ref.inj c4
          exact gRetZ X5 hx hlk hret (hb hby d9_32) (by decide) (by decide) (by simp) ⟨by simp [own_r0, own_r1, own_r2, own_r3, c1, n12, n12.symm, n13, n13.symm, n23, n23.symm], N0, e5⟩
      · refine gAcmpY X3 hx (hb hby d9_14) (q := 21) (by decide) (by decide) rfl rfl (XT.aa_ne_t c4) ?_
        refine gIconst X3 hx (0 : Int32) (hb hby d9_21) (q := 22) rfl (by decide) ?_
        refine gIstoreN X3 hx (hb hby d9_22) (q := 23) rfl (L' := #[.val (.ref y1), .val (.ref b), .val (.int (0 : Int32)), .val (.ref y2)]) rfl ?_
        refine gAloadN X3 hx (hb hby d9_23) (q := 24) rfl rfl rfl ?_
        refine gGetF X3 hx hZ (host := "") hown (Or.inl (hw _ (List.mem_of_getElem? (i := 80) rfl))) Via.refl e3 F2 (hb hby d9_24) (q := 27) rfl (fun T6 X6 e6 => ?_)
        rcases hs2 with rfl | rfl
        · skip
          refine gAstoreN X6 hx (hb hby d9_27) (q := 28) rfl rfl (L' := #[.val (.ref y1), .val (.ref b), .val (.int (0 : Int32)), .val (.null)]) rfl ?_
          refine gGoto X6 hx (hb hby d9_28) (q := 4) (by decide) (by decide) ?_
          refine gAloadN X6 hx (hb hby d9_4) (q := 5) rfl rfl rfl ?_
          refine gNullY X6 hx (hb hby d9_5) (q := 31) (by decide) (by decide) rfl ?_
          refine gIloadN X6 hx (hb hby d9_31) (q := 32) rfl rfl ?_
          exact gRetZ X6 hx hlk hret (hb hby d9_32) (by decide) (by decide) (by simp) ⟨by simp [own_r0, own_r1, own_r2, own_r3, c1, c4, n12, n12.symm, n13, n13.symm, n23, n23.symm], N0, e6⟩
        · skip
          refine gAstoreN X6 hx (hb hby d9_27) (q := 28) rfl rfl (L' := #[.val (.ref y1), .val (.ref b), .val (.int (0 : Int32)), .val (.ref y3)]) rfl ?_
          refine gGoto X6 hx (hb hby d9_28) (q := 4) (by decide) (by decide) ?_
          refine gAloadN X6 hx (hb hby d9_4) (q := 5) rfl rfl rfl ?_
          refine gNullN X6 hx (hb hby d9_5) (q := 8) rfl rfl Value.noConfusion ?_
          refine gIloadN X6 hx (hb hby d9_8) (q := 9) rfl rfl ?_
          refine gIfN X6 hx (hb hby d9_9) (q := 12) rfl (XT.i0_ne_f (by decide)) ?_
          refine gAloadN X6 hx (hb hby d9_12) (q := 13) rfl rfl rfl ?_
          refine gAloadN X6 hx (hb hby d9_13) (q := 14) rfl rfl rfl ?_
          by_cases c7 : (.ref y3 : Value) = (.ref b : Value)
          · refine gAcmpN X6 hx (hb hby d9_14) (q := 17) rfl rfl rfl (XT.aa_ne_f c7) ?_
            refine gIconst X6 hx (1 : Int32) (hb hby d9_17) (q := 18) rfl (by decide) ?_
            refine gGoto X6 hx (hb hby d9_18) (q := 22) (by decide) (by decide) ?_
            refine gIstoreN X6 hx (hb hby d9_22) (q := 23) rfl (L' := #[.val (.ref y1), .val (.ref b), .val (.int (1 : Int32)), .val (.ref y3)]) rfl ?_
            refine gAloadN X6 hx (hb hby d9_23) (q := 24) rfl rfl rfl ?_
            refine gGetF X6 hx hZ (host := "") hown (Or.inl (hw _ (List.mem_of_getElem? (i := 80) rfl))) Via.refl e6 F3 (hb hby d9_24) (q := 27) rfl (fun T8 X8 e8 => ?_)
            refine gAstoreN X8 hx (hb hby d9_27) (q := 28) rfl rfl (L' := #[.val (.ref y1), .val (.ref b), .val (.int (1 : Int32)), .val (.null)]) rfl ?_
            refine gGoto X8 hx (hb hby d9_28) (q := 4) (by decide) (by decide) ?_
            refine gAloadN X8 hx (hb hby d9_4) (q := 5) rfl rfl rfl ?_
            refine gNullY X8 hx (hb hby d9_5) (q := 31) (by decide) (by decide) rfl ?_
            refine gIloadN X8 hx (hb hby d9_31) (q := 32) rfl rfl ?_
            obtain rfl := Value.ref.inj c7
            exact gRetZ X8 hx hlk hret (hb hby d9_32) (by decide) (by decide) (by simp) ⟨by simp [own_r0, own_r1, own_r2, own_r3, c1, c4, n12, n12.symm, n13, n13.symm, n23, n23.symm], N0, e8⟩
          · refine gAcmpY X6 hx (hb hby d9_14) (q := 21) (by decide) (by decide) rfl rfl (XT.aa_ne_t c7) ?_
            refine gIconst X6 hx (0 : Int32) (hb hby d9_21) (q := 22) rfl (by decide) ?_
            refine gIstoreN X6 hx (hb hby d9_22) (q := 23) rfl (L' := #[.val (.ref y1), .val (.ref b), .val (.int (0 : Int32)), .val (.ref y3)]) rfl ?_
            refine gAloadN X6 hx (hb hby d9_23) (q := 24) rfl rfl rfl ?_
            refine gGetF X6 hx hZ (host := "") hown (Or.inl (hw _ (List.mem_of_getElem? (i := 80) rfl))) Via.refl e6 F3 (hb hby d9_24) (q := 27) rfl (fun T9 X9 e9 => ?_)
            refine gAstoreN X9 hx (hb hby d9_27) (q := 28) rfl rfl (L' := #[.val (.ref y1), .val (.ref b), .val (.int (0 : Int32)), .val (.null)]) rfl ?_
            refine gGoto X9 hx (hb hby d9_28) (q := 4) (by decide) (by decide) ?_
            refine gAloadN X9 hx (hb hby d9_4) (q := 5) rfl rfl rfl ?_
            refine gNullY X9 hx (hb hby d9_5) (q := 31) (by decide) (by decide) rfl ?_
            refine gIloadN X9 hx (hb hby d9_31) (q := 32) rfl rfl ?_
            exact gRetZ X9 hx hlk hret (hb hby d9_32) (by decide) (by decide) (by simp) ⟨by simp [own_r0, own_r1, own_r2, own_r3, c1, c4, c7, n12, n12.symm, n13, n13.symm, n23, n23.symm], N0, e9⟩
    · skip
      refine gAstoreN X3 hx (hb hby d9_27) (q := 28) rfl rfl (L' := #[.val (.ref y1), .val (.ref b), .val (.int (0 : Int32)), .val (.ref y3)]) rfl ?_
      refine gGoto X3 hx (hb hby d9_28) (q := 4) (by decide) (by decide) ?_
      refine gAloadN X3 hx (hb hby d9_4) (q := 5) rfl rfl rfl ?_
      refine gNullN X3 hx (hb hby d9_5) (q := 8) rfl rfl Value.noConfusion ?_
      refine gIloadN X3 hx (hb hby d9_8) (q := 9) rfl rfl ?_
      refine gIfN X3 hx (hb hby d9_9) (q := 12) rfl (XT.i0_ne_f (by decide)) ?_
      refine gAloadN X3 hx (hb hby d9_12) (q := 13) rfl rfl rfl ?_
      refine gAloadN X3 hx (hb hby d9_13) (q := 14) rfl rfl rfl ?_
      by_cases c10 : (.ref y3 : Value) = (.ref b : Value)
      · refine gAcmpN X3 hx (hb hby d9_14) (q := 17) rfl rfl rfl (XT.aa_ne_f c10) ?_
        refine gIconst X3 hx (1 : Int32) (hb hby d9_17) (q := 18) rfl (by decide) ?_
        refine gGoto X3 hx (hb hby d9_18) (q := 22) (by decide) (by decide) ?_
        refine gIstoreN X3 hx (hb hby d9_22) (q := 23) rfl (L' := #[.val (.ref y1), .val (.ref b), .val (.int (1 : Int32)), .val (.ref y3)]) rfl ?_
        refine gAloadN X3 hx (hb hby d9_23) (q := 24) rfl rfl rfl ?_
        refine gGetF X3 hx hZ (host := "") hown (Or.inl (hw _ (List.mem_of_getElem? (i := 80) rfl))) Via.refl e3 F3 (hb hby d9_24) (q := 27) rfl (fun T11 X11 e11 => ?_)
        refine gAstoreN X11 hx (hb hby d9_27) (q := 28) rfl rfl (L' := #[.val (.ref y1), .val (.ref b), .val (.int (1 : Int32)), .val (.null)]) rfl ?_
        refine gGoto X11 hx (hb hby d9_28) (q := 4) (by decide) (by decide) ?_
        refine gAloadN X11 hx (hb hby d9_4) (q := 5) rfl rfl rfl ?_
        refine gNullY X11 hx (hb hby d9_5) (q := 31) (by decide) (by decide) rfl ?_
        refine gIloadN X11 hx (hb hby d9_31) (q := 32) rfl rfl ?_
        obtain rfl := Value.ref.inj c10
        exact gRetZ X11 hx hlk hret (hb hby d9_32) (by decide) (by decide) (by simp) ⟨by simp [own_r0, own_r1, own_r2, own_r3, c1, n12, n12.symm, n13, n13.symm, n23, n23.symm], N0, e11⟩
      · refine gAcmpY X3 hx (hb hby d9_14) (q := 21) (by decide) (by decide) rfl rfl (XT.aa_ne_t c10) ?_
        refine gIconst X3 hx (0 : Int32) (hb hby d9_21) (q := 22) rfl (by decide) ?_
        refine gIstoreN X3 hx (hb hby d9_22) (q := 23) rfl (L' := #[.val (.ref y1), .val (.ref b), .val (.int (0 : Int32)), .val (.ref y3)]) rfl ?_
        refine gAloadN X3 hx (hb hby d9_23) (q := 24) rfl rfl rfl ?_
        refine gGetF X3 hx hZ (host := "") hown (Or.inl (hw _ (List.mem_of_getElem? (i := 80) rfl))) Via.refl e3 F3 (hb hby d9_24) (q := 27) rfl (fun T12 X12 e12 => ?_)
        refine gAstoreN X12 hx (hb hby d9_27) (q := 28) rfl rfl (L' := #[.val (.ref y1), .val (.ref b), .val (.int (0 : Int32)), .val (.null)]) rfl ?_
        refine gGoto X12 hx (hb hby d9_28) (q := 4) (by decide) (by decide) ?_
        refine gAloadN X12 hx (hb hby d9_4) (q := 5) rfl rfl rfl ?_
        refine gNullY X12 hx (hb hby d9_5) (q := 31) (by decide) (by decide) rfl ?_
        refine gIloadN X12 hx (hb hby d9_31) (q := 32) rfl rfl ?_
        exact gRetZ X12 hx hlk hret (hb hby d9_32) (by decide) (by decide) (by simp) ⟨by simp [own_r0, own_r1, own_r2, own_r3, c1, c10, n12, n12.symm, n13, n13.symm, n23, n23.symm], N0, e12⟩
theorem ef11 (m : MethodId) (x0 : Addr) (x1 : Addr) : entryFrame m #[(.ref x0), (.ref x1)] 4 = mkF m 0 #[.val (.ref x0), .val (.ref x1), .unset, .unset] [] := by first | (simp [entryFrame, mkF, argsToLocals, Value.category]; done) | rfl
def Q_rmIs0 (Z : State) (y0 : Addr) (y1 : Addr) (y2 : Addr) (y3 : Addr) (b : Addr) (s0 : Value) (s1 : Value) (s2 : Value) (h0 : Heap) (n0 : Nat) (v : Option Value) (h : Heap) (L : List Loc) : Prop := v = some (.int (own_r0 y0 y1 y2 y3 b s0 s1 s2)) ∧ Fr n0 L ∧ h = h0
set_option maxRecDepth 65536 in
set_option maxHeartbeats 40000000 in
theorem rmIs0 (l : Launch) (Z : State) (a0 : Array Value) (hw : ∀ d ∈ tables_1, d.before a0 Z = true) (ws : List Jvm.Cond) (y0 : Addr) (y1 : Addr) (y2 : Addr) (y3 : Addr) (b : Addr) (s0 : Value) (s1 : Value) (s2 : Value) (h0 : Heap) (n0 : Nat) (Z0 : n0 ≤ h0.size) (F0 : Fld Z h0 y0 "com/example/hoarewright/hoarewright/loy/LoyClass" "superclass" "Lcom/example/hoarewright/hoarewright/loy/LoyClass;" s0) (F1 : Fld Z h0 y1 "com/example/hoarewright/hoarewright/loy/LoyClass" "superclass" "Lcom/example/hoarewright/hoarewright/loy/LoyClass;" s1) (F2 : Fld Z h0 y2 "com/example/hoarewright/hoarewright/loy/LoyClass" "superclass" "Lcom/example/hoarewright/hoarewright/loy/LoyClass;" s2) (F3 : Fld Z h0 y3 "com/example/hoarewright/hoarewright/loy/LoyClass" "superclass" "Lcom/example/hoarewright/hoarewright/loy/LoyClass;" .null) (hs0 : s0 = .null ∨ s0 = .ref y1 ∨ s0 = .ref y2 ∨ s0 = .ref y3) (hs1 : s1 = .null ∨ s1 = .ref y2 ∨ s1 = .ref y3) (hs2 : s2 = .null ∨ s2 = .ref y3) (n01 : y0 ≠ y1) (n02 : y0 ≠ y2) (n03 : y0 ≠ y3) (n12 : y1 ≠ y2) (n13 : y1 ≠ y3) (n23 : y2 ≠ y3) :
    Con l Z (⟨"com/example/hoarewright/hoarewright/loy/LoyClass", "isA", "(Lcom/example/hoarewright/hoarewright/loy/LoyClass;)Z"⟩ : MethodName) prog_43_method_5_code 4 (some (.boolean)) ws ({ frames := 0, cells := 0, slots := 0, locals := 0 } : Room) #[(.ref y0), (.ref b)] h0 (({ frames := 0, cells := 0, slots := 0, locals := 0 } : Room).cells) (({ frames := 0, cells := 0, slots := 0, locals := 0 } : Room).slots) (Q_rmIs0 Z y0 y1 y2 y3 b s0 s1 s2 h0 n0) := by
  refine Con.of (plainFor_of_name pn6) ?_
  intro p e s m below meth c s₁ hx hby hml hown hnm hret hlk hZ X0 e0
  have N0 := Fr.nil n0
  refine goE (L := #[.val (.ref y0), .val (.ref b), .unset, .unset]) (ef11 m y0 b) ?_
  refine gIconst X0 hx (0 : Int32) (hb hby d9_0) (q := 1) rfl (by decide) ?_
  refine gIstoreN X0 hx (hb hby d9_1) (q := 2) rfl (L' := #[.val (.ref y0), .val (.ref b), .val (.int (0 : Int32)), .unset]) rfl ?_
  refine gAloadN X0 hx (hb hby d9_2) (q := 3) rfl rfl rfl ?_
  refine gAstoreN X0 hx (hb hby d9_3) (q := 4) rfl rfl (L' := #[.val (.ref y0), .val (.ref b), .val (.int (0 : Int32)), .val (.ref y0)]) rfl ?_
  refine gAloadN X0 hx (hb hby d9_4) (q := 5) rfl rfl rfl ?_
  refine gNullN X0 hx (hb hby d9_5) (q := 8) rfl rfl Value.noConfusion ?_
  refine gIloadN X0 hx (hb hby d9_8) (q := 9) rfl rfl ?_
  refine gIfN X0 hx (hb hby d9_9) (q := 12) rfl (XT.i0_ne_f (by decide)) ?_
  refine gAloadN X0 hx (hb hby d9_12) (q := 13) rfl rfl rfl ?_
  refine gAloadN X0 hx (hb hby d9_13) (q := 14) rfl rfl rfl ?_
  by_cases c1 : (.ref y0 : Value) = (.ref b : Value)
  · refine gAcmpN X0 hx (hb hby d9_14) (q := 17) rfl rfl rfl (XT.aa_ne_f c1) ?_
    refine gIconst X0 hx (1 : Int32) (hb hby d9_17) (q := 18) rfl (by decide) ?_
    refine gGoto X0 hx (hb hby d9_18) (q := 22) (by decide) (by decide) ?_
    refine gIstoreN X0 hx (hb hby d9_22) (q := 23) rfl (L' := #[.val (.ref y0), .val (.ref b), .val (.int (1 : Int32)), .val (.ref y0)]) rfl ?_
    refine gAloadN X0 hx (hb hby d9_23) (q := 24) rfl rfl rfl ?_
    refine gGetF X0 hx hZ (host := "") hown (Or.inl (hw _ (List.mem_of_getElem? (i := 80) rfl))) Via.refl e0 F0 (hb hby d9_24) (q := 27) rfl (fun T2 X2 e2 => ?_)
    rcases hs0 with rfl | rfl | rfl | rfl
    · skip
      refine gAstoreN X2 hx (hb hby d9_27) (q := 28) rfl rfl (L' := #[.val (.ref y0), .val (.ref b), .val (.int (1 : Int32)), .val (.null)]) rfl ?_
      refine gGoto X2 hx (hb hby d9_28) (q := 4) (by decide) (by decide) ?_
      refine gAloadN X2 hx (hb hby d9_4) (q := 5) rfl rfl rfl ?_
      refine gNullY X2 hx (hb hby d9_5) (q := 31) (by decide) (by decide) rfl ?_
      refine gIloadN X2 hx (hb hby d9_31) (q := 32) rfl rfl ?_
      obtain rfl := Value.ref.inj c1
      exact gRetZ X2 hx hlk hret (hb hby d9_32) (by decide) (by decide) (by simp) ⟨by simp [own_r0, own_r1, own_r2, own_r3, n01, n01.symm, n02, n02.symm, n03, n03.symm, n12, n12.symm, n13, n13.symm, n23, n23.symm], N0, e2⟩
    · skip
      refine gAstoreN X2 hx (hb hby d9_27) (q := 28) rfl rfl (L' := #[.val (.ref y0), .val (.ref b), .val (.int (1 : Int32)), .val (.ref y1)]) rfl ?_
      refine gGoto X2 hx (hb hby d9_28) (q := 4) (by decide) (by decide) ?_
      refine gAloadN X2 hx (hb hby d9_4) (q := 5) rfl rfl rfl ?_
      refine gNullN X2 hx (hb hby d9_5) (q := 8) rfl rfl Value.noConfusion ?_
      refine gIloadN X2 hx (hb hby d9_8) (q := 9) rfl rfl ?_
      refine gIfY X2 hx (hb hby d9_9) (q := 31) (by decide) (by decide) (XT.i0_ne_t (by decide)) ?_
      refine gIloadN X2 hx (hb hby d9_31) (q := 32) rfl rfl ?_
      obtain rfl := Value.ref.inj c1
      exact gRetZ X2 hx hlk hret (hb hby d9_32) (by decide) (by decide) (by simp) ⟨by simp [own_r0, own_r1, own_r2, own_r3, n01, n01.symm, n02, n02.symm, n03, n03.symm, n12, n12.symm, n13, n13.symm, n23, n23.symm], N0, e2⟩
    · skip
      refine gAstoreN X2 hx (hb hby d9_27) (q := 28) rfl rfl (L' := #[.val (.ref y0), .val (.ref b), .val (.int (1 : Int32)), .val (.ref y2)]) rfl ?_
      refine gGoto X2 hx (hb hby d9_28) (q := 4) (by decide) (by decide) ?_
      refine gAloadN X2 hx (hb hby d9_4) (q := 5) rfl rfl rfl ?_
      refine gNullN X2 hx (hb hby d9_5) (q := 8) rfl rfl Value.noConfusion ?_
      refine gIloadN X2 hx (hb hby d9_8) (q := 9) rfl rfl ?_
      refine gIfY X2 hx (hb hby d9_9) (q := 31) (by decide) (by decide) (XT.i0_ne_t (by decide)) ?_
      refine gIloadN X2 hx (hb hby d9_31) (q := 32) rfl rfl ?_
      obtain rfl := Value.ref.inj c1
      exact gRetZ X2 hx hlk hret (hb hby d9_32) (by decide) (by decide) (by simp) ⟨by simp [own_r0, own_r1, own_r2, own_r3, n01, n01.symm, n02, n02.symm, n03, n03.symm, n12, n12.symm, n13, n13.symm, n23, n23.symm], N0, e2⟩
    · skip
      refine gAstoreN X2 hx (hb hby d9_27) (q := 28) rfl rfl (L' := #[.val (.ref y0), .val (.ref b), .val (.int (1 : Int32)), .val (.ref y3)]) rfl ?_
      refine gGoto X2 hx (hb hby d9_28) (q := 4) (by decide) (by decide) ?_
      refine gAloadN X2 hx (hb hby d9_4) (q := 5) rfl rfl rfl ?_
      refine gNullN X2 hx (hb hby d9_5) (q := 8) rfl rfl Value.noConfusion ?_
      refine gIloadN X2 hx (hb hby d9_8) (q := 9) rfl rfl ?_
      refine gIfY X2 hx (hb hby d9_9) (q := 31) (by decide) (by decide) (XT.i0_ne_t (by decide)) ?_
      refine gIloadN X2 hx (hb hby d9_31) (q := 32) rfl rfl ?_
      obtain rfl := Value.ref.inj c1
      exact gRetZ X2 hx hlk hret (hb hby d9_32) (by decide) (by decide) (by simp) ⟨by simp [own_r0, own_r1, own_r2, own_r3, n01, n01.symm, n02, n02.symm, n03, n03.symm, n12, n12.symm, n13, n13.symm, n23, n23.symm], N0, e2⟩
  · refine gAcmpY X0 hx (hb hby d9_14) (q := 21) (by decide) (by decide) rfl rfl (XT.aa_ne_t c1) ?_
    refine gIconst X0 hx (0 : Int32) (hb hby d9_21) (q := 22) rfl (by decide) ?_
    refine gIstoreN X0 hx (hb hby d9_22) (q := 23) rfl (L' := #[.val (.ref y0), .val (.ref b), .val (.int (0 : Int32)), .val (.ref y0)]) rfl ?_
    refine gAloadN X0 hx (hb hby d9_23) (q := 24) rfl rfl rfl ?_
    refine gGetF X0 hx hZ (host := "") hown (Or.inl (hw _ (List.mem_of_getElem? (i := 80) rfl))) Via.refl e0 F0 (hb hby d9_24) (q := 27) rfl (fun T3 X3 e3 => ?_)
    rcases hs0 with rfl | rfl | rfl | rfl
    · skip
      refine gAstoreN X3 hx (hb hby d9_27) (q := 28) rfl rfl (L' := #[.val (.ref y0), .val (.ref b), .val (.int (0 : Int32)), .val (.null)]) rfl ?_
      refine gGoto X3 hx (hb hby d9_28) (q := 4) (by decide) (by decide) ?_
      refine gAloadN X3 hx (hb hby d9_4) (q := 5) rfl rfl rfl ?_
      refine gNullY X3 hx (hb hby d9_5) (q := 31) (by decide) (by decide) rfl ?_
      refine gIloadN X3 hx (hb hby d9_31) (q := 32) rfl rfl ?_
      exact gRetZ X3 hx hlk hret (hb hby d9_32) (by decide) (by decide) (by simp) ⟨by simp [own_r0, own_r1, own_r2, own_r3, c1, n01, n01.symm, n02, n02.symm, n03, n03.symm, n12, n12.symm, n13, n13.symm, n23, n23.symm], N0, e3⟩
    · skip
      refine gAstoreN X3 hx (hb hby d9_27) (q := 28) rfl rfl (L' := #[.val (.ref y0), .val (.ref b), .val (.int (0 : Int32)), .val (.ref y1)]) rfl ?_
      refine gGoto X3 hx (hb hby d9_28) (q := 4) (by decide) (by decide) ?_
      refine gAloadN X3 hx (hb hby d9_4) (q := 5) rfl rfl rfl ?_
      refine gNullN X3 hx (hb hby d9_5) (q := 8) rfl rfl Value.noConfusion ?_
      refine gIloadN X3 hx (hb hby d9_8) (q := 9) rfl rfl ?_
      refine gIfN X3 hx (hb hby d9_9) (q := 12) rfl (XT.i0_ne_f (by decide)) ?_
      refine gAloadN X3 hx (hb hby d9_12) (q := 13) rfl rfl rfl ?_
      refine gAloadN X3 hx (hb hby d9_13) (q := 14) rfl rfl rfl ?_
      by_cases c4 : (.ref y1 : Value) = (.ref b : Value)
      · refine gAcmpN X3 hx (hb hby d9_14) (q := 17) rfl rfl rfl (XT.aa_ne_f c4) ?_
        refine gIconst X3 hx (1 : Int32) (hb hby d9_17) (q := 18) rfl (by decide) ?_
        refine gGoto X3 hx (hb hby d9_18) (q := 22) (by decide) (by decide) ?_
        refine gIstoreN X3 hx (hb hby d9_22) (q := 23) rfl (L' := #[.val (.ref y0), .val (.ref b), .val (.int (1 : Int32)), .val (.ref y1)]) rfl ?_
        refine gAloadN X3 hx (hb hby d9_23) (q := 24) rfl rfl rfl ?_
        refine gGetF X3 hx hZ (host := "") hown (Or.inl (hw _ (List.mem_of_getElem? (i := 80) rfl))) Via.refl e3 F1 (hb hby d9_24) (q := 27) rfl (fun T5 X5 e5 => ?_)
        rcases hs1 with rfl | rfl | rfl
        · skip
          refine gAstoreN X5 hx (hb hby d9_27) (q := 28) rfl rfl (L' := #[.val (.ref y0), .val (.ref b), .val (.int (1 : Int32)), .val (.null)]) rfl ?_
          refine gGoto X5 hx (hb hby d9_28) (q := 4) (by decide) (by decide) ?_
          refine gAloadN X5 hx (hb hby d9_4) (q := 5) rfl rfl rfl ?_
          refine gNullY X5 hx (hb hby d9_5) (q := 31) (by decide) (by decide) rfl ?_
          refine gIloadN X5 hx (hb hby d9_31) (q := 32) rfl rfl ?_
          obtain rfl := Value.ref.inj c4
          exact gRetZ X5 hx hlk hret (hb hby d9_32) (by decide) (by decide) (by simp) ⟨by simp [own_r0, own_r1, own_r2, own_r3, c1, n01, n01.symm, n02, n02.symm, n03, n03.symm, n12, n12.symm, n13, n13.symm, n23, n23.symm], N0, e5⟩
        · skip
          refine gAstoreN X5 hx (hb hby d9_27) (q := 28) rfl rfl (L' := #[.val (.ref y0), .val (.ref b), .val (.int (1 : Int32)), .val (.ref y2)]) rfl ?_
          refine gGoto X5 hx (hb hby d9_28) (q := 4) (by decide) (by decide) ?_
          refine gAloadN X5 hx (hb hby d9_4) (q := 5) rfl rfl rfl ?_
          refine gNullN X5 hx (hb hby d9_5) (q := 8) rfl rfl Value.noConfusion ?_
          refine gIloadN X5 hx (hb hby d9_8) (q := 9) rfl rfl ?_
          refine gIfY X5 hx (hb hby d9_9) (q := 31) (by decide) (by decide) (XT.i0_ne_t (by decide)) ?_
          refine gIloadN X5 hx (hb hby d9_31) (q := 32) rfl rfl ?_
          obtain rfl := Value.ref.inj c4
          exact gRetZ X5 hx hlk hret (hb hby d9_32) (by decide) (by decide) (by simp) ⟨by simp [own_r0, own_r1, own_r2, own_r3, c1, n01, n01.symm, n02, n02.symm, n03, n03.symm, n12, n12.symm, n13, n13.symm, n23, n23.symm], N0, e5⟩
        · skip
          refine gAstoreN X5 hx (hb hby d9_27) (q := 28) rfl rfl (L' := #[.val (.ref y0), .val (.ref b), .val (.int (1 : Int32)), .val (.ref y3)]) rfl ?_
          refine gGoto X5 hx (hb hby d9_28) (q := 4) (by decide) (by decide) ?_
          refine gAloadN X5 hx (hb hby d9_4) (q := 5) rfl rfl rfl ?_
          refine gNullN X5 hx (hb hby d9_5) (q := 8) rfl rfl Value.noConfusion ?_
          refine gIloadN X5 hx (hb hby d9_8) (q := 9) rfl rfl ?_
          refine gIfY X5 hx (hb hby d9_9) (q := 31) (by decide) (by decide) (XT.i0_ne_t (by decide)) ?_
          refine gIloadN X5 hx (hb hby d9_31) (q := 32) rfl rfl ?_
          obtain rfl := Value.ref.inj c4
          exact gRetZ X5 hx hlk hret (hb hby d9_32) (by decide) (by decide) (by simp) ⟨by simp [own_r0, own_r1, own_r2, own_r3, c1, n01, n01.symm, n02, n02.symm, n03, n03.symm, n12, n12.symm, n13, n13.symm, n23, n23.symm], N0, e5⟩
      · refine gAcmpY X3 hx (hb hby d9_14) (q := 21) (by decide) (by decide) rfl rfl (XT.aa_ne_t c4) ?_
        refine gIconst X3 hx (0 : Int32) (hb hby d9_21) (q := 22) rfl (by decide) ?_
        refine gIstoreN X3 hx (hb hby d9_22) (q := 23) rfl (L' := #[.val (.ref y0), .val (.ref b), .val (.int (0 : Int32)), .val (.ref y1)]) rfl ?_
        refine gAloadN X3 hx (hb hby d9_23) (q := 24) rfl rfl rfl ?_
        refine gGetF X3 hx hZ (host := "") hown (Or.inl (hw _ (List.mem_of_getElem? (i := 80) rfl))) Via.refl e3 F1 (hb hby d9_24) (q := 27) rfl (fun T6 X6 e6 => ?_)
        rcases hs1 with rfl | rfl | rfl
        · skip
          refine gAstoreN X6 hx (hb hby d9_27) (q := 28) rfl rfl (L' := #[.val (.ref y0), .val (.ref b), .val (.int (0 : Int32)), .val (.null)]) rfl ?_
          refine gGoto X6 hx (hb hby d9_28) (q := 4) (by decide) (by decide) ?_
          refine gAloadN X6 hx (hb hby d9_4) (q := 5) rfl rfl rfl ?_
          refine gNullY X6 hx (hb hby d9_5) (q := 31) (by decide) (by decide) rfl ?_
          refine gIloadN X6 hx (hb hby d9_31) (q := 32) rfl rfl ?_
          exact gRetZ X6 hx hlk hret (hb hby d9_32) (by decide) (by decide) (by simp) ⟨by simp [own_r0, own_r1, own_r2, own_r3, c1, c4, n01, n01.symm, n02, n02.symm, n03, n03.symm, n12, n12.symm, n13, n13.symm, n23, n23.symm], N0, e6⟩
        · skip
          refine gAstoreN X6 hx (hb hby d9_27) (q := 28) rfl rfl (L' := #[.val (.ref y0), .val (.ref b), .val (.int (0 : Int32)), .val (.ref y2)]) rfl ?_
          refine gGoto X6 hx (hb hby d9_28) (q := 4) (by decide) (by decide) ?_
          refine gAloadN X6 hx (hb hby d9_4) (q := 5) rfl rfl rfl ?_
          refine gNullN X6 hx (hb hby d9_5) (q := 8) rfl rfl Value.noConfusion ?_
          refine gIloadN X6 hx (hb hby d9_8) (q := 9) rfl rfl ?_
          refine gIfN X6 hx (hb hby d9_9) (q := 12) rfl (XT.i0_ne_f (by decide)) ?_
          refine gAloadN X6 hx (hb hby d9_12) (q := 13) rfl rfl rfl ?_
          refine gAloadN X6 hx (hb hby d9_13) (q := 14) rfl rfl rfl ?_
          by_cases c7 : (.ref y2 : Value) = (.ref b : Value)
          · refine gAcmpN X6 hx (hb hby d9_14) (q := 17) rfl rfl rfl (XT.aa_ne_f c7) ?_
            refine gIconst X6 hx (1 : Int32) (hb hby d9_17) (q := 18) rfl (by decide) ?_
            refine gGoto X6 hx (hb hby d9_18) (q := 22) (by decide) (by decide) ?_
            refine gIstoreN X6 hx (hb hby d9_22) (q := 23) rfl (L' := #[.val (.ref y0), .val (.ref b), .val (.int (1 : Int32)), .val (.ref y2)]) rfl ?_
            refine gAloadN X6 hx (hb hby d9_23) (q := 24) rfl rfl rfl ?_
            refine gGetF X6 hx hZ (host := "") hown (Or.inl (hw _ (List.mem_of_getElem? (i := 80) rfl))) Via.refl e6 F2 (hb hby d9_24) (q := 27) rfl (fun T8 X8 e8 => ?_)
            rcases hs2 with rfl | rfl
            · skip
              refine gAstoreN X8 hx (hb hby d9_27) (q := 28) rfl rfl (L' := #[.val (.ref y0), .val (.ref b), .val (.int (1 : Int32)), .val (.null)]) rfl ?_
              refine gGoto X8 hx (hb hby d9_28) (q := 4) (by decide) (by decide) ?_
              refine gAloadN X8 hx (hb hby d9_4) (q := 5) rfl rfl rfl ?_
              refine gNullY X8 hx (hb hby d9_5) (q := 31) (by decide) (by decide) rfl ?_
              refine gIloadN X8 hx (hb hby d9_31) (q := 32) rfl rfl ?_
              obtain rfl := Value.ref.inj c7
              exact gRetZ X8 hx hlk hret (hb hby d9_32) (by decide) (by decide) (by simp) ⟨by simp [own_r0, own_r1, own_r2, own_r3, c1, c4, n01, n01.symm, n02, n02.symm, n03, n03.symm, n12, n12.symm, n13, n13.symm, n23, n23.symm], N0, e8⟩
            · skip
              refine gAstoreN X8 hx (hb hby d9_27) (q := 28) rfl rfl (L' := #[.val (.ref y0), .val (.ref b), .val (.int (1 : Int32)), .val (.ref y3)]) rfl ?_
              refine gGoto X8 hx (hb hby d9_28) (q := 4) (by decide) (by decide) ?_
              refine gAloadN X8 hx (hb hby d9_4) (q := 5) rfl rfl rfl ?_
              refine gNullN X8 hx (hb hby d9_5) (q := 8) rfl rfl Value.noConfusion ?_
              refine gIloadN X8 hx (hb hby d9_8) (q := 9) rfl rfl ?_
              refine gIfY X8 hx (hb hby d9_9) (q := 31) (by decide) (by decide) (XT.i0_ne_t (by decide)) ?_
              refine gIloadN X8 hx (hb hby d9_31) (q := 32) rfl rfl ?_
              obtain rfl := Value.ref.inj c7
              exact gRetZ X8 hx hlk hret (hb hby d9_32) (by decide) (by decide) (by simp) ⟨by simp [own_r0, own_r1, own_r2, own_r3, c1, c4, n01, n01.symm, n02, n02.symm, n03, n03.symm, n12, n12.symm, n13, n13.symm, n23, n23.symm], N0, e8⟩
          · refine gAcmpY X6 hx (hb hby d9_14) (q := 21) (by decide) (by decide) rfl rfl (XT.aa_ne_t c7) ?_
            refine gIconst X6 hx (0 : Int32) (hb hby d9_21) (q := 22) rfl (by decide) ?_
            refine gIstoreN X6 hx (hb hby d9_22) (q := 23) rfl (L' := #[.val (.ref y0), .val (.ref b), .val (.int (0 : Int32)), .val (.ref y2)]) rfl ?_
            refine gAloadN X6 hx (hb hby d9_23) (q := 24) rfl rfl rfl ?_
            refine gGetF X6 hx hZ (host := "") hown (Or.inl (hw _ (List.mem_of_getElem? (i := 80) rfl))) Via.refl e6 F2 (hb hby d9_24) (q := 27) rfl (fun T9 X9 e9 => ?_)
            rcases hs2 with rfl | rfl
            · skip
              refine gAstoreN X9 hx (hb hby d9_27) (q := 28) rfl rfl (L' := #[.val (.ref y0), .val (.ref b), .val (.int (0 : Int32)), .val (.null)]) rfl ?_
              refine gGoto X9 hx (hb hby d9_28) (q := 4) (by decide) (by decide) ?_
              refine gAloadN X9 hx (hb hby d9_4) (q := 5) rfl rfl rfl ?_
              refine gNullY X9 hx (hb hby d9_5) (q := 31) (by decide) (by decide) rfl ?_
              refine gIloadN X9 hx (hb hby d9_31) (q := 32) rfl rfl ?_
              exact gRetZ X9 hx hlk hret (hb hby d9_32) (by decide) (by decide) (by simp) ⟨by simp [own_r0, own_r1, own_r2, own_r3, c1, c4, c7, n01, n01.symm, n02, n02.symm, n03, n03.symm, n12, n12.symm, n13, n13.symm, n23, n23.symm], N0, e9⟩
            · skip
              refine gAstoreN X9 hx (hb hby d9_27) (q := 28) rfl rfl (L' := #[.val (.ref y0), .val (.ref b), .val (.int (0 : Int32)), .val (.ref y3)]) rfl ?_
              refine gGoto X9 hx (hb hby d9_28) (q := 4) (by decide) (by decide) ?_
              refine gAloadN X9 hx (hb hby d9_4) (q := 5) rfl rfl rfl ?_
              refine gNullN X9 hx (hb hby d9_5) (q := 8) rfl rfl Value.noConfusion ?_
              refine gIloadN X9 hx (hb hby d9_8) (q := 9) rfl rfl ?_
              refine gIfN X9 hx (hb hby d9_9) (q := 12) rfl (XT.i0_ne_f (by decide)) ?_
              refine gAloadN X9 hx (hb hby d9_12) (q := 13) rfl rfl rfl ?_
              refine gAloadN X9 hx (hb hby d9_13) (q := 14) rfl rfl rfl ?_
              by_cases c10 : (.ref y3 : Value) = (.ref b : Value)
              · refine gAcmpN X9 hx (hb hby d9_14) (q := 17) rfl rfl rfl (XT.aa_ne_f c10) ?_
                refine gIconst X9 hx (1 : Int32) (hb hby d9_17) (q := 18) rfl (by decide) ?_
                refine gGoto X9 hx (hb hby d9_18) (q := 22) (by decide) (by decide) ?_
                refine gIstoreN X9 hx (hb hby d9_22) (q := 23) rfl (L' := #[.val (.ref y0), .val (.ref b), .val (.int (1 : Int32)), .val (.ref y3)]) rfl ?_
                refine gAloadN X9 hx (hb hby d9_23) (q := 24) rfl rfl rfl ?_
                refine gGetF X9 hx hZ (host := "") hown (Or.inl (hw _ (List.mem_of_getElem? (i := 80) rfl))) Via.refl e9 F3 (hb hby d9_24) (q := 27) rfl (fun T11 X11 e11 => ?_)
                refine gAstoreN X11 hx (hb hby d9_27) (q := 28) rfl rfl (L' := #[.val (.ref y0), .val (.ref b), .val (.int (1 : Int32)), .val (.null)]) rfl ?_
                refine gGoto X11 hx (hb hby d9_28) (q := 4) (by decide) (by decide) ?_
                refine gAloadN X11 hx (hb hby d9_4) (q := 5) rfl rfl rfl ?_
                refine gNullY X11 hx (hb hby d9_5) (q := 31) (by decide) (by decide) rfl ?_
                refine gIloadN X11 hx (hb hby d9_31) (q := 32) rfl rfl ?_
                obtain rfl := Value.ref.inj c10
                exact gRetZ X11 hx hlk hret (hb hby d9_32) (by decide) (by decide) (by simp) ⟨by simp [own_r0, own_r1, own_r2, own_r3, c1, c4, c7, n01, n01.symm, n02, n02.symm, n03, n03.symm, n12, n12.symm, n13, n13.symm, n23, n23.symm], N0, e11⟩
              · refine gAcmpY X9 hx (hb hby d9_14) (q := 21) (by decide) (by decide) rfl rfl (XT.aa_ne_t c10) ?_
                refine gIconst X9 hx (0 : Int32) (hb hby d9_21) (q := 22) rfl (by decide) ?_
                refine gIstoreN X9 hx (hb hby d9_22) (q := 23) rfl (L' := #[.val (.ref y0), .val (.ref b), .val (.int (0 : Int32)), .val (.ref y3)]) rfl ?_
                refine gAloadN X9 hx (hb hby d9_23) (q := 24) rfl rfl rfl ?_
                refine gGetF X9 hx hZ (host := "") hown (Or.inl (hw _ (List.mem_of_getElem? (i := 80) rfl))) Via.refl e9 F3 (hb hby d9_24) (q := 27) rfl (fun T12 X12 e12 => ?_)
                refine gAstoreN X12 hx (hb hby d9_27) (q := 28) rfl rfl (L' := #[.val (.ref y0), .val (.ref b), .val (.int (0 : Int32)), .val (.null)]) rfl ?_
                refine gGoto X12 hx (hb hby d9_28) (q := 4) (by decide) (by decide) ?_
                refine gAloadN X12 hx (hb hby d9_4) (q := 5) rfl rfl rfl ?_
                refine gNullY X12 hx (hb hby d9_5) (q := 31) (by decide) (by decide) rfl ?_
                refine gIloadN X12 hx (hb hby d9_31) (q := 32) rfl rfl ?_
                exact gRetZ X12 hx hlk hret (hb hby d9_32) (by decide) (by decide) (by simp) ⟨by simp [own_r0, own_r1, own_r2, own_r3, c1, c4, c7, c10, n01, n01.symm, n02, n02.symm, n03, n03.symm, n12, n12.symm, n13, n13.symm, n23, n23.symm], N0, e12⟩
        · skip
          refine gAstoreN X6 hx (hb hby d9_27) (q := 28) rfl rfl (L' := #[.val (.ref y0), .val (.ref b), .val (.int (0 : Int32)), .val (.ref y3)]) rfl ?_
          refine gGoto X6 hx (hb hby d9_28) (q := 4) (by decide) (by decide) ?_
          refine gAloadN X6 hx (hb hby d9_4) (q := 5) rfl rfl rfl ?_
          refine gNullN X6 hx (hb hby d9_5) (q := 8) rfl rfl Value.noConfusion ?_
          refine gIloadN X6 hx (hb hby d9_8) (q := 9) rfl rfl ?_
          refine gIfN X6 hx (hb hby d9_9) (q := 12) rfl (XT.i0_ne_f (by decide)) ?_
          refine gAloadN X6 hx (hb hby d9_12) (q := 13) rfl rfl rfl ?_
          refine gAloadN X6 hx (hb hby d9_13) (q := 14) rfl rfl rfl ?_
          by_cases c13 : (.ref y3 : Value) = (.ref b : Value)
          · refine gAcmpN X6 hx (hb hby d9_14) (q := 17) rfl rfl rfl (XT.aa_ne_f c13) ?_
            refine gIconst X6 hx (1 : Int32) (hb hby d9_17) (q := 18) rfl (by decide) ?_
            refine gGoto X6 hx (hb hby d9_18) (q := 22) (by decide) (by decide) ?_
            refine gIstoreN X6 hx (hb hby d9_22) (q := 23) rfl (L' := #[.val (.ref y0), .val (.ref b), .val (.int (1 : Int32)), .val (.ref y3)]) rfl ?_
            refine gAloadN X6 hx (hb hby d9_23) (q := 24) rfl rfl rfl ?_
            refine gGetF X6 hx hZ (host := "") hown (Or.inl (hw _ (List.mem_of_getElem? (i := 80) rfl))) Via.refl e6 F3 (hb hby d9_24) (q := 27) rfl (fun T14 X14 e14 => ?_)
            refine gAstoreN X14 hx (hb hby d9_27) (q := 28) rfl rfl (L' := #[.val (.ref y0), .val (.ref b), .val (.int (1 : Int32)), .val (.null)]) rfl ?_
            refine gGoto X14 hx (hb hby d9_28) (q := 4) (by decide) (by decide) ?_
            refine gAloadN X14 hx (hb hby d9_4) (q := 5) rfl rfl rfl ?_
            refine gNullY X14 hx (hb hby d9_5) (q := 31) (by decide) (by decide) rfl ?_
            refine gIloadN X14 hx (hb hby d9_31) (q := 32) rfl rfl ?_
            obtain rfl := Value.ref.inj c13
            exact gRetZ X14 hx hlk hret (hb hby d9_32) (by decide) (by decide) (by simp) ⟨by simp [own_r0, own_r1, own_r2, own_r3, c1, c4, n01, n01.symm, n02, n02.symm, n03, n03.symm, n12, n12.symm, n13, n13.symm, n23, n23.symm], N0, e14⟩
          · refine gAcmpY X6 hx (hb hby d9_14) (q := 21) (by decide) (by decide) rfl rfl (XT.aa_ne_t c13) ?_
            refine gIconst X6 hx (0 : Int32) (hb hby d9_21) (q := 22) rfl (by decide) ?_
            refine gIstoreN X6 hx (hb hby d9_22) (q := 23) rfl (L' := #[.val (.ref y0), .val (.ref b), .val (.int (0 : Int32)), .val (.ref y3)]) rfl ?_
            refine gAloadN X6 hx (hb hby d9_23) (q := 24) rfl rfl rfl ?_
            refine gGetF X6 hx hZ (host := "") hown (Or.inl (hw _ (List.mem_of_getElem? (i := 80) rfl))) Via.refl e6 F3 (hb hby d9_24) (q := 27) rfl (fun T15 X15 e15 => ?_)
            refine gAstoreN X15 hx (hb hby d9_27) (q := 28) rfl rfl (L' := #[.val (.ref y0), .val (.ref b), .val (.int (0 : Int32)), .val (.null)]) rfl ?_
            refine gGoto X15 hx (hb hby d9_28) (q := 4) (by decide) (by decide) ?_
            refine gAloadN X15 hx (hb hby d9_4) (q := 5) rfl rfl rfl ?_
            refine gNullY X15 hx (hb hby d9_5) (q := 31) (by decide) (by decide) rfl ?_
            refine gIloadN X15 hx (hb hby d9_31) (q := 32) rfl rfl ?_
            exact gRetZ X15 hx hlk hret (hb hby d9_32) (by decide) (by decide) (by simp) ⟨by simp [own_r0, own_r1, own_r2, own_r3, c1, c4, c13, n01, n01.symm, n02, n02.symm, n03, n03.symm, n12, n12.symm, n13, n13.symm, n23, n23.symm], N0, e15⟩
    · skip
      refine gAstoreN X3 hx (hb hby d9_27) (q := 28) rfl rfl (L' := #[.val (.ref y0), .val (.ref b), .val (.int (0 : Int32)), .val (.ref y2)]) rfl ?_
      refine gGoto X3 hx (hb hby d9_28) (q := 4) (by decide) (by decide) ?_
      refine gAloadN X3 hx (hb hby d9_4) (q := 5) rfl rfl rfl ?_
      refine gNullN X3 hx (hb hby d9_5) (q := 8) rfl rfl Value.noConfusion ?_
      refine gIloadN X3 hx (hb hby d9_8) (q := 9) rfl rfl ?_
      refine gIfN X3 hx (hb hby d9_9) (q := 12) rfl (XT.i0_ne_f (by decide)) ?_
      refine gAloadN X3 hx (hb hby d9_12) (q := 13) rfl rfl rfl ?_
      refine gAloadN X3 hx (hb hby d9_13) (q := 14) rfl rfl rfl ?_
      by_cases c16 : (.ref y2 : Value) = (.ref b : Value)
      · refine gAcmpN X3 hx (hb hby d9_14) (q := 17) rfl rfl rfl (XT.aa_ne_f c16) ?_
        refine gIconst X3 hx (1 : Int32) (hb hby d9_17) (q := 18) rfl (by decide) ?_
        refine gGoto X3 hx (hb hby d9_18) (q := 22) (by decide) (by decide) ?_
        refine gIstoreN X3 hx (hb hby d9_22) (q := 23) rfl (L' := #[.val (.ref y0), .val (.ref b), .val (.int (1 : Int32)), .val (.ref y2)]) rfl ?_
        refine gAloadN X3 hx (hb hby d9_23) (q := 24) rfl rfl rfl ?_
        refine gGetF X3 hx hZ (host := "") hown (Or.inl (hw _ (List.mem_of_getElem? (i := 80) rfl))) Via.refl e3 F2 (hb hby d9_24) (q := 27) rfl (fun T17 X17 e17 => ?_)
        rcases hs2 with rfl | rfl
        · skip
          refine gAstoreN X17 hx (hb hby d9_27) (q := 28) rfl rfl (L' := #[.val (.ref y0), .val (.ref b), .val (.int (1 : Int32)), .val (.null)]) rfl ?_
          refine gGoto X17 hx (hb hby d9_28) (q := 4) (by decide) (by decide) ?_
          refine gAloadN X17 hx (hb hby d9_4) (q := 5) rfl rfl rfl ?_
          refine gNullY X17 hx (hb hby d9_5) (q := 31) (by decide) (by decide) rfl ?_
          refine gIloadN X17 hx (hb hby d9_31) (q := 32) rfl rfl ?_
          obtain rfl := Value.ref.inj c16
          exact gRetZ X17 hx hlk hret (hb hby d9_32) (by decide) (by decide) (by simp) ⟨by simp [own_r0, own_r1, own_r2, own_r3, c1, n01, n01.symm, n02, n02.symm, n03, n03.symm, n12, n12.symm, n13, n13.symm, n23, n23.symm], N0, e17⟩
        · skip
          refine gAstoreN X17 hx (hb hby d9_27) (q := 28) rfl rfl (L' := #[.val (.ref y0), .val (.ref b), .val (.int (1 : Int32)), .val (.ref y3)]) rfl ?_
          refine gGoto X17 hx (hb hby d9_28) (q := 4) (by decide) (by decide) ?_
          refine gAloadN X17 hx (hb hby d9_4) (q := 5) rfl rfl rfl ?_
          refine gNullN X17 hx (hb hby d9_5) (q := 8) rfl rfl Value.noConfusion ?_
          refine gIloadN X17 hx (hb hby d9_8) (q := 9) rfl rfl ?_
          refine gIfY X17 hx (hb hby d9_9) (q := 31) (by decide) (by decide) (XT.i0_ne_t (by decide)) ?_
          refine gIloadN X17 hx (hb hby d9_31) (q := 32) rfl rfl ?_
          obtain rfl := Value.ref.inj c16
          exact gRetZ X17 hx hlk hret (hb hby d9_32) (by decide) (by decide) (by simp) ⟨by simp [own_r0, own_r1, own_r2, own_r3, c1, n01, n01.symm, n02, n02.symm, n03, n03.symm, n12, n12.symm, n13, n13.symm, n23, n23.symm], N0, e17⟩
      · refine gAcmpY X3 hx (hb hby d9_14) (q := 21) (by decide) (by decide) rfl rfl (XT.aa_ne_t c16) ?_
        refine gIconst X3 hx (0 : Int32) (hb hby d9_21) (q := 22) rfl (by decide) ?_
        refine gIstoreN X3 hx (hb hby d9_22) (q := 23) rfl (L' := #[.val (.ref y0), .val (.ref b), .val (.int (0 : Int32)), .val (.ref y2)]) rfl ?_
        refine gAloadN X3 hx (hb hby d9_23) (q := 24) rfl rfl rfl ?_
        refine gGetF X3 hx hZ (host := "") hown (Or.inl (hw _ (List.mem_of_getElem? (i := 80) rfl))) Via.refl e3 F2 (hb hby d9_24) (q := 27) rfl (fun T18 X18 e18 => ?_)
        rcases hs2 with rfl | rfl
        · skip
          refine gAstoreN X18 hx (hb hby d9_27) (q := 28) rfl rfl (L' := #[.val (.ref y0), .val (.ref b), .val (.int (0 : Int32)), .val (.null)]) rfl ?_
          refine gGoto X18 hx (hb hby d9_28) (q := 4) (by decide) (by decide) ?_
          refine gAloadN X18 hx (hb hby d9_4) (q := 5) rfl rfl rfl ?_
          refine gNullY X18 hx (hb hby d9_5) (q := 31) (by decide) (by decide) rfl ?_
          refine gIloadN X18 hx (hb hby d9_31) (q := 32) rfl rfl ?_
          exact gRetZ X18 hx hlk hret (hb hby d9_32) (by decide) (by decide) (by simp) ⟨by simp [own_r0, own_r1, own_r2, own_r3, c1, c16, n01, n01.symm, n02, n02.symm, n03, n03.symm, n12, n12.symm, n13, n13.symm, n23, n23.symm], N0, e18⟩
        · skip
          refine gAstoreN X18 hx (hb hby d9_27) (q := 28) rfl rfl (L' := #[.val (.ref y0), .val (.ref b), .val (.int (0 : Int32)), .val (.ref y3)]) rfl ?_
          refine gGoto X18 hx (hb hby d9_28) (q := 4) (by decide) (by decide) ?_
          refine gAloadN X18 hx (hb hby d9_4) (q := 5) rfl rfl rfl ?_
          refine gNullN X18 hx (hb hby d9_5) (q := 8) rfl rfl Value.noConfusion ?_
          refine gIloadN X18 hx (hb hby d9_8) (q := 9) rfl rfl ?_
          refine gIfN X18 hx (hb hby d9_9) (q := 12) rfl (XT.i0_ne_f (by decide)) ?_
          refine gAloadN X18 hx (hb hby d9_12) (q := 13) rfl rfl rfl ?_
          refine gAloadN X18 hx (hb hby d9_13) (q := 14) rfl rfl rfl ?_
          by_cases c19 : (.ref y3 : Value) = (.ref b : Value)
          · refine gAcmpN X18 hx (hb hby d9_14) (q := 17) rfl rfl rfl (XT.aa_ne_f c19) ?_
            refine gIconst X18 hx (1 : Int32) (hb hby d9_17) (q := 18) rfl (by decide) ?_
            refine gGoto X18 hx (hb hby d9_18) (q := 22) (by decide) (by decide) ?_
            refine gIstoreN X18 hx (hb hby d9_22) (q := 23) rfl (L' := #[.val (.ref y0), .val (.ref b), .val (.int (1 : Int32)), .val (.ref y3)]) rfl ?_
            refine gAloadN X18 hx (hb hby d9_23) (q := 24) rfl rfl rfl ?_
            refine gGetF X18 hx hZ (host := "") hown (Or.inl (hw _ (List.mem_of_getElem? (i := 80) rfl))) Via.refl e18 F3 (hb hby d9_24) (q := 27) rfl (fun T20 X20 e20 => ?_)
            refine gAstoreN X20 hx (hb hby d9_27) (q := 28) rfl rfl (L' := #[.val (.ref y0), .val (.ref b), .val (.int (1 : Int32)), .val (.null)]) rfl ?_
            refine gGoto X20 hx (hb hby d9_28) (q := 4) (by decide) (by decide) ?_
            refine gAloadN X20 hx (hb hby d9_4) (q := 5) rfl rfl rfl ?_
            refine gNullY X20 hx (hb hby d9_5) (q := 31) (by decide) (by decide) rfl ?_
            refine gIloadN X20 hx (hb hby d9_31) (q := 32) rfl rfl ?_
            obtain rfl := Value.ref.inj c19
            exact gRetZ X20 hx hlk hret (hb hby d9_32) (by decide) (by decide) (by simp) ⟨by simp [own_r0, own_r1, own_r2, own_r3, c1, c16, n01, n01.symm, n02, n02.symm, n03, n03.symm, n12, n12.symm, n13, n13.symm, n23, n23.symm], N0, e20⟩
          · refine gAcmpY X18 hx (hb hby d9_14) (q := 21) (by decide) (by decide) rfl rfl (XT.aa_ne_t c19) ?_
            refine gIconst X18 hx (0 : Int32) (hb hby d9_21) (q := 22) rfl (by decide) ?_
            refine gIstoreN X18 hx (hb hby d9_22) (q := 23) rfl (L' := #[.val (.ref y0), .val (.ref b), .val (.int (0 : Int32)), .val (.ref y3)]) rfl ?_
            refine gAloadN X18 hx (hb hby d9_23) (q := 24) rfl rfl rfl ?_
            refine gGetF X18 hx hZ (host := "") hown (Or.inl (hw _ (List.mem_of_getElem? (i := 80) rfl))) Via.refl e18 F3 (hb hby d9_24) (q := 27) rfl (fun T21 X21 e21 => ?_)
            refine gAstoreN X21 hx (hb hby d9_27) (q := 28) rfl rfl (L' := #[.val (.ref y0), .val (.ref b), .val (.int (0 : Int32)), .val (.null)]) rfl ?_
            refine gGoto X21 hx (hb hby d9_28) (q := 4) (by decide) (by decide) ?_
            refine gAloadN X21 hx (hb hby d9_4) (q := 5) rfl rfl rfl ?_
            refine gNullY X21 hx (hb hby d9_5) (q := 31) (by decide) (by decide) rfl ?_
            refine gIloadN X21 hx (hb hby d9_31) (q := 32) rfl rfl ?_
            exact gRetZ X21 hx hlk hret (hb hby d9_32) (by decide) (by decide) (by simp) ⟨by simp [own_r0, own_r1, own_r2, own_r3, c1, c16, c19, n01, n01.symm, n02, n02.symm, n03, n03.symm, n12, n12.symm, n13, n13.symm, n23, n23.symm], N0, e21⟩
    · skip
      refine gAstoreN X3 hx (hb hby d9_27) (q := 28) rfl rfl (L' := #[.val (.ref y0), .val (.ref b), .val (.int (0 : Int32)), .val (.ref y3)]) rfl ?_
      refine gGoto X3 hx (hb hby d9_28) (q := 4) (by decide) (by decide) ?_
      refine gAloadN X3 hx (hb hby d9_4) (q := 5) rfl rfl rfl ?_
      refine gNullN X3 hx (hb hby d9_5) (q := 8) rfl rfl Value.noConfusion ?_
      refine gIloadN X3 hx (hb hby d9_8) (q := 9) rfl rfl ?_
      refine gIfN X3 hx (hb hby d9_9) (q := 12) rfl (XT.i0_ne_f (by decide)) ?_
      refine gAloadN X3 hx (hb hby d9_12) (q := 13) rfl rfl rfl ?_
      refine gAloadN X3 hx (hb hby d9_13) (q := 14) rfl rfl rfl ?_
      by_cases c22 : (.ref y3 : Value) = (.ref b : Value)
      · refine gAcmpN X3 hx (hb hby d9_14) (q := 17) rfl rfl rfl (XT.aa_ne_f c22) ?_
        refine gIconst X3 hx (1 : Int32) (hb hby d9_17) (q := 18) rfl (by decide) ?_
        refine gGoto X3 hx (hb hby d9_18) (q := 22) (by decide) (by decide) ?_
        refine gIstoreN X3 hx (hb hby d9_22) (q := 23) rfl (L' := #[.val (.ref y0), .val (.ref b), .val (.int (1 : Int32)), .val (.ref y3)]) rfl ?_
        refine gAloadN X3 hx (hb hby d9_23) (q := 24) rfl rfl rfl ?_
        refine gGetF X3 hx hZ (host := "") hown (Or.inl (hw _ (List.mem_of_getElem? (i := 80) rfl))) Via.refl e3 F3 (hb hby d9_24) (q := 27) rfl (fun T23 X23 e23 => ?_)
        refine gAstoreN X23 hx (hb hby d9_27) (q := 28) rfl rfl (L' := #[.val (.ref y0), .val (.ref b), .val (.int (1 : Int32)), .val (.null)]) rfl ?_
        refine gGoto X23 hx (hb hby d9_28) (q := 4) (by decide) (by decide) ?_
        refine gAloadN X23 hx (hb hby d9_4) (q := 5) rfl rfl rfl ?_
        refine gNullY X23 hx (hb hby d9_5) (q := 31) (by decide) (by decide) rfl ?_
        refine gIloadN X23 hx (hb hby d9_31) (q := 32) rfl rfl ?_
        obtain rfl := Value.ref.inj c22
        exact gRetZ X23 hx hlk hret (hb hby d9_32) (by decide) (by decide) (by simp) ⟨by simp [own_r0, own_r1, own_r2, own_r3, c1, n01, n01.symm, n02, n02.symm, n03, n03.symm, n12, n12.symm, n13, n13.symm, n23, n23.symm], N0, e23⟩
      · refine gAcmpY X3 hx (hb hby d9_14) (q := 21) (by decide) (by decide) rfl rfl (XT.aa_ne_t c22) ?_
        refine gIconst X3 hx (0 : Int32) (hb hby d9_21) (q := 22) rfl (by decide) ?_
        refine gIstoreN X3 hx (hb hby d9_22) (q := 23) rfl (L' := #[.val (.ref y0), .val (.ref b), .val (.int (0 : Int32)), .val (.ref y3)]) rfl ?_
        refine gAloadN X3 hx (hb hby d9_23) (q := 24) rfl rfl rfl ?_
        refine gGetF X3 hx hZ (host := "") hown (Or.inl (hw _ (List.mem_of_getElem? (i := 80) rfl))) Via.refl e3 F3 (hb hby d9_24) (q := 27) rfl (fun T24 X24 e24 => ?_)
        refine gAstoreN X24 hx (hb hby d9_27) (q := 28) rfl rfl (L' := #[.val (.ref y0), .val (.ref b), .val (.int (0 : Int32)), .val (.null)]) rfl ?_
        refine gGoto X24 hx (hb hby d9_28) (q := 4) (by decide) (by decide) ?_
        refine gAloadN X24 hx (hb hby d9_4) (q := 5) rfl rfl rfl ?_
        refine gNullY X24 hx (hb hby d9_5) (q := 31) (by decide) (by decide) rfl ?_
        refine gIloadN X24 hx (hb hby d9_31) (q := 32) rfl rfl ?_
        exact gRetZ X24 hx hlk hret (hb hby d9_32) (by decide) (by decide) (by simp) ⟨by simp [own_r0, own_r1, own_r2, own_r3, c1, c22, n01, n01.symm, n02, n02.symm, n03, n03.symm, n12, n12.symm, n13, n13.symm, n23, n23.symm], N0, e24⟩
theorem own_m3 (x : Int32) : (x &&& (3 : Int32)) = 0 ∨ (x &&& (3 : Int32)) = 1 ∨ (x &&& (3 : Int32)) = 2 ∨ (x &&& (3 : Int32)) = 3 := by
  have e := c_mask x 3 2 (by decide) (by decide)
  simp only [← Int32.toInt_inj, e]
  show x.toInt % 4 = 0 ∨ x.toInt % 4 = 1 ∨ x.toInt % 4 = 2 ∨ x.toInt % 4 = 3
  omega
theorem own_m1 (x : Int32) : (x &&& (1 : Int32)) = 0 ∨ (x &&& (1 : Int32)) = 1 := and_one x
theorem own_q3 (x : Int32) : ((x &&& (2147483647 : Int32)) % (3 : Int32)) = 0 ∨ ((x &&& (2147483647 : Int32)) % (3 : Int32)) = 1 ∨ ((x &&& (2147483647 : Int32)) % (3 : Int32)) = 2 := by
  have e := c_mask x 2147483647 31 (by decide) (by decide)
  have hr := (c_irem (x &&& 2147483647) 3 3 (by decide)).1 (by rw [e]; omega)
  simp only [← Int32.toInt_inj, hr]
  show _ % 3 = 0 ∨ _ % 3 = 1 ∨ _ % 3 = 2
  omega
def own_par (k v0 v1 v2 : Int32) : Int32 := if k = 0 then v0 else if k = 1 then v1 else if k = 2 then v2 else -1
theorem own_parget (k v0 v1 v2 : Int32) (h : k = 0 ∨ k = 1 ∨ k = 2 ∨ k = 3) : ¬ (k < 0 ∨ ([.int v0, .int v1, .int v2, .int (-1 : Int32)] : List Value).length ≤ k.toNatClampNeg) ∧ ([.int v0, .int v1, .int v2, .int (-1 : Int32)] : List Value)[k.toNatClampNeg]? = some (.int (own_par k v0 v1 v2)) := by
  rcases h with rfl | rfl | rfl | rfl
  · exact ⟨by show ¬ ((0 : Int32) < 0 ∨ 4 ≤ (0 : Int32).toNatClampNeg); decide, rfl⟩
  · exact ⟨by show ¬ ((1 : Int32) < 0 ∨ 4 ≤ (1 : Int32).toNatClampNeg); decide, rfl⟩
  · exact ⟨by show ¬ ((2 : Int32) < 0 ∨ 4 ≤ (2 : Int32).toNatClampNeg); decide, rfl⟩
  · exact ⟨by show ¬ ((3 : Int32) < 0 ∨ 4 ≤ (3 : Int32).toNatClampNeg); decide, rfl⟩

theorem pn7 : plainName "com/example/hoarewright/hoarewright/loy/LoyClassIsAPinLaw" = true := by first | (simp [plainName, overriddenIn]; done) | decide +kernel
theorem ef12 (m : MethodId) (x0 : Int32) (x1 : Int32) (x2 : Int32) (x3 : Int32) (x4 : Int32) : entryFrame m #[(.int x0), (.int x1), (.int x2), (.int x3), (.int x4)] maxLocals = mkF m 0 #[.val (.int x0), .val (.int x1), .val (.int x2), .val (.int x3), .val (.int x4), .unset, .unset, .unset, .unset, .unset, .unset, .unset, .unset, .unset, .unset, .unset] [] := by first | (simp [entryFrame, mkF, argsToLocals, Value.category, maxLocals]; done) | rfl
def Q_rm0 (Z : State) (x0 : Int32) (x1 : Int32) (x2 : Int32) (x3 : Int32) (x4 : Int32) (rd : Addr) (h0 : Heap) (n0 : Nat) (v : Option Value) (h : Heap) (L : List Loc) : Prop := v = some (.int 1) ∧ Fr n0 L
theorem pd1 : parseMethodDescriptor "(Ljava/lang/String;Lcom/example/hoarewright/hoarewright/analysis/Location;)V" = some ⟨[.object "java/lang/String", .object "com/example/hoarewright/hoarewright/analysis/Location"], none⟩ := by decide +kernel
theorem pd2 : parseMethodDescriptor "(Lcom/example/hoarewright/hoarewright/loy/LoyClass;)Z" = some ⟨[.object "com/example/hoarewright/hoarewright/loy/LoyClass"], some (.boolean)⟩ := by decide +kernel
set_option maxRecDepth 65536 in
set_option maxHeartbeats 40000000 in
theorem own_law (x0 : Int32) (x1 : Int32) (x2 : Int32) (x3 : Int32) (x4 : Int32) (v170 : Int32) (v188 : Int32) (v205 : Int32) (a4 : Addr) (a33 : Addr) (a68 : Addr) (a109 : Addr) (s0 : Value) (s1 : Value) (s2 : Value) (u168 : Int32) (hu168 : (x0 &&& (3 : Int32)) = u168) (u186 : Int32) (hu186 : ((x1 &&& (2147483647 : Int32)) % (3 : Int32)) = u186) (u272 : Int32) (hu272 : (own_r0 a4 a33 a68 a109 a4 s0 s1 s2) = u272) (v274 : Int32) (hv274 : v274 = (if v170 < (0 : Int32) then (-1 : Int32) else (own_par v170 v170 v188 v205))) (v277 : Int32) (hv277 : v277 = (if v274 < (0 : Int32) then (-1 : Int32) else (own_par v274 v170 v188 v205))) (v280 : Int32) (hv280 : v280 = (if u272 = (1 : Int32) then (1 : Int32) else (0 : Int32))) (PP0 : ((v170 = -1 ∧ s0 = .null) ∨ (v170 = 1 ∧ s0 = .ref a33) ∨ (v170 = 2 ∧ s0 = .ref a68) ∨ (v170 = 3 ∧ s0 = .ref a109))) (PP1 : ((v188 = -1 ∧ s1 = .null) ∨ (v188 = 2 ∧ s1 = .ref a68) ∨ (v188 = 3 ∧ s1 = .ref a109))) (PP2 : ((v205 = -1 ∧ s2 = .null) ∨ (v205 = 3 ∧ s2 = .ref a109))) (ne_a4_a33 : a4 ≠ a33) (ne_a4_a68 : a4 ≠ a68) (ne_a4_a109 : a4 ≠ a109) (ne_a33_a68 : a33 ≠ a68) (ne_a33_a109 : a33 ≠ a109) (ne_a68_a109 : a68 ≠ a109) : v280 = 1 := by
  rcases PP0 with ⟨e0, t0⟩ | ⟨e0, t0⟩ | ⟨e0, t0⟩ | ⟨e0, t0⟩ <;> rcases PP1 with ⟨e1, t1⟩ | ⟨e1, t1⟩ | ⟨e1, t1⟩ <;> rcases PP2 with ⟨e2, t2⟩ | ⟨e2, t2⟩ <;> subst e0 t0 e1 t1 e2 t2 <;> subst_vars <;> simp [own_r0, own_r1, own_r2, own_r3, own_par, ne_a4_a33, ne_a4_a33.symm, ne_a4_a68, ne_a4_a68.symm, ne_a4_a109, ne_a4_a109.symm, ne_a33_a68, ne_a33_a68.symm, ne_a33_a109, ne_a33_a109.symm, ne_a68_a109, ne_a68_a109.symm]
set_option maxRecDepth 65536 in
set_option maxHeartbeats 40000000 in
theorem own_law2 (x0 : Int32) (x1 : Int32) (x2 : Int32) (x3 : Int32) (x4 : Int32) (v170 : Int32) (v188 : Int32) (v205 : Int32) (a4 : Addr) (a33 : Addr) (a68 : Addr) (a109 : Addr) (s0 : Value) (s1 : Value) (s2 : Value) (u168 : Int32) (hu168 : (x0 &&& (3 : Int32)) = u168) (u186 : Int32) (hu186 : ((x1 &&& (2147483647 : Int32)) % (3 : Int32)) = u186) (u284 : Int32) (hu284 : (own_r0 a4 a33 a68 a109 a33 s0 s1 s2) = u284) (v286 : Int32) (hv286 : v286 = (if v170 < (0 : Int32) then (-1 : Int32) else (own_par v170 v170 v188 v205))) (v289 : Int32) (hv289 : v289 = (if v286 < (0 : Int32) then (-1 : Int32) else (own_par v286 v170 v188 v205))) (v292 : Int32) (hv292 : v292 = (if v170 = (1 : Int32) then (1 : Int32) else (if v286 = (1 : Int32) then (1 : Int32) else (if v289 = (1 : Int32) then (1 : Int32) else (0 : Int32))))) (v295 : Int32) (hv295 : v295 = (if u284 = v292 then (1 : Int32) else (0 : Int32))) (PP0 : ((v170 = -1 ∧ s0 = .null) ∨ (v170 = 1 ∧ s0 = .ref a33) ∨ (v170 = 2 ∧ s0 = .ref a68) ∨ (v170 = 3 ∧ s0 = .ref a109))) (PP1 : ((v188 = -1 ∧ s1 = .null) ∨ (v188 = 2 ∧ s1 = .ref a68) ∨ (v188 = 3 ∧ s1 = .ref a109))) (PP2 : ((v205 = -1 ∧ s2 = .null) ∨ (v205 = 3 ∧ s2 = .ref a109))) (ne_a4_a33 : a4 ≠ a33) (ne_a4_a68 : a4 ≠ a68) (ne_a4_a109 : a4 ≠ a109) (ne_a33_a68 : a33 ≠ a68) (ne_a33_a109 : a33 ≠ a109) (ne_a68_a109 : a68 ≠ a109) : v295 = 1 := by
  rcases PP0 with ⟨e0, t0⟩ | ⟨e0, t0⟩ | ⟨e0, t0⟩ | ⟨e0, t0⟩ <;> rcases PP1 with ⟨e1, t1⟩ | ⟨e1, t1⟩ | ⟨e1, t1⟩ <;> rcases PP2 with ⟨e2, t2⟩ | ⟨e2, t2⟩ <;> subst e0 t0 e1 t1 e2 t2 <;> subst_vars <;> simp [own_r0, own_r1, own_r2, own_r3, own_par, ne_a4_a33, ne_a4_a33.symm, ne_a4_a68, ne_a4_a68.symm, ne_a4_a109, ne_a4_a109.symm, ne_a33_a68, ne_a33_a68.symm, ne_a33_a109, ne_a33_a109.symm, ne_a68_a109, ne_a68_a109.symm]
set_option maxRecDepth 65536 in
set_option maxHeartbeats 40000000 in
theorem own_law3 (x0 : Int32) (x1 : Int32) (x2 : Int32) (x3 : Int32) (x4 : Int32) (v170 : Int32) (v188 : Int32) (v205 : Int32) (a4 : Addr) (a33 : Addr) (a68 : Addr) (a109 : Addr) (s0 : Value) (s1 : Value) (s2 : Value) (u168 : Int32) (hu168 : (x0 &&& (3 : Int32)) = u168) (u186 : Int32) (hu186 : ((x1 &&& (2147483647 : Int32)) % (3 : Int32)) = u186) (u301 : Int32) (hu301 : (own_r0 a4 a33 a68 a109 a68 s0 s1 s2) = u301) (v303 : Int32) (hv303 : v303 = (if v170 < (0 : Int32) then (-1 : Int32) else (own_par v170 v170 v188 v205))) (v306 : Int32) (hv306 : v306 = (if v303 < (0 : Int32) then (-1 : Int32) else (own_par v303 v170 v188 v205))) (v309 : Int32) (hv309 : v309 = (if v170 = (2 : Int32) then (1 : Int32) else (if v303 = (2 : Int32) then (1 : Int32) else (if v306 = (2 : Int32) then (1 : Int32) else (0 : Int32))))) (v312 : Int32) (hv312 : v312 = (if u301 = v309 then (1 : Int32) else (0 : Int32))) (PP0 : ((v170 = -1 ∧ s0 = .null) ∨ (v170 = 1 ∧ s0 = .ref a33) ∨ (v170 = 2 ∧ s0 = .ref a68) ∨ (v170 = 3 ∧ s0 = .ref a109))) (PP1 : ((v188 = -1 ∧ s1 = .null) ∨ (v188 = 2 ∧ s1 = .ref a68) ∨ (v188 = 3 ∧ s1 = .ref a109))) (PP2 : ((v205 = -1 ∧ s2 = .null) ∨ (v205 = 3 ∧ s2 = .ref a109))) (ne_a4_a33 : a4 ≠ a33) (ne_a4_a68 : a4 ≠ a68) (ne_a4_a109 : a4 ≠ a109) (ne_a33_a68 : a33 ≠ a68) (ne_a33_a109 : a33 ≠ a109) (ne_a68_a109 : a68 ≠ a109) : v312 = 1 := by
  rcases PP0 with ⟨e0, t0⟩ | ⟨e0, t0⟩ | ⟨e0, t0⟩ | ⟨e0, t0⟩ <;> rcases PP1 with ⟨e1, t1⟩ | ⟨e1, t1⟩ | ⟨e1, t1⟩ <;> rcases PP2 with ⟨e2, t2⟩ | ⟨e2, t2⟩ <;> subst e0 t0 e1 t1 e2 t2 <;> subst_vars <;> simp [own_r0, own_r1, own_r2, own_r3, own_par, ne_a4_a33, ne_a4_a33.symm, ne_a4_a68, ne_a4_a68.symm, ne_a4_a109, ne_a4_a109.symm, ne_a33_a68, ne_a33_a68.symm, ne_a33_a109, ne_a33_a109.symm, ne_a68_a109, ne_a68_a109.symm]
set_option maxRecDepth 65536 in
set_option maxHeartbeats 40000000 in
theorem own_law4 (x0 : Int32) (x1 : Int32) (x2 : Int32) (x3 : Int32) (x4 : Int32) (v170 : Int32) (v188 : Int32) (v205 : Int32) (a4 : Addr) (a33 : Addr) (a68 : Addr) (a109 : Addr) (s0 : Value) (s1 : Value) (s2 : Value) (u168 : Int32) (hu168 : (x0 &&& (3 : Int32)) = u168) (u186 : Int32) (hu186 : ((x1 &&& (2147483647 : Int32)) % (3 : Int32)) = u186) (u318 : Int32) (hu318 : (own_r0 a4 a33 a68 a109 a109 s0 s1 s2) = u318) (v320 : Int32) (hv320 : v320 = (if v170 < (0 : Int32) then (-1 : Int32) else (own_par v170 v170 v188 v205))) (v323 : Int32) (hv323 : v323 = (if v320 < (0 : Int32) then (-1 : Int32) else (own_par v320 v170 v188 v205))) (v326 : Int32) (hv326 : v326 = (if v170 = (3 : Int32) then (1 : Int32) else (if v320 = (3 : Int32) then (1 : Int32) else (if v323 = (3 : Int32) then (1 : Int32) else (0 : Int32))))) (v329 : Int32) (hv329 : v329 = (if u318 = v326 then (1 : Int32) else (0 : Int32))) (PP0 : ((v170 = -1 ∧ s0 = .null) ∨ (v170 = 1 ∧ s0 = .ref a33) ∨ (v170 = 2 ∧ s0 = .ref a68) ∨ (v170 = 3 ∧ s0 = .ref a109))) (PP1 : ((v188 = -1 ∧ s1 = .null) ∨ (v188 = 2 ∧ s1 = .ref a68) ∨ (v188 = 3 ∧ s1 = .ref a109))) (PP2 : ((v205 = -1 ∧ s2 = .null) ∨ (v205 = 3 ∧ s2 = .ref a109))) (ne_a4_a33 : a4 ≠ a33) (ne_a4_a68 : a4 ≠ a68) (ne_a4_a109 : a4 ≠ a109) (ne_a33_a68 : a33 ≠ a68) (ne_a33_a109 : a33 ≠ a109) (ne_a68_a109 : a68 ≠ a109) : v329 = 1 := by
  rcases PP0 with ⟨e0, t0⟩ | ⟨e0, t0⟩ | ⟨e0, t0⟩ | ⟨e0, t0⟩ <;> rcases PP1 with ⟨e1, t1⟩ | ⟨e1, t1⟩ | ⟨e1, t1⟩ <;> rcases PP2 with ⟨e2, t2⟩ | ⟨e2, t2⟩ <;> subst e0 t0 e1 t1 e2 t2 <;> subst_vars <;> simp [own_r0, own_r1, own_r2, own_r3, own_par, ne_a4_a33, ne_a4_a33.symm, ne_a4_a68, ne_a4_a68.symm, ne_a4_a109, ne_a4_a109.symm, ne_a33_a68, ne_a33_a68.symm, ne_a33_a109, ne_a33_a109.symm, ne_a68_a109, ne_a68_a109.symm]
set_option maxRecDepth 65536 in
set_option maxHeartbeats 40000000 in
theorem own_law5 (x0 : Int32) (x1 : Int32) (x2 : Int32) (x3 : Int32) (x4 : Int32) (v170 : Int32) (v188 : Int32) (v205 : Int32) (a4 : Addr) (a33 : Addr) (a68 : Addr) (a109 : Addr) (s0 : Value) (s1 : Value) (s2 : Value) (u168 : Int32) (hu168 : (x0 &&& (3 : Int32)) = u168) (u186 : Int32) (hu186 : ((x1 &&& (2147483647 : Int32)) % (3 : Int32)) = u186) (u335 : Int32) (hu335 : (own_r1 a33 a68 a109 a4 s1 s2) = u335) (v337 : Int32) (hv337 : v337 = (if v188 < (0 : Int32) then (-1 : Int32) else (own_par v188 v170 v188 v205))) (v340 : Int32) (hv340 : v340 = (if v337 < (0 : Int32) then (-1 : Int32) else (own_par v337 v170 v188 v205))) (v343 : Int32) (hv343 : v343 = (if v188 = (0 : Int32) then (1 : Int32) else (if v337 = (0 : Int32) then (1 : Int32) else (if v340 = (0 : Int32) then (1 : Int32) else (0 : Int32))))) (v346 : Int32) (hv346 : v346 = (if u335 = v343 then (1 : Int32) else (0 : Int32))) (PP0 : ((v170 = -1 ∧ s0 = .null) ∨ (v170 = 1 ∧ s0 = .ref a33) ∨ (v170 = 2 ∧ s0 = .ref a68) ∨ (v170 = 3 ∧ s0 = .ref a109))) (PP1 : ((v188 = -1 ∧ s1 = .null) ∨ (v188 = 2 ∧ s1 = .ref a68) ∨ (v188 = 3 ∧ s1 = .ref a109))) (PP2 : ((v205 = -1 ∧ s2 = .null) ∨ (v205 = 3 ∧ s2 = .ref a109))) (ne_a4_a33 : a4 ≠ a33) (ne_a4_a68 : a4 ≠ a68) (ne_a4_a109 : a4 ≠ a109) (ne_a33_a68 : a33 ≠ a68) (ne_a33_a109 : a33 ≠ a109) (ne_a68_a109 : a68 ≠ a109) : v346 = 1 := by
  rcases PP0 with ⟨e0, t0⟩ | ⟨e0, t0⟩ | ⟨e0, t0⟩ | ⟨e0, t0⟩ <;> rcases PP1 with ⟨e1, t1⟩ | ⟨e1, t1⟩ | ⟨e1, t1⟩ <;> rcases PP2 with ⟨e2, t2⟩ | ⟨e2, t2⟩ <;> subst e0 t0 e1 t1 e2 t2 <;> subst_vars <;> simp [own_r0, own_r1, own_r2, own_r3, own_par, ne_a4_a33, ne_a4_a33.symm, ne_a4_a68, ne_a4_a68.symm, ne_a4_a109, ne_a4_a109.symm, ne_a33_a68, ne_a33_a68.symm, ne_a33_a109, ne_a33_a109.symm, ne_a68_a109, ne_a68_a109.symm]
set_option maxRecDepth 65536 in
set_option maxHeartbeats 40000000 in
theorem own_law6 (x0 : Int32) (x1 : Int32) (x2 : Int32) (x3 : Int32) (x4 : Int32) (v170 : Int32) (v188 : Int32) (v205 : Int32) (a4 : Addr) (a33 : Addr) (a68 : Addr) (a109 : Addr) (s0 : Value) (s1 : Value) (s2 : Value) (u168 : Int32) (hu168 : (x0 &&& (3 : Int32)) = u168) (u186 : Int32) (hu186 : ((x1 &&& (2147483647 : Int32)) % (3 : Int32)) = u186) (u352 : Int32) (hu352 : (own_r1 a33 a68 a109 a33 s1 s2) = u352) (v354 : Int32) (hv354 : v354 = (if v188 < (0 : Int32) then (-1 : Int32) else (own_par v188 v170 v188 v205))) (v357 : Int32) (hv357 : v357 = (if v354 < (0 : Int32) then (-1 : Int32) else (own_par v354 v170 v188 v205))) (v360 : Int32) (hv360 : v360 = (if u352 = (1 : Int32) then (1 : Int32) else (0 : Int32))) (PP0 : ((v170 = -1 ∧ s0 = .null) ∨ (v170 = 1 ∧ s0 = .ref a33) ∨ (v170 = 2 ∧ s0 = .ref a68) ∨ (v170 = 3 ∧ s0 = .ref a109))) (PP1 : ((v188 = -1 ∧ s1 = .null) ∨ (v188 = 2 ∧ s1 = .ref a68) ∨ (v188 = 3 ∧ s1 = .ref a109))) (PP2 : ((v205 = -1 ∧ s2 = .null) ∨ (v205 = 3 ∧ s2 = .ref a109))) (ne_a4_a33 : a4 ≠ a33) (ne_a4_a68 : a4 ≠ a68) (ne_a4_a109 : a4 ≠ a109) (ne_a33_a68 : a33 ≠ a68) (ne_a33_a109 : a33 ≠ a109) (ne_a68_a109 : a68 ≠ a109) : v360 = 1 := by
  rcases PP0 with ⟨e0, t0⟩ | ⟨e0, t0⟩ | ⟨e0, t0⟩ | ⟨e0, t0⟩ <;> rcases PP1 with ⟨e1, t1⟩ | ⟨e1, t1⟩ | ⟨e1, t1⟩ <;> rcases PP2 with ⟨e2, t2⟩ | ⟨e2, t2⟩ <;> subst e0 t0 e1 t1 e2 t2 <;> subst_vars <;> simp [own_r0, own_r1, own_r2, own_r3, own_par, ne_a4_a33, ne_a4_a33.symm, ne_a4_a68, ne_a4_a68.symm, ne_a4_a109, ne_a4_a109.symm, ne_a33_a68, ne_a33_a68.symm, ne_a33_a109, ne_a33_a109.symm, ne_a68_a109, ne_a68_a109.symm]
set_option maxRecDepth 65536 in
set_option maxHeartbeats 40000000 in
theorem own_law7 (x0 : Int32) (x1 : Int32) (x2 : Int32) (x3 : Int32) (x4 : Int32) (v170 : Int32) (v188 : Int32) (v205 : Int32) (a4 : Addr) (a33 : Addr) (a68 : Addr) (a109 : Addr) (s0 : Value) (s1 : Value) (s2 : Value) (u168 : Int32) (hu168 : (x0 &&& (3 : Int32)) = u168) (u186 : Int32) (hu186 : ((x1 &&& (2147483647 : Int32)) % (3 : Int32)) = u186) (u364 : Int32) (hu364 : (own_r1 a33 a68 a109 a68 s1 s2) = u364) (v366 : Int32) (hv366 : v366 = (if v188 < (0 : Int32) then (-1 : Int32) else (own_par v188 v170 v188 v205))) (v369 : Int32) (hv369 : v369 = (if v366 < (0 : Int32) then (-1 : Int32) else (own_par v366 v170 v188 v205))) (v372 : Int32) (hv372 : v372 = (if v188 = (2 : Int32) then (1 : Int32) else (if v366 = (2 : Int32) then (1 : Int32) else (if v369 = (2 : Int32) then (1 : Int32) else (0 : Int32))))) (v375 : Int32) (hv375 : v375 = (if u364 = v372 then (1 : Int32) else (0 : Int32))) (PP0 : ((v170 = -1 ∧ s0 = .null) ∨ (v170 = 1 ∧ s0 = .ref a33) ∨ (v170 = 2 ∧ s0 = .ref a68) ∨ (v170 = 3 ∧ s0 = .ref a109))) (PP1 : ((v188 = -1 ∧ s1 = .null) ∨ (v188 = 2 ∧ s1 = .ref a68) ∨ (v188 = 3 ∧ s1 = .ref a109))) (PP2 : ((v205 = -1 ∧ s2 = .null) ∨ (v205 = 3 ∧ s2 = .ref a109))) (ne_a4_a33 : a4 ≠ a33) (ne_a4_a68 : a4 ≠ a68) (ne_a4_a109 : a4 ≠ a109) (ne_a33_a68 : a33 ≠ a68) (ne_a33_a109 : a33 ≠ a109) (ne_a68_a109 : a68 ≠ a109) : v375 = 1 := by
  rcases PP0 with ⟨e0, t0⟩ | ⟨e0, t0⟩ | ⟨e0, t0⟩ | ⟨e0, t0⟩ <;> rcases PP1 with ⟨e1, t1⟩ | ⟨e1, t1⟩ | ⟨e1, t1⟩ <;> rcases PP2 with ⟨e2, t2⟩ | ⟨e2, t2⟩ <;> subst e0 t0 e1 t1 e2 t2 <;> subst_vars <;> simp [own_r0, own_r1, own_r2, own_r3, own_par, ne_a4_a33, ne_a4_a33.symm, ne_a4_a68, ne_a4_a68.symm, ne_a4_a109, ne_a4_a109.symm, ne_a33_a68, ne_a33_a68.symm, ne_a33_a109, ne_a33_a109.symm, ne_a68_a109, ne_a68_a109.symm]
set_option maxRecDepth 65536 in
set_option maxHeartbeats 40000000 in
theorem own_law8 (x0 : Int32) (x1 : Int32) (x2 : Int32) (x3 : Int32) (x4 : Int32) (v170 : Int32) (v188 : Int32) (v205 : Int32) (a4 : Addr) (a33 : Addr) (a68 : Addr) (a109 : Addr) (s0 : Value) (s1 : Value) (s2 : Value) (u168 : Int32) (hu168 : (x0 &&& (3 : Int32)) = u168) (u186 : Int32) (hu186 : ((x1 &&& (2147483647 : Int32)) % (3 : Int32)) = u186) (u381 : Int32) (hu381 : (own_r1 a33 a68 a109 a109 s1 s2) = u381) (v383 : Int32) (hv383 : v383 = (if v188 < (0 : Int32) then (-1 : Int32) else (own_par v188 v170 v188 v205))) (v386 : Int32) (hv386 : v386 = (if v383 < (0 : Int32) then (-1 : Int32) else (own_par v383 v170 v188 v205))) (v389 : Int32) (hv389 : v389 = (if v188 = (3 : Int32) then (1 : Int32) else (if v383 = (3 : Int32) then (1 : Int32) else (if v386 = (3 : Int32) then (1 : Int32) else (0 : Int32))))) (v392 : Int32) (hv392 : v392 = (if u381 = v389 then (1 : Int32) else (0 : Int32))) (PP0 : ((v170 = -1 ∧ s0 = .null) ∨ (v170 = 1 ∧ s0 = .ref a33) ∨ (v170 = 2 ∧ s0 = .ref a68) ∨ (v170 = 3 ∧ s0 = .ref a109))) (PP1 : ((v188 = -1 ∧ s1 = .null) ∨ (v188 = 2 ∧ s1 = .ref a68) ∨ (v188 = 3 ∧ s1 = .ref a109))) (PP2 : ((v205 = -1 ∧ s2 = .null) ∨ (v205 = 3 ∧ s2 = .ref a109))) (ne_a4_a33 : a4 ≠ a33) (ne_a4_a68 : a4 ≠ a68) (ne_a4_a109 : a4 ≠ a109) (ne_a33_a68 : a33 ≠ a68) (ne_a33_a109 : a33 ≠ a109) (ne_a68_a109 : a68 ≠ a109) : v392 = 1 := by
  rcases PP0 with ⟨e0, t0⟩ | ⟨e0, t0⟩ | ⟨e0, t0⟩ | ⟨e0, t0⟩ <;> rcases PP1 with ⟨e1, t1⟩ | ⟨e1, t1⟩ | ⟨e1, t1⟩ <;> rcases PP2 with ⟨e2, t2⟩ | ⟨e2, t2⟩ <;> subst e0 t0 e1 t1 e2 t2 <;> subst_vars <;> simp [own_r0, own_r1, own_r2, own_r3, own_par, ne_a4_a33, ne_a4_a33.symm, ne_a4_a68, ne_a4_a68.symm, ne_a4_a109, ne_a4_a109.symm, ne_a33_a68, ne_a33_a68.symm, ne_a33_a109, ne_a33_a109.symm, ne_a68_a109, ne_a68_a109.symm]
set_option maxRecDepth 65536 in
set_option maxHeartbeats 40000000 in
theorem own_law9 (x0 : Int32) (x1 : Int32) (x2 : Int32) (x3 : Int32) (x4 : Int32) (v170 : Int32) (v188 : Int32) (v205 : Int32) (a4 : Addr) (a33 : Addr) (a68 : Addr) (a109 : Addr) (s0 : Value) (s1 : Value) (s2 : Value) (u168 : Int32) (hu168 : (x0 &&& (3 : Int32)) = u168) (u186 : Int32) (hu186 : ((x1 &&& (2147483647 : Int32)) % (3 : Int32)) = u186) (u398 : Int32) (hu398 : (own_r2 a68 a109 a4 s2) = u398) (v400 : Int32) (hv400 : v400 = (if v205 < (0 : Int32) then (-1 : Int32) else (own_par v205 v170 v188 v205))) (v403 : Int32) (hv403 : v403 = (if v400 < (0 : Int32) then (-1 : Int32) else (own_par v400 v170 v188 v205))) (v406 : Int32) (hv406 : v406 = (if v205 = (0 : Int32) then (1 : Int32) else (if v400 = (0 : Int32) then (1 : Int32) else (if v403 = (0 : Int32) then (1 : Int32) else (0 : Int32))))) (v409 : Int32) (hv409 : v409 = (if u398 = v406 then (1 : Int32) else (0 : Int32))) (PP0 : ((v170 = -1 ∧ s0 = .null) ∨ (v170 = 1 ∧ s0 = .ref a33) ∨ (v170 = 2 ∧ s0 = .ref a68) ∨ (v170 = 3 ∧ s0 = .ref a109))) (PP1 : ((v188 = -1 ∧ s1 = .null) ∨ (v188 = 2 ∧ s1 = .ref a68) ∨ (v188 = 3 ∧ s1 = .ref a109))) (PP2 : ((v205 = -1 ∧ s2 = .null) ∨ (v205 = 3 ∧ s2 = .ref a109))) (ne_a4_a33 : a4 ≠ a33) (ne_a4_a68 : a4 ≠ a68) (ne_a4_a109 : a4 ≠ a109) (ne_a33_a68 : a33 ≠ a68) (ne_a33_a109 : a33 ≠ a109) (ne_a68_a109 : a68 ≠ a109) : v409 = 1 := by
  rcases PP0 with ⟨e0, t0⟩ | ⟨e0, t0⟩ | ⟨e0, t0⟩ | ⟨e0, t0⟩ <;> rcases PP1 with ⟨e1, t1⟩ | ⟨e1, t1⟩ | ⟨e1, t1⟩ <;> rcases PP2 with ⟨e2, t2⟩ | ⟨e2, t2⟩ <;> subst e0 t0 e1 t1 e2 t2 <;> subst_vars <;> simp [own_r0, own_r1, own_r2, own_r3, own_par, ne_a4_a33, ne_a4_a33.symm, ne_a4_a68, ne_a4_a68.symm, ne_a4_a109, ne_a4_a109.symm, ne_a33_a68, ne_a33_a68.symm, ne_a33_a109, ne_a33_a109.symm, ne_a68_a109, ne_a68_a109.symm]
set_option maxRecDepth 65536 in
set_option maxHeartbeats 40000000 in
theorem own_law10 (x0 : Int32) (x1 : Int32) (x2 : Int32) (x3 : Int32) (x4 : Int32) (v170 : Int32) (v188 : Int32) (v205 : Int32) (a4 : Addr) (a33 : Addr) (a68 : Addr) (a109 : Addr) (s0 : Value) (s1 : Value) (s2 : Value) (u168 : Int32) (hu168 : (x0 &&& (3 : Int32)) = u168) (u186 : Int32) (hu186 : ((x1 &&& (2147483647 : Int32)) % (3 : Int32)) = u186) (u415 : Int32) (hu415 : (own_r2 a68 a109 a33 s2) = u415) (v417 : Int32) (hv417 : v417 = (if v205 < (0 : Int32) then (-1 : Int32) else (own_par v205 v170 v188 v205))) (v420 : Int32) (hv420 : v420 = (if v417 < (0 : Int32) then (-1 : Int32) else (own_par v417 v170 v188 v205))) (v423 : Int32) (hv423 : v423 = (if v205 = (1 : Int32) then (1 : Int32) else (if v417 = (1 : Int32) then (1 : Int32) else (if v420 = (1 : Int32) then (1 : Int32) else (0 : Int32))))) (v426 : Int32) (hv426 : v426 = (if u415 = v423 then (1 : Int32) else (0 : Int32))) (PP0 : ((v170 = -1 ∧ s0 = .null) ∨ (v170 = 1 ∧ s0 = .ref a33) ∨ (v170 = 2 ∧ s0 = .ref a68) ∨ (v170 = 3 ∧ s0 = .ref a109))) (PP1 : ((v188 = -1 ∧ s1 = .null) ∨ (v188 = 2 ∧ s1 = .ref a68) ∨ (v188 = 3 ∧ s1 = .ref a109))) (PP2 : ((v205 = -1 ∧ s2 = .null) ∨ (v205 = 3 ∧ s2 = .ref a109))) (ne_a4_a33 : a4 ≠ a33) (ne_a4_a68 : a4 ≠ a68) (ne_a4_a109 : a4 ≠ a109) (ne_a33_a68 : a33 ≠ a68) (ne_a33_a109 : a33 ≠ a109) (ne_a68_a109 : a68 ≠ a109) : v426 = 1 := by
  rcases PP0 with ⟨e0, t0⟩ | ⟨e0, t0⟩ | ⟨e0, t0⟩ | ⟨e0, t0⟩ <;> rcases PP1 with ⟨e1, t1⟩ | ⟨e1, t1⟩ | ⟨e1, t1⟩ <;> rcases PP2 with ⟨e2, t2⟩ | ⟨e2, t2⟩ <;> subst e0 t0 e1 t1 e2 t2 <;> subst_vars <;> simp [own_r0, own_r1, own_r2, own_r3, own_par, ne_a4_a33, ne_a4_a33.symm, ne_a4_a68, ne_a4_a68.symm, ne_a4_a109, ne_a4_a109.symm, ne_a33_a68, ne_a33_a68.symm, ne_a33_a109, ne_a33_a109.symm, ne_a68_a109, ne_a68_a109.symm]
set_option maxRecDepth 65536 in
set_option maxHeartbeats 40000000 in
theorem own_law11 (x0 : Int32) (x1 : Int32) (x2 : Int32) (x3 : Int32) (x4 : Int32) (v170 : Int32) (v188 : Int32) (v205 : Int32) (a4 : Addr) (a33 : Addr) (a68 : Addr) (a109 : Addr) (s0 : Value) (s1 : Value) (s2 : Value) (u168 : Int32) (hu168 : (x0 &&& (3 : Int32)) = u168) (u186 : Int32) (hu186 : ((x1 &&& (2147483647 : Int32)) % (3 : Int32)) = u186) (u432 : Int32) (hu432 : (own_r2 a68 a109 a68 s2) = u432) (v434 : Int32) (hv434 : v434 = (if v205 < (0 : Int32) then (-1 : Int32) else (own_par v205 v170 v188 v205))) (v437 : Int32) (hv437 : v437 = (if v434 < (0 : Int32) then (-1 : Int32) else (own_par v434 v170 v188 v205))) (v440 : Int32) (hv440 : v440 = (if u432 = (1 : Int32) then (1 : Int32) else (0 : Int32))) (PP0 : ((v170 = -1 ∧ s0 = .null) ∨ (v170 = 1 ∧ s0 = .ref a33) ∨ (v170 = 2 ∧ s0 = .ref a68) ∨ (v170 = 3 ∧ s0 = .ref a109))) (PP1 : ((v188 = -1 ∧ s1 = .null) ∨ (v188 = 2 ∧ s1 = .ref a68) ∨ (v188 = 3 ∧ s1 = .ref a109))) (PP2 : ((v205 = -1 ∧ s2 = .null) ∨ (v205 = 3 ∧ s2 = .ref a109))) (ne_a4_a33 : a4 ≠ a33) (ne_a4_a68 : a4 ≠ a68) (ne_a4_a109 : a4 ≠ a109) (ne_a33_a68 : a33 ≠ a68) (ne_a33_a109 : a33 ≠ a109) (ne_a68_a109 : a68 ≠ a109) : v440 = 1 := by
  rcases PP0 with ⟨e0, t0⟩ | ⟨e0, t0⟩ | ⟨e0, t0⟩ | ⟨e0, t0⟩ <;> rcases PP1 with ⟨e1, t1⟩ | ⟨e1, t1⟩ | ⟨e1, t1⟩ <;> rcases PP2 with ⟨e2, t2⟩ | ⟨e2, t2⟩ <;> subst e0 t0 e1 t1 e2 t2 <;> subst_vars <;> simp [own_r0, own_r1, own_r2, own_r3, own_par, ne_a4_a33, ne_a4_a33.symm, ne_a4_a68, ne_a4_a68.symm, ne_a4_a109, ne_a4_a109.symm, ne_a33_a68, ne_a33_a68.symm, ne_a33_a109, ne_a33_a109.symm, ne_a68_a109, ne_a68_a109.symm]
set_option maxRecDepth 65536 in
set_option maxHeartbeats 40000000 in
theorem own_law12 (x0 : Int32) (x1 : Int32) (x2 : Int32) (x3 : Int32) (x4 : Int32) (v170 : Int32) (v188 : Int32) (v205 : Int32) (a4 : Addr) (a33 : Addr) (a68 : Addr) (a109 : Addr) (s0 : Value) (s1 : Value) (s2 : Value) (u168 : Int32) (hu168 : (x0 &&& (3 : Int32)) = u168) (u186 : Int32) (hu186 : ((x1 &&& (2147483647 : Int32)) % (3 : Int32)) = u186) (u444 : Int32) (hu444 : (own_r2 a68 a109 a109 s2) = u444) (v446 : Int32) (hv446 : v446 = (if v205 < (0 : Int32) then (-1 : Int32) else (own_par v205 v170 v188 v205))) (v449 : Int32) (hv449 : v449 = (if v446 < (0 : Int32) then (-1 : Int32) else (own_par v446 v170 v188 v205))) (v452 : Int32) (hv452 : v452 = (if v205 = (3 : Int32) then (1 : Int32) else (if v446 = (3 : Int32) then (1 : Int32) else (if v449 = (3 : Int32) then (1 : Int32) else (0 : Int32))))) (v455 : Int32) (hv455 : v455 = (if u444 = v452 then (1 : Int32) else (0 : Int32))) (PP0 : ((v170 = -1 ∧ s0 = .null) ∨ (v170 = 1 ∧ s0 = .ref a33) ∨ (v170 = 2 ∧ s0 = .ref a68) ∨ (v170 = 3 ∧ s0 = .ref a109))) (PP1 : ((v188 = -1 ∧ s1 = .null) ∨ (v188 = 2 ∧ s1 = .ref a68) ∨ (v188 = 3 ∧ s1 = .ref a109))) (PP2 : ((v205 = -1 ∧ s2 = .null) ∨ (v205 = 3 ∧ s2 = .ref a109))) (ne_a4_a33 : a4 ≠ a33) (ne_a4_a68 : a4 ≠ a68) (ne_a4_a109 : a4 ≠ a109) (ne_a33_a68 : a33 ≠ a68) (ne_a33_a109 : a33 ≠ a109) (ne_a68_a109 : a68 ≠ a109) : v455 = 1 := by
  rcases PP0 with ⟨e0, t0⟩ | ⟨e0, t0⟩ | ⟨e0, t0⟩ | ⟨e0, t0⟩ <;> rcases PP1 with ⟨e1, t1⟩ | ⟨e1, t1⟩ | ⟨e1, t1⟩ <;> rcases PP2 with ⟨e2, t2⟩ | ⟨e2, t2⟩ <;> subst e0 t0 e1 t1 e2 t2 <;> subst_vars <;> simp [own_r0, own_r1, own_r2, own_r3, own_par, ne_a4_a33, ne_a4_a33.symm, ne_a4_a68, ne_a4_a68.symm, ne_a4_a109, ne_a4_a109.symm, ne_a33_a68, ne_a33_a68.symm, ne_a33_a109, ne_a33_a109.symm, ne_a68_a109, ne_a68_a109.symm]
set_option maxRecDepth 65536 in
set_option maxHeartbeats 40000000 in
theorem own_law13 (x0 : Int32) (x1 : Int32) (x2 : Int32) (x3 : Int32) (x4 : Int32) (v170 : Int32) (v188 : Int32) (v205 : Int32) (a4 : Addr) (a33 : Addr) (a68 : Addr) (a109 : Addr) (s0 : Value) (s1 : Value) (s2 : Value) (u168 : Int32) (hu168 : (x0 &&& (3 : Int32)) = u168) (u186 : Int32) (hu186 : ((x1 &&& (2147483647 : Int32)) % (3 : Int32)) = u186) (u461 : Int32) (hu461 : (own_r3 a109 a4 ) = u461) (v463 : Int32) (hv463 : v463 = (if u461 = (0 : Int32) then (1 : Int32) else (0 : Int32))) (PP0 : ((v170 = -1 ∧ s0 = .null) ∨ (v170 = 1 ∧ s0 = .ref a33) ∨ (v170 = 2 ∧ s0 = .ref a68) ∨ (v170 = 3 ∧ s0 = .ref a109))) (PP1 : ((v188 = -1 ∧ s1 = .null) ∨ (v188 = 2 ∧ s1 = .ref a68) ∨ (v188 = 3 ∧ s1 = .ref a109))) (PP2 : ((v205 = -1 ∧ s2 = .null) ∨ (v205 = 3 ∧ s2 = .ref a109))) (ne_a4_a33 : a4 ≠ a33) (ne_a4_a68 : a4 ≠ a68) (ne_a4_a109 : a4 ≠ a109) (ne_a33_a68 : a33 ≠ a68) (ne_a33_a109 : a33 ≠ a109) (ne_a68_a109 : a68 ≠ a109) : v463 = 1 := by
  rcases PP0 with ⟨e0, t0⟩ | ⟨e0, t0⟩ | ⟨e0, t0⟩ | ⟨e0, t0⟩ <;> rcases PP1 with ⟨e1, t1⟩ | ⟨e1, t1⟩ | ⟨e1, t1⟩ <;> rcases PP2 with ⟨e2, t2⟩ | ⟨e2, t2⟩ <;> subst e0 t0 e1 t1 e2 t2 <;> subst_vars <;> simp [own_r0, own_r1, own_r2, own_r3, own_par, ne_a4_a33, ne_a4_a33.symm, ne_a4_a68, ne_a4_a68.symm, ne_a4_a109, ne_a4_a109.symm, ne_a33_a68, ne_a33_a68.symm, ne_a33_a109, ne_a33_a109.symm, ne_a68_a109, ne_a68_a109.symm]
set_option maxRecDepth 65536 in
set_option maxHeartbeats 40000000 in
theorem own_law14 (x0 : Int32) (x1 : Int32) (x2 : Int32) (x3 : Int32) (x4 : Int32) (v170 : Int32) (v188 : Int32) (v205 : Int32) (a4 : Addr) (a33 : Addr) (a68 : Addr) (a109 : Addr) (s0 : Value) (s1 : Value) (s2 : Value) (u168 : Int32) (hu168 : (x0 &&& (3 : Int32)) = u168) (u186 : Int32) (hu186 : ((x1 &&& (2147483647 : Int32)) % (3 : Int32)) = u186) (u467 : Int32) (hu467 : (own_r3 a109 a33 ) = u467) (v469 : Int32) (hv469 : v469 = (if u467 = (0 : Int32) then (1 : Int32) else (0 : Int32))) (PP0 : ((v170 = -1 ∧ s0 = .null) ∨ (v170 = 1 ∧ s0 = .ref a33) ∨ (v170 = 2 ∧ s0 = .ref a68) ∨ (v170 = 3 ∧ s0 = .ref a109))) (PP1 : ((v188 = -1 ∧ s1 = .null) ∨ (v188 = 2 ∧ s1 = .ref a68) ∨ (v188 = 3 ∧ s1 = .ref a109))) (PP2 : ((v205 = -1 ∧ s2 = .null) ∨ (v205 = 3 ∧ s2 = .ref a109))) (ne_a4_a33 : a4 ≠ a33) (ne_a4_a68 : a4 ≠ a68) (ne_a4_a109 : a4 ≠ a109) (ne_a33_a68 : a33 ≠ a68) (ne_a33_a109 : a33 ≠ a109) (ne_a68_a109 : a68 ≠ a109) : v469 = 1 := by
  rcases PP0 with ⟨e0, t0⟩ | ⟨e0, t0⟩ | ⟨e0, t0⟩ | ⟨e0, t0⟩ <;> rcases PP1 with ⟨e1, t1⟩ | ⟨e1, t1⟩ | ⟨e1, t1⟩ <;> rcases PP2 with ⟨e2, t2⟩ | ⟨e2, t2⟩ <;> subst e0 t0 e1 t1 e2 t2 <;> subst_vars <;> simp [own_r0, own_r1, own_r2, own_r3, own_par, ne_a4_a33, ne_a4_a33.symm, ne_a4_a68, ne_a4_a68.symm, ne_a4_a109, ne_a4_a109.symm, ne_a33_a68, ne_a33_a68.symm, ne_a33_a109, ne_a33_a109.symm, ne_a68_a109, ne_a68_a109.symm]
set_option maxRecDepth 65536 in
set_option maxHeartbeats 40000000 in
theorem own_law15 (x0 : Int32) (x1 : Int32) (x2 : Int32) (x3 : Int32) (x4 : Int32) (v170 : Int32) (v188 : Int32) (v205 : Int32) (a4 : Addr) (a33 : Addr) (a68 : Addr) (a109 : Addr) (s0 : Value) (s1 : Value) (s2 : Value) (u168 : Int32) (hu168 : (x0 &&& (3 : Int32)) = u168) (u186 : Int32) (hu186 : ((x1 &&& (2147483647 : Int32)) % (3 : Int32)) = u186) (u473 : Int32) (hu473 : (own_r3 a109 a68 ) = u473) (v475 : Int32) (hv475 : v475 = (if u473 = (0 : Int32) then (1 : Int32) else (0 : Int32))) (PP0 : ((v170 = -1 ∧ s0 = .null) ∨ (v170 = 1 ∧ s0 = .ref a33) ∨ (v170 = 2 ∧ s0 = .ref a68) ∨ (v170 = 3 ∧ s0 = .ref a109))) (PP1 : ((v188 = -1 ∧ s1 = .null) ∨ (v188 = 2 ∧ s1 = .ref a68) ∨ (v188 = 3 ∧ s1 = .ref a109))) (PP2 : ((v205 = -1 ∧ s2 = .null) ∨ (v205 = 3 ∧ s2 = .ref a109))) (ne_a4_a33 : a4 ≠ a33) (ne_a4_a68 : a4 ≠ a68) (ne_a4_a109 : a4 ≠ a109) (ne_a33_a68 : a33 ≠ a68) (ne_a33_a109 : a33 ≠ a109) (ne_a68_a109 : a68 ≠ a109) : v475 = 1 := by
  rcases PP0 with ⟨e0, t0⟩ | ⟨e0, t0⟩ | ⟨e0, t0⟩ | ⟨e0, t0⟩ <;> rcases PP1 with ⟨e1, t1⟩ | ⟨e1, t1⟩ | ⟨e1, t1⟩ <;> rcases PP2 with ⟨e2, t2⟩ | ⟨e2, t2⟩ <;> subst e0 t0 e1 t1 e2 t2 <;> subst_vars <;> simp [own_r0, own_r1, own_r2, own_r3, own_par, ne_a4_a33, ne_a4_a33.symm, ne_a4_a68, ne_a4_a68.symm, ne_a4_a109, ne_a4_a109.symm, ne_a33_a68, ne_a33_a68.symm, ne_a33_a109, ne_a33_a109.symm, ne_a68_a109, ne_a68_a109.symm]
set_option maxRecDepth 65536 in
set_option maxHeartbeats 40000000 in
theorem own_law16 (x0 : Int32) (x1 : Int32) (x2 : Int32) (x3 : Int32) (x4 : Int32) (v170 : Int32) (v188 : Int32) (v205 : Int32) (a4 : Addr) (a33 : Addr) (a68 : Addr) (a109 : Addr) (s0 : Value) (s1 : Value) (s2 : Value) (u168 : Int32) (hu168 : (x0 &&& (3 : Int32)) = u168) (u186 : Int32) (hu186 : ((x1 &&& (2147483647 : Int32)) % (3 : Int32)) = u186) (u479 : Int32) (hu479 : (own_r3 a109 a109 ) = u479) (v481 : Int32) (hv481 : v481 = (if u479 = (1 : Int32) then (1 : Int32) else (0 : Int32))) (PP0 : ((v170 = -1 ∧ s0 = .null) ∨ (v170 = 1 ∧ s0 = .ref a33) ∨ (v170 = 2 ∧ s0 = .ref a68) ∨ (v170 = 3 ∧ s0 = .ref a109))) (PP1 : ((v188 = -1 ∧ s1 = .null) ∨ (v188 = 2 ∧ s1 = .ref a68) ∨ (v188 = 3 ∧ s1 = .ref a109))) (PP2 : ((v205 = -1 ∧ s2 = .null) ∨ (v205 = 3 ∧ s2 = .ref a109))) (ne_a4_a33 : a4 ≠ a33) (ne_a4_a68 : a4 ≠ a68) (ne_a4_a109 : a4 ≠ a109) (ne_a33_a68 : a33 ≠ a68) (ne_a33_a109 : a33 ≠ a109) (ne_a68_a109 : a68 ≠ a109) : v481 = 1 := by
  rcases PP0 with ⟨e0, t0⟩ | ⟨e0, t0⟩ | ⟨e0, t0⟩ | ⟨e0, t0⟩ <;> rcases PP1 with ⟨e1, t1⟩ | ⟨e1, t1⟩ | ⟨e1, t1⟩ <;> rcases PP2 with ⟨e2, t2⟩ | ⟨e2, t2⟩ <;> subst e0 t0 e1 t1 e2 t2 <;> subst_vars <;> simp [own_r0, own_r1, own_r2, own_r3, own_par, ne_a4_a33, ne_a4_a33.symm, ne_a4_a68, ne_a4_a68.symm, ne_a4_a109, ne_a4_a109.symm, ne_a33_a68, ne_a33_a68.symm, ne_a33_a109, ne_a33_a109.symm, ne_a68_a109, ne_a68_a109.symm]
theorem pd3 : parseMethodDescriptor "(Lcom/example/hoarewright/hoarewright/loy/LoyClass;)V" = some ⟨[.object "com/example/hoarewright/hoarewright/loy/LoyClass"], none⟩ := by decide +kernel
set_option maxRecDepth 65536 in
set_option maxHeartbeats 40000000 in
theorem rm0 (l : Launch) (Z : State) (a0 : Array Value) (hw : ∀ d ∈ tables_1, d.before a0 Z = true) (ws : List Jvm.Cond) (x0 : Int32) (x1 : Int32) (x2 : Int32) (x3 : Int32) (x4 : Int32) (rd : Addr) (h0 : Heap) (n0 : Nat) (Z0 : n0 ≤ h0.size) (O0 : Old Z n0 h0) (SD : Sta Z Z.heap "java/util/ArrayList" "DEFAULTCAPACITY_EMPTY_ELEMENTDATA" "[Ljava/lang/Object;" (.ref rd)) :
    Con l Z x code maxLocals ret ws room_1 #[(.int x0), (.int x1), (.int x2), (.int x3), (.int x4)] h0 (room_1.cells) (room_1.slots) (Q_rm0 Z x0 x1 x2 x3 x4 rd h0 n0) := by
  refine Con.of (plainFor_of_name pn7) ?_
  intro p e s m below meth c s₁ hx hby hml hown hnm hret hlk hZ X0 e0
  have N0 := Fr.nil n0
  refine goE (L := #[.val (.int x0), .val (.int x1), .val (.int x2), .val (.int x3), .val (.int x4), .unset, .unset, .unset, .unset, .unset, .unset, .unset, .unset, .unset, .unset, .unset]) (ef12 m x0 x1 x2 x3 x4) ?_
  refine gIconst X0 hx (4 : Int32) (hb hby at_0) (q := 1) rfl (by decide) ?_
  refine gNewR X0 hx hZ hown (hw _ (List.mem_of_getElem? (i := 0) rfl)) (hw _ (List.mem_of_getElem? (i := 1) rfl)) e0 (hb hby at_1) (q := 4) rfl (by decide) (cap := 4) (by decide) (by decide) (by decide) (by decide) (fun T1 h1 a1 k1 X1 e1 g1 E1 A1 O1v => ?_)
  have O2 := O0.ext E1
  have le_a1 : n0 ≤ a1 := by rw [g1]; exact Z0
  have Z3 := Nat.le_trans Z0 E1.1
  have B1 : Ary Z h1 a1 k1 (.object "com/example/hoarewright/hoarewright/loy/LoyClass") [(.null), (.null), (.null), (.null)] := A1
  refine gAstore X1 hx (hb hby at_4) (q := 6) rfl rfl (L' := #[.val (.int x0), .val (.int x1), .val (.int x2), .val (.int x3), .val (.int x4), .val (.ref a1), .unset, .unset, .unset, .unset, .unset, .unset, .unset, .unset, .unset, .unset]) rfl ?_
  refine gAload X1 hx (hb hby at_6) (q := 8) rfl rfl rfl ?_
  refine gIconst X1 hx (0 : Int32) (hb hby at_8) (q := 9) rfl (by decide) ?_
  refine gNewO X1 hx hZ hown (hw _ (List.mem_of_getElem? (i := 0) rfl)) (hw _ (List.mem_of_getElem? (i := 2) rfl)) (hw _ (List.mem_of_getElem? (i := 3) rfl)) e1 (hb hby at_9) (q := 12) rfl (by decide) (by decide) (fun T4 h4 a4 X4 e4 g4 E4 A4 D4 => ?_)
  have A5 := Ary.ext E4 B1
  have O6 := O2.ext E4
  have le_a4 : n0 ≤ a4 := by rw [g4]; exact Z3
  have ne_a1_a4 : a1 ≠ a4 := by rw [g4]; exact Nat.ne_of_lt B1.lt
  have Z7 := Nat.le_trans Z3 E4.1
  have F8 : Fld Z h4 a4 "com/example/hoarewright/hoarewright/loy/LoyClass" "fields" "Ljava/util/Map;" (.null) := D4 (Or.inr (hw _ (List.mem_of_getElem? (i := 37) rfl))) (ty := .object "java/util/Map") (by decide)
  have F9 : Fld Z h4 a4 "com/example/hoarewright/hoarewright/loy/LoyClass" "invariants" "Ljava/util/List;" (.null) := D4 (Or.inr (hw _ (List.mem_of_getElem? (i := 63) rfl))) (ty := .object "java/util/List") (by decide)
  have F10 : Fld Z h4 a4 "com/example/hoarewright/hoarewright/loy/LoyClass" "depends" "Ljava/util/List;" (.null) := D4 (Or.inr (hw _ (List.mem_of_getElem? (i := 65) rfl))) (ty := .object "java/util/List") (by decide)
  have F11 : Fld Z h4 a4 "com/example/hoarewright/hoarewright/loy/LoyClass" "methods" "Ljava/util/Map;" (.null) := D4 (Or.inr (hw _ (List.mem_of_getElem? (i := 67) rfl))) (ty := .object "java/util/Map") (by decide)
  have F12 : Fld Z h4 a4 "com/example/hoarewright/hoarewright/loy/LoyClass" "name" "Ljava/lang/String;" (.null) := D4 (Or.inr (hw _ (List.mem_of_getElem? (i := 69) rfl))) (ty := .object "java/lang/String") (by decide)
  have F13 : Fld Z h4 a4 "com/example/hoarewright/hoarewright/loy/LoyClass" "location" "Lcom/example/hoarewright/hoarewright/analysis/Location;" (.null) := D4 (Or.inr (hw _ (List.mem_of_getElem? (i := 71) rfl))) (ty := .object "com/example/hoarewright/hoarewright/analysis/Location") (by decide)
  have F14 : Fld Z h4 a4 "com/example/hoarewright/hoarewright/loy/LoyClass" "superclass" "Lcom/example/hoarewright/hoarewright/loy/LoyClass;" (.null) := D4 (Or.inl (hw _ (List.mem_of_getElem? (i := 81) rfl))) (ty := .object "com/example/hoarewright/hoarewright/loy/LoyClass") (by decide)
  clear D4
  refine gDup X4 hx (hb hby at_12) (q := 13) rfl rfl ?_
  refine gNull X4 hx (hb hby at_13) (q := 14) rfl ?_
  refine gNull X4 hx (hb hby at_14) (q := 15) rfl ?_
  refine gCallN X4 hx hZ rfl hown (hw _ (List.mem_of_getElem? (i := 4) rfl)) (hw _ (List.mem_of_getElem? (i := 5) rfl)) (hw _ (List.mem_of_getElem? (i := 3) rfl)) (hw _ (List.mem_of_getElem? (i := 6) rfl)) (by decide) (rmLoy l Z a0 hw [] a4 h4 n0 Z7 F8 F9 F10 F11 F12 F13 F14 A4 le_a4 rd O6 SD) (W := 3) (by decide) (by decide) e4 (by rw [hml]; rfl) [(.null), (.null)] (lenOf pd1 rfl) rfl (S := [(.ref a4), (.int (0 : Int32)), (.ref a1)]) rfl (Nat.le_of_eq rfl) (hb hby at_15) (q := 18) rfl (by decide) (by decide) (fun r15 T15 M15 X15 q15 => ?_)
  obtain ⟨rfl, M15n, K15, P15e, P15_0⟩ := q15
  have N16 := Fr.app N0 M15n
  have A17 := Ary.keep A5 K15 (ninS ne_a1_a4 nin0)
  have O24 := O6.keep K15 (allS le_a4 all0)
  have Z25 := Nat.le_trans Z7 K15.1
  dsimp only [Option.toList, List.cons_append, List.nil_append]
  refine gAastore X15 hx hZ rfl A17 rfl (Sto.ofA A17 O1v (Ins.self P15e)) (hb hby at_18) (q := 19) rfl (show ¬ (((0 : Int32) : Int32) < 0 ∨ 4 ≤ ((0 : Int32) : Int32).toNatClampNeg) by decide) (fun T26 h26 X26 e26 W26 A26 => ?_)
  have B26 : Ary Z h26 a1 k1 (.object "com/example/hoarewright/hoarewright/loy/LoyClass") [(.ref a4), (.null), (.null), (.null)] := A26
  have N27 := Fr.snoc X26 N16 le_a1
  have E29 := Exa.wr W26 P15e
  have F30 := Fld.other W26 P15_0 (Or.inl ne_a1_a4.symm)
  have O31 := O24.wr W26 le_a1
  have Z32 : n0 ≤ h26.size := by rw [W26.size]; exact Z25
  refine gAload X26 hx (hb hby at_19) (q := 21) rfl rfl rfl ?_
  refine gIconst X26 hx (1 : Int32) (hb hby at_21) (q := 22) rfl (by decide) ?_
  refine gNewO X26 hx hZ hown (hw _ (List.mem_of_getElem? (i := 0) rfl)) (hw _ (List.mem_of_getElem? (i := 2) rfl)) (hw _ (List.mem_of_getElem? (i := 3) rfl)) e26 (hb hby at_22) (q := 25) rfl (by decide) (by decide) (fun T33 h33 a33 X33 e33 g33 E33 A33 D33 => ?_)
  have A34 := Ary.ext E33 B26
  have E35 := Exa.ext E33 E29
  have F36 := Fld.ext E33 F30
  have O37 := O31.ext E33
  have le_a33 : n0 ≤ a33 := by rw [g33]; exact Z32
  have ne_a1_a33 : a1 ≠ a33 := by rw [g33]; exact Nat.ne_of_lt B26.lt
  have ne_a4_a33 : a4 ≠ a33 := by rw [g33]; exact Nat.ne_of_lt E29.lt
  have Z38 := Nat.le_trans Z32 E33.1
  have F39 : Fld Z h33 a33 "com/example/hoarewright/hoarewright/loy/LoyClass" "fields" "Ljava/util/Map;" (.null) := D33 (Or.inr (hw _ (List.mem_of_getElem? (i := 37) rfl))) (ty := .object "java/util/Map") (by decide)
  have F40 : Fld Z h33 a33 "com/example/hoarewright/hoarewright/loy/LoyClass" "invariants" "Ljava/util/List;" (.null) := D33 (Or.inr (hw _ (List.mem_of_getElem? (i := 63) rfl))) (ty := .object "java/util/List") (by decide)
  have F41 : Fld Z h33 a33 "com/example/hoarewright/hoarewright/loy/LoyClass" "depends" "Ljava/util/List;" (.null) := D33 (Or.inr (hw _ (List.mem_of_getElem? (i := 65) rfl))) (ty := .object "java/util/List") (by decide)
  have F42 : Fld Z h33 a33 "com/example/hoarewright/hoarewright/loy/LoyClass" "methods" "Ljava/util/Map;" (.null) := D33 (Or.inr (hw _ (List.mem_of_getElem? (i := 67) rfl))) (ty := .object "java/util/Map") (by decide)
  have F43 : Fld Z h33 a33 "com/example/hoarewright/hoarewright/loy/LoyClass" "name" "Ljava/lang/String;" (.null) := D33 (Or.inr (hw _ (List.mem_of_getElem? (i := 69) rfl))) (ty := .object "java/lang/String") (by decide)
  have F44 : Fld Z h33 a33 "com/example/hoarewright/hoarewright/loy/LoyClass" "location" "Lcom/example/hoarewright/hoarewright/analysis/Location;" (.null) := D33 (Or.inr (hw _ (List.mem_of_getElem? (i := 71) rfl))) (ty := .object "com/example/hoarewright/hoarewright/analysis/Location") (by decide)
  have F45 : Fld Z h33 a33 "com/example/hoarewright/hoarewright/loy/LoyClass" "superclass" "Lcom/example/hoarewright/hoarewright/loy/LoyClass;" (.null) := D33 (Or.inl (hw _ (List.mem_of_getElem? (i := 81) rfl))) (ty := .object "com/example/hoarewright/hoarewright/loy/LoyClass") (by decide)
  clear D33
  refine gDup X33 hx (hb hby at_25) (q := 26) rfl rfl ?_
  refine gNull X33 hx (hb hby at_26) (q := 27) rfl ?_
  refine gNull X33 hx (hb hby at_27) (q := 28) rfl ?_
  refine gCallN X33 hx hZ rfl hown (hw _ (List.mem_of_getElem? (i := 4) rfl)) (hw _ (List.mem_of_getElem? (i := 5) rfl)) (hw _ (List.mem_of_getElem? (i := 3) rfl)) (hw _ (List.mem_of_getElem? (i := 6) rfl)) (by decide) (rmLoy l Z a0 hw [] a33 h33 n0 Z38 F39 F40 F41 F42 F43 F44 F45 A33 le_a33 rd O37 SD) (W := 3) (by decide) (by decide) e33 (by rw [hml]; rfl) [(.null), (.null)] (lenOf pd1 rfl) rfl (S := [(.ref a33), (.int (1 : Int32)), (.ref a1)]) rfl (Nat.le_of_eq rfl) (hb hby at_28) (q := 31) rfl (by decide) (by decide) (fun r46 T46 M46 X46 q46 => ?_)
  obtain ⟨rfl, M46n, K46, P46e, P46_0⟩ := q46
  have N47 := Fr.app N27 M46n
  have A48 := Ary.keep A34 K46 (ninS ne_a1_a33 nin0)
  have E49 := Exa.keep E35 K46
  have F50 := Fld.keep F36 K46 (ninS ne_a4_a33 nin0)
  have O57 := O37.keep K46 (allS le_a33 all0)
  have Z58 := Nat.le_trans Z38 K46.1
  dsimp only [Option.toList, List.cons_append, List.nil_append]
  refine gAastore X46 hx hZ rfl A48 rfl (Sto.ofA A48 O1v (Ins.self P46e)) (hb hby at_31) (q := 32) rfl (show ¬ (((1 : Int32) : Int32) < 0 ∨ 4 ≤ ((1 : Int32) : Int32).toNatClampNeg) by decide) (fun T59 h59 X59 e59 W59 A59 => ?_)
  have B59 : Ary Z h59 a1 k1 (.object "com/example/hoarewright/hoarewright/loy/LoyClass") [(.ref a4), (.ref a33), (.null), (.null)] := A59
  have N60 := Fr.snoc X59 N47 le_a1
  have E62 := Exa.wr W59 E49
  have F63 := Fld.other W59 F50 (Or.inl ne_a1_a4.symm)
  have E64 := Exa.wr W59 P46e
  have F65 := Fld.other W59 P46_0 (Or.inl ne_a1_a33.symm)
  have O66 := O57.wr W59 le_a1
  have Z67 : n0 ≤ h59.size := by rw [W59.size]; exact Z58
  refine gAload X59 hx (hb hby at_32) (q := 34) rfl rfl rfl ?_
  refine gIconst X59 hx (2 : Int32) (hb hby at_34) (q := 35) rfl (by decide) ?_
  refine gNewO X59 hx hZ hown (hw _ (List.mem_of_getElem? (i := 0) rfl)) (hw _ (List.mem_of_getElem? (i := 2) rfl)) (hw _ (List.mem_of_getElem? (i := 3) rfl)) e59 (hb hby at_35) (q := 38) rfl (by decide) (by decide) (fun T68 h68 a68 X68 e68 g68 E68 A68 D68 => ?_)
  have A69 := Ary.ext E68 B59
  have E70 := Exa.ext E68 E62
  have F71 := Fld.ext E68 F63
  have E72 := Exa.ext E68 E64
  have F73 := Fld.ext E68 F65
  have O74 := O66.ext E68
  have le_a68 : n0 ≤ a68 := by rw [g68]; exact Z67
  have ne_a1_a68 : a1 ≠ a68 := by rw [g68]; exact Nat.ne_of_lt B59.lt
  have ne_a4_a68 : a4 ≠ a68 := by rw [g68]; exact Nat.ne_of_lt E62.lt
  have ne_a33_a68 : a33 ≠ a68 := by rw [g68]; exact Nat.ne_of_lt E64.lt
  have Z75 := Nat.le_trans Z67 E68.1
  have F76 : Fld Z h68 a68 "com/example/hoarewright/hoarewright/loy/LoyClass" "fields" "Ljava/util/Map;" (.null) := D68 (Or.inr (hw _ (List.mem_of_getElem? (i := 37) rfl))) (ty := .object "java/util/Map") (by decide)
  have F77 : Fld Z h68 a68 "com/example/hoarewright/hoarewright/loy/LoyClass" "invariants" "Ljava/util/List;" (.null) := D68 (Or.inr (hw _ (List.mem_of_getElem? (i := 63) rfl))) (ty := .object "java/util/List") (by decide)
  have F78 : Fld Z h68 a68 "com/example/hoarewright/hoarewright/loy/LoyClass" "depends" "Ljava/util/List;" (.null) := D68 (Or.inr (hw _ (List.mem_of_getElem? (i := 65) rfl))) (ty := .object "java/util/List") (by decide)
  have F79 : Fld Z h68 a68 "com/example/hoarewright/hoarewright/loy/LoyClass" "methods" "Ljava/util/Map;" (.null) := D68 (Or.inr (hw _ (List.mem_of_getElem? (i := 67) rfl))) (ty := .object "java/util/Map") (by decide)
  have F80 : Fld Z h68 a68 "com/example/hoarewright/hoarewright/loy/LoyClass" "name" "Ljava/lang/String;" (.null) := D68 (Or.inr (hw _ (List.mem_of_getElem? (i := 69) rfl))) (ty := .object "java/lang/String") (by decide)
  have F81 : Fld Z h68 a68 "com/example/hoarewright/hoarewright/loy/LoyClass" "location" "Lcom/example/hoarewright/hoarewright/analysis/Location;" (.null) := D68 (Or.inr (hw _ (List.mem_of_getElem? (i := 71) rfl))) (ty := .object "com/example/hoarewright/hoarewright/analysis/Location") (by decide)
  have F82 : Fld Z h68 a68 "com/example/hoarewright/hoarewright/loy/LoyClass" "superclass" "Lcom/example/hoarewright/hoarewright/loy/LoyClass;" (.null) := D68 (Or.inl (hw _ (List.mem_of_getElem? (i := 81) rfl))) (ty := .object "com/example/hoarewright/hoarewright/loy/LoyClass") (by decide)
  clear D68
  refine gDup X68 hx (hb hby at_38) (q := 39) rfl rfl ?_
  refine gNull X68 hx (hb hby at_39) (q := 40) rfl ?_
  refine gNull X68 hx (hb hby at_40) (q := 41) rfl ?_
  refine gCallN X68 hx hZ rfl hown (hw _ (List.mem_of_getElem? (i := 4) rfl)) (hw _ (List.mem_of_getElem? (i := 5) rfl)) (hw _ (List.mem_of_getElem? (i := 3) rfl)) (hw _ (List.mem_of_getElem? (i := 6) rfl)) (by decide) (rmLoy l Z a0 hw [] a68 h68 n0 Z75 F76 F77 F78 F79 F80 F81 F82 A68 le_a68 rd O74 SD) (W := 3) (by decide) (by decide) e68 (by rw [hml]; rfl) [(.null), (.null)] (lenOf pd1 rfl) rfl (S := [(.ref a68), (.int (2 : Int32)), (.ref a1)]) rfl (Nat.le_of_eq rfl) (hb hby at_41) (q := 44) rfl (by decide) (by decide) (fun r83 T83 M83 X83 q83 => ?_)
  obtain ⟨rfl, M83n, K83, P83e, P83_0⟩ := q83
  have N84 := Fr.app N60 M83n
  have A85 := Ary.keep A69 K83 (ninS ne_a1_a68 nin0)
  have E86 := Exa.keep E70 K83
  have F87 := Fld.keep F71 K83 (ninS ne_a4_a68 nin0)
  have E88 := Exa.keep E72 K83
  have F89 := Fld.keep F73 K83 (ninS ne_a33_a68 nin0)
  have O96 := O74.keep K83 (allS le_a68 all0)
  have Z97 := Nat.le_trans Z75 K83.1
  dsimp only [Option.toList, List.cons_append, List.nil_append]
  refine gAastore X83 hx hZ rfl A85 rfl (Sto.ofA A85 O1v (Ins.self P83e)) (hb hby at_44) (q := 45) rfl (show ¬ (((2 : Int32) : Int32) < 0 ∨ 4 ≤ ((2 : Int32) : Int32).toNatClampNeg) by decide) (fun T98 h98 X98 e98 W98 A98 => ?_)
  have B98 : Ary Z h98 a1 k1 (.object "com/example/hoarewright/hoarewright/loy/LoyClass") [(.ref a4), (.ref a33), (.ref a68), (.null)] := A98
  have N99 := Fr.snoc X98 N84 le_a1
  have E101 := Exa.wr W98 E86
  have F102 := Fld.other W98 F87 (Or.inl ne_a1_a4.symm)
  have E103 := Exa.wr W98 E88
  have F104 := Fld.other W98 F89 (Or.inl ne_a1_a33.symm)
  have E105 := Exa.wr W98 P83e
  have F106 := Fld.other W98 P83_0 (Or.inl ne_a1_a68.symm)
  have O107 := O96.wr W98 le_a1
  have Z108 : n0 ≤ h98.size := by rw [W98.size]; exact Z97
  refine gAload X98 hx (hb hby at_45) (q := 47) rfl rfl rfl ?_
  refine gIconst X98 hx (3 : Int32) (hb hby at_47) (q := 48) rfl (by decide) ?_
  refine gNewO X98 hx hZ hown (hw _ (List.mem_of_getElem? (i := 0) rfl)) (hw _ (List.mem_of_getElem? (i := 2) rfl)) (hw _ (List.mem_of_getElem? (i := 3) rfl)) e98 (hb hby at_48) (q := 51) rfl (by decide) (by decide) (fun T109 h109 a109 X109 e109 g109 E109 A109 D109 => ?_)
  have A110 := Ary.ext E109 B98
  have E111 := Exa.ext E109 E101
  have F112 := Fld.ext E109 F102
  have E113 := Exa.ext E109 E103
  have F114 := Fld.ext E109 F104
  have E115 := Exa.ext E109 E105
  have F116 := Fld.ext E109 F106
  have O117 := O107.ext E109
  have le_a109 : n0 ≤ a109 := by rw [g109]; exact Z108
  have ne_a1_a109 : a1 ≠ a109 := by rw [g109]; exact Nat.ne_of_lt B98.lt
  have ne_a4_a109 : a4 ≠ a109 := by rw [g109]; exact Nat.ne_of_lt E101.lt
  have ne_a33_a109 : a33 ≠ a109 := by rw [g109]; exact Nat.ne_of_lt E103.lt
  have ne_a68_a109 : a68 ≠ a109 := by rw [g109]; exact Nat.ne_of_lt E105.lt
  have Z118 := Nat.le_trans Z108 E109.1
  have F119 : Fld Z h109 a109 "com/example/hoarewright/hoarewright/loy/LoyClass" "fields" "Ljava/util/Map;" (.null) := D109 (Or.inr (hw _ (List.mem_of_getElem? (i := 37) rfl))) (ty := .object "java/util/Map") (by decide)
  have F120 : Fld Z h109 a109 "com/example/hoarewright/hoarewright/loy/LoyClass" "invariants" "Ljava/util/List;" (.null) := D109 (Or.inr (hw _ (List.mem_of_getElem? (i := 63) rfl))) (ty := .object "java/util/List") (by decide)
  have F121 : Fld Z h109 a109 "com/example/hoarewright/hoarewright/loy/LoyClass" "depends" "Ljava/util/List;" (.null) := D109 (Or.inr (hw _ (List.mem_of_getElem? (i := 65) rfl))) (ty := .object "java/util/List") (by decide)
  have F122 : Fld Z h109 a109 "com/example/hoarewright/hoarewright/loy/LoyClass" "methods" "Ljava/util/Map;" (.null) := D109 (Or.inr (hw _ (List.mem_of_getElem? (i := 67) rfl))) (ty := .object "java/util/Map") (by decide)
  have F123 : Fld Z h109 a109 "com/example/hoarewright/hoarewright/loy/LoyClass" "name" "Ljava/lang/String;" (.null) := D109 (Or.inr (hw _ (List.mem_of_getElem? (i := 69) rfl))) (ty := .object "java/lang/String") (by decide)
  have F124 : Fld Z h109 a109 "com/example/hoarewright/hoarewright/loy/LoyClass" "location" "Lcom/example/hoarewright/hoarewright/analysis/Location;" (.null) := D109 (Or.inr (hw _ (List.mem_of_getElem? (i := 71) rfl))) (ty := .object "com/example/hoarewright/hoarewright/analysis/Location") (by decide)
  have F125 : Fld Z h109 a109 "com/example/hoarewright/hoarewright/loy/LoyClass" "superclass" "Lcom/example/hoarewright/hoarewright/loy/LoyClass;" (.null) := D109 (Or.inl (hw _ (List.mem_of_getElem? (i := 81) rfl))) (ty := .object "com/example/hoarewright/hoarewright/loy/LoyClass") (by decide)
  clear D109
  refine gDup X109 hx (hb hby at_51) (q := 52) rfl rfl ?_
  refine gNull X109 hx (hb hby at_52) (q := 53) rfl ?_
  refine gNull X109 hx (hb hby at_53) (q := 54) rfl ?_
  refine gCallN X109 hx hZ rfl hown (hw _ (List.mem_of_getElem? (i := 4) rfl)) (hw _ (List.mem_of_getElem? (i := 5) rfl)) (hw _ (List.mem_of_getElem? (i := 3) rfl)) (hw _ (List.mem_of_getElem? (i := 6) rfl)) (by decide) (rmLoy l Z a0 hw [] a109 h109 n0 Z118 F119 F120 F121 F122 F123 F124 F125 A109 le_a109 rd O117 SD) (W := 3) (by decide) (by decide) e109 (by rw [hml]; rfl) [(.null), (.null)] (lenOf pd1 rfl) rfl (S := [(.ref a109), (.int (3 : Int32)), (.ref a1)]) rfl (Nat.le_of_eq rfl) (hb hby at_54) (q := 57) rfl (by decide) (by decide) (fun r126 T126 M126 X126 q126 => ?_)
  obtain ⟨rfl, M126n, K126, P126e, P126_0⟩ := q126
  have N127 := Fr.app N99 M126n
  have A128 := Ary.keep A110 K126 (ninS ne_a1_a109 nin0)
  have E129 := Exa.keep E111 K126
  have F130 := Fld.keep F112 K126 (ninS ne_a4_a109 nin0)
  have E131 := Exa.keep E113 K126
  have F132 := Fld.keep F114 K126 (ninS ne_a33_a109 nin0)
  have E133 := Exa.keep E115 K126
  have F134 := Fld.keep F116 K126 (ninS ne_a68_a109 nin0)
  have O141 := O117.keep K126 (allS le_a109 all0)
  have Z142 := Nat.le_trans Z118 K126.1
  dsimp only [Option.toList, List.cons_append, List.nil_append]
  refine gAastore X126 hx hZ rfl A128 rfl (Sto.ofA A128 O1v (Ins.self P126e)) (hb hby at_57) (q := 58) rfl (show ¬ (((3 : Int32) : Int32) < 0 ∨ 4 ≤ ((3 : Int32) : Int32).toNatClampNeg) by decide) (fun T143 h143 X143 e143 W143 A143 => ?_)
  have B143 : Ary Z h143 a1 k1 (.object "com/example/hoarewright/hoarewright/loy/LoyClass") [(.ref a4), (.ref a33), (.ref a68), (.ref a109)] := A143
  have N144 := Fr.snoc X143 N127 le_a1
  have E146 := Exa.wr W143 E129
  have F147 := Fld.other W143 F130 (Or.inl ne_a1_a4.symm)
  have E148 := Exa.wr W143 E131
  have F149 := Fld.other W143 F132 (Or.inl ne_a1_a33.symm)
  have E150 := Exa.wr W143 E133
  have F151 := Fld.other W143 F134 (Or.inl ne_a1_a68.symm)
  have E152 := Exa.wr W143 P126e
  have F153 := Fld.other W143 P126_0 (Or.inl ne_a1_a109.symm)
  have O154 := O141.wr W143 le_a1
  have Z155 : n0 ≤ h143.size := by rw [W143.size]; exact Z142
  refine gIconst X143 hx (4 : Int32) (hb hby at_58) (q := 59) rfl (by decide) ?_
  refine gNewP X143 hx hZ (hw _ (List.mem_of_getElem? (i := 73) rfl)) e143 (hb hby at_59) (q := 61) rfl (by decide) (cap := 4) (by decide) (by decide) (by decide) (by decide) (fun T156 h156 a156 k156 X156 e156 g156 E156 A156 => ?_)
  have A157 := Ary.ext E156 B143
  have E158 := Exa.ext E156 E146
  have F159 := Fld.ext E156 F147
  have E160 := Exa.ext E156 E148
  have F161 := Fld.ext E156 F149
  have E162 := Exa.ext E156 E150
  have F163 := Fld.ext E156 F151
  have E164 := Exa.ext E156 E152
  have F165 := Fld.ext E156 F153
  have O166 := O154.ext E156
  have le_a156 : n0 ≤ a156 := by rw [g156]; exact Z155
  have ne_a1_a156 : a1 ≠ a156 := by rw [g156]; exact Nat.ne_of_lt B143.lt
  have ne_a4_a156 : a4 ≠ a156 := by rw [g156]; exact Nat.ne_of_lt E146.lt
  have ne_a33_a156 : a33 ≠ a156 := by rw [g156]; exact Nat.ne_of_lt E148.lt
  have ne_a68_a156 : a68 ≠ a156 := by rw [g156]; exact Nat.ne_of_lt E150.lt
  have ne_a109_a156 : a109 ≠ a156 := by rw [g156]; exact Nat.ne_of_lt E152.lt
  have Z167 := Nat.le_trans Z155 E156.1
  have B156 : Ary Z h156 a156 k156 (.int) [(.int (0 : Int32)), (.int (0 : Int32)), (.int (0 : Int32)), (.int (0 : Int32))] := A156
  refine gAstore X156 hx (hb hby at_61) (q := 63) rfl rfl (L' := #[.val (.int x0), .val (.int x1), .val (.int x2), .val (.int x3), .val (.int x4), .val (.ref a1), .val (.ref a156), .unset, .unset, .unset, .unset, .unset, .unset, .unset, .unset, .unset]) rfl ?_
  refine gIloadN X156 hx (hb hby at_63) (q := 64) rfl rfl ?_
  refine gIconst X156 hx (3 : Int32) (hb hby at_64) (q := 65) rfl (by decide) ?_
  refine gIand X156 hx (hb hby at_65) (q := 66) rfl ?_
  generalize hu168 : (x0 &&& (3 : Int32)) = u168
  refine gIstore X156 hx (hb hby at_66) (q := 68) rfl (L' := #[.val (.int x0), .val (.int x1), .val (.int x2), .val (.int x3), .val (.int x4), .val (.ref a1), .val (.ref a156), .val (.int u168), .unset, .unset, .unset, .unset, .unset, .unset, .unset, .unset]) rfl ?_
  refine gAload X156 hx (hb hby at_68) (q := 70) rfl rfl rfl ?_
  refine gIconst X156 hx (0 : Int32) (hb hby at_70) (q := 71) rfl (by decide) ?_
  refine gIload X156 hx (hb hby at_71) (q := 73) rfl rfl ?_
  have J73_171 : ∀ v170 : Int32, v170 = (if u168 = (0 : Int32) then (-1 : Int32) else u168) → Go p.tables e below (Done s (Q_rm0 Z x0 x1 x2 x3 x4 rd h0 n0) (room_1.cells) (room_1.slots)) (T156.setTop (mkF m 82 #[.val (.int x0), .val (.int x1), .val (.int x2), .val (.int x3), .val (.int x4), .val (.ref a1), .val (.ref a156), .val (.int u168), .unset, .unset, .unset, .unset, .unset, .unset, .unset, .unset] [(.int v170), (.int (0 : Int32)), (.ref a156)])) := by
    intro v170 hv170
    refine gIastore X156 hx hZ e156 B156 (hb hby at_82) (q := 83) rfl (show ¬ (((0 : Int32) : Int32) < 0 ∨ 4 ≤ ((0 : Int32) : Int32).toNatClampNeg) by decide) (fun T172 h172 X172 e172 W172 A172 => ?_)
    have B172 : Ary Z h172 a156 k156 (.int) [(.int v170), (.int (0 : Int32)), (.int (0 : Int32)), (.int (0 : Int32))] := A172
    have N173 := Fr.snoc X172 N144 le_a156
    have A174 := Ary.other W172 A157 ne_a1_a156
    have E175 := Exa.wr W172 E158
    have F176 := Fld.other W172 F159 (Or.inl ne_a4_a156)
    have E177 := Exa.wr W172 E160
    have F178 := Fld.other W172 F161 (Or.inl ne_a33_a156)
    have E179 := Exa.wr W172 E162
    have F180 := Fld.other W172 F163 (Or.inl ne_a68_a156)
    have E181 := Exa.wr W172 E164
    have F182 := Fld.other W172 F165 (Or.inl ne_a109_a156)
    have O184 := O166.wr W172 le_a156
    have Z185 : n0 ≤ h172.size := by rw [W172.size]; exact Z167
    refine gIloadN X172 hx (hb hby at_83) (q := 84) rfl rfl ?_
    refine gLdc X172 hx hZ hown (hw _ (List.mem_of_getElem? (i := 74) rfl)) (hb hby at_84) (q := 86) rfl ?_
    refine gIand X172 hx (hb hby at_86) (q := 87) rfl ?_
    refine gIconst X172 hx (3 : Int32) (hb hby at_87) (q := 88) rfl (by decide) ?_
    refine gIrem X172 hx (hb hby at_88) (q := 89) rfl (by decide) ?_
    generalize hu186 : ((x1 &&& (2147483647 : Int32)) % (3 : Int32)) = u186
    refine gIstore X172 hx (hb hby at_89) (q := 91) rfl (L' := #[.val (.int x0), .val (.int x1), .val (.int x2), .val (.int x3), .val (.int x4), .val (.ref a1), .val (.ref a156), .val (.int u168), .val (.int u186), .unset, .unset, .unset, .unset, .unset, .unset, .unset]) rfl ?_
    refine gAload X172 hx (hb hby at_91) (q := 93) rfl rfl rfl ?_
    refine gIconst X172 hx (1 : Int32) (hb hby at_93) (q := 94) rfl (by decide) ?_
    refine gIload X172 hx (hb hby at_94) (q := 96) rfl rfl ?_
    have J96_189 : ∀ v188 : Int32, v188 = (if u186 = (0 : Int32) then (-1 : Int32) else (u186 + (1 : Int32))) → Go p.tables e below (Done s (Q_rm0 Z x0 x1 x2 x3 x4 rd h0 n0) (room_1.cells) (room_1.slots)) (T172.setTop (mkF m 107 #[.val (.int x0), .val (.int x1), .val (.int x2), .val (.int x3), .val (.int x4), .val (.ref a1), .val (.ref a156), .val (.int u168), .val (.int u186), .unset, .unset, .unset, .unset, .unset, .unset, .unset] [(.int v188), (.int (1 : Int32)), (.ref a156)])) := by
      intro v188 hv188
      refine gIastore X172 hx hZ e172 B172 (hb hby at_107) (q := 108) rfl (show ¬ (((1 : Int32) : Int32) < 0 ∨ 4 ≤ ((1 : Int32) : Int32).toNatClampNeg) by decide) (fun T190 h190 X190 e190 W190 A190 => ?_)
      have B190 : Ary Z h190 a156 k156 (.int) [(.int v170), (.int v188), (.int (0 : Int32)), (.int (0 : Int32))] := A190
      have N191 := Fr.snoc X190 N173 le_a156
      have A192 := Ary.other W190 A174 ne_a1_a156
      have E193 := Exa.wr W190 E175
      have F194 := Fld.other W190 F176 (Or.inl ne_a4_a156)
      have E195 := Exa.wr W190 E177
      have F196 := Fld.other W190 F178 (Or.inl ne_a33_a156)
      have E197 := Exa.wr W190 E179
      have F198 := Fld.other W190 F180 (Or.inl ne_a68_a156)
      have E199 := Exa.wr W190 E181
      have F200 := Fld.other W190 F182 (Or.inl ne_a109_a156)
      have O202 := O184.wr W190 le_a156
      have Z203 : n0 ≤ h190.size := by rw [W190.size]; exact Z185
      refine gAload X190 hx (hb hby at_108) (q := 110) rfl rfl rfl ?_
      refine gIconst X190 hx (2 : Int32) (hb hby at_110) (q := 111) rfl (by decide) ?_
      refine gIloadN X190 hx (hb hby at_111) (q := 112) rfl rfl ?_
      refine gIconst X190 hx (1 : Int32) (hb hby at_112) (q := 113) rfl (by decide) ?_
      refine gIand X190 hx (hb hby at_113) (q := 114) rfl ?_
      have J114_206 : ∀ v205 : Int32, v205 = (if (x2 &&& (1 : Int32)) = (0 : Int32) then (-1 : Int32) else (3 : Int32)) → Go p.tables e below (Done s (Q_rm0 Z x0 x1 x2 x3 x4 rd h0 n0) (room_1.cells) (room_1.slots)) (T190.setTop (mkF m 122 #[.val (.int x0), .val (.int x1), .val (.int x2), .val (.int x3), .val (.int x4), .val (.ref a1), .val (.ref a156), .val (.int u168), .val (.int u186), .unset, .unset, .unset, .unset, .unset, .unset, .unset] [(.int v205), (.int (2 : Int32)), (.ref a156)])) := by
        intro v205 hv205
        refine gIastore X190 hx hZ e190 B190 (hb hby at_122) (q := 123) rfl (show ¬ (((2 : Int32) : Int32) < 0 ∨ 4 ≤ ((2 : Int32) : Int32).toNatClampNeg) by decide) (fun T207 h207 X207 e207 W207 A207 => ?_)
        have B207 : Ary Z h207 a156 k156 (.int) [(.int v170), (.int v188), (.int v205), (.int (0 : Int32))] := A207
        have N208 := Fr.snoc X207 N191 le_a156
        have A209 := Ary.other W207 A192 ne_a1_a156
        have E210 := Exa.wr W207 E193
        have F211 := Fld.other W207 F194 (Or.inl ne_a4_a156)
        have E212 := Exa.wr W207 E195
        have F213 := Fld.other W207 F196 (Or.inl ne_a33_a156)
        have E214 := Exa.wr W207 E197
        have F215 := Fld.other W207 F198 (Or.inl ne_a68_a156)
        have E216 := Exa.wr W207 E199
        have F217 := Fld.other W207 F200 (Or.inl ne_a109_a156)
        have O219 := O202.wr W207 le_a156
        have Z220 : n0 ≤ h207.size := by rw [W207.size]; exact Z203
        refine gAload X207 hx (hb hby at_123) (q := 125) rfl rfl rfl ?_
        refine gIconst X207 hx (3 : Int32) (hb hby at_125) (q := 126) rfl (by decide) ?_
        refine gIconst X207 hx (-1 : Int32) (hb hby at_126) (q := 127) rfl (by decide) ?_
        refine gIastore X207 hx hZ e207 B207 (hb hby at_127) (q := 128) rfl (show ¬ (((3 : Int32) : Int32) < 0 ∨ 4 ≤ ((3 : Int32) : Int32).toNatClampNeg) by decide) (fun T221 h221 X221 e221 W221 A221 => ?_)
        have B221 : Ary Z h221 a156 k156 (.int) [(.int v170), (.int v188), (.int v205), (.int (-1 : Int32))] := A221
        have N222 := Fr.snoc X221 N208 le_a156
        have A223 := Ary.other W221 A209 ne_a1_a156
        have E224 := Exa.wr W221 E210
        have F225 := Fld.other W221 F211 (Or.inl ne_a4_a156)
        have E226 := Exa.wr W221 E212
        have F227 := Fld.other W221 F213 (Or.inl ne_a33_a156)
        have E228 := Exa.wr W221 E214
        have F229 := Fld.other W221 F215 (Or.inl ne_a68_a156)
        have E230 := Exa.wr W221 E216
        have F231 := Fld.other W221 F217 (Or.inl ne_a109_a156)
        have O233 := O219.wr W221 le_a156
        have Z234 : n0 ≤ h221.size := by rw [W221.size]; exact Z220
        have ov0 : v170 = -1 ∨ v170 = 1 ∨ v170 = 2 ∨ v170 = 3 := by rw [hv170, ← hu168]; rcases own_m3 x0 with h | h | h | h <;> simp [h]
        have ov1 : v188 = -1 ∨ v188 = 2 ∨ v188 = 3 := by rw [hv188, ← hu186]; rcases own_q3 x1 with h | h | h <;> simp only [h] <;> decide
        have ov2 : v205 = -1 ∨ v205 = 3 := by rw [hv205]; rcases own_m1 x2 with h | h <;> simp [h]
        clear hv170
        clear hv188
        clear hv205
        refine gAload X221 hx (hb hby at_128) (q := 130) rfl rfl rfl ?_
        refine gIconst X221 hx (0 : Int32) (hb hby at_130) (q := 131) rfl (by decide) ?_
        refine gIaload X221 hx hZ e221 B221 (hb hby at_131) (q := 132) rfl (show ¬ (((0 : Int32) : Int32) < 0 ∨ 4 ≤ ((0 : Int32) : Int32).toNatClampNeg) by decide) (v := .int v170) rfl ?_
        have J132 : ∀ (T235 : State) (L235 : List Loc) (hh235 : Heap) (s0 : Value), Stand p l e room_1 s m #[(.int x0), (.int x1), (.int x2), (.int x3), (.int x4)] below meth c T235 L235 (22) (156) → T235.heap = hh235 → Fr n0 L235 → n0 ≤ hh235.size → Old Z n0 hh235 → Ary Z hh235 a1 k1 (.object "com/example/hoarewright/hoarewright/loy/LoyClass") [(.ref a4), (.ref a33), (.ref a68), (.ref a109)] → Ary Z hh235 a156 k156 (.int) [(.int v170), (.int v188), (.int v205), (.int (-1 : Int32))] → Exa Z hh235 a4 "com/example/hoarewright/hoarewright/loy/LoyClass" → Exa Z hh235 a33 "com/example/hoarewright/hoarewright/loy/LoyClass" → Exa Z hh235 a68 "com/example/hoarewright/hoarewright/loy/LoyClass" → Exa Z hh235 a109 "com/example/hoarewright/hoarewright/loy/LoyClass" → Fld Z hh235 a4 "com/example/hoarewright/hoarewright/loy/LoyClass" "superclass" "Lcom/example/hoarewright/hoarewright/loy/LoyClass;" (s0) → Fld Z hh235 a33 "com/example/hoarewright/hoarewright/loy/LoyClass" "superclass" "Lcom/example/hoarewright/hoarewright/loy/LoyClass;" (.null) → Fld Z hh235 a68 "com/example/hoarewright/hoarewright/loy/LoyClass" "superclass" "Lcom/example/hoarewright/hoarewright/loy/LoyClass;" (.null) → Fld Z hh235 a109 "com/example/hoarewright/hoarewright/loy/LoyClass" "superclass" "Lcom/example/hoarewright/hoarewright/loy/LoyClass;" (.null) → ((v170 = -1 ∧ s0 = .null) ∨ (v170 = 1 ∧ s0 = .ref a33) ∨ (v170 = 2 ∧ s0 = .ref a68) ∨ (v170 = 3 ∧ s0 = .ref a109)) → Go p.tables e below (Done s (Q_rm0 Z x0 x1 x2 x3 x4 rd h0 n0) (room_1.cells) (room_1.slots)) (T235.setTop (mkF m 149 #[.val (.int x0), .val (.int x1), .val (.int x2), .val (.int x3), .val (.int x4), .val (.ref a1), .val (.ref a156), .val (.int u168), .val (.int u186), .unset, .unset, .unset, .unset, .unset, .unset, .unset] [])) := by
          intro T235 L235 hh235 s0 X235 e235 N235 Z235 O235 G236 G237 G238 G239 G240 G241 G242 G243 G244 G245 PP0
          refine gAload X235 hx (hb hby at_149) (q := 151) rfl rfl rfl ?_
          refine gIconst X235 hx (1 : Int32) (hb hby at_151) (q := 152) rfl (by decide) ?_
          refine gIaload X235 hx hZ e235 G237 (hb hby at_152) (q := 153) rfl (show ¬ (((1 : Int32) : Int32) < 0 ∨ 4 ≤ ((1 : Int32) : Int32).toNatClampNeg) by decide) (v := .int v188) rfl ?_
          have J153 : ∀ (T246 : State) (L246 : List Loc) (hh246 : Heap) (s1 : Value), Stand p l e room_1 s m #[(.int x0), (.int x1), (.int x2), (.int x3), (.int x4)] below meth c T246 L246 (22) (156) → T246.heap = hh246 → Fr n0 L246 → n0 ≤ hh246.size → Old Z n0 hh246 → Ary Z hh246 a1 k1 (.object "com/example/hoarewright/hoarewright/loy/LoyClass") [(.ref a4), (.ref a33), (.ref a68), (.ref a109)] → Ary Z hh246 a156 k156 (.int) [(.int v170), (.int v188), (.int v205), (.int (-1 : Int32))] → Exa Z hh246 a4 "com/example/hoarewright/hoarewright/loy/LoyClass" → Exa Z hh246 a33 "com/example/hoarewright/hoarewright/loy/LoyClass" → Exa Z hh246 a68 "com/example/hoarewright/hoarewright/loy/LoyClass" → Exa Z hh246 a109 "com/example/hoarewright/hoarewright/loy/LoyClass" → Fld Z hh246 a4 "com/example/hoarewright/hoarewright/loy/LoyClass" "superclass" "Lcom/example/hoarewright/hoarewright/loy/LoyClass;" (s0) → Fld Z hh246 a33 "com/example/hoarewright/hoarewright/loy/LoyClass" "superclass" "Lcom/example/hoarewright/hoarewright/loy/LoyClass;" (s1) → Fld Z hh246 a68 "com/example/hoarewright/hoarewright/loy/LoyClass" "superclass" "Lcom/example/hoarewright/hoarewright/loy/LoyClass;" (.null) → Fld Z hh246 a109 "com/example/hoarewright/hoarewright/loy/LoyClass" "superclass" "Lcom/example/hoarewright/hoarewright/loy/LoyClass;" (.null) → ((v188 = -1 ∧ s1 = .null) ∨ (v188 = 2 ∧ s1 = .ref a68) ∨ (v188 = 3 ∧ s1 = .ref a109)) → Go p.tables e below (Done s (Q_rm0 Z x0 x1 x2 x3 x4 rd h0 n0) (room_1.cells) (room_1.slots)) (T246.setTop (mkF m 170 #[.val (.int x0), .val (.int x1), .val (.int x2), .val (.int x3), .val (.int x4), .val (.ref a1), .val (.ref a156), .val (.int u168), .val (.int u186), .unset, .unset, .unset, .unset, .unset, .unset, .unset] [])) := by
            intro T246 L246 hh246 s1 X246 e246 N246 Z246 O246 G247 G248 G249 G250 G251 G252 G253 G254 G255 G256 PP1
            refine gAload X246 hx (hb hby at_170) (q := 172) rfl rfl rfl ?_
            refine gIconst X246 hx (2 : Int32) (hb hby at_172) (q := 173) rfl (by decide) ?_
            refine gIaload X246 hx hZ e246 G248 (hb hby at_173) (q := 174) rfl (show ¬ (((2 : Int32) : Int32) < 0 ∨ 4 ≤ ((2 : Int32) : Int32).toNatClampNeg) by decide) (v := .int v205) rfl ?_
            have J174 : ∀ (T257 : State) (L257 : List Loc) (hh257 : Heap) (s2 : Value), Stand p l e room_1 s m #[(.int x0), (.int x1), (.int x2), (.int x3), (.int x4)] below meth c T257 L257 (22) (156) → T257.heap = hh257 → Fr n0 L257 → n0 ≤ hh257.size → Old Z n0 hh257 → Ary Z hh257 a1 k1 (.object "com/example/hoarewright/hoarewright/loy/LoyClass") [(.ref a4), (.ref a33), (.ref a68), (.ref a109)] → Ary Z hh257 a156 k156 (.int) [(.int v170), (.int v188), (.int v205), (.int (-1 : Int32))] → Exa Z hh257 a4 "com/example/hoarewright/hoarewright/loy/LoyClass" → Exa Z hh257 a33 "com/example/hoarewright/hoarewright/loy/LoyClass" → Exa Z hh257 a68 "com/example/hoarewright/hoarewright/loy/LoyClass" → Exa Z hh257 a109 "com/example/hoarewright/hoarewright/loy/LoyClass" → Fld Z hh257 a4 "com/example/hoarewright/hoarewright/loy/LoyClass" "superclass" "Lcom/example/hoarewright/hoarewright/loy/LoyClass;" (s0) → Fld Z hh257 a33 "com/example/hoarewright/hoarewright/loy/LoyClass" "superclass" "Lcom/example/hoarewright/hoarewright/loy/LoyClass;" (s1) → Fld Z hh257 a68 "com/example/hoarewright/hoarewright/loy/LoyClass" "superclass" "Lcom/example/hoarewright/hoarewright/loy/LoyClass;" (s2) → Fld Z hh257 a109 "com/example/hoarewright/hoarewright/loy/LoyClass" "superclass" "Lcom/example/hoarewright/hoarewright/loy/LoyClass;" (.null) → ((v205 = -1 ∧ s2 = .null) ∨ (v205 = 3 ∧ s2 = .ref a109)) → Go p.tables e below (Done s (Q_rm0 Z x0 x1 x2 x3 x4 rd h0 n0) (room_1.cells) (room_1.slots)) (T257.setTop (mkF m 191 #[.val (.int x0), .val (.int x1), .val (.int x2), .val (.int x3), .val (.int x4), .val (.ref a1), .val (.ref a156), .val (.int u168), .val (.int u186), .unset, .unset, .unset, .unset, .unset, .unset, .unset] [])) := by
              intro T257 L257 hh257 s2 X257 e257 N257 Z257 O257 G258 G259 G260 G261 G262 G263 G264 G265 G266 G267 PP2
              refine gIloadN X257 hx (hb hby at_191) (q := 192) rfl rfl ?_
              refine gIconst X257 hx (3 : Int32) (hb hby at_192) (q := 193) rfl (by decide) ?_
              refine gIand X257 hx (hb hby at_193) (q := 194) rfl ?_
              generalize hu268 : (x3 &&& (3 : Int32)) = u268
              refine gIstore X257 hx (hb hby at_194) (q := 196) rfl (L' := #[.val (.int x0), .val (.int x1), .val (.int x2), .val (.int x3), .val (.int x4), .val (.ref a1), .val (.ref a156), .val (.int u168), .val (.int u186), .val (.int u268), .unset, .unset, .unset, .unset, .unset, .unset]) rfl ?_
              refine gIload X257 hx (hb hby at_196) (q := 198) rfl rfl ?_
              refine gIconst X257 hx (3 : Int32) (hb hby at_198) (q := 199) rfl (by decide) ?_
              refine gIand X257 hx (hb hby at_199) (q := 200) rfl ?_
              generalize hu269 : (x4 &&& (3 : Int32)) = u269
              refine gIstore X257 hx (hb hby at_200) (q := 202) rfl (L' := #[.val (.int x0), .val (.int x1), .val (.int x2), .val (.int x3), .val (.int x4), .val (.ref a1), .val (.ref a156), .val (.int u168), .val (.int u186), .val (.int u268), .val (.int u269), .unset, .unset, .unset, .unset, .unset]) rfl ?_
              refine gAload X257 hx (hb hby at_202) (q := 204) rfl rfl rfl ?_
              refine gIload X257 hx (hb hby at_204) (q := 206) rfl rfl ?_
              have oi := own_m3 x3
              rw [hu268] at oi
              rcases oi with hi | hi | hi | hi
              · subst hi
                refine gAaload X257 hx hZ e257 G258 rfl (hb hby at_206) (q := 207) rfl (show ¬ (((0 : Int32) : Int32) < 0 ∨ 4 ≤ ((0 : Int32) : Int32).toNatClampNeg) by decide) (v := .ref a4) rfl ?_
                refine gAload X257 hx (hb hby at_207) (q := 209) rfl rfl rfl ?_
                refine gIload X257 hx (hb hby at_209) (q := 211) rfl rfl ?_
                have oj := own_m3 x4
                rw [hu269] at oj
                rcases oj with hj | hj | hj | hj
                · subst hj
                  refine gAaload X257 hx hZ e257 G258 rfl (hb hby at_211) (q := 212) rfl (show ¬ (((0 : Int32) : Int32) < 0 ∨ 4 ≤ ((0 : Int32) : Int32).toNatClampNeg) by decide) (v := .ref a4) rfl ?_
                  refine gCallV X257 hx hZ hown (hw _ (List.mem_of_getElem? (i := 75) rfl)) (hw _ (List.mem_of_getElem? (i := 76) rfl)) (hw _ (List.mem_of_getElem? (i := 78) rfl)) (hw _ (List.mem_of_getElem? (i := 77) rfl)) (hw _ (List.mem_of_getElem? (i := 3) rfl)) (hw _ (List.mem_of_getElem? (i := 79) rfl)) (notFace_of_selects (args := #[]) (mvT hZ (hw _ (List.mem_of_getElem? (i := 78) rfl)))) (by decide) (rmIs0 l Z a0 hw [] a4 a33 a68 a109 a4 s0 s1 s2 hh257 n0 Z257 G264 G265 G266 G267 (by rcases PP0 with h | h | h | h <;> simp [h.2]) (by rcases PP1 with h | h | h <;> simp [h.2]) (by rcases PP2 with h | h <;> simp [h.2]) ne_a4_a33 ne_a4_a68 ne_a4_a109 ne_a33_a68 ne_a33_a109 ne_a68_a109) (W := 0) (by decide) (by decide) e257 (by rw [hml]; rfl) G260 [(.ref a4)] (lenOf pd2 rfl) rfl (S := []) rfl (Nat.le_of_eq rfl) (hb hby at_212) (q := 215) rfl (by decide) (by decide) (fun r270 T270 M270 X270 q270 => ?_)
                  obtain ⟨rfl, M270n, e270⟩ := q270
                  have N271 := Fr.app N257 M270n
                  dsimp only [Option.toList, List.cons_append, List.nil_append]
                  generalize hu272 : (own_r0 a4 a33 a68 a109 a4 s0 s1 s2) = u272
                  refine gIstore X270 hx (hb hby at_215) (q := 217) rfl (L' := #[.val (.int x0), .val (.int x1), .val (.int x2), .val (.int x3), .val (.int x4), .val (.ref a1), .val (.ref a156), .val (.int u168), .val (.int u186), .val (.int (0 : Int32)), .val (.int (0 : Int32)), .val (.int u272), .unset, .unset, .unset, .unset]) rfl ?_
                  refine gAload X270 hx (hb hby at_217) (q := 219) rfl rfl rfl ?_
                  refine gIload X270 hx (hb hby at_219) (q := 221) rfl rfl ?_
                  refine gIaload X270 hx hZ e270 G259 (hb hby at_221) (q := 222) rfl (show ¬ (((0 : Int32) : Int32) < 0 ∨ 4 ≤ ((0 : Int32) : Int32).toNatClampNeg) by decide) (v := .int v170) rfl ?_
                  refine gIstore X270 hx (hb hby at_222) (q := 224) rfl (L' := #[.val (.int x0), .val (.int x1), .val (.int x2), .val (.int x3), .val (.int x4), .val (.ref a1), .val (.ref a156), .val (.int u168), .val (.int u186), .val (.int (0 : Int32)), .val (.int (0 : Int32)), .val (.int u272), .val (.int v170), .unset, .unset, .unset]) rfl ?_
                  refine gIload X270 hx (hb hby at_224) (q := 226) rfl rfl ?_
                  have J226_275 : ∀ v274 : Int32, v274 = (if v170 < (0 : Int32) then (-1 : Int32) else (own_par v170 v170 v188 v205)) → Go p.tables e below (Done s (Q_rm0 Z x0 x1 x2 x3 x4 rd h0 n0) (room_1.cells) (room_1.slots)) (T270.setTop (mkF m 238 #[.val (.int x0), .val (.int x1), .val (.int x2), .val (.int x3), .val (.int x4), .val (.ref a1), .val (.ref a156), .val (.int u168), .val (.int u186), .val (.int (0 : Int32)), .val (.int (0 : Int32)), .val (.int u272), .val (.int v170), .unset, .unset, .unset] [(.int v274)])) := by
                    intro v274 hv274
                    refine gIstore X270 hx (hb hby at_238) (q := 240) rfl (L' := #[.val (.int x0), .val (.int x1), .val (.int x2), .val (.int x3), .val (.int x4), .val (.ref a1), .val (.ref a156), .val (.int u168), .val (.int u186), .val (.int (0 : Int32)), .val (.int (0 : Int32)), .val (.int u272), .val (.int v170), .val (.int v274), .unset, .unset]) rfl ?_
                    refine gIload X270 hx (hb hby at_240) (q := 242) rfl rfl ?_
                    have J242_278 : ∀ v277 : Int32, v277 = (if v274 < (0 : Int32) then (-1 : Int32) else (own_par v274 v170 v188 v205)) → Go p.tables e below (Done s (Q_rm0 Z x0 x1 x2 x3 x4 rd h0 n0) (room_1.cells) (room_1.slots)) (T270.setTop (mkF m 254 #[.val (.int x0), .val (.int x1), .val (.int x2), .val (.int x3), .val (.int x4), .val (.ref a1), .val (.ref a156), .val (.int u168), .val (.int u186), .val (.int (0 : Int32)), .val (.int (0 : Int32)), .val (.int u272), .val (.int v170), .val (.int v274), .unset, .unset] [(.int v277)])) := by
                      intro v277 hv277
                      refine gIstore X270 hx (hb hby at_254) (q := 256) rfl (L' := #[.val (.int x0), .val (.int x1), .val (.int x2), .val (.int x3), .val (.int x4), .val (.ref a1), .val (.ref a156), .val (.int u168), .val (.int u186), .val (.int (0 : Int32)), .val (.int (0 : Int32)), .val (.int u272), .val (.int v170), .val (.int v274), .val (.int v277), .unset]) rfl ?_
                      refine gIload X270 hx (hb hby at_256) (q := 258) rfl rfl ?_
                      refine gIload X270 hx (hb hby at_258) (q := 260) rfl rfl ?_
                      refine gIcmpY X270 hx (hb hby at_260) (q := 284) (by decide) (by decide) (XT.ii_eq_t (by decide)) ?_
                      refine gIconst X270 hx (1 : Int32) (hb hby at_284) (q := 285) rfl (by decide) ?_
                      refine gGoto X270 hx (hb hby at_285) (q := 289) (by decide) (by decide) ?_
                      refine gIstore X270 hx (hb hby at_289) (q := 291) rfl (L' := #[.val (.int x0), .val (.int x1), .val (.int x2), .val (.int x3), .val (.int x4), .val (.ref a1), .val (.ref a156), .val (.int u168), .val (.int u186), .val (.int (0 : Int32)), .val (.int (0 : Int32)), .val (.int u272), .val (.int v170), .val (.int v274), .val (.int v277), .val (.int (1 : Int32))]) rfl ?_
                      refine gIload X270 hx (hb hby at_291) (q := 293) rfl rfl ?_
                      refine gIload X270 hx (hb hby at_293) (q := 295) rfl rfl ?_
                      have J295_281 : ∀ v280 : Int32, v280 = (if u272 = (1 : Int32) then (1 : Int32) else (0 : Int32)) → Go p.tables e below (Done s (Q_rm0 Z x0 x1 x2 x3 x4 rd h0 n0) (room_1.cells) (room_1.slots)) (T270.setTop (mkF m 303 #[.val (.int x0), .val (.int x1), .val (.int x2), .val (.int x3), .val (.int x4), .val (.ref a1), .val (.ref a156), .val (.int u168), .val (.int u186), .val (.int (0 : Int32)), .val (.int (0 : Int32)), .val (.int u272), .val (.int v170), .val (.int v274), .val (.int v277), .val (.int (1 : Int32))] [(.int v280)])) := by
                        intro v280 hv280
                        have hone : v280 = 1 := own_law x0 x1 x2 x3 x4 v170 v188 v205 a4 a33 a68 a109 s0 s1 s2 u168 hu168 u186 hu186 u272 hu272 v274 hv274 v277 hv277 v280 hv280 PP0 PP1 PP2 ne_a4_a33 ne_a4_a68 ne_a4_a109 ne_a33_a68 ne_a33_a109 ne_a68_a109
                        exact gRetZ X270 hx hlk hret (hb hby at_303) (by decide) (by decide) (Or.inr hone) ⟨by rw [hone], N271⟩
                      by_cases c279 : u272 = (1 : Int32)
                      · refine gIcmpN X270 hx (hb hby at_295) (q := 298) rfl (XT.ii_ne_f c279) ?_
                        refine gIconst X270 hx (1 : Int32) (hb hby at_298) (q := 299) rfl (by decide) ?_
                        refine gGoto X270 hx (hb hby at_299) (q := 303) (by decide) (by decide) ?_
                        exact J295_281 _ (by first | rfl | (rw [if_pos c279]; done) | (simp only [if_pos c279]; done) | (simp only [if_pos c279]; done) | (simp only [if_pos c279, if_true, if_false]; done) | (exfalso; simp at c279; done))
                      · refine gIcmpY X270 hx (hb hby at_295) (q := 302) (by decide) (by decide) (XT.ii_ne_t c279) ?_
                        refine gIconst X270 hx (0 : Int32) (hb hby at_302) (q := 303) rfl (by decide) ?_
                        exact J295_281 _ (by first | rfl | (rw [if_neg c279]; done) | (simp only [if_neg c279]; done) | (simp only [if_neg c279]; done) | (simp only [if_neg c279, if_true, if_false]; done) | (exfalso; simp at c279; done))
                    by_cases c276 : v274 < (0 : Int32)
                    · refine gIfY X270 hx (hb hby at_242) (q := 253) (by decide) (by decide) (XT.i0_lt_t c276) ?_
                      refine gIconst X270 hx (-1 : Int32) (hb hby at_253) (q := 254) rfl (by decide) ?_
                      exact J242_278 _ (by first | rfl | (rw [if_pos c276]; done) | (simp only [if_pos c276]; done) | (simp only [if_pos c276]; done) | (simp only [if_pos c276, if_true, if_false]; done) | (exfalso; simp at c276; done))
                    · refine gIfN X270 hx (hb hby at_242) (q := 245) rfl (XT.i0_lt_f c276) ?_
                      refine gAload X270 hx (hb hby at_245) (q := 247) rfl rfl rfl ?_
                      refine gIload X270 hx (hb hby at_247) (q := 249) rfl rfl ?_
                      have hix249 : v274 = 0 ∨ v274 = 1 ∨ v274 = 2 ∨ v274 = 3 := by
                        have hneg := c276
                        rw [hv274] at hneg ⊢
                        rcases ov0 with e0 | e0 | e0 | e0 <;> rcases ov1 with e1 | e1 | e1 <;> rcases ov2 with e2 | e2 <;> simp only [e0, e1, e2, own_par] at hneg ⊢ <;> revert hneg <;> decide
                      refine gIaload X270 hx hZ e270 G259 (hb hby at_249) (q := 250) rfl (own_parget v274 v170 v188 v205 hix249).1 (own_parget v274 v170 v188 v205 hix249).2 ?_
                      refine gGoto X270 hx (hb hby at_250) (q := 254) (by decide) (by decide) ?_
                      exact J242_278 _ (by first | rfl | (rw [if_neg c276]; done) | (simp only [if_neg c276]; done) | (simp only [if_neg c276]; done) | (simp only [if_neg c276, if_true, if_false]; done) | (exfalso; simp at c276; done))
                  by_cases c273 : v170 < (0 : Int32)
                  · refine gIfY X270 hx (hb hby at_226) (q := 237) (by decide) (by decide) (XT.i0_lt_t c273) ?_
                    refine gIconst X270 hx (-1 : Int32) (hb hby at_237) (q := 238) rfl (by decide) ?_
                    exact J226_275 _ (by first | rfl | (rw [if_pos c273]; done) | (simp only [if_pos c273]; done) | (simp only [if_pos c273]; done) | (simp only [if_pos c273, if_true, if_false]; done) | (exfalso; simp at c273; done))
                  · refine gIfN X270 hx (hb hby at_226) (q := 229) rfl (XT.i0_lt_f c273) ?_
                    refine gAload X270 hx (hb hby at_229) (q := 231) rfl rfl rfl ?_
                    refine gIload X270 hx (hb hby at_231) (q := 233) rfl rfl ?_
                    have hix233 : v170 = 0 ∨ v170 = 1 ∨ v170 = 2 ∨ v170 = 3 := by
                      have hneg := c273
                      rcases ov0 with e0 | e0 | e0 | e0 <;> rcases ov1 with e1 | e1 | e1 <;> rcases ov2 with e2 | e2 <;> simp only [e0, e1, e2, own_par] at hneg ⊢ <;> revert hneg <;> decide
                    refine gIaload X270 hx hZ e270 G259 (hb hby at_233) (q := 234) rfl (own_parget v170 v170 v188 v205 hix233).1 (own_parget v170 v170 v188 v205 hix233).2 ?_
                    refine gGoto X270 hx (hb hby at_234) (q := 238) (by decide) (by decide) ?_
                    exact J226_275 _ (by first | rfl | (rw [if_neg c273]; done) | (simp only [if_neg c273]; done) | (simp only [if_neg c273]; done) | (simp only [if_neg c273, if_true, if_false]; done) | (exfalso; simp at c273; done))
                · subst hj
                  refine gAaload X257 hx hZ e257 G258 rfl (hb hby at_211) (q := 212) rfl (show ¬ (((1 : Int32) : Int32) < 0 ∨ 4 ≤ ((1 : Int32) : Int32).toNatClampNeg) by decide) (v := .ref a33) rfl ?_
                  refine gCallV X257 hx hZ hown (hw _ (List.mem_of_getElem? (i := 75) rfl)) (hw _ (List.mem_of_getElem? (i := 76) rfl)) (hw _ (List.mem_of_getElem? (i := 78) rfl)) (hw _ (List.mem_of_getElem? (i := 77) rfl)) (hw _ (List.mem_of_getElem? (i := 3) rfl)) (hw _ (List.mem_of_getElem? (i := 79) rfl)) (notFace_of_selects (args := #[]) (mvT hZ (hw _ (List.mem_of_getElem? (i := 78) rfl)))) (by decide) (rmIs0 l Z a0 hw [] a4 a33 a68 a109 a33 s0 s1 s2 hh257 n0 Z257 G264 G265 G266 G267 (by rcases PP0 with h | h | h | h <;> simp [h.2]) (by rcases PP1 with h | h | h <;> simp [h.2]) (by rcases PP2 with h | h <;> simp [h.2]) ne_a4_a33 ne_a4_a68 ne_a4_a109 ne_a33_a68 ne_a33_a109 ne_a68_a109) (W := 0) (by decide) (by decide) e257 (by rw [hml]; rfl) G260 [(.ref a33)] (lenOf pd2 rfl) rfl (S := []) rfl (Nat.le_of_eq rfl) (hb hby at_212) (q := 215) rfl (by decide) (by decide) (fun r282 T282 M282 X282 q282 => ?_)
                  obtain ⟨rfl, M282n, e282⟩ := q282
                  have N283 := Fr.app N257 M282n
                  dsimp only [Option.toList, List.cons_append, List.nil_append]
                  generalize hu284 : (own_r0 a4 a33 a68 a109 a33 s0 s1 s2) = u284
                  refine gIstore X282 hx (hb hby at_215) (q := 217) rfl (L' := #[.val (.int x0), .val (.int x1), .val (.int x2), .val (.int x3), .val (.int x4), .val (.ref a1), .val (.ref a156), .val (.int u168), .val (.int u186), .val (.int (0 : Int32)), .val (.int (1 : Int32)), .val (.int u284), .unset, .unset, .unset, .unset]) rfl ?_
                  refine gAload X282 hx (hb hby at_217) (q := 219) rfl rfl rfl ?_
                  refine gIload X282 hx (hb hby at_219) (q := 221) rfl rfl ?_
                  refine gIaload X282 hx hZ e282 G259 (hb hby at_221) (q := 222) rfl (show ¬ (((0 : Int32) : Int32) < 0 ∨ 4 ≤ ((0 : Int32) : Int32).toNatClampNeg) by decide) (v := .int v170) rfl ?_
                  refine gIstore X282 hx (hb hby at_222) (q := 224) rfl (L' := #[.val (.int x0), .val (.int x1), .val (.int x2), .val (.int x3), .val (.int x4), .val (.ref a1), .val (.ref a156), .val (.int u168), .val (.int u186), .val (.int (0 : Int32)), .val (.int (1 : Int32)), .val (.int u284), .val (.int v170), .unset, .unset, .unset]) rfl ?_
                  refine gIload X282 hx (hb hby at_224) (q := 226) rfl rfl ?_
                  have J226_287 : ∀ v286 : Int32, v286 = (if v170 < (0 : Int32) then (-1 : Int32) else (own_par v170 v170 v188 v205)) → Go p.tables e below (Done s (Q_rm0 Z x0 x1 x2 x3 x4 rd h0 n0) (room_1.cells) (room_1.slots)) (T282.setTop (mkF m 238 #[.val (.int x0), .val (.int x1), .val (.int x2), .val (.int x3), .val (.int x4), .val (.ref a1), .val (.ref a156), .val (.int u168), .val (.int u186), .val (.int (0 : Int32)), .val (.int (1 : Int32)), .val (.int u284), .val (.int v170), .unset, .unset, .unset] [(.int v286)])) := by
                    intro v286 hv286
                    refine gIstore X282 hx (hb hby at_238) (q := 240) rfl (L' := #[.val (.int x0), .val (.int x1), .val (.int x2), .val (.int x3), .val (.int x4), .val (.ref a1), .val (.ref a156), .val (.int u168), .val (.int u186), .val (.int (0 : Int32)), .val (.int (1 : Int32)), .val (.int u284), .val (.int v170), .val (.int v286), .unset, .unset]) rfl ?_
                    refine gIload X282 hx (hb hby at_240) (q := 242) rfl rfl ?_
                    have J242_290 : ∀ v289 : Int32, v289 = (if v286 < (0 : Int32) then (-1 : Int32) else (own_par v286 v170 v188 v205)) → Go p.tables e below (Done s (Q_rm0 Z x0 x1 x2 x3 x4 rd h0 n0) (room_1.cells) (room_1.slots)) (T282.setTop (mkF m 254 #[.val (.int x0), .val (.int x1), .val (.int x2), .val (.int x3), .val (.int x4), .val (.ref a1), .val (.ref a156), .val (.int u168), .val (.int u186), .val (.int (0 : Int32)), .val (.int (1 : Int32)), .val (.int u284), .val (.int v170), .val (.int v286), .unset, .unset] [(.int v289)])) := by
                      intro v289 hv289
                      refine gIstore X282 hx (hb hby at_254) (q := 256) rfl (L' := #[.val (.int x0), .val (.int x1), .val (.int x2), .val (.int x3), .val (.int x4), .val (.ref a1), .val (.ref a156), .val (.int u168), .val (.int u186), .val (.int (0 : Int32)), .val (.int (1 : Int32)), .val (.int u284), .val (.int v170), .val (.int v286), .val (.int v289), .unset]) rfl ?_
                      refine gIload X282 hx (hb hby at_256) (q := 258) rfl rfl ?_
                      refine gIload X282 hx (hb hby at_258) (q := 260) rfl rfl ?_
                      refine gIcmpN X282 hx (hb hby at_260) (q := 263) rfl (XT.ii_eq_f (by decide)) ?_
                      refine gIload X282 hx (hb hby at_263) (q := 265) rfl rfl ?_
                      refine gIload X282 hx (hb hby at_265) (q := 267) rfl rfl ?_
                      have J267_293 : ∀ v292 : Int32, v292 = (if v170 = (1 : Int32) then (1 : Int32) else (if v286 = (1 : Int32) then (1 : Int32) else (if v289 = (1 : Int32) then (1 : Int32) else (0 : Int32)))) → Go p.tables e below (Done s (Q_rm0 Z x0 x1 x2 x3 x4 rd h0 n0) (room_1.cells) (room_1.slots)) (T282.setTop (mkF m 289 #[.val (.int x0), .val (.int x1), .val (.int x2), .val (.int x3), .val (.int x4), .val (.ref a1), .val (.ref a156), .val (.int u168), .val (.int u186), .val (.int (0 : Int32)), .val (.int (1 : Int32)), .val (.int u284), .val (.int v170), .val (.int v286), .val (.int v289), .unset] [(.int v292)])) := by
                        intro v292 hv292
                        refine gIstore X282 hx (hb hby at_289) (q := 291) rfl (L' := #[.val (.int x0), .val (.int x1), .val (.int x2), .val (.int x3), .val (.int x4), .val (.ref a1), .val (.ref a156), .val (.int u168), .val (.int u186), .val (.int (0 : Int32)), .val (.int (1 : Int32)), .val (.int u284), .val (.int v170), .val (.int v286), .val (.int v289), .val (.int v292)]) rfl ?_
                        refine gIload X282 hx (hb hby at_291) (q := 293) rfl rfl ?_
                        refine gIload X282 hx (hb hby at_293) (q := 295) rfl rfl ?_
                        have J295_296 : ∀ v295 : Int32, v295 = (if u284 = v292 then (1 : Int32) else (0 : Int32)) → Go p.tables e below (Done s (Q_rm0 Z x0 x1 x2 x3 x4 rd h0 n0) (room_1.cells) (room_1.slots)) (T282.setTop (mkF m 303 #[.val (.int x0), .val (.int x1), .val (.int x2), .val (.int x3), .val (.int x4), .val (.ref a1), .val (.ref a156), .val (.int u168), .val (.int u186), .val (.int (0 : Int32)), .val (.int (1 : Int32)), .val (.int u284), .val (.int v170), .val (.int v286), .val (.int v289), .val (.int v292)] [(.int v295)])) := by
                          intro v295 hv295
                          have hone : v295 = 1 := own_law2 x0 x1 x2 x3 x4 v170 v188 v205 a4 a33 a68 a109 s0 s1 s2 u168 hu168 u186 hu186 u284 hu284 v286 hv286 v289 hv289 v292 hv292 v295 hv295 PP0 PP1 PP2 ne_a4_a33 ne_a4_a68 ne_a4_a109 ne_a33_a68 ne_a33_a109 ne_a68_a109
                          exact gRetZ X282 hx hlk hret (hb hby at_303) (by decide) (by decide) (Or.inr hone) ⟨by rw [hone], N283⟩
                        by_cases c294 : u284 = v292
                        · refine gIcmpN X282 hx (hb hby at_295) (q := 298) rfl (XT.ii_ne_f c294) ?_
                          refine gIconst X282 hx (1 : Int32) (hb hby at_298) (q := 299) rfl (by decide) ?_
                          refine gGoto X282 hx (hb hby at_299) (q := 303) (by decide) (by decide) ?_
                          exact J295_296 _ (by first | rfl | (rw [if_pos c294]; done) | (simp only [if_pos c294]; done) | (simp only [if_pos c294]; done) | (simp only [if_pos c294, if_true, if_false]; done) | (exfalso; simp at c294; done))
                        · refine gIcmpY X282 hx (hb hby at_295) (q := 302) (by decide) (by decide) (XT.ii_ne_t c294) ?_
                          refine gIconst X282 hx (0 : Int32) (hb hby at_302) (q := 303) rfl (by decide) ?_
                          exact J295_296 _ (by first | rfl | (rw [if_neg c294]; done) | (simp only [if_neg c294]; done) | (simp only [if_neg c294]; done) | (simp only [if_neg c294, if_true, if_false]; done) | (exfalso; simp at c294; done))
                      by_cases c291 : v170 = (1 : Int32)
                      · refine gIcmpY X282 hx (hb hby at_267) (q := 284) (by decide) (by decide) (XT.ii_eq_t c291) ?_
                        refine gIconst X282 hx (1 : Int32) (hb hby at_284) (q := 285) rfl (by decide) ?_
                        refine gGoto X282 hx (hb hby at_285) (q := 289) (by decide) (by decide) ?_
                        exact J267_293 _ (by first | rfl | (rw [if_pos c291]; done) | (simp only [if_pos c291]; done) | (simp only [if_pos c291]; done) | (simp only [if_pos c291, if_true, if_false]; done) | (exfalso; simp at c291; done))
                      · refine gIcmpN X282 hx (hb hby at_267) (q := 270) rfl (XT.ii_eq_f c291) ?_
                        refine gIload X282 hx (hb hby at_270) (q := 272) rfl rfl ?_
                        refine gIload X282 hx (hb hby at_272) (q := 274) rfl rfl ?_
                        by_cases c297 : v286 = (1 : Int32)
                        · refine gIcmpY X282 hx (hb hby at_274) (q := 284) (by decide) (by decide) (XT.ii_eq_t c297) ?_
                          refine gIconst X282 hx (1 : Int32) (hb hby at_284) (q := 285) rfl (by decide) ?_
                          refine gGoto X282 hx (hb hby at_285) (q := 289) (by decide) (by decide) ?_
                          exact J267_293 _ (by first | rfl | (rw [if_neg c291, if_pos c297]; done) | (simp only [if_neg c291, if_pos c297]; done) | (simp only [if_neg c291, if_pos c297]; done) | (simp only [if_neg c291, if_pos c297, if_true, if_false]; done) | (exfalso; simp at c297; done))
                        · refine gIcmpN X282 hx (hb hby at_274) (q := 277) rfl (XT.ii_eq_f c297) ?_
                          refine gIload X282 hx (hb hby at_277) (q := 279) rfl rfl ?_
                          refine gIload X282 hx (hb hby at_279) (q := 281) rfl rfl ?_
                          by_cases c298 : v289 = (1 : Int32)
                          · refine gIcmpN X282 hx (hb hby at_281) (q := 284) rfl (XT.ii_ne_f c298) ?_
                            refine gIconst X282 hx (1 : Int32) (hb hby at_284) (q := 285) rfl (by decide) ?_
                            refine gGoto X282 hx (hb hby at_285) (q := 289) (by decide) (by decide) ?_
                            exact J267_293 _ (by first | rfl | (rw [if_neg c291, if_neg c297, if_pos c298]; done) | (simp only [if_neg c291, if_neg c297, if_pos c298]; done) | (simp only [if_neg c291, if_neg c297, if_pos c298]; done) | (simp only [if_neg c291, if_neg c297, if_pos c298, if_true, if_false]; done) | (exfalso; simp at c298; done))
                          · refine gIcmpY X282 hx (hb hby at_281) (q := 288) (by decide) (by decide) (XT.ii_ne_t c298) ?_
                            refine gIconst X282 hx (0 : Int32) (hb hby at_288) (q := 289) rfl (by decide) ?_
                            exact J267_293 _ (by first | rfl | (rw [if_neg c291, if_neg c297, if_neg c298]; done) | (simp only [if_neg c291, if_neg c297, if_neg c298]; done) | (simp only [if_neg c291, if_neg c297, if_neg c298]; done) | (simp only [if_neg c291, if_neg c297, if_neg c298, if_true, if_false]; done) | (exfalso; simp at c298; done))
                    by_cases c288 : v286 < (0 : Int32)
                    · refine gIfY X282 hx (hb hby at_242) (q := 253) (by decide) (by decide) (XT.i0_lt_t c288) ?_
                      refine gIconst X282 hx (-1 : Int32) (hb hby at_253) (q := 254) rfl (by decide) ?_
                      exact J242_290 _ (by first | rfl | (rw [if_pos c288]; done) | (simp only [if_pos c288]; done) | (simp only [if_pos c288]; done) | (simp only [if_pos c288, if_true, if_false]; done) | (exfalso; simp at c288; done))
                    · refine gIfN X282 hx (hb hby at_242) (q := 245) rfl (XT.i0_lt_f c288) ?_
                      refine gAload X282 hx (hb hby at_245) (q := 247) rfl rfl rfl ?_
                      refine gIload X282 hx (hb hby at_247) (q := 249) rfl rfl ?_
                      have hix249 : v286 = 0 ∨ v286 = 1 ∨ v286 = 2 ∨ v286 = 3 := by
                        have hneg := c288
                        rw [hv286] at hneg ⊢
                        rcases ov0 with e0 | e0 | e0 | e0 <;> rcases ov1 with e1 | e1 | e1 <;> rcases ov2 with e2 | e2 <;> simp only [e0, e1, e2, own_par] at hneg ⊢ <;> revert hneg <;> decide
                      refine gIaload X282 hx hZ e282 G259 (hb hby at_249) (q := 250) rfl (own_parget v286 v170 v188 v205 hix249).1 (own_parget v286 v170 v188 v205 hix249).2 ?_
                      refine gGoto X282 hx (hb hby at_250) (q := 254) (by decide) (by decide) ?_
                      exact J242_290 _ (by first | rfl | (rw [if_neg c288]; done) | (simp only [if_neg c288]; done) | (simp only [if_neg c288]; done) | (simp only [if_neg c288, if_true, if_false]; done) | (exfalso; simp at c288; done))
                  by_cases c285 : v170 < (0 : Int32)
                  · refine gIfY X282 hx (hb hby at_226) (q := 237) (by decide) (by decide) (XT.i0_lt_t c285) ?_
                    refine gIconst X282 hx (-1 : Int32) (hb hby at_237) (q := 238) rfl (by decide) ?_
                    exact J226_287 _ (by first | rfl | (rw [if_pos c285]; done) | (simp only [if_pos c285]; done) | (simp only [if_pos c285]; done) | (simp only [if_pos c285, if_true, if_false]; done) | (exfalso; simp at c285; done))
                  · refine gIfN X282 hx (hb hby at_226) (q := 229) rfl (XT.i0_lt_f c285) ?_
                    refine gAload X282 hx (hb hby at_229) (q := 231) rfl rfl rfl ?_
                    refine gIload X282 hx (hb hby at_231) (q := 233) rfl rfl ?_
                    have hix233 : v170 = 0 ∨ v170 = 1 ∨ v170 = 2 ∨ v170 = 3 := by
                      have hneg := c285
                      rcases ov0 with e0 | e0 | e0 | e0 <;> rcases ov1 with e1 | e1 | e1 <;> rcases ov2 with e2 | e2 <;> simp only [e0, e1, e2, own_par] at hneg ⊢ <;> revert hneg <;> decide
                    refine gIaload X282 hx hZ e282 G259 (hb hby at_233) (q := 234) rfl (own_parget v170 v170 v188 v205 hix233).1 (own_parget v170 v170 v188 v205 hix233).2 ?_
                    refine gGoto X282 hx (hb hby at_234) (q := 238) (by decide) (by decide) ?_
                    exact J226_287 _ (by first | rfl | (rw [if_neg c285]; done) | (simp only [if_neg c285]; done) | (simp only [if_neg c285]; done) | (simp only [if_neg c285, if_true, if_false]; done) | (exfalso; simp at c285; done))
                · subst hj
                  refine gAaload X257 hx hZ e257 G258 rfl (hb hby at_211) (q := 212) rfl (show ¬ (((2 : Int32) : Int32) < 0 ∨ 4 ≤ ((2 : Int32) : Int32).toNatClampNeg) by decide) (v := .ref a68) rfl ?_
                  refine gCallV X257 hx hZ hown (hw _ (List.mem_of_getElem? (i := 75) rfl)) (hw _ (List.mem_of_getElem? (i := 76) rfl)) (hw _ (List.mem_of_getElem? (i := 78) rfl)) (hw _ (List.mem_of_getElem? (i := 77) rfl)) (hw _ (List.mem_of_getElem? (i := 3) rfl)) (hw _ (List.mem_of_getElem? (i := 79) rfl)) (notFace_of_selects (args := #[]) (mvT hZ (hw _ (List.mem_of_getElem? (i := 78) rfl)))) (by decide) (rmIs0 l Z a0 hw [] a4 a33 a68 a109 a68 s0 s1 s2 hh257 n0 Z257 G264 G265 G266 G267 (by rcases PP0 with h | h | h | h <;> simp [h.2]) (by rcases PP1 with h | h | h <;> simp [h.2]) (by rcases PP2 with h | h <;> simp [h.2]) ne_a4_a33 ne_a4_a68 ne_a4_a109 ne_a33_a68 ne_a33_a109 ne_a68_a109) (W := 0) (by decide) (by decide) e257 (by rw [hml]; rfl) G260 [(.ref a68)] (lenOf pd2 rfl) rfl (S := []) rfl (Nat.le_of_eq rfl) (hb hby at_212) (q := 215) rfl (by decide) (by decide) (fun r299 T299 M299 X299 q299 => ?_)
                  obtain ⟨rfl, M299n, e299⟩ := q299
                  have N300 := Fr.app N257 M299n
                  dsimp only [Option.toList, List.cons_append, List.nil_append]
                  generalize hu301 : (own_r0 a4 a33 a68 a109 a68 s0 s1 s2) = u301
                  refine gIstore X299 hx (hb hby at_215) (q := 217) rfl (L' := #[.val (.int x0), .val (.int x1), .val (.int x2), .val (.int x3), .val (.int x4), .val (.ref a1), .val (.ref a156), .val (.int u168), .val (.int u186), .val (.int (0 : Int32)), .val (.int (2 : Int32)), .val (.int u301), .unset, .unset, .unset, .unset]) rfl ?_
                  refine gAload X299 hx (hb hby at_217) (q := 219) rfl rfl rfl ?_
                  refine gIload X299 hx (hb hby at_219) (q := 221) rfl rfl ?_
                  refine gIaload X299 hx hZ e299 G259 (hb hby at_221) (q := 222) rfl (show ¬ (((0 : Int32) : Int32) < 0 ∨ 4 ≤ ((0 : Int32) : Int32).toNatClampNeg) by decide) (v := .int v170) rfl ?_
                  refine gIstore X299 hx (hb hby at_222) (q := 224) rfl (L' := #[.val (.int x0), .val (.int x1), .val (.int x2), .val (.int x3), .val (.int x4), .val (.ref a1), .val (.ref a156), .val (.int u168), .val (.int u186), .val (.int (0 : Int32)), .val (.int (2 : Int32)), .val (.int u301), .val (.int v170), .unset, .unset, .unset]) rfl ?_
                  refine gIload X299 hx (hb hby at_224) (q := 226) rfl rfl ?_
                  have J226_304 : ∀ v303 : Int32, v303 = (if v170 < (0 : Int32) then (-1 : Int32) else (own_par v170 v170 v188 v205)) → Go p.tables e below (Done s (Q_rm0 Z x0 x1 x2 x3 x4 rd h0 n0) (room_1.cells) (room_1.slots)) (T299.setTop (mkF m 238 #[.val (.int x0), .val (.int x1), .val (.int x2), .val (.int x3), .val (.int x4), .val (.ref a1), .val (.ref a156), .val (.int u168), .val (.int u186), .val (.int (0 : Int32)), .val (.int (2 : Int32)), .val (.int u301), .val (.int v170), .unset, .unset, .unset] [(.int v303)])) := by
                    intro v303 hv303
                    refine gIstore X299 hx (hb hby at_238) (q := 240) rfl (L' := #[.val (.int x0), .val (.int x1), .val (.int x2), .val (.int x3), .val (.int x4), .val (.ref a1), .val (.ref a156), .val (.int u168), .val (.int u186), .val (.int (0 : Int32)), .val (.int (2 : Int32)), .val (.int u301), .val (.int v170), .val (.int v303), .unset, .unset]) rfl ?_
                    refine gIload X299 hx (hb hby at_240) (q := 242) rfl rfl ?_
                    have J242_307 : ∀ v306 : Int32, v306 = (if v303 < (0 : Int32) then (-1 : Int32) else (own_par v303 v170 v188 v205)) → Go p.tables e below (Done s (Q_rm0 Z x0 x1 x2 x3 x4 rd h0 n0) (room_1.cells) (room_1.slots)) (T299.setTop (mkF m 254 #[.val (.int x0), .val (.int x1), .val (.int x2), .val (.int x3), .val (.int x4), .val (.ref a1), .val (.ref a156), .val (.int u168), .val (.int u186), .val (.int (0 : Int32)), .val (.int (2 : Int32)), .val (.int u301), .val (.int v170), .val (.int v303), .unset, .unset] [(.int v306)])) := by
                      intro v306 hv306
                      refine gIstore X299 hx (hb hby at_254) (q := 256) rfl (L' := #[.val (.int x0), .val (.int x1), .val (.int x2), .val (.int x3), .val (.int x4), .val (.ref a1), .val (.ref a156), .val (.int u168), .val (.int u186), .val (.int (0 : Int32)), .val (.int (2 : Int32)), .val (.int u301), .val (.int v170), .val (.int v303), .val (.int v306), .unset]) rfl ?_
                      refine gIload X299 hx (hb hby at_256) (q := 258) rfl rfl ?_
                      refine gIload X299 hx (hb hby at_258) (q := 260) rfl rfl ?_
                      refine gIcmpN X299 hx (hb hby at_260) (q := 263) rfl (XT.ii_eq_f (by decide)) ?_
                      refine gIload X299 hx (hb hby at_263) (q := 265) rfl rfl ?_
                      refine gIload X299 hx (hb hby at_265) (q := 267) rfl rfl ?_
                      have J267_310 : ∀ v309 : Int32, v309 = (if v170 = (2 : Int32) then (1 : Int32) else (if v303 = (2 : Int32) then (1 : Int32) else (if v306 = (2 : Int32) then (1 : Int32) else (0 : Int32)))) → Go p.tables e below (Done s (Q_rm0 Z x0 x1 x2 x3 x4 rd h0 n0) (room_1.cells) (room_1.slots)) (T299.setTop (mkF m 289 #[.val (.int x0), .val (.int x1), .val (.int x2), .val (.int x3), .val (.int x4), .val (.ref a1), .val (.ref a156), .val (.int u168), .val (.int u186), .val (.int (0 : Int32)), .val (.int (2 : Int32)), .val (.int u301), .val (.int v170), .val (.int v303), .val (.int v306), .unset] [(.int v309)])) := by
                        intro v309 hv309
                        refine gIstore X299 hx (hb hby at_289) (q := 291) rfl (L' := #[.val (.int x0), .val (.int x1), .val (.int x2), .val (.int x3), .val (.int x4), .val (.ref a1), .val (.ref a156), .val (.int u168), .val (.int u186), .val (.int (0 : Int32)), .val (.int (2 : Int32)), .val (.int u301), .val (.int v170), .val (.int v303), .val (.int v306), .val (.int v309)]) rfl ?_
                        refine gIload X299 hx (hb hby at_291) (q := 293) rfl rfl ?_
                        refine gIload X299 hx (hb hby at_293) (q := 295) rfl rfl ?_
                        have J295_313 : ∀ v312 : Int32, v312 = (if u301 = v309 then (1 : Int32) else (0 : Int32)) → Go p.tables e below (Done s (Q_rm0 Z x0 x1 x2 x3 x4 rd h0 n0) (room_1.cells) (room_1.slots)) (T299.setTop (mkF m 303 #[.val (.int x0), .val (.int x1), .val (.int x2), .val (.int x3), .val (.int x4), .val (.ref a1), .val (.ref a156), .val (.int u168), .val (.int u186), .val (.int (0 : Int32)), .val (.int (2 : Int32)), .val (.int u301), .val (.int v170), .val (.int v303), .val (.int v306), .val (.int v309)] [(.int v312)])) := by
                          intro v312 hv312
                          have hone : v312 = 1 := own_law3 x0 x1 x2 x3 x4 v170 v188 v205 a4 a33 a68 a109 s0 s1 s2 u168 hu168 u186 hu186 u301 hu301 v303 hv303 v306 hv306 v309 hv309 v312 hv312 PP0 PP1 PP2 ne_a4_a33 ne_a4_a68 ne_a4_a109 ne_a33_a68 ne_a33_a109 ne_a68_a109
                          exact gRetZ X299 hx hlk hret (hb hby at_303) (by decide) (by decide) (Or.inr hone) ⟨by rw [hone], N300⟩
                        by_cases c311 : u301 = v309
                        · refine gIcmpN X299 hx (hb hby at_295) (q := 298) rfl (XT.ii_ne_f c311) ?_
                          refine gIconst X299 hx (1 : Int32) (hb hby at_298) (q := 299) rfl (by decide) ?_
                          refine gGoto X299 hx (hb hby at_299) (q := 303) (by decide) (by decide) ?_
                          exact J295_313 _ (by first | rfl | (rw [if_pos c311]; done) | (simp only [if_pos c311]; done) | (simp only [if_pos c311]; done) | (simp only [if_pos c311, if_true, if_false]; done) | (exfalso; simp at c311; done))
                        · refine gIcmpY X299 hx (hb hby at_295) (q := 302) (by decide) (by decide) (XT.ii_ne_t c311) ?_
                          refine gIconst X299 hx (0 : Int32) (hb hby at_302) (q := 303) rfl (by decide) ?_
                          exact J295_313 _ (by first | rfl | (rw [if_neg c311]; done) | (simp only [if_neg c311]; done) | (simp only [if_neg c311]; done) | (simp only [if_neg c311, if_true, if_false]; done) | (exfalso; simp at c311; done))
                      by_cases c308 : v170 = (2 : Int32)
                      · refine gIcmpY X299 hx (hb hby at_267) (q := 284) (by decide) (by decide) (XT.ii_eq_t c308) ?_
                        refine gIconst X299 hx (1 : Int32) (hb hby at_284) (q := 285) rfl (by decide) ?_
                        refine gGoto X299 hx (hb hby at_285) (q := 289) (by decide) (by decide) ?_
                        exact J267_310 _ (by first | rfl | (rw [if_pos c308]; done) | (simp only [if_pos c308]; done) | (simp only [if_pos c308]; done) | (simp only [if_pos c308, if_true, if_false]; done) | (exfalso; simp at c308; done))
                      · refine gIcmpN X299 hx (hb hby at_267) (q := 270) rfl (XT.ii_eq_f c308) ?_
                        refine gIload X299 hx (hb hby at_270) (q := 272) rfl rfl ?_
                        refine gIload X299 hx (hb hby at_272) (q := 274) rfl rfl ?_
                        by_cases c314 : v303 = (2 : Int32)
                        · refine gIcmpY X299 hx (hb hby at_274) (q := 284) (by decide) (by decide) (XT.ii_eq_t c314) ?_
                          refine gIconst X299 hx (1 : Int32) (hb hby at_284) (q := 285) rfl (by decide) ?_
                          refine gGoto X299 hx (hb hby at_285) (q := 289) (by decide) (by decide) ?_
                          exact J267_310 _ (by first | rfl | (rw [if_neg c308, if_pos c314]; done) | (simp only [if_neg c308, if_pos c314]; done) | (simp only [if_neg c308, if_pos c314]; done) | (simp only [if_neg c308, if_pos c314, if_true, if_false]; done) | (exfalso; simp at c314; done))
                        · refine gIcmpN X299 hx (hb hby at_274) (q := 277) rfl (XT.ii_eq_f c314) ?_
                          refine gIload X299 hx (hb hby at_277) (q := 279) rfl rfl ?_
                          refine gIload X299 hx (hb hby at_279) (q := 281) rfl rfl ?_
                          by_cases c315 : v306 = (2 : Int32)
                          · refine gIcmpN X299 hx (hb hby at_281) (q := 284) rfl (XT.ii_ne_f c315) ?_
                            refine gIconst X299 hx (1 : Int32) (hb hby at_284) (q := 285) rfl (by decide) ?_
                            refine gGoto X299 hx (hb hby at_285) (q := 289) (by decide) (by decide) ?_
                            exact J267_310 _ (by first | rfl | (rw [if_neg c308, if_neg c314, if_pos c315]; done) | (simp only [if_neg c308, if_neg c314, if_pos c315]; done) | (simp only [if_neg c308, if_neg c314, if_pos c315]; done) | (simp only [if_neg c308, if_neg c314, if_pos c315, if_true, if_false]; done) | (exfalso; simp at c315; done))
                          · refine gIcmpY X299 hx (hb hby at_281) (q := 288) (by decide) (by decide) (XT.ii_ne_t c315) ?_
                            refine gIconst X299 hx (0 : Int32) (hb hby at_288) (q := 289) rfl (by decide) ?_
                            exact J267_310 _ (by first | rfl | (rw [if_neg c308, if_neg c314, if_neg c315]; done) | (simp only [if_neg c308, if_neg c314, if_neg c315]; done) | (simp only [if_neg c308, if_neg c314, if_neg c315]; done) | (simp only [if_neg c308, if_neg c314, if_neg c315, if_true, if_false]; done) | (exfalso; simp at c315; done))
                    by_cases c305 : v303 < (0 : Int32)
                    · refine gIfY X299 hx (hb hby at_242) (q := 253) (by decide) (by decide) (XT.i0_lt_t c305) ?_
                      refine gIconst X299 hx (-1 : Int32) (hb hby at_253) (q := 254) rfl (by decide) ?_
                      exact J242_307 _ (by first | rfl | (rw [if_pos c305]; done) | (simp only [if_pos c305]; done) | (simp only [if_pos c305]; done) | (simp only [if_pos c305, if_true, if_false]; done) | (exfalso; simp at c305; done))
                    · refine gIfN X299 hx (hb hby at_242) (q := 245) rfl (XT.i0_lt_f c305) ?_
                      refine gAload X299 hx (hb hby at_245) (q := 247) rfl rfl rfl ?_
                      refine gIload X299 hx (hb hby at_247) (q := 249) rfl rfl ?_
                      have hix249 : v303 = 0 ∨ v303 = 1 ∨ v303 = 2 ∨ v303 = 3 := by
                        have hneg := c305
                        rw [hv303] at hneg ⊢
                        rcases ov0 with e0 | e0 | e0 | e0 <;> rcases ov1 with e1 | e1 | e1 <;> rcases ov2 with e2 | e2 <;> simp only [e0, e1, e2, own_par] at hneg ⊢ <;> revert hneg <;> decide
                      refine gIaload X299 hx hZ e299 G259 (hb hby at_249) (q := 250) rfl (own_parget v303 v170 v188 v205 hix249).1 (own_parget v303 v170 v188 v205 hix249).2 ?_
                      refine gGoto X299 hx (hb hby at_250) (q := 254) (by decide) (by decide) ?_
                      exact J242_307 _ (by first | rfl | (rw [if_neg c305]; done) | (simp only [if_neg c305]; done) | (simp only [if_neg c305]; done) | (simp only [if_neg c305, if_true, if_false]; done) | (exfalso; simp at c305; done))
                  by_cases c302 : v170 < (0 : Int32)
                  · refine gIfY X299 hx (hb hby at_226) (q := 237) (by decide) (by decide) (XT.i0_lt_t c302) ?_
                    refine gIconst X299 hx (-1 : Int32) (hb hby at_237) (q := 238) rfl (by decide) ?_
                    exact J226_304 _ (by first | rfl | (rw [if_pos c302]; done) | (simp only [if_pos c302]; done) | (simp only [if_pos c302]; done) | (simp only [if_pos c302, if_true, if_false]; done) | (exfalso; simp at c302; done))
                  · refine gIfN X299 hx (hb hby at_226) (q := 229) rfl (XT.i0_lt_f c302) ?_
                    refine gAload X299 hx (hb hby at_229) (q := 231) rfl rfl rfl ?_
                    refine gIload X299 hx (hb hby at_231) (q := 233) rfl rfl ?_
                    have hix233 : v170 = 0 ∨ v170 = 1 ∨ v170 = 2 ∨ v170 = 3 := by
                      have hneg := c302
                      rcases ov0 with e0 | e0 | e0 | e0 <;> rcases ov1 with e1 | e1 | e1 <;> rcases ov2 with e2 | e2 <;> simp only [e0, e1, e2, own_par] at hneg ⊢ <;> revert hneg <;> decide
                    refine gIaload X299 hx hZ e299 G259 (hb hby at_233) (q := 234) rfl (own_parget v170 v170 v188 v205 hix233).1 (own_parget v170 v170 v188 v205 hix233).2 ?_
                    refine gGoto X299 hx (hb hby at_234) (q := 238) (by decide) (by decide) ?_
                    exact J226_304 _ (by first | rfl | (rw [if_neg c302]; done) | (simp only [if_neg c302]; done) | (simp only [if_neg c302]; done) | (simp only [if_neg c302, if_true, if_false]; done) | (exfalso; simp at c302; done))
                · subst hj
                  refine gAaload X257 hx hZ e257 G258 rfl (hb hby at_211) (q := 212) rfl (show ¬ (((3 : Int32) : Int32) < 0 ∨ 4 ≤ ((3 : Int32) : Int32).toNatClampNeg) by decide) (v := .ref a109) rfl ?_
                  refine gCallV X257 hx hZ hown (hw _ (List.mem_of_getElem? (i := 75) rfl)) (hw _ (List.mem_of_getElem? (i := 76) rfl)) (hw _ (List.mem_of_getElem? (i := 78) rfl)) (hw _ (List.mem_of_getElem? (i := 77) rfl)) (hw _ (List.mem_of_getElem? (i := 3) rfl)) (hw _ (List.mem_of_getElem? (i := 79) rfl)) (notFace_of_selects (args := #[]) (mvT hZ (hw _ (List.mem_of_getElem? (i := 78) rfl)))) (by decide) (rmIs0 l Z a0 hw [] a4 a33 a68 a109 a109 s0 s1 s2 hh257 n0 Z257 G264 G265 G266 G267 (by rcases PP0 with h | h | h | h <;> simp [h.2]) (by rcases PP1 with h | h | h <;> simp [h.2]) (by rcases PP2 with h | h <;> simp [h.2]) ne_a4_a33 ne_a4_a68 ne_a4_a109 ne_a33_a68 ne_a33_a109 ne_a68_a109) (W := 0) (by decide) (by decide) e257 (by rw [hml]; rfl) G260 [(.ref a109)] (lenOf pd2 rfl) rfl (S := []) rfl (Nat.le_of_eq rfl) (hb hby at_212) (q := 215) rfl (by decide) (by decide) (fun r316 T316 M316 X316 q316 => ?_)
                  obtain ⟨rfl, M316n, e316⟩ := q316
                  have N317 := Fr.app N257 M316n
                  dsimp only [Option.toList, List.cons_append, List.nil_append]
                  generalize hu318 : (own_r0 a4 a33 a68 a109 a109 s0 s1 s2) = u318
                  refine gIstore X316 hx (hb hby at_215) (q := 217) rfl (L' := #[.val (.int x0), .val (.int x1), .val (.int x2), .val (.int x3), .val (.int x4), .val (.ref a1), .val (.ref a156), .val (.int u168), .val (.int u186), .val (.int (0 : Int32)), .val (.int (3 : Int32)), .val (.int u318), .unset, .unset, .unset, .unset]) rfl ?_
                  refine gAload X316 hx (hb hby at_217) (q := 219) rfl rfl rfl ?_
                  refine gIload X316 hx (hb hby at_219) (q := 221) rfl rfl ?_
                  refine gIaload X316 hx hZ e316 G259 (hb hby at_221) (q := 222) rfl (show ¬ (((0 : Int32) : Int32) < 0 ∨ 4 ≤ ((0 : Int32) : Int32).toNatClampNeg) by decide) (v := .int v170) rfl ?_
                  refine gIstore X316 hx (hb hby at_222) (q := 224) rfl (L' := #[.val (.int x0), .val (.int x1), .val (.int x2), .val (.int x3), .val (.int x4), .val (.ref a1), .val (.ref a156), .val (.int u168), .val (.int u186), .val (.int (0 : Int32)), .val (.int (3 : Int32)), .val (.int u318), .val (.int v170), .unset, .unset, .unset]) rfl ?_
                  refine gIload X316 hx (hb hby at_224) (q := 226) rfl rfl ?_
                  have J226_321 : ∀ v320 : Int32, v320 = (if v170 < (0 : Int32) then (-1 : Int32) else (own_par v170 v170 v188 v205)) → Go p.tables e below (Done s (Q_rm0 Z x0 x1 x2 x3 x4 rd h0 n0) (room_1.cells) (room_1.slots)) (T316.setTop (mkF m 238 #[.val (.int x0), .val (.int x1), .val (.int x2), .val (.int x3), .val (.int x4), .val (.ref a1), .val (.ref a156), .val (.int u168), .val (.int u186), .val (.int (0 : Int32)), .val (.int (3 : Int32)), .val (.int u318), .val (.int v170), .unset, .unset, .unset] [(.int v320)])) := by
                    intro v320 hv320
                    refine gIstore X316 hx (hb hby at_238) (q := 240) rfl (L' := #[.val (.int x0), .val (.int x1), .val (.int x2), .val (.int x3), .val (.int x4), .val (.ref a1), .val (.ref a156), .val (.int u168), .val (.int u186), .val (.int (0 : Int32)), .val (.int (3 : Int32)), .val (.int u318), .val (.int v170), .val (.int v320), .unset, .unset]) rfl ?_
                    refine gIload X316 hx (hb hby at_240) (q := 242) rfl rfl ?_
                    have J242_324 : ∀ v323 : Int32, v323 = (if v320 < (0 : Int32) then (-1 : Int32) else (own_par v320 v170 v188 v205)) → Go p.tables e below (Done s (Q_rm0 Z x0 x1 x2 x3 x4 rd h0 n0) (room_1.cells) (room_1.slots)) (T316.setTop (mkF m 254 #[.val (.int x0), .val (.int x1), .val (.int x2), .val (.int x3), .val (.int x4), .val (.ref a1), .val (.ref a156), .val (.int u168), .val (.int u186), .val (.int (0 : Int32)), .val (.int (3 : Int32)), .val (.int u318), .val (.int v170), .val (.int v320), .unset, .unset] [(.int v323)])) := by
                      intro v323 hv323
                      refine gIstore X316 hx (hb hby at_254) (q := 256) rfl (L' := #[.val (.int x0), .val (.int x1), .val (.int x2), .val (.int x3), .val (.int x4), .val (.ref a1), .val (.ref a156), .val (.int u168), .val (.int u186), .val (.int (0 : Int32)), .val (.int (3 : Int32)), .val (.int u318), .val (.int v170), .val (.int v320), .val (.int v323), .unset]) rfl ?_
                      refine gIload X316 hx (hb hby at_256) (q := 258) rfl rfl ?_
                      refine gIload X316 hx (hb hby at_258) (q := 260) rfl rfl ?_
                      refine gIcmpN X316 hx (hb hby at_260) (q := 263) rfl (XT.ii_eq_f (by decide)) ?_
                      refine gIload X316 hx (hb hby at_263) (q := 265) rfl rfl ?_
                      refine gIload X316 hx (hb hby at_265) (q := 267) rfl rfl ?_
                      have J267_327 : ∀ v326 : Int32, v326 = (if v170 = (3 : Int32) then (1 : Int32) else (if v320 = (3 : Int32) then (1 : Int32) else (if v323 = (3 : Int32) then (1 : Int32) else (0 : Int32)))) → Go p.tables e below (Done s (Q_rm0 Z x0 x1 x2 x3 x4 rd h0 n0) (room_1.cells) (room_1.slots)) (T316.setTop (mkF m 289 #[.val (.int x0), .val (.int x1), .val (.int x2), .val (.int x3), .val (.int x4), .val (.ref a1), .val (.ref a156), .val (.int u168), .val (.int u186), .val (.int (0 : Int32)), .val (.int (3 : Int32)), .val (.int u318), .val (.int v170), .val (.int v320), .val (.int v323), .unset] [(.int v326)])) := by
                        intro v326 hv326
                        refine gIstore X316 hx (hb hby at_289) (q := 291) rfl (L' := #[.val (.int x0), .val (.int x1), .val (.int x2), .val (.int x3), .val (.int x4), .val (.ref a1), .val (.ref a156), .val (.int u168), .val (.int u186), .val (.int (0 : Int32)), .val (.int (3 : Int32)), .val (.int u318), .val (.int v170), .val (.int v320), .val (.int v323), .val (.int v326)]) rfl ?_
                        refine gIload X316 hx (hb hby at_291) (q := 293) rfl rfl ?_
                        refine gIload X316 hx (hb hby at_293) (q := 295) rfl rfl ?_
                        have J295_330 : ∀ v329 : Int32, v329 = (if u318 = v326 then (1 : Int32) else (0 : Int32)) → Go p.tables e below (Done s (Q_rm0 Z x0 x1 x2 x3 x4 rd h0 n0) (room_1.cells) (room_1.slots)) (T316.setTop (mkF m 303 #[.val (.int x0), .val (.int x1), .val (.int x2), .val (.int x3), .val (.int x4), .val (.ref a1), .val (.ref a156), .val (.int u168), .val (.int u186), .val (.int (0 : Int32)), .val (.int (3 : Int32)), .val (.int u318), .val (.int v170), .val (.int v320), .val (.int v323), .val (.int v326)] [(.int v329)])) := by
                          intro v329 hv329
                          have hone : v329 = 1 := own_law4 x0 x1 x2 x3 x4 v170 v188 v205 a4 a33 a68 a109 s0 s1 s2 u168 hu168 u186 hu186 u318 hu318 v320 hv320 v323 hv323 v326 hv326 v329 hv329 PP0 PP1 PP2 ne_a4_a33 ne_a4_a68 ne_a4_a109 ne_a33_a68 ne_a33_a109 ne_a68_a109
                          exact gRetZ X316 hx hlk hret (hb hby at_303) (by decide) (by decide) (Or.inr hone) ⟨by rw [hone], N317⟩
                        by_cases c328 : u318 = v326
                        · refine gIcmpN X316 hx (hb hby at_295) (q := 298) rfl (XT.ii_ne_f c328) ?_
                          refine gIconst X316 hx (1 : Int32) (hb hby at_298) (q := 299) rfl (by decide) ?_
                          refine gGoto X316 hx (hb hby at_299) (q := 303) (by decide) (by decide) ?_
                          exact J295_330 _ (by first | rfl | (rw [if_pos c328]; done) | (simp only [if_pos c328]; done) | (simp only [if_pos c328]; done) | (simp only [if_pos c328, if_true, if_false]; done) | (exfalso; simp at c328; done))
                        · refine gIcmpY X316 hx (hb hby at_295) (q := 302) (by decide) (by decide) (XT.ii_ne_t c328) ?_
                          refine gIconst X316 hx (0 : Int32) (hb hby at_302) (q := 303) rfl (by decide) ?_
                          exact J295_330 _ (by first | rfl | (rw [if_neg c328]; done) | (simp only [if_neg c328]; done) | (simp only [if_neg c328]; done) | (simp only [if_neg c328, if_true, if_false]; done) | (exfalso; simp at c328; done))
                      by_cases c325 : v170 = (3 : Int32)
                      · refine gIcmpY X316 hx (hb hby at_267) (q := 284) (by decide) (by decide) (XT.ii_eq_t c325) ?_
                        refine gIconst X316 hx (1 : Int32) (hb hby at_284) (q := 285) rfl (by decide) ?_
                        refine gGoto X316 hx (hb hby at_285) (q := 289) (by decide) (by decide) ?_
                        exact J267_327 _ (by first | rfl | (rw [if_pos c325]; done) | (simp only [if_pos c325]; done) | (simp only [if_pos c325]; done) | (simp only [if_pos c325, if_true, if_false]; done) | (exfalso; simp at c325; done))
                      · refine gIcmpN X316 hx (hb hby at_267) (q := 270) rfl (XT.ii_eq_f c325) ?_
                        refine gIload X316 hx (hb hby at_270) (q := 272) rfl rfl ?_
                        refine gIload X316 hx (hb hby at_272) (q := 274) rfl rfl ?_
                        by_cases c331 : v320 = (3 : Int32)
                        · refine gIcmpY X316 hx (hb hby at_274) (q := 284) (by decide) (by decide) (XT.ii_eq_t c331) ?_
                          refine gIconst X316 hx (1 : Int32) (hb hby at_284) (q := 285) rfl (by decide) ?_
                          refine gGoto X316 hx (hb hby at_285) (q := 289) (by decide) (by decide) ?_
                          exact J267_327 _ (by first | rfl | (rw [if_neg c325, if_pos c331]; done) | (simp only [if_neg c325, if_pos c331]; done) | (simp only [if_neg c325, if_pos c331]; done) | (simp only [if_neg c325, if_pos c331, if_true, if_false]; done) | (exfalso; simp at c331; done))
                        · refine gIcmpN X316 hx (hb hby at_274) (q := 277) rfl (XT.ii_eq_f c331) ?_
                          refine gIload X316 hx (hb hby at_277) (q := 279) rfl rfl ?_
                          refine gIload X316 hx (hb hby at_279) (q := 281) rfl rfl ?_
                          by_cases c332 : v323 = (3 : Int32)
                          · refine gIcmpN X316 hx (hb hby at_281) (q := 284) rfl (XT.ii_ne_f c332) ?_
                            refine gIconst X316 hx (1 : Int32) (hb hby at_284) (q := 285) rfl (by decide) ?_
                            refine gGoto X316 hx (hb hby at_285) (q := 289) (by decide) (by decide) ?_
                            exact J267_327 _ (by first | rfl | (rw [if_neg c325, if_neg c331, if_pos c332]; done) | (simp only [if_neg c325, if_neg c331, if_pos c332]; done) | (simp only [if_neg c325, if_neg c331, if_pos c332]; done) | (simp only [if_neg c325, if_neg c331, if_pos c332, if_true, if_false]; done) | (exfalso; simp at c332; done))
                          · refine gIcmpY X316 hx (hb hby at_281) (q := 288) (by decide) (by decide) (XT.ii_ne_t c332) ?_
                            refine gIconst X316 hx (0 : Int32) (hb hby at_288) (q := 289) rfl (by decide) ?_
                            exact J267_327 _ (by first | rfl | (rw [if_neg c325, if_neg c331, if_neg c332]; done) | (simp only [if_neg c325, if_neg c331, if_neg c332]; done) | (simp only [if_neg c325, if_neg c331, if_neg c332]; done) | (simp only [if_neg c325, if_neg c331, if_neg c332, if_true, if_false]; done) | (exfalso; simp at c332; done))
                    by_cases c322 : v320 < (0 : Int32)
                    · refine gIfY X316 hx (hb hby at_242) (q := 253) (by decide) (by decide) (XT.i0_lt_t c322) ?_
                      refine gIconst X316 hx (-1 : Int32) (hb hby at_253) (q := 254) rfl (by decide) ?_
                      exact J242_324 _ (by first | rfl | (rw [if_pos c322]; done) | (simp only [if_pos c322]; done) | (simp only [if_pos c322]; done) | (simp only [if_pos c322, if_true, if_false]; done) | (exfalso; simp at c322; done))
                    · refine gIfN X316 hx (hb hby at_242) (q := 245) rfl (XT.i0_lt_f c322) ?_
                      refine gAload X316 hx (hb hby at_245) (q := 247) rfl rfl rfl ?_
                      refine gIload X316 hx (hb hby at_247) (q := 249) rfl rfl ?_
                      have hix249 : v320 = 0 ∨ v320 = 1 ∨ v320 = 2 ∨ v320 = 3 := by
                        have hneg := c322
                        rw [hv320] at hneg ⊢
                        rcases ov0 with e0 | e0 | e0 | e0 <;> rcases ov1 with e1 | e1 | e1 <;> rcases ov2 with e2 | e2 <;> simp only [e0, e1, e2, own_par] at hneg ⊢ <;> revert hneg <;> decide
                      refine gIaload X316 hx hZ e316 G259 (hb hby at_249) (q := 250) rfl (own_parget v320 v170 v188 v205 hix249).1 (own_parget v320 v170 v188 v205 hix249).2 ?_
                      refine gGoto X316 hx (hb hby at_250) (q := 254) (by decide) (by decide) ?_
                      exact J242_324 _ (by first | rfl | (rw [if_neg c322]; done) | (simp only [if_neg c322]; done) | (simp only [if_neg c322]; done) | (simp only [if_neg c322, if_true, if_false]; done) | (exfalso; simp at c322; done))
                  by_cases c319 : v170 < (0 : Int32)
                  · refine gIfY X316 hx (hb hby at_226) (q := 237) (by decide) (by decide) (XT.i0_lt_t c319) ?_
                    refine gIconst X316 hx (-1 : Int32) (hb hby at_237) (q := 238) rfl (by decide) ?_
                    exact J226_321 _ (by first | rfl | (rw [if_pos c319]; done) | (simp only [if_pos c319]; done) | (simp only [if_pos c319]; done) | (simp only [if_pos c319, if_true, if_false]; done) | (exfalso; simp at c319; done))
                  · refine gIfN X316 hx (hb hby at_226) (q := 229) rfl (XT.i0_lt_f c319) ?_
                    refine gAload X316 hx (hb hby at_229) (q := 231) rfl rfl rfl ?_
                    refine gIload X316 hx (hb hby at_231) (q := 233) rfl rfl ?_
                    have hix233 : v170 = 0 ∨ v170 = 1 ∨ v170 = 2 ∨ v170 = 3 := by
                      have hneg := c319
                      rcases ov0 with e0 | e0 | e0 | e0 <;> rcases ov1 with e1 | e1 | e1 <;> rcases ov2 with e2 | e2 <;> simp only [e0, e1, e2, own_par] at hneg ⊢ <;> revert hneg <;> decide
                    refine gIaload X316 hx hZ e316 G259 (hb hby at_233) (q := 234) rfl (own_parget v170 v170 v188 v205 hix233).1 (own_parget v170 v170 v188 v205 hix233).2 ?_
                    refine gGoto X316 hx (hb hby at_234) (q := 238) (by decide) (by decide) ?_
                    exact J226_321 _ (by first | rfl | (rw [if_neg c319]; done) | (simp only [if_neg c319]; done) | (simp only [if_neg c319]; done) | (simp only [if_neg c319, if_true, if_false]; done) | (exfalso; simp at c319; done))
              · subst hi
                refine gAaload X257 hx hZ e257 G258 rfl (hb hby at_206) (q := 207) rfl (show ¬ (((1 : Int32) : Int32) < 0 ∨ 4 ≤ ((1 : Int32) : Int32).toNatClampNeg) by decide) (v := .ref a33) rfl ?_
                refine gAload X257 hx (hb hby at_207) (q := 209) rfl rfl rfl ?_
                refine gIload X257 hx (hb hby at_209) (q := 211) rfl rfl ?_
                have oj := own_m3 x4
                rw [hu269] at oj
                rcases oj with hj | hj | hj | hj
                · subst hj
                  refine gAaload X257 hx hZ e257 G258 rfl (hb hby at_211) (q := 212) rfl (show ¬ (((0 : Int32) : Int32) < 0 ∨ 4 ≤ ((0 : Int32) : Int32).toNatClampNeg) by decide) (v := .ref a4) rfl ?_
                  refine gCallV X257 hx hZ hown (hw _ (List.mem_of_getElem? (i := 75) rfl)) (hw _ (List.mem_of_getElem? (i := 76) rfl)) (hw _ (List.mem_of_getElem? (i := 78) rfl)) (hw _ (List.mem_of_getElem? (i := 77) rfl)) (hw _ (List.mem_of_getElem? (i := 3) rfl)) (hw _ (List.mem_of_getElem? (i := 79) rfl)) (notFace_of_selects (args := #[]) (mvT hZ (hw _ (List.mem_of_getElem? (i := 78) rfl)))) (by decide) (rmIs1 l Z a0 hw [] a33 a68 a109 a4 s1 s2 hh257 n0 Z257 G265 G266 G267 (by rcases PP1 with h | h | h <;> simp [h.2]) (by rcases PP2 with h | h <;> simp [h.2]) ne_a33_a68 ne_a33_a109 ne_a68_a109) (W := 0) (by decide) (by decide) e257 (by rw [hml]; rfl) G261 [(.ref a4)] (lenOf pd2 rfl) rfl (S := []) rfl (Nat.le_of_eq rfl) (hb hby at_212) (q := 215) rfl (by decide) (by decide) (fun r333 T333 M333 X333 q333 => ?_)
                  obtain ⟨rfl, M333n, e333⟩ := q333
                  have N334 := Fr.app N257 M333n
                  dsimp only [Option.toList, List.cons_append, List.nil_append]
                  generalize hu335 : (own_r1 a33 a68 a109 a4 s1 s2) = u335
                  refine gIstore X333 hx (hb hby at_215) (q := 217) rfl (L' := #[.val (.int x0), .val (.int x1), .val (.int x2), .val (.int x3), .val (.int x4), .val (.ref a1), .val (.ref a156), .val (.int u168), .val (.int u186), .val (.int (1 : Int32)), .val (.int (0 : Int32)), .val (.int u335), .unset, .unset, .unset, .unset]) rfl ?_
                  refine gAload X333 hx (hb hby at_217) (q := 219) rfl rfl rfl ?_
                  refine gIload X333 hx (hb hby at_219) (q := 221) rfl rfl ?_
                  refine gIaload X333 hx hZ e333 G259 (hb hby at_221) (q := 222) rfl (show ¬ (((1 : Int32) : Int32) < 0 ∨ 4 ≤ ((1 : Int32) : Int32).toNatClampNeg) by decide) (v := .int v188) rfl ?_
                  refine gIstore X333 hx (hb hby at_222) (q := 224) rfl (L' := #[.val (.int x0), .val (.int x1), .val (.int x2), .val (.int x3), .val (.int x4), .val (.ref a1), .val (.ref a156), .val (.int u168), .val (.int u186), .val (.int (1 : Int32)), .val (.int (0 : Int32)), .val (.int u335), .val (.int v188), .unset, .unset, .unset]) rfl ?_
                  refine gIload X333 hx (hb hby at_224) (q := 226) rfl rfl ?_
                  have J226_338 : ∀ v337 : Int32, v337 = (if v188 < (0 : Int32) then (-1 : Int32) else (own_par v188 v170 v188 v205)) → Go p.tables e below (Done s (Q_rm0 Z x0 x1 x2 x3 x4 rd h0 n0) (room_1.cells) (room_1.slots)) (T333.setTop (mkF m 238 #[.val (.int x0), .val (.int x1), .val (.int x2), .val (.int x3), .val (.int x4), .val (.ref a1), .val (.ref a156), .val (.int u168), .val (.int u186), .val (.int (1 : Int32)), .val (.int (0 : Int32)), .val (.int u335), .val (.int v188), .unset, .unset, .unset] [(.int v337)])) := by
                    intro v337 hv337
                    refine gIstore X333 hx (hb hby at_238) (q := 240) rfl (L' := #[.val (.int x0), .val (.int x1), .val (.int x2), .val (.int x3), .val (.int x4), .val (.ref a1), .val (.ref a156), .val (.int u168), .val (.int u186), .val (.int (1 : Int32)), .val (.int (0 : Int32)), .val (.int u335), .val (.int v188), .val (.int v337), .unset, .unset]) rfl ?_
                    refine gIload X333 hx (hb hby at_240) (q := 242) rfl rfl ?_
                    have J242_341 : ∀ v340 : Int32, v340 = (if v337 < (0 : Int32) then (-1 : Int32) else (own_par v337 v170 v188 v205)) → Go p.tables e below (Done s (Q_rm0 Z x0 x1 x2 x3 x4 rd h0 n0) (room_1.cells) (room_1.slots)) (T333.setTop (mkF m 254 #[.val (.int x0), .val (.int x1), .val (.int x2), .val (.int x3), .val (.int x4), .val (.ref a1), .val (.ref a156), .val (.int u168), .val (.int u186), .val (.int (1 : Int32)), .val (.int (0 : Int32)), .val (.int u335), .val (.int v188), .val (.int v337), .unset, .unset] [(.int v340)])) := by
                      intro v340 hv340
                      refine gIstore X333 hx (hb hby at_254) (q := 256) rfl (L' := #[.val (.int x0), .val (.int x1), .val (.int x2), .val (.int x3), .val (.int x4), .val (.ref a1), .val (.ref a156), .val (.int u168), .val (.int u186), .val (.int (1 : Int32)), .val (.int (0 : Int32)), .val (.int u335), .val (.int v188), .val (.int v337), .val (.int v340), .unset]) rfl ?_
                      refine gIload X333 hx (hb hby at_256) (q := 258) rfl rfl ?_
                      refine gIload X333 hx (hb hby at_258) (q := 260) rfl rfl ?_
                      refine gIcmpN X333 hx (hb hby at_260) (q := 263) rfl (XT.ii_eq_f (by decide)) ?_
                      refine gIload X333 hx (hb hby at_263) (q := 265) rfl rfl ?_
                      refine gIload X333 hx (hb hby at_265) (q := 267) rfl rfl ?_
                      have J267_344 : ∀ v343 : Int32, v343 = (if v188 = (0 : Int32) then (1 : Int32) else (if v337 = (0 : Int32) then (1 : Int32) else (if v340 = (0 : Int32) then (1 : Int32) else (0 : Int32)))) → Go p.tables e below (Done s (Q_rm0 Z x0 x1 x2 x3 x4 rd h0 n0) (room_1.cells) (room_1.slots)) (T333.setTop (mkF m 289 #[.val (.int x0), .val (.int x1), .val (.int x2), .val (.int x3), .val (.int x4), .val (.ref a1), .val (.ref a156), .val (.int u168), .val (.int u186), .val (.int (1 : Int32)), .val (.int (0 : Int32)), .val (.int u335), .val (.int v188), .val (.int v337), .val (.int v340), .unset] [(.int v343)])) := by
                        intro v343 hv343
                        refine gIstore X333 hx (hb hby at_289) (q := 291) rfl (L' := #[.val (.int x0), .val (.int x1), .val (.int x2), .val (.int x3), .val (.int x4), .val (.ref a1), .val (.ref a156), .val (.int u168), .val (.int u186), .val (.int (1 : Int32)), .val (.int (0 : Int32)), .val (.int u335), .val (.int v188), .val (.int v337), .val (.int v340), .val (.int v343)]) rfl ?_
                        refine gIload X333 hx (hb hby at_291) (q := 293) rfl rfl ?_
                        refine gIload X333 hx (hb hby at_293) (q := 295) rfl rfl ?_
                        have J295_347 : ∀ v346 : Int32, v346 = (if u335 = v343 then (1 : Int32) else (0 : Int32)) → Go p.tables e below (Done s (Q_rm0 Z x0 x1 x2 x3 x4 rd h0 n0) (room_1.cells) (room_1.slots)) (T333.setTop (mkF m 303 #[.val (.int x0), .val (.int x1), .val (.int x2), .val (.int x3), .val (.int x4), .val (.ref a1), .val (.ref a156), .val (.int u168), .val (.int u186), .val (.int (1 : Int32)), .val (.int (0 : Int32)), .val (.int u335), .val (.int v188), .val (.int v337), .val (.int v340), .val (.int v343)] [(.int v346)])) := by
                          intro v346 hv346
                          have hone : v346 = 1 := own_law5 x0 x1 x2 x3 x4 v170 v188 v205 a4 a33 a68 a109 s0 s1 s2 u168 hu168 u186 hu186 u335 hu335 v337 hv337 v340 hv340 v343 hv343 v346 hv346 PP0 PP1 PP2 ne_a4_a33 ne_a4_a68 ne_a4_a109 ne_a33_a68 ne_a33_a109 ne_a68_a109
                          exact gRetZ X333 hx hlk hret (hb hby at_303) (by decide) (by decide) (Or.inr hone) ⟨by rw [hone], N334⟩
                        by_cases c345 : u335 = v343
                        · refine gIcmpN X333 hx (hb hby at_295) (q := 298) rfl (XT.ii_ne_f c345) ?_
                          refine gIconst X333 hx (1 : Int32) (hb hby at_298) (q := 299) rfl (by decide) ?_
                          refine gGoto X333 hx (hb hby at_299) (q := 303) (by decide) (by decide) ?_
                          exact J295_347 _ (by first | rfl | (rw [if_pos c345]; done) | (simp only [if_pos c345]; done) | (simp only [if_pos c345]; done) | (simp only [if_pos c345, if_true, if_false]; done) | (exfalso; simp at c345; done))
                        · refine gIcmpY X333 hx (hb hby at_295) (q := 302) (by decide) (by decide) (XT.ii_ne_t c345) ?_
                          refine gIconst X333 hx (0 : Int32) (hb hby at_302) (q := 303) rfl (by decide) ?_
                          exact J295_347 _ (by first | rfl | (rw [if_neg c345]; done) | (simp only [if_neg c345]; done) | (simp only [if_neg c345]; done) | (simp only [if_neg c345, if_true, if_false]; done) | (exfalso; simp at c345; done))
                      by_cases c342 : v188 = (0 : Int32)
                      · refine gIcmpY X333 hx (hb hby at_267) (q := 284) (by decide) (by decide) (XT.ii_eq_t c342) ?_
                        refine gIconst X333 hx (1 : Int32) (hb hby at_284) (q := 285) rfl (by decide) ?_
                        refine gGoto X333 hx (hb hby at_285) (q := 289) (by decide) (by decide) ?_
                        exact J267_344 _ (by first | rfl | (rw [if_pos c342]; done) | (simp only [if_pos c342]; done) | (simp only [if_pos c342]; done) | (simp only [if_pos c342, if_true, if_false]; done) | (exfalso; simp at c342; done))
                      · refine gIcmpN X333 hx (hb hby at_267) (q := 270) rfl (XT.ii_eq_f c342) ?_
                        refine gIload X333 hx (hb hby at_270) (q := 272) rfl rfl ?_
                        refine gIload X333 hx (hb hby at_272) (q := 274) rfl rfl ?_
                        by_cases c348 : v337 = (0 : Int32)
                        · refine gIcmpY X333 hx (hb hby at_274) (q := 284) (by decide) (by decide) (XT.ii_eq_t c348) ?_
                          refine gIconst X333 hx (1 : Int32) (hb hby at_284) (q := 285) rfl (by decide) ?_
                          refine gGoto X333 hx (hb hby at_285) (q := 289) (by decide) (by decide) ?_
                          exact J267_344 _ (by first | rfl | (rw [if_neg c342, if_pos c348]; done) | (simp only [if_neg c342, if_pos c348]; done) | (simp only [if_neg c342, if_pos c348]; done) | (simp only [if_neg c342, if_pos c348, if_true, if_false]; done) | (exfalso; simp at c348; done))
                        · refine gIcmpN X333 hx (hb hby at_274) (q := 277) rfl (XT.ii_eq_f c348) ?_
                          refine gIload X333 hx (hb hby at_277) (q := 279) rfl rfl ?_
                          refine gIload X333 hx (hb hby at_279) (q := 281) rfl rfl ?_
                          by_cases c349 : v340 = (0 : Int32)
                          · refine gIcmpN X333 hx (hb hby at_281) (q := 284) rfl (XT.ii_ne_f c349) ?_
                            refine gIconst X333 hx (1 : Int32) (hb hby at_284) (q := 285) rfl (by decide) ?_
                            refine gGoto X333 hx (hb hby at_285) (q := 289) (by decide) (by decide) ?_
                            exact J267_344 _ (by first | rfl | (rw [if_neg c342, if_neg c348, if_pos c349]; done) | (simp only [if_neg c342, if_neg c348, if_pos c349]; done) | (simp only [if_neg c342, if_neg c348, if_pos c349]; done) | (simp only [if_neg c342, if_neg c348, if_pos c349, if_true, if_false]; done) | (exfalso; simp at c349; done))
                          · refine gIcmpY X333 hx (hb hby at_281) (q := 288) (by decide) (by decide) (XT.ii_ne_t c349) ?_
                            refine gIconst X333 hx (0 : Int32) (hb hby at_288) (q := 289) rfl (by decide) ?_
                            exact J267_344 _ (by first | rfl | (rw [if_neg c342, if_neg c348, if_neg c349]; done) | (simp only [if_neg c342, if_neg c348, if_neg c349]; done) | (simp only [if_neg c342, if_neg c348, if_neg c349]; done) | (simp only [if_neg c342, if_neg c348, if_neg c349, if_true, if_false]; done) | (exfalso; simp at c349; done))
                    by_cases c339 : v337 < (0 : Int32)
                    · refine gIfY X333 hx (hb hby at_242) (q := 253) (by decide) (by decide) (XT.i0_lt_t c339) ?_
                      refine gIconst X333 hx (-1 : Int32) (hb hby at_253) (q := 254) rfl (by decide) ?_
                      exact J242_341 _ (by first | rfl | (rw [if_pos c339]; done) | (simp only [if_pos c339]; done) | (simp only [if_pos c339]; done) | (simp only [if_pos c339, if_true, if_false]; done) | (exfalso; simp at c339; done))
                    · refine gIfN X333 hx (hb hby at_242) (q := 245) rfl (XT.i0_lt_f c339) ?_
                      refine gAload X333 hx (hb hby at_245) (q := 247) rfl rfl rfl ?_
                      refine gIload X333 hx (hb hby at_247) (q := 249) rfl rfl ?_
                      have hix249 : v337 = 0 ∨ v337 = 1 ∨ v337 = 2 ∨ v337 = 3 := by
                        have hneg := c339
                        rw [hv337] at hneg ⊢
                        rcases ov0 with e0 | e0 | e0 | e0 <;> rcases ov1 with e1 | e1 | e1 <;> rcases ov2 with e2 | e2 <;> simp only [e0, e1, e2, own_par] at hneg ⊢ <;> revert hneg <;> decide
                      refine gIaload X333 hx hZ e333 G259 (hb hby at_249) (q := 250) rfl (own_parget v337 v170 v188 v205 hix249).1 (own_parget v337 v170 v188 v205 hix249).2 ?_
                      refine gGoto X333 hx (hb hby at_250) (q := 254) (by decide) (by decide) ?_
                      exact J242_341 _ (by first | rfl | (rw [if_neg c339]; done) | (simp only [if_neg c339]; done) | (simp only [if_neg c339]; done) | (simp only [if_neg c339, if_true, if_false]; done) | (exfalso; simp at c339; done))
                  by_cases c336 : v188 < (0 : Int32)
                  · refine gIfY X333 hx (hb hby at_226) (q := 237) (by decide) (by decide) (XT.i0_lt_t c336) ?_
                    refine gIconst X333 hx (-1 : Int32) (hb hby at_237) (q := 238) rfl (by decide) ?_
                    exact J226_338 _ (by first | rfl | (rw [if_pos c336]; done) | (simp only [if_pos c336]; done) | (simp only [if_pos c336]; done) | (simp only [if_pos c336, if_true, if_false]; done) | (exfalso; simp at c336; done))
                  · refine gIfN X333 hx (hb hby at_226) (q := 229) rfl (XT.i0_lt_f c336) ?_
                    refine gAload X333 hx (hb hby at_229) (q := 231) rfl rfl rfl ?_
                    refine gIload X333 hx (hb hby at_231) (q := 233) rfl rfl ?_
                    have hix233 : v188 = 0 ∨ v188 = 1 ∨ v188 = 2 ∨ v188 = 3 := by
                      have hneg := c336
                      rcases ov0 with e0 | e0 | e0 | e0 <;> rcases ov1 with e1 | e1 | e1 <;> rcases ov2 with e2 | e2 <;> simp only [e0, e1, e2, own_par] at hneg ⊢ <;> revert hneg <;> decide
                    refine gIaload X333 hx hZ e333 G259 (hb hby at_233) (q := 234) rfl (own_parget v188 v170 v188 v205 hix233).1 (own_parget v188 v170 v188 v205 hix233).2 ?_
                    refine gGoto X333 hx (hb hby at_234) (q := 238) (by decide) (by decide) ?_
                    exact J226_338 _ (by first | rfl | (rw [if_neg c336]; done) | (simp only [if_neg c336]; done) | (simp only [if_neg c336]; done) | (simp only [if_neg c336, if_true, if_false]; done) | (exfalso; simp at c336; done))
                · subst hj
                  refine gAaload X257 hx hZ e257 G258 rfl (hb hby at_211) (q := 212) rfl (show ¬ (((1 : Int32) : Int32) < 0 ∨ 4 ≤ ((1 : Int32) : Int32).toNatClampNeg) by decide) (v := .ref a33) rfl ?_
                  refine gCallV X257 hx hZ hown (hw _ (List.mem_of_getElem? (i := 75) rfl)) (hw _ (List.mem_of_getElem? (i := 76) rfl)) (hw _ (List.mem_of_getElem? (i := 78) rfl)) (hw _ (List.mem_of_getElem? (i := 77) rfl)) (hw _ (List.mem_of_getElem? (i := 3) rfl)) (hw _ (List.mem_of_getElem? (i := 79) rfl)) (notFace_of_selects (args := #[]) (mvT hZ (hw _ (List.mem_of_getElem? (i := 78) rfl)))) (by decide) (rmIs1 l Z a0 hw [] a33 a68 a109 a33 s1 s2 hh257 n0 Z257 G265 G266 G267 (by rcases PP1 with h | h | h <;> simp [h.2]) (by rcases PP2 with h | h <;> simp [h.2]) ne_a33_a68 ne_a33_a109 ne_a68_a109) (W := 0) (by decide) (by decide) e257 (by rw [hml]; rfl) G261 [(.ref a33)] (lenOf pd2 rfl) rfl (S := []) rfl (Nat.le_of_eq rfl) (hb hby at_212) (q := 215) rfl (by decide) (by decide) (fun r350 T350 M350 X350 q350 => ?_)
                  obtain ⟨rfl, M350n, e350⟩ := q350
                  have N351 := Fr.app N257 M350n
                  dsimp only [Option.toList, List.cons_append, List.nil_append]
                  generalize hu352 : (own_r1 a33 a68 a109 a33 s1 s2) = u352
                  refine gIstore X350 hx (hb hby at_215) (q := 217) rfl (L' := #[.val (.int x0), .val (.int x1), .val (.int x2), .val (.int x3), .val (.int x4), .val (.ref a1), .val (.ref a156), .val (.int u168), .val (.int u186), .val (.int (1 : Int32)), .val (.int (1 : Int32)), .val (.int u352), .unset, .unset, .unset, .unset]) rfl ?_
                  refine gAload X350 hx (hb hby at_217) (q := 219) rfl rfl rfl ?_
                  refine gIload X350 hx (hb hby at_219) (q := 221) rfl rfl ?_
                  refine gIaload X350 hx hZ e350 G259 (hb hby at_221) (q := 222) rfl (show ¬ (((1 : Int32) : Int32) < 0 ∨ 4 ≤ ((1 : Int32) : Int32).toNatClampNeg) by decide) (v := .int v188) rfl ?_
                  refine gIstore X350 hx (hb hby at_222) (q := 224) rfl (L' := #[.val (.int x0), .val (.int x1), .val (.int x2), .val (.int x3), .val (.int x4), .val (.ref a1), .val (.ref a156), .val (.int u168), .val (.int u186), .val (.int (1 : Int32)), .val (.int (1 : Int32)), .val (.int u352), .val (.int v188), .unset, .unset, .unset]) rfl ?_
                  refine gIload X350 hx (hb hby at_224) (q := 226) rfl rfl ?_
                  have J226_355 : ∀ v354 : Int32, v354 = (if v188 < (0 : Int32) then (-1 : Int32) else (own_par v188 v170 v188 v205)) → Go p.tables e below (Done s (Q_rm0 Z x0 x1 x2 x3 x4 rd h0 n0) (room_1.cells) (room_1.slots)) (T350.setTop (mkF m 238 #[.val (.int x0), .val (.int x1), .val (.int x2), .val (.int x3), .val (.int x4), .val (.ref a1), .val (.ref a156), .val (.int u168), .val (.int u186), .val (.int (1 : Int32)), .val (.int (1 : Int32)), .val (.int u352), .val (.int v188), .unset, .unset, .unset] [(.int v354)])) := by
                    intro v354 hv354
                    refine gIstore X350 hx (hb hby at_238) (q := 240) rfl (L' := #[.val (.int x0), .val (.int x1), .val (.int x2), .val (.int x3), .val (.int x4), .val (.ref a1), .val (.ref a156), .val (.int u168), .val (.int u186), .val (.int (1 : Int32)), .val (.int (1 : Int32)), .val (.int u352), .val (.int v188), .val (.int v354), .unset, .unset]) rfl ?_
                    refine gIload X350 hx (hb hby at_240) (q := 242) rfl rfl ?_
                    have J242_358 : ∀ v357 : Int32, v357 = (if v354 < (0 : Int32) then (-1 : Int32) else (own_par v354 v170 v188 v205)) → Go p.tables e below (Done s (Q_rm0 Z x0 x1 x2 x3 x4 rd h0 n0) (room_1.cells) (room_1.slots)) (T350.setTop (mkF m 254 #[.val (.int x0), .val (.int x1), .val (.int x2), .val (.int x3), .val (.int x4), .val (.ref a1), .val (.ref a156), .val (.int u168), .val (.int u186), .val (.int (1 : Int32)), .val (.int (1 : Int32)), .val (.int u352), .val (.int v188), .val (.int v354), .unset, .unset] [(.int v357)])) := by
                      intro v357 hv357
                      refine gIstore X350 hx (hb hby at_254) (q := 256) rfl (L' := #[.val (.int x0), .val (.int x1), .val (.int x2), .val (.int x3), .val (.int x4), .val (.ref a1), .val (.ref a156), .val (.int u168), .val (.int u186), .val (.int (1 : Int32)), .val (.int (1 : Int32)), .val (.int u352), .val (.int v188), .val (.int v354), .val (.int v357), .unset]) rfl ?_
                      refine gIload X350 hx (hb hby at_256) (q := 258) rfl rfl ?_
                      refine gIload X350 hx (hb hby at_258) (q := 260) rfl rfl ?_
                      refine gIcmpY X350 hx (hb hby at_260) (q := 284) (by decide) (by decide) (XT.ii_eq_t (by decide)) ?_
                      refine gIconst X350 hx (1 : Int32) (hb hby at_284) (q := 285) rfl (by decide) ?_
                      refine gGoto X350 hx (hb hby at_285) (q := 289) (by decide) (by decide) ?_
                      refine gIstore X350 hx (hb hby at_289) (q := 291) rfl (L' := #[.val (.int x0), .val (.int x1), .val (.int x2), .val (.int x3), .val (.int x4), .val (.ref a1), .val (.ref a156), .val (.int u168), .val (.int u186), .val (.int (1 : Int32)), .val (.int (1 : Int32)), .val (.int u352), .val (.int v188), .val (.int v354), .val (.int v357), .val (.int (1 : Int32))]) rfl ?_
                      refine gIload X350 hx (hb hby at_291) (q := 293) rfl rfl ?_
                      refine gIload X350 hx (hb hby at_293) (q := 295) rfl rfl ?_
                      have J295_361 : ∀ v360 : Int32, v360 = (if u352 = (1 : Int32) then (1 : Int32) else (0 : Int32)) → Go p.tables e below (Done s (Q_rm0 Z x0 x1 x2 x3 x4 rd h0 n0) (room_1.cells) (room_1.slots)) (T350.setTop (mkF m 303 #[.val (.int x0), .val (.int x1), .val (.int x2), .val (.int x3), .val (.int x4), .val (.ref a1), .val (.ref a156), .val (.int u168), .val (.int u186), .val (.int (1 : Int32)), .val (.int (1 : Int32)), .val (.int u352), .val (.int v188), .val (.int v354), .val (.int v357), .val (.int (1 : Int32))] [(.int v360)])) := by
                        intro v360 hv360
                        have hone : v360 = 1 := own_law6 x0 x1 x2 x3 x4 v170 v188 v205 a4 a33 a68 a109 s0 s1 s2 u168 hu168 u186 hu186 u352 hu352 v354 hv354 v357 hv357 v360 hv360 PP0 PP1 PP2 ne_a4_a33 ne_a4_a68 ne_a4_a109 ne_a33_a68 ne_a33_a109 ne_a68_a109
                        exact gRetZ X350 hx hlk hret (hb hby at_303) (by decide) (by decide) (Or.inr hone) ⟨by rw [hone], N351⟩
                      by_cases c359 : u352 = (1 : Int32)
                      · refine gIcmpN X350 hx (hb hby at_295) (q := 298) rfl (XT.ii_ne_f c359) ?_
                        refine gIconst X350 hx (1 : Int32) (hb hby at_298) (q := 299) rfl (by decide) ?_
                        refine gGoto X350 hx (hb hby at_299) (q := 303) (by decide) (by decide) ?_
                        exact J295_361 _ (by first | rfl | (rw [if_pos c359]; done) | (simp only [if_pos c359]; done) | (simp only [if_pos c359]; done) | (simp only [if_pos c359, if_true, if_false]; done) | (exfalso; simp at c359; done))
                      · refine gIcmpY X350 hx (hb hby at_295) (q := 302) (by decide) (by decide) (XT.ii_ne_t c359) ?_
                        refine gIconst X350 hx (0 : Int32) (hb hby at_302) (q := 303) rfl (by decide) ?_
                        exact J295_361 _ (by first | rfl | (rw [if_neg c359]; done) | (simp only [if_neg c359]; done) | (simp only [if_neg c359]; done) | (simp only [if_neg c359, if_true, if_false]; done) | (exfalso; simp at c359; done))
                    by_cases c356 : v354 < (0 : Int32)
                    · refine gIfY X350 hx (hb hby at_242) (q := 253) (by decide) (by decide) (XT.i0_lt_t c356) ?_
                      refine gIconst X350 hx (-1 : Int32) (hb hby at_253) (q := 254) rfl (by decide) ?_
                      exact J242_358 _ (by first | rfl | (rw [if_pos c356]; done) | (simp only [if_pos c356]; done) | (simp only [if_pos c356]; done) | (simp only [if_pos c356, if_true, if_false]; done) | (exfalso; simp at c356; done))
                    · refine gIfN X350 hx (hb hby at_242) (q := 245) rfl (XT.i0_lt_f c356) ?_
                      refine gAload X350 hx (hb hby at_245) (q := 247) rfl rfl rfl ?_
                      refine gIload X350 hx (hb hby at_247) (q := 249) rfl rfl ?_
                      have hix249 : v354 = 0 ∨ v354 = 1 ∨ v354 = 2 ∨ v354 = 3 := by
                        have hneg := c356
                        rw [hv354] at hneg ⊢
                        rcases ov0 with e0 | e0 | e0 | e0 <;> rcases ov1 with e1 | e1 | e1 <;> rcases ov2 with e2 | e2 <;> simp only [e0, e1, e2, own_par] at hneg ⊢ <;> revert hneg <;> decide
                      refine gIaload X350 hx hZ e350 G259 (hb hby at_249) (q := 250) rfl (own_parget v354 v170 v188 v205 hix249).1 (own_parget v354 v170 v188 v205 hix249).2 ?_
                      refine gGoto X350 hx (hb hby at_250) (q := 254) (by decide) (by decide) ?_
                      exact J242_358 _ (by first | rfl | (rw [if_neg c356]; done) | (simp only [if_neg c356]; done) | (simp only [if_neg c356]; done) | (simp only [if_neg c356, if_true, if_false]; done) | (exfalso; simp at c356; done))
                  by_cases c353 : v188 < (0 : Int32)
                  · refine gIfY X350 hx (hb hby at_226) (q := 237) (by decide) (by decide) (XT.i0_lt_t c353) ?_
                    refine gIconst X350 hx (-1 : Int32) (hb hby at_237) (q := 238) rfl (by decide) ?_
                    exact J226_355 _ (by first | rfl | (rw [if_pos c353]; done) | (simp only [if_pos c353]; done) | (simp only [if_pos c353]; done) | (simp only [if_pos c353, if_true, if_false]; done) | (exfalso; simp at c353; done))
                  · refine gIfN X350 hx (hb hby at_226) (q := 229) rfl (XT.i0_lt_f c353) ?_
                    refine gAload X350 hx (hb hby at_229) (q := 231) rfl rfl rfl ?_
                    refine gIload X350 hx (hb hby at_231) (q := 233) rfl rfl ?_
                    have hix233 : v188 = 0 ∨ v188 = 1 ∨ v188 = 2 ∨ v188 = 3 := by
                      have hneg := c353
                      rcases ov0 with e0 | e0 | e0 | e0 <;> rcases ov1 with e1 | e1 | e1 <;> rcases ov2 with e2 | e2 <;> simp only [e0, e1, e2, own_par] at hneg ⊢ <;> revert hneg <;> decide
                    refine gIaload X350 hx hZ e350 G259 (hb hby at_233) (q := 234) rfl (own_parget v188 v170 v188 v205 hix233).1 (own_parget v188 v170 v188 v205 hix233).2 ?_
                    refine gGoto X350 hx (hb hby at_234) (q := 238) (by decide) (by decide) ?_
                    exact J226_355 _ (by first | rfl | (rw [if_neg c353]; done) | (simp only [if_neg c353]; done) | (simp only [if_neg c353]; done) | (simp only [if_neg c353, if_true, if_false]; done) | (exfalso; simp at c353; done))
                · subst hj
                  refine gAaload X257 hx hZ e257 G258 rfl (hb hby at_211) (q := 212) rfl (show ¬ (((2 : Int32) : Int32) < 0 ∨ 4 ≤ ((2 : Int32) : Int32).toNatClampNeg) by decide) (v := .ref a68) rfl ?_
                  refine gCallV X257 hx hZ hown (hw _ (List.mem_of_getElem? (i := 75) rfl)) (hw _ (List.mem_of_getElem? (i := 76) rfl)) (hw _ (List.mem_of_getElem? (i := 78) rfl)) (hw _ (List.mem_of_getElem? (i := 77) rfl)) (hw _ (List.mem_of_getElem? (i := 3) rfl)) (hw _ (List.mem_of_getElem? (i := 79) rfl)) (notFace_of_selects (args := #[]) (mvT hZ (hw _ (List.mem_of_getElem? (i := 78) rfl)))) (by decide) (rmIs1 l Z a0 hw [] a33 a68 a109 a68 s1 s2 hh257 n0 Z257 G265 G266 G267 (by rcases PP1 with h | h | h <;> simp [h.2]) (by rcases PP2 with h | h <;> simp [h.2]) ne_a33_a68 ne_a33_a109 ne_a68_a109) (W := 0) (by decide) (by decide) e257 (by rw [hml]; rfl) G261 [(.ref a68)] (lenOf pd2 rfl) rfl (S := []) rfl (Nat.le_of_eq rfl) (hb hby at_212) (q := 215) rfl (by decide) (by decide) (fun r362 T362 M362 X362 q362 => ?_)
                  obtain ⟨rfl, M362n, e362⟩ := q362
                  have N363 := Fr.app N257 M362n
                  dsimp only [Option.toList, List.cons_append, List.nil_append]
                  generalize hu364 : (own_r1 a33 a68 a109 a68 s1 s2) = u364
                  refine gIstore X362 hx (hb hby at_215) (q := 217) rfl (L' := #[.val (.int x0), .val (.int x1), .val (.int x2), .val (.int x3), .val (.int x4), .val (.ref a1), .val (.ref a156), .val (.int u168), .val (.int u186), .val (.int (1 : Int32)), .val (.int (2 : Int32)), .val (.int u364), .unset, .unset, .unset, .unset]) rfl ?_
                  refine gAload X362 hx (hb hby at_217) (q := 219) rfl rfl rfl ?_
                  refine gIload X362 hx (hb hby at_219) (q := 221) rfl rfl ?_
                  refine gIaload X362 hx hZ e362 G259 (hb hby at_221) (q := 222) rfl (show ¬ (((1 : Int32) : Int32) < 0 ∨ 4 ≤ ((1 : Int32) : Int32).toNatClampNeg) by decide) (v := .int v188) rfl ?_
                  refine gIstore X362 hx (hb hby at_222) (q := 224) rfl (L' := #[.val (.int x0), .val (.int x1), .val (.int x2), .val (.int x3), .val (.int x4), .val (.ref a1), .val (.ref a156), .val (.int u168), .val (.int u186), .val (.int (1 : Int32)), .val (.int (2 : Int32)), .val (.int u364), .val (.int v188), .unset, .unset, .unset]) rfl ?_
                  refine gIload X362 hx (hb hby at_224) (q := 226) rfl rfl ?_
                  have J226_367 : ∀ v366 : Int32, v366 = (if v188 < (0 : Int32) then (-1 : Int32) else (own_par v188 v170 v188 v205)) → Go p.tables e below (Done s (Q_rm0 Z x0 x1 x2 x3 x4 rd h0 n0) (room_1.cells) (room_1.slots)) (T362.setTop (mkF m 238 #[.val (.int x0), .val (.int x1), .val (.int x2), .val (.int x3), .val (.int x4), .val (.ref a1), .val (.ref a156), .val (.int u168), .val (.int u186), .val (.int (1 : Int32)), .val (.int (2 : Int32)), .val (.int u364), .val (.int v188), .unset, .unset, .unset] [(.int v366)])) := by
                    intro v366 hv366
                    refine gIstore X362 hx (hb hby at_238) (q := 240) rfl (L' := #[.val (.int x0), .val (.int x1), .val (.int x2), .val (.int x3), .val (.int x4), .val (.ref a1), .val (.ref a156), .val (.int u168), .val (.int u186), .val (.int (1 : Int32)), .val (.int (2 : Int32)), .val (.int u364), .val (.int v188), .val (.int v366), .unset, .unset]) rfl ?_
                    refine gIload X362 hx (hb hby at_240) (q := 242) rfl rfl ?_
                    have J242_370 : ∀ v369 : Int32, v369 = (if v366 < (0 : Int32) then (-1 : Int32) else (own_par v366 v170 v188 v205)) → Go p.tables e below (Done s (Q_rm0 Z x0 x1 x2 x3 x4 rd h0 n0) (room_1.cells) (room_1.slots)) (T362.setTop (mkF m 254 #[.val (.int x0), .val (.int x1), .val (.int x2), .val (.int x3), .val (.int x4), .val (.ref a1), .val (.ref a156), .val (.int u168), .val (.int u186), .val (.int (1 : Int32)), .val (.int (2 : Int32)), .val (.int u364), .val (.int v188), .val (.int v366), .unset, .unset] [(.int v369)])) := by
                      intro v369 hv369
                      refine gIstore X362 hx (hb hby at_254) (q := 256) rfl (L' := #[.val (.int x0), .val (.int x1), .val (.int x2), .val (.int x3), .val (.int x4), .val (.ref a1), .val (.ref a156), .val (.int u168), .val (.int u186), .val (.int (1 : Int32)), .val (.int (2 : Int32)), .val (.int u364), .val (.int v188), .val (.int v366), .val (.int v369), .unset]) rfl ?_
                      refine gIload X362 hx (hb hby at_256) (q := 258) rfl rfl ?_
                      refine gIload X362 hx (hb hby at_258) (q := 260) rfl rfl ?_
                      refine gIcmpN X362 hx (hb hby at_260) (q := 263) rfl (XT.ii_eq_f (by decide)) ?_
                      refine gIload X362 hx (hb hby at_263) (q := 265) rfl rfl ?_
                      refine gIload X362 hx (hb hby at_265) (q := 267) rfl rfl ?_
                      have J267_373 : ∀ v372 : Int32, v372 = (if v188 = (2 : Int32) then (1 : Int32) else (if v366 = (2 : Int32) then (1 : Int32) else (if v369 = (2 : Int32) then (1 : Int32) else (0 : Int32)))) → Go p.tables e below (Done s (Q_rm0 Z x0 x1 x2 x3 x4 rd h0 n0) (room_1.cells) (room_1.slots)) (T362.setTop (mkF m 289 #[.val (.int x0), .val (.int x1), .val (.int x2), .val (.int x3), .val (.int x4), .val (.ref a1), .val (.ref a156), .val (.int u168), .val (.int u186), .val (.int (1 : Int32)), .val (.int (2 : Int32)), .val (.int u364), .val (.int v188), .val (.int v366), .val (.int v369), .unset] [(.int v372)])) := by
                        intro v372 hv372
                        refine gIstore X362 hx (hb hby at_289) (q := 291) rfl (L' := #[.val (.int x0), .val (.int x1), .val (.int x2), .val (.int x3), .val (.int x4), .val (.ref a1), .val (.ref a156), .val (.int u168), .val (.int u186), .val (.int (1 : Int32)), .val (.int (2 : Int32)), .val (.int u364), .val (.int v188), .val (.int v366), .val (.int v369), .val (.int v372)]) rfl ?_
                        refine gIload X362 hx (hb hby at_291) (q := 293) rfl rfl ?_
                        refine gIload X362 hx (hb hby at_293) (q := 295) rfl rfl ?_
                        have J295_376 : ∀ v375 : Int32, v375 = (if u364 = v372 then (1 : Int32) else (0 : Int32)) → Go p.tables e below (Done s (Q_rm0 Z x0 x1 x2 x3 x4 rd h0 n0) (room_1.cells) (room_1.slots)) (T362.setTop (mkF m 303 #[.val (.int x0), .val (.int x1), .val (.int x2), .val (.int x3), .val (.int x4), .val (.ref a1), .val (.ref a156), .val (.int u168), .val (.int u186), .val (.int (1 : Int32)), .val (.int (2 : Int32)), .val (.int u364), .val (.int v188), .val (.int v366), .val (.int v369), .val (.int v372)] [(.int v375)])) := by
                          intro v375 hv375
                          have hone : v375 = 1 := own_law7 x0 x1 x2 x3 x4 v170 v188 v205 a4 a33 a68 a109 s0 s1 s2 u168 hu168 u186 hu186 u364 hu364 v366 hv366 v369 hv369 v372 hv372 v375 hv375 PP0 PP1 PP2 ne_a4_a33 ne_a4_a68 ne_a4_a109 ne_a33_a68 ne_a33_a109 ne_a68_a109
                          exact gRetZ X362 hx hlk hret (hb hby at_303) (by decide) (by decide) (Or.inr hone) ⟨by rw [hone], N363⟩
                        by_cases c374 : u364 = v372
                        · refine gIcmpN X362 hx (hb hby at_295) (q := 298) rfl (XT.ii_ne_f c374) ?_
                          refine gIconst X362 hx (1 : Int32) (hb hby at_298) (q := 299) rfl (by decide) ?_
                          refine gGoto X362 hx (hb hby at_299) (q := 303) (by decide) (by decide) ?_
                          exact J295_376 _ (by first | rfl | (rw [if_pos c374]; done) | (simp only [if_pos c374]; done) | (simp only [if_pos c374]; done) | (simp only [if_pos c374, if_true, if_false]; done) | (exfalso; simp at c374; done))
                        · refine gIcmpY X362 hx (hb hby at_295) (q := 302) (by decide) (by decide) (XT.ii_ne_t c374) ?_
                          refine gIconst X362 hx (0 : Int32) (hb hby at_302) (q := 303) rfl (by decide) ?_
                          exact J295_376 _ (by first | rfl | (rw [if_neg c374]; done) | (simp only [if_neg c374]; done) | (simp only [if_neg c374]; done) | (simp only [if_neg c374, if_true, if_false]; done) | (exfalso; simp at c374; done))
                      by_cases c371 : v188 = (2 : Int32)
                      · refine gIcmpY X362 hx (hb hby at_267) (q := 284) (by decide) (by decide) (XT.ii_eq_t c371) ?_
                        refine gIconst X362 hx (1 : Int32) (hb hby at_284) (q := 285) rfl (by decide) ?_
                        refine gGoto X362 hx (hb hby at_285) (q := 289) (by decide) (by decide) ?_
                        exact J267_373 _ (by first | rfl | (rw [if_pos c371]; done) | (simp only [if_pos c371]; done) | (simp only [if_pos c371]; done) | (simp only [if_pos c371, if_true, if_false]; done) | (exfalso; simp at c371; done))
                      · refine gIcmpN X362 hx (hb hby at_267) (q := 270) rfl (XT.ii_eq_f c371) ?_
                        refine gIload X362 hx (hb hby at_270) (q := 272) rfl rfl ?_
                        refine gIload X362 hx (hb hby at_272) (q := 274) rfl rfl ?_
                        by_cases c377 : v366 = (2 : Int32)
                        · refine gIcmpY X362 hx (hb hby at_274) (q := 284) (by decide) (by decide) (XT.ii_eq_t c377) ?_
                          refine gIconst X362 hx (1 : Int32) (hb hby at_284) (q := 285) rfl (by decide) ?_
                          refine gGoto X362 hx (hb hby at_285) (q := 289) (by decide) (by decide) ?_
                          exact J267_373 _ (by first | rfl | (rw [if_neg c371, if_pos c377]; done) | (simp only [if_neg c371, if_pos c377]; done) | (simp only [if_neg c371, if_pos c377]; done) | (simp only [if_neg c371, if_pos c377, if_true, if_false]; done) | (exfalso; simp at c377; done))
                        · refine gIcmpN X362 hx (hb hby at_274) (q := 277) rfl (XT.ii_eq_f c377) ?_
                          refine gIload X362 hx (hb hby at_277) (q := 279) rfl rfl ?_
                          refine gIload X362 hx (hb hby at_279) (q := 281) rfl rfl ?_
                          by_cases c378 : v369 = (2 : Int32)
                          · refine gIcmpN X362 hx (hb hby at_281) (q := 284) rfl (XT.ii_ne_f c378) ?_
                            refine gIconst X362 hx (1 : Int32) (hb hby at_284) (q := 285) rfl (by decide) ?_
                            refine gGoto X362 hx (hb hby at_285) (q := 289) (by decide) (by decide) ?_
                            exact J267_373 _ (by first | rfl | (rw [if_neg c371, if_neg c377, if_pos c378]; done) | (simp only [if_neg c371, if_neg c377, if_pos c378]; done) | (simp only [if_neg c371, if_neg c377, if_pos c378]; done) | (simp only [if_neg c371, if_neg c377, if_pos c378, if_true, if_false]; done) | (exfalso; simp at c378; done))
                          · refine gIcmpY X362 hx (hb hby at_281) (q := 288) (by decide) (by decide) (XT.ii_ne_t c378) ?_
                            refine gIconst X362 hx (0 : Int32) (hb hby at_288) (q := 289) rfl (by decide) ?_
                            exact J267_373 _ (by first | rfl | (rw [if_neg c371, if_neg c377, if_neg c378]; done) | (simp only [if_neg c371, if_neg c377, if_neg c378]; done) | (simp only [if_neg c371, if_neg c377, if_neg c378]; done) | (simp only [if_neg c371, if_neg c377, if_neg c378, if_true, if_false]; done) | (exfalso; simp at c378; done))
                    by_cases c368 : v366 < (0 : Int32)
                    · refine gIfY X362 hx (hb hby at_242) (q := 253) (by decide) (by decide) (XT.i0_lt_t c368) ?_
                      refine gIconst X362 hx (-1 : Int32) (hb hby at_253) (q := 254) rfl (by decide) ?_
                      exact J242_370 _ (by first | rfl | (rw [if_pos c368]; done) | (simp only [if_pos c368]; done) | (simp only [if_pos c368]; done) | (simp only [if_pos c368, if_true, if_false]; done) | (exfalso; simp at c368; done))
                    · refine gIfN X362 hx (hb hby at_242) (q := 245) rfl (XT.i0_lt_f c368) ?_
                      refine gAload X362 hx (hb hby at_245) (q := 247) rfl rfl rfl ?_
                      refine gIload X362 hx (hb hby at_247) (q := 249) rfl rfl ?_
                      have hix249 : v366 = 0 ∨ v366 = 1 ∨ v366 = 2 ∨ v366 = 3 := by
                        have hneg := c368
                        rw [hv366] at hneg ⊢
                        rcases ov0 with e0 | e0 | e0 | e0 <;> rcases ov1 with e1 | e1 | e1 <;> rcases ov2 with e2 | e2 <;> simp only [e0, e1, e2, own_par] at hneg ⊢ <;> revert hneg <;> decide
                      refine gIaload X362 hx hZ e362 G259 (hb hby at_249) (q := 250) rfl (own_parget v366 v170 v188 v205 hix249).1 (own_parget v366 v170 v188 v205 hix249).2 ?_
                      refine gGoto X362 hx (hb hby at_250) (q := 254) (by decide) (by decide) ?_
                      exact J242_370 _ (by first | rfl | (rw [if_neg c368]; done) | (simp only [if_neg c368]; done) | (simp only [if_neg c368]; done) | (simp only [if_neg c368, if_true, if_false]; done) | (exfalso; simp at c368; done))
                  by_cases c365 : v188 < (0 : Int32)
                  · refine gIfY X362 hx (hb hby at_226) (q := 237) (by decide) (by decide) (XT.i0_lt_t c365) ?_
                    refine gIconst X362 hx (-1 : Int32) (hb hby at_237) (q := 238) rfl (by decide) ?_
                    exact J226_367 _ (by first | rfl | (rw [if_pos c365]; done) | (simp only [if_pos c365]; done) | (simp only [if_pos c365]; done) | (simp only [if_pos c365, if_true, if_false]; done) | (exfalso; simp at c365; done))
                  · refine gIfN X362 hx (hb hby at_226) (q := 229) rfl (XT.i0_lt_f c365) ?_
                    refine gAload X362 hx (hb hby at_229) (q := 231) rfl rfl rfl ?_
                    refine gIload X362 hx (hb hby at_231) (q := 233) rfl rfl ?_
                    have hix233 : v188 = 0 ∨ v188 = 1 ∨ v188 = 2 ∨ v188 = 3 := by
                      have hneg := c365
                      rcases ov0 with e0 | e0 | e0 | e0 <;> rcases ov1 with e1 | e1 | e1 <;> rcases ov2 with e2 | e2 <;> simp only [e0, e1, e2, own_par] at hneg ⊢ <;> revert hneg <;> decide
                    refine gIaload X362 hx hZ e362 G259 (hb hby at_233) (q := 234) rfl (own_parget v188 v170 v188 v205 hix233).1 (own_parget v188 v170 v188 v205 hix233).2 ?_
                    refine gGoto X362 hx (hb hby at_234) (q := 238) (by decide) (by decide) ?_
                    exact J226_367 _ (by first | rfl | (rw [if_neg c365]; done) | (simp only [if_neg c365]; done) | (simp only [if_neg c365]; done) | (simp only [if_neg c365, if_true, if_false]; done) | (exfalso; simp at c365; done))
                · subst hj
                  refine gAaload X257 hx hZ e257 G258 rfl (hb hby at_211) (q := 212) rfl (show ¬ (((3 : Int32) : Int32) < 0 ∨ 4 ≤ ((3 : Int32) : Int32).toNatClampNeg) by decide) (v := .ref a109) rfl ?_
                  refine gCallV X257 hx hZ hown (hw _ (List.mem_of_getElem? (i := 75) rfl)) (hw _ (List.mem_of_getElem? (i := 76) rfl)) (hw _ (List.mem_of_getElem? (i := 78) rfl)) (hw _ (List.mem_of_getElem? (i := 77) rfl)) (hw _ (List.mem_of_getElem? (i := 3) rfl)) (hw _ (List.mem_of_getElem? (i := 79) rfl)) (notFace_of_selects (args := #[]) (mvT hZ (hw _ (List.mem_of_getElem? (i := 78) rfl)))) (by decide) (rmIs1 l Z a0 hw [] a33 a68 a109 a109 s1 s2 hh257 n0 Z257 G265 G266 G267 (by rcases PP1 with h | h | h <;> simp [h.2]) (by rcases PP2 with h | h <;> simp [h.2]) ne_a33_a68 ne_a33_a109 ne_a68_a109) (W := 0) (by decide) (by decide) e257 (by rw [hml]; rfl) G261 [(.ref a109)] (lenOf pd2 rfl) rfl (S := []) rfl (Nat.le_of_eq rfl) (hb hby at_212) (q := 215) rfl (by decide) (by decide) (fun r379 T379 M379 X379 q379 => ?_)
                  obtain ⟨rfl, M379n, e379⟩ := q379
                  have N380 := Fr.app N257 M379n
                  dsimp only [Option.toList, List.cons_append, List.nil_append]
                  generalize hu381 : (own_r1 a33 a68 a109 a109 s1 s2) = u381
                  refine gIstore X379 hx (hb hby at_215) (q := 217) rfl (L' := #[.val (.int x0), .val (.int x1), .val (.int x2), .val (.int x3), .val (.int x4), .val (.ref a1), .val (.ref a156), .val (.int u168), .val (.int u186), .val (.int (1 : Int32)), .val (.int (3 : Int32)), .val (.int u381), .unset, .unset, .unset, .unset]) rfl ?_
                  refine gAload X379 hx (hb hby at_217) (q := 219) rfl rfl rfl ?_
                  refine gIload X379 hx (hb hby at_219) (q := 221) rfl rfl ?_
                  refine gIaload X379 hx hZ e379 G259 (hb hby at_221) (q := 222) rfl (show ¬ (((1 : Int32) : Int32) < 0 ∨ 4 ≤ ((1 : Int32) : Int32).toNatClampNeg) by decide) (v := .int v188) rfl ?_
                  refine gIstore X379 hx (hb hby at_222) (q := 224) rfl (L' := #[.val (.int x0), .val (.int x1), .val (.int x2), .val (.int x3), .val (.int x4), .val (.ref a1), .val (.ref a156), .val (.int u168), .val (.int u186), .val (.int (1 : Int32)), .val (.int (3 : Int32)), .val (.int u381), .val (.int v188), .unset, .unset, .unset]) rfl ?_
                  refine gIload X379 hx (hb hby at_224) (q := 226) rfl rfl ?_
                  have J226_384 : ∀ v383 : Int32, v383 = (if v188 < (0 : Int32) then (-1 : Int32) else (own_par v188 v170 v188 v205)) → Go p.tables e below (Done s (Q_rm0 Z x0 x1 x2 x3 x4 rd h0 n0) (room_1.cells) (room_1.slots)) (T379.setTop (mkF m 238 #[.val (.int x0), .val (.int x1), .val (.int x2), .val (.int x3), .val (.int x4), .val (.ref a1), .val (.ref a156), .val (.int u168), .val (.int u186), .val (.int (1 : Int32)), .val (.int (3 : Int32)), .val (.int u381), .val (.int v188), .unset, .unset, .unset] [(.int v383)])) := by
                    intro v383 hv383
                    refine gIstore X379 hx (hb hby at_238) (q := 240) rfl (L' := #[.val (.int x0), .val (.int x1), .val (.int x2), .val (.int x3), .val (.int x4), .val (.ref a1), .val (.ref a156), .val (.int u168), .val (.int u186), .val (.int (1 : Int32)), .val (.int (3 : Int32)), .val (.int u381), .val (.int v188), .val (.int v383), .unset, .unset]) rfl ?_
                    refine gIload X379 hx (hb hby at_240) (q := 242) rfl rfl ?_
                    have J242_387 : ∀ v386 : Int32, v386 = (if v383 < (0 : Int32) then (-1 : Int32) else (own_par v383 v170 v188 v205)) → Go p.tables e below (Done s (Q_rm0 Z x0 x1 x2 x3 x4 rd h0 n0) (room_1.cells) (room_1.slots)) (T379.setTop (mkF m 254 #[.val (.int x0), .val (.int x1), .val (.int x2), .val (.int x3), .val (.int x4), .val (.ref a1), .val (.ref a156), .val (.int u168), .val (.int u186), .val (.int (1 : Int32)), .val (.int (3 : Int32)), .val (.int u381), .val (.int v188), .val (.int v383), .unset, .unset] [(.int v386)])) := by
                      intro v386 hv386
                      refine gIstore X379 hx (hb hby at_254) (q := 256) rfl (L' := #[.val (.int x0), .val (.int x1), .val (.int x2), .val (.int x3), .val (.int x4), .val (.ref a1), .val (.ref a156), .val (.int u168), .val (.int u186), .val (.int (1 : Int32)), .val (.int (3 : Int32)), .val (.int u381), .val (.int v188), .val (.int v383), .val (.int v386), .unset]) rfl ?_
                      refine gIload X379 hx (hb hby at_256) (q := 258) rfl rfl ?_
                      refine gIload X379 hx (hb hby at_258) (q := 260) rfl rfl ?_
                      refine gIcmpN X379 hx (hb hby at_260) (q := 263) rfl (XT.ii_eq_f (by decide)) ?_
                      refine gIload X379 hx (hb hby at_263) (q := 265) rfl rfl ?_
                      refine gIload X379 hx (hb hby at_265) (q := 267) rfl rfl ?_
                      have J267_390 : ∀ v389 : Int32, v389 = (if v188 = (3 : Int32) then (1 : Int32) else (if v383 = (3 : Int32) then (1 : Int32) else (if v386 = (3 : Int32) then (1 : Int32) else (0 : Int32)))) → Go p.tables e below (Done s (Q_rm0 Z x0 x1 x2 x3 x4 rd h0 n0) (room_1.cells) (room_1.slots)) (T379.setTop (mkF m 289 #[.val (.int x0), .val (.int x1), .val (.int x2), .val (.int x3), .val (.int x4), .val (.ref a1), .val (.ref a156), .val (.int u168), .val (.int u186), .val (.int (1 : Int32)), .val (.int (3 : Int32)), .val (.int u381), .val (.int v188), .val (.int v383), .val (.int v386), .unset] [(.int v389)])) := by
                        intro v389 hv389
                        refine gIstore X379 hx (hb hby at_289) (q := 291) rfl (L' := #[.val (.int x0), .val (.int x1), .val (.int x2), .val (.int x3), .val (.int x4), .val (.ref a1), .val (.ref a156), .val (.int u168), .val (.int u186), .val (.int (1 : Int32)), .val (.int (3 : Int32)), .val (.int u381), .val (.int v188), .val (.int v383), .val (.int v386), .val (.int v389)]) rfl ?_
                        refine gIload X379 hx (hb hby at_291) (q := 293) rfl rfl ?_
                        refine gIload X379 hx (hb hby at_293) (q := 295) rfl rfl ?_
                        have J295_393 : ∀ v392 : Int32, v392 = (if u381 = v389 then (1 : Int32) else (0 : Int32)) → Go p.tables e below (Done s (Q_rm0 Z x0 x1 x2 x3 x4 rd h0 n0) (room_1.cells) (room_1.slots)) (T379.setTop (mkF m 303 #[.val (.int x0), .val (.int x1), .val (.int x2), .val (.int x3), .val (.int x4), .val (.ref a1), .val (.ref a156), .val (.int u168), .val (.int u186), .val (.int (1 : Int32)), .val (.int (3 : Int32)), .val (.int u381), .val (.int v188), .val (.int v383), .val (.int v386), .val (.int v389)] [(.int v392)])) := by
                          intro v392 hv392
                          have hone : v392 = 1 := own_law8 x0 x1 x2 x3 x4 v170 v188 v205 a4 a33 a68 a109 s0 s1 s2 u168 hu168 u186 hu186 u381 hu381 v383 hv383 v386 hv386 v389 hv389 v392 hv392 PP0 PP1 PP2 ne_a4_a33 ne_a4_a68 ne_a4_a109 ne_a33_a68 ne_a33_a109 ne_a68_a109
                          exact gRetZ X379 hx hlk hret (hb hby at_303) (by decide) (by decide) (Or.inr hone) ⟨by rw [hone], N380⟩
                        by_cases c391 : u381 = v389
                        · refine gIcmpN X379 hx (hb hby at_295) (q := 298) rfl (XT.ii_ne_f c391) ?_
                          refine gIconst X379 hx (1 : Int32) (hb hby at_298) (q := 299) rfl (by decide) ?_
                          refine gGoto X379 hx (hb hby at_299) (q := 303) (by decide) (by decide) ?_
                          exact J295_393 _ (by first | rfl | (rw [if_pos c391]; done) | (simp only [if_pos c391]; done) | (simp only [if_pos c391]; done) | (simp only [if_pos c391, if_true, if_false]; done) | (exfalso; simp at c391; done))
                        · refine gIcmpY X379 hx (hb hby at_295) (q := 302) (by decide) (by decide) (XT.ii_ne_t c391) ?_
                          refine gIconst X379 hx (0 : Int32) (hb hby at_302) (q := 303) rfl (by decide) ?_
                          exact J295_393 _ (by first | rfl | (rw [if_neg c391]; done) | (simp only [if_neg c391]; done) | (simp only [if_neg c391]; done) | (simp only [if_neg c391, if_true, if_false]; done) | (exfalso; simp at c391; done))
                      by_cases c388 : v188 = (3 : Int32)
                      · refine gIcmpY X379 hx (hb hby at_267) (q := 284) (by decide) (by decide) (XT.ii_eq_t c388) ?_
                        refine gIconst X379 hx (1 : Int32) (hb hby at_284) (q := 285) rfl (by decide) ?_
                        refine gGoto X379 hx (hb hby at_285) (q := 289) (by decide) (by decide) ?_
                        exact J267_390 _ (by first | rfl | (rw [if_pos c388]; done) | (simp only [if_pos c388]; done) | (simp only [if_pos c388]; done) | (simp only [if_pos c388, if_true, if_false]; done) | (exfalso; simp at c388; done))
                      · refine gIcmpN X379 hx (hb hby at_267) (q := 270) rfl (XT.ii_eq_f c388) ?_
                        refine gIload X379 hx (hb hby at_270) (q := 272) rfl rfl ?_
                        refine gIload X379 hx (hb hby at_272) (q := 274) rfl rfl ?_
                        by_cases c394 : v383 = (3 : Int32)
                        · refine gIcmpY X379 hx (hb hby at_274) (q := 284) (by decide) (by decide) (XT.ii_eq_t c394) ?_
                          refine gIconst X379 hx (1 : Int32) (hb hby at_284) (q := 285) rfl (by decide) ?_
                          refine gGoto X379 hx (hb hby at_285) (q := 289) (by decide) (by decide) ?_
                          exact J267_390 _ (by first | rfl | (rw [if_neg c388, if_pos c394]; done) | (simp only [if_neg c388, if_pos c394]; done) | (simp only [if_neg c388, if_pos c394]; done) | (simp only [if_neg c388, if_pos c394, if_true, if_false]; done) | (exfalso; simp at c394; done))
                        · refine gIcmpN X379 hx (hb hby at_274) (q := 277) rfl (XT.ii_eq_f c394) ?_
                          refine gIload X379 hx (hb hby at_277) (q := 279) rfl rfl ?_
                          refine gIload X379 hx (hb hby at_279) (q := 281) rfl rfl ?_
                          by_cases c395 : v386 = (3 : Int32)
                          · refine gIcmpN X379 hx (hb hby at_281) (q := 284) rfl (XT.ii_ne_f c395) ?_
                            refine gIconst X379 hx (1 : Int32) (hb hby at_284) (q := 285) rfl (by decide) ?_
                            refine gGoto X379 hx (hb hby at_285) (q := 289) (by decide) (by decide) ?_
                            exact J267_390 _ (by first | rfl | (rw [if_neg c388, if_neg c394, if_pos c395]; done) | (simp only [if_neg c388, if_neg c394, if_pos c395]; done) | (simp only [if_neg c388, if_neg c394, if_pos c395]; done) | (simp only [if_neg c388, if_neg c394, if_pos c395, if_true, if_false]; done) | (exfalso; simp at c395; done))
                          · refine gIcmpY X379 hx (hb hby at_281) (q := 288) (by decide) (by decide) (XT.ii_ne_t c395) ?_
                            refine gIconst X379 hx (0 : Int32) (hb hby at_288) (q := 289) rfl (by decide) ?_
                            exact J267_390 _ (by first | rfl | (rw [if_neg c388, if_neg c394, if_neg c395]; done) | (simp only [if_neg c388, if_neg c394, if_neg c395]; done) | (simp only [if_neg c388, if_neg c394, if_neg c395]; done) | (simp only [if_neg c388, if_neg c394, if_neg c395, if_true, if_false]; done) | (exfalso; simp at c395; done))
                    by_cases c385 : v383 < (0 : Int32)
                    · refine gIfY X379 hx (hb hby at_242) (q := 253) (by decide) (by decide) (XT.i0_lt_t c385) ?_
                      refine gIconst X379 hx (-1 : Int32) (hb hby at_253) (q := 254) rfl (by decide) ?_
                      exact J242_387 _ (by first | rfl | (rw [if_pos c385]; done) | (simp only [if_pos c385]; done) | (simp only [if_pos c385]; done) | (simp only [if_pos c385, if_true, if_false]; done) | (exfalso; simp at c385; done))
                    · refine gIfN X379 hx (hb hby at_242) (q := 245) rfl (XT.i0_lt_f c385) ?_
                      refine gAload X379 hx (hb hby at_245) (q := 247) rfl rfl rfl ?_
                      refine gIload X379 hx (hb hby at_247) (q := 249) rfl rfl ?_
                      have hix249 : v383 = 0 ∨ v383 = 1 ∨ v383 = 2 ∨ v383 = 3 := by
                        have hneg := c385
                        rw [hv383] at hneg ⊢
                        rcases ov0 with e0 | e0 | e0 | e0 <;> rcases ov1 with e1 | e1 | e1 <;> rcases ov2 with e2 | e2 <;> simp only [e0, e1, e2, own_par] at hneg ⊢ <;> revert hneg <;> decide
                      refine gIaload X379 hx hZ e379 G259 (hb hby at_249) (q := 250) rfl (own_parget v383 v170 v188 v205 hix249).1 (own_parget v383 v170 v188 v205 hix249).2 ?_
                      refine gGoto X379 hx (hb hby at_250) (q := 254) (by decide) (by decide) ?_
                      exact J242_387 _ (by first | rfl | (rw [if_neg c385]; done) | (simp only [if_neg c385]; done) | (simp only [if_neg c385]; done) | (simp only [if_neg c385, if_true, if_false]; done) | (exfalso; simp at c385; done))
                  by_cases c382 : v188 < (0 : Int32)
                  · refine gIfY X379 hx (hb hby at_226) (q := 237) (by decide) (by decide) (XT.i0_lt_t c382) ?_
                    refine gIconst X379 hx (-1 : Int32) (hb hby at_237) (q := 238) rfl (by decide) ?_
                    exact J226_384 _ (by first | rfl | (rw [if_pos c382]; done) | (simp only [if_pos c382]; done) | (simp only [if_pos c382]; done) | (simp only [if_pos c382, if_true, if_false]; done) | (exfalso; simp at c382; done))
                  · refine gIfN X379 hx (hb hby at_226) (q := 229) rfl (XT.i0_lt_f c382) ?_
                    refine gAload X379 hx (hb hby at_229) (q := 231) rfl rfl rfl ?_
                    refine gIload X379 hx (hb hby at_231) (q := 233) rfl rfl ?_
                    have hix233 : v188 = 0 ∨ v188 = 1 ∨ v188 = 2 ∨ v188 = 3 := by
                      have hneg := c382
                      rcases ov0 with e0 | e0 | e0 | e0 <;> rcases ov1 with e1 | e1 | e1 <;> rcases ov2 with e2 | e2 <;> simp only [e0, e1, e2, own_par] at hneg ⊢ <;> revert hneg <;> decide
                    refine gIaload X379 hx hZ e379 G259 (hb hby at_233) (q := 234) rfl (own_parget v188 v170 v188 v205 hix233).1 (own_parget v188 v170 v188 v205 hix233).2 ?_
                    refine gGoto X379 hx (hb hby at_234) (q := 238) (by decide) (by decide) ?_
                    exact J226_384 _ (by first | rfl | (rw [if_neg c382]; done) | (simp only [if_neg c382]; done) | (simp only [if_neg c382]; done) | (simp only [if_neg c382, if_true, if_false]; done) | (exfalso; simp at c382; done))
              · subst hi
                refine gAaload X257 hx hZ e257 G258 rfl (hb hby at_206) (q := 207) rfl (show ¬ (((2 : Int32) : Int32) < 0 ∨ 4 ≤ ((2 : Int32) : Int32).toNatClampNeg) by decide) (v := .ref a68) rfl ?_
                refine gAload X257 hx (hb hby at_207) (q := 209) rfl rfl rfl ?_
                refine gIload X257 hx (hb hby at_209) (q := 211) rfl rfl ?_
                have oj := own_m3 x4
                rw [hu269] at oj
                rcases oj with hj | hj | hj | hj
                · subst hj
                  refine gAaload X257 hx hZ e257 G258 rfl (hb hby at_211) (q := 212) rfl (show ¬ (((0 : Int32) : Int32) < 0 ∨ 4 ≤ ((0 : Int32) : Int32).toNatClampNeg) by decide) (v := .ref a4) rfl ?_
                  refine gCallV X257 hx hZ hown (hw _ (List.mem_of_getElem? (i := 75) rfl)) (hw _ (List.mem_of_getElem? (i := 76) rfl)) (hw _ (List.mem_of_getElem? (i := 78) rfl)) (hw _ (List.mem_of_getElem? (i := 77) rfl)) (hw _ (List.mem_of_getElem? (i := 3) rfl)) (hw _ (List.mem_of_getElem? (i := 79) rfl)) (notFace_of_selects (args := #[]) (mvT hZ (hw _ (List.mem_of_getElem? (i := 78) rfl)))) (by decide) (rmIs2 l Z a0 hw [] a68 a109 a4 s2 hh257 n0 Z257 G266 G267 (by rcases PP2 with h | h <;> simp [h.2]) ne_a68_a109) (W := 0) (by decide) (by decide) e257 (by rw [hml]; rfl) G262 [(.ref a4)] (lenOf pd2 rfl) rfl (S := []) rfl (Nat.le_of_eq rfl) (hb hby at_212) (q := 215) rfl (by decide) (by decide) (fun r396 T396 M396 X396 q396 => ?_)
                  obtain ⟨rfl, M396n, e396⟩ := q396
                  have N397 := Fr.app N257 M396n
                  dsimp only [Option.toList, List.cons_append, List.nil_append]
                  generalize hu398 : (own_r2 a68 a109 a4 s2) = u398
                  refine gIstore X396 hx (hb hby at_215) (q := 217) rfl (L' := #[.val (.int x0), .val (.int x1), .val (.int x2), .val (.int x3), .val (.int x4), .val (.ref a1), .val (.ref a156), .val (.int u168), .val (.int u186), .val (.int (2 : Int32)), .val (.int (0 : Int32)), .val (.int u398), .unset, .unset, .unset, .unset]) rfl ?_
                  refine gAload X396 hx (hb hby at_217) (q := 219) rfl rfl rfl ?_
                  refine gIload X396 hx (hb hby at_219) (q := 221) rfl rfl ?_
                  refine gIaload X396 hx hZ e396 G259 (hb hby at_221) (q := 222) rfl (show ¬ (((2 : Int32) : Int32) < 0 ∨ 4 ≤ ((2 : Int32) : Int32).toNatClampNeg) by decide) (v := .int v205) rfl ?_
                  refine gIstore X396 hx (hb hby at_222) (q := 224) rfl (L' := #[.val (.int x0), .val (.int x1), .val (.int x2), .val (.int x3), .val (.int x4), .val (.ref a1), .val (.ref a156), .val (.int u168), .val (.int u186), .val (.int (2 : Int32)), .val (.int (0 : Int32)), .val (.int u398), .val (.int v205), .unset, .unset, .unset]) rfl ?_
                  refine gIload X396 hx (hb hby at_224) (q := 226) rfl rfl ?_
                  have J226_401 : ∀ v400 : Int32, v400 = (if v205 < (0 : Int32) then (-1 : Int32) else (own_par v205 v170 v188 v205)) → Go p.tables e below (Done s (Q_rm0 Z x0 x1 x2 x3 x4 rd h0 n0) (room_1.cells) (room_1.slots)) (T396.setTop (mkF m 238 #[.val (.int x0), .val (.int x1), .val (.int x2), .val (.int x3), .val (.int x4), .val (.ref a1), .val (.ref a156), .val (.int u168), .val (.int u186), .val (.int (2 : Int32)), .val (.int (0 : Int32)), .val (.int u398), .val (.int v205), .unset, .unset, .unset] [(.int v400)])) := by
                    intro v400 hv400
                    refine gIstore X396 hx (hb hby at_238) (q := 240) rfl (L' := #[.val (.int x0), .val (.int x1), .val (.int x2), .val (.int x3), .val (.int x4), .val (.ref a1), .val (.ref a156), .val (.int u168), .val (.int u186), .val (.int (2 : Int32)), .val (.int (0 : Int32)), .val (.int u398), .val (.int v205), .val (.int v400), .unset, .unset]) rfl ?_
                    refine gIload X396 hx (hb hby at_240) (q := 242) rfl rfl ?_
                    have J242_404 : ∀ v403 : Int32, v403 = (if v400 < (0 : Int32) then (-1 : Int32) else (own_par v400 v170 v188 v205)) → Go p.tables e below (Done s (Q_rm0 Z x0 x1 x2 x3 x4 rd h0 n0) (room_1.cells) (room_1.slots)) (T396.setTop (mkF m 254 #[.val (.int x0), .val (.int x1), .val (.int x2), .val (.int x3), .val (.int x4), .val (.ref a1), .val (.ref a156), .val (.int u168), .val (.int u186), .val (.int (2 : Int32)), .val (.int (0 : Int32)), .val (.int u398), .val (.int v205), .val (.int v400), .unset, .unset] [(.int v403)])) := by
                      intro v403 hv403
                      refine gIstore X396 hx (hb hby at_254) (q := 256) rfl (L' := #[.val (.int x0), .val (.int x1), .val (.int x2), .val (.int x3), .val (.int x4), .val (.ref a1), .val (.ref a156), .val (.int u168), .val (.int u186), .val (.int (2 : Int32)), .val (.int (0 : Int32)), .val (.int u398), .val (.int v205), .val (.int v400), .val (.int v403), .unset]) rfl ?_
                      refine gIload X396 hx (hb hby at_256) (q := 258) rfl rfl ?_
                      refine gIload X396 hx (hb hby at_258) (q := 260) rfl rfl ?_
                      refine gIcmpN X396 hx (hb hby at_260) (q := 263) rfl (XT.ii_eq_f (by decide)) ?_
                      refine gIload X396 hx (hb hby at_263) (q := 265) rfl rfl ?_
                      refine gIload X396 hx (hb hby at_265) (q := 267) rfl rfl ?_
                      have J267_407 : ∀ v406 : Int32, v406 = (if v205 = (0 : Int32) then (1 : Int32) else (if v400 = (0 : Int32) then (1 : Int32) else (if v403 = (0 : Int32) then (1 : Int32) else (0 : Int32)))) → Go p.tables e below (Done s (Q_rm0 Z x0 x1 x2 x3 x4 rd h0 n0) (room_1.cells) (room_1.slots)) (T396.setTop (mkF m 289 #[.val (.int x0), .val (.int x1), .val (.int x2), .val (.int x3), .val (.int x4), .val (.ref a1), .val (.ref a156), .val (.int u168), .val (.int u186), .val (.int (2 : Int32)), .val (.int (0 : Int32)), .val (.int u398), .val (.int v205), .val (.int v400), .val (.int v403), .unset] [(.int v406)])) := by
                        intro v406 hv406
                        refine gIstore X396 hx (hb hby at_289) (q := 291) rfl (L' := #[.val (.int x0), .val (.int x1), .val (.int x2), .val (.int x3), .val (.int x4), .val (.ref a1), .val (.ref a156), .val (.int u168), .val (.int u186), .val (.int (2 : Int32)), .val (.int (0 : Int32)), .val (.int u398), .val (.int v205), .val (.int v400), .val (.int v403), .val (.int v406)]) rfl ?_
                        refine gIload X396 hx (hb hby at_291) (q := 293) rfl rfl ?_
                        refine gIload X396 hx (hb hby at_293) (q := 295) rfl rfl ?_
                        have J295_410 : ∀ v409 : Int32, v409 = (if u398 = v406 then (1 : Int32) else (0 : Int32)) → Go p.tables e below (Done s (Q_rm0 Z x0 x1 x2 x3 x4 rd h0 n0) (room_1.cells) (room_1.slots)) (T396.setTop (mkF m 303 #[.val (.int x0), .val (.int x1), .val (.int x2), .val (.int x3), .val (.int x4), .val (.ref a1), .val (.ref a156), .val (.int u168), .val (.int u186), .val (.int (2 : Int32)), .val (.int (0 : Int32)), .val (.int u398), .val (.int v205), .val (.int v400), .val (.int v403), .val (.int v406)] [(.int v409)])) := by
                          intro v409 hv409
                          have hone : v409 = 1 := own_law9 x0 x1 x2 x3 x4 v170 v188 v205 a4 a33 a68 a109 s0 s1 s2 u168 hu168 u186 hu186 u398 hu398 v400 hv400 v403 hv403 v406 hv406 v409 hv409 PP0 PP1 PP2 ne_a4_a33 ne_a4_a68 ne_a4_a109 ne_a33_a68 ne_a33_a109 ne_a68_a109
                          exact gRetZ X396 hx hlk hret (hb hby at_303) (by decide) (by decide) (Or.inr hone) ⟨by rw [hone], N397⟩
                        by_cases c408 : u398 = v406
                        · refine gIcmpN X396 hx (hb hby at_295) (q := 298) rfl (XT.ii_ne_f c408) ?_
                          refine gIconst X396 hx (1 : Int32) (hb hby at_298) (q := 299) rfl (by decide) ?_
                          refine gGoto X396 hx (hb hby at_299) (q := 303) (by decide) (by decide) ?_
                          exact J295_410 _ (by first | rfl | (rw [if_pos c408]; done) | (simp only [if_pos c408]; done) | (simp only [if_pos c408]; done) | (simp only [if_pos c408, if_true, if_false]; done) | (exfalso; simp at c408; done))
                        · refine gIcmpY X396 hx (hb hby at_295) (q := 302) (by decide) (by decide) (XT.ii_ne_t c408) ?_
                          refine gIconst X396 hx (0 : Int32) (hb hby at_302) (q := 303) rfl (by decide) ?_
                          exact J295_410 _ (by first | rfl | (rw [if_neg c408]; done) | (simp only [if_neg c408]; done) | (simp only [if_neg c408]; done) | (simp only [if_neg c408, if_true, if_false]; done) | (exfalso; simp at c408; done))
                      by_cases c405 : v205 = (0 : Int32)
                      · refine gIcmpY X396 hx (hb hby at_267) (q := 284) (by decide) (by decide) (XT.ii_eq_t c405) ?_
                        refine gIconst X396 hx (1 : Int32) (hb hby at_284) (q := 285) rfl (by decide) ?_
                        refine gGoto X396 hx (hb hby at_285) (q := 289) (by decide) (by decide) ?_
                        exact J267_407 _ (by first | rfl | (rw [if_pos c405]; done) | (simp only [if_pos c405]; done) | (simp only [if_pos c405]; done) | (simp only [if_pos c405, if_true, if_false]; done) | (exfalso; simp at c405; done))
                      · refine gIcmpN X396 hx (hb hby at_267) (q := 270) rfl (XT.ii_eq_f c405) ?_
                        refine gIload X396 hx (hb hby at_270) (q := 272) rfl rfl ?_
                        refine gIload X396 hx (hb hby at_272) (q := 274) rfl rfl ?_
                        by_cases c411 : v400 = (0 : Int32)
                        · refine gIcmpY X396 hx (hb hby at_274) (q := 284) (by decide) (by decide) (XT.ii_eq_t c411) ?_
                          refine gIconst X396 hx (1 : Int32) (hb hby at_284) (q := 285) rfl (by decide) ?_
                          refine gGoto X396 hx (hb hby at_285) (q := 289) (by decide) (by decide) ?_
                          exact J267_407 _ (by first | rfl | (rw [if_neg c405, if_pos c411]; done) | (simp only [if_neg c405, if_pos c411]; done) | (simp only [if_neg c405, if_pos c411]; done) | (simp only [if_neg c405, if_pos c411, if_true, if_false]; done) | (exfalso; simp at c411; done))
                        · refine gIcmpN X396 hx (hb hby at_274) (q := 277) rfl (XT.ii_eq_f c411) ?_
                          refine gIload X396 hx (hb hby at_277) (q := 279) rfl rfl ?_
                          refine gIload X396 hx (hb hby at_279) (q := 281) rfl rfl ?_
                          by_cases c412 : v403 = (0 : Int32)
                          · refine gIcmpN X396 hx (hb hby at_281) (q := 284) rfl (XT.ii_ne_f c412) ?_
                            refine gIconst X396 hx (1 : Int32) (hb hby at_284) (q := 285) rfl (by decide) ?_
                            refine gGoto X396 hx (hb hby at_285) (q := 289) (by decide) (by decide) ?_
                            exact J267_407 _ (by first | rfl | (rw [if_neg c405, if_neg c411, if_pos c412]; done) | (simp only [if_neg c405, if_neg c411, if_pos c412]; done) | (simp only [if_neg c405, if_neg c411, if_pos c412]; done) | (simp only [if_neg c405, if_neg c411, if_pos c412, if_true, if_false]; done) | (exfalso; simp at c412; done))
                          · refine gIcmpY X396 hx (hb hby at_281) (q := 288) (by decide) (by decide) (XT.ii_ne_t c412) ?_
                            refine gIconst X396 hx (0 : Int32) (hb hby at_288) (q := 289) rfl (by decide) ?_
                            exact J267_407 _ (by first | rfl | (rw [if_neg c405, if_neg c411, if_neg c412]; done) | (simp only [if_neg c405, if_neg c411, if_neg c412]; done) | (simp only [if_neg c405, if_neg c411, if_neg c412]; done) | (simp only [if_neg c405, if_neg c411, if_neg c412, if_true, if_false]; done) | (exfalso; simp at c412; done))
                    by_cases c402 : v400 < (0 : Int32)
                    · refine gIfY X396 hx (hb hby at_242) (q := 253) (by decide) (by decide) (XT.i0_lt_t c402) ?_
                      refine gIconst X396 hx (-1 : Int32) (hb hby at_253) (q := 254) rfl (by decide) ?_
                      exact J242_404 _ (by first | rfl | (rw [if_pos c402]; done) | (simp only [if_pos c402]; done) | (simp only [if_pos c402]; done) | (simp only [if_pos c402, if_true, if_false]; done) | (exfalso; simp at c402; done))
                    · refine gIfN X396 hx (hb hby at_242) (q := 245) rfl (XT.i0_lt_f c402) ?_
                      refine gAload X396 hx (hb hby at_245) (q := 247) rfl rfl rfl ?_
                      refine gIload X396 hx (hb hby at_247) (q := 249) rfl rfl ?_
                      have hix249 : v400 = 0 ∨ v400 = 1 ∨ v400 = 2 ∨ v400 = 3 := by
                        have hneg := c402
                        rw [hv400] at hneg ⊢
                        rcases ov0 with e0 | e0 | e0 | e0 <;> rcases ov1 with e1 | e1 | e1 <;> rcases ov2 with e2 | e2 <;> simp only [e0, e1, e2, own_par] at hneg ⊢ <;> revert hneg <;> decide
                      refine gIaload X396 hx hZ e396 G259 (hb hby at_249) (q := 250) rfl (own_parget v400 v170 v188 v205 hix249).1 (own_parget v400 v170 v188 v205 hix249).2 ?_
                      refine gGoto X396 hx (hb hby at_250) (q := 254) (by decide) (by decide) ?_
                      exact J242_404 _ (by first | rfl | (rw [if_neg c402]; done) | (simp only [if_neg c402]; done) | (simp only [if_neg c402]; done) | (simp only [if_neg c402, if_true, if_false]; done) | (exfalso; simp at c402; done))
                  by_cases c399 : v205 < (0 : Int32)
                  · refine gIfY X396 hx (hb hby at_226) (q := 237) (by decide) (by decide) (XT.i0_lt_t c399) ?_
                    refine gIconst X396 hx (-1 : Int32) (hb hby at_237) (q := 238) rfl (by decide) ?_
                    exact J226_401 _ (by first | rfl | (rw [if_pos c399]; done) | (simp only [if_pos c399]; done) | (simp only [if_pos c399]; done) | (simp only [if_pos c399, if_true, if_false]; done) | (exfalso; simp at c399; done))
                  · refine gIfN X396 hx (hb hby at_226) (q := 229) rfl (XT.i0_lt_f c399) ?_
                    refine gAload X396 hx (hb hby at_229) (q := 231) rfl rfl rfl ?_
                    refine gIload X396 hx (hb hby at_231) (q := 233) rfl rfl ?_
                    have hix233 : v205 = 0 ∨ v205 = 1 ∨ v205 = 2 ∨ v205 = 3 := by
                      have hneg := c399
                      rcases ov0 with e0 | e0 | e0 | e0 <;> rcases ov1 with e1 | e1 | e1 <;> rcases ov2 with e2 | e2 <;> simp only [e0, e1, e2, own_par] at hneg ⊢ <;> revert hneg <;> decide
                    refine gIaload X396 hx hZ e396 G259 (hb hby at_233) (q := 234) rfl (own_parget v205 v170 v188 v205 hix233).1 (own_parget v205 v170 v188 v205 hix233).2 ?_
                    refine gGoto X396 hx (hb hby at_234) (q := 238) (by decide) (by decide) ?_
                    exact J226_401 _ (by first | rfl | (rw [if_neg c399]; done) | (simp only [if_neg c399]; done) | (simp only [if_neg c399]; done) | (simp only [if_neg c399, if_true, if_false]; done) | (exfalso; simp at c399; done))
                · subst hj
                  refine gAaload X257 hx hZ e257 G258 rfl (hb hby at_211) (q := 212) rfl (show ¬ (((1 : Int32) : Int32) < 0 ∨ 4 ≤ ((1 : Int32) : Int32).toNatClampNeg) by decide) (v := .ref a33) rfl ?_
                  refine gCallV X257 hx hZ hown (hw _ (List.mem_of_getElem? (i := 75) rfl)) (hw _ (List.mem_of_getElem? (i := 76) rfl)) (hw _ (List.mem_of_getElem? (i := 78) rfl)) (hw _ (List.mem_of_getElem? (i := 77) rfl)) (hw _ (List.mem_of_getElem? (i := 3) rfl)) (hw _ (List.mem_of_getElem? (i := 79) rfl)) (notFace_of_selects (args := #[]) (mvT hZ (hw _ (List.mem_of_getElem? (i := 78) rfl)))) (by decide) (rmIs2 l Z a0 hw [] a68 a109 a33 s2 hh257 n0 Z257 G266 G267 (by rcases PP2 with h | h <;> simp [h.2]) ne_a68_a109) (W := 0) (by decide) (by decide) e257 (by rw [hml]; rfl) G262 [(.ref a33)] (lenOf pd2 rfl) rfl (S := []) rfl (Nat.le_of_eq rfl) (hb hby at_212) (q := 215) rfl (by decide) (by decide) (fun r413 T413 M413 X413 q413 => ?_)
                  obtain ⟨rfl, M413n, e413⟩ := q413
                  have N414 := Fr.app N257 M413n
                  dsimp only [Option.toList, List.cons_append, List.nil_append]
                  generalize hu415 : (own_r2 a68 a109 a33 s2) = u415
                  refine gIstore X413 hx (hb hby at_215) (q := 217) rfl (L' := #[.val (.int x0), .val (.int x1), .val (.int x2), .val (.int x3), .val (.int x4), .val (.ref a1), .val (.ref a156), .val (.int u168), .val (.int u186), .val (.int (2 : Int32)), .val (.int (1 : Int32)), .val (.int u415), .unset, .unset, .unset, .unset]) rfl ?_
                  refine gAload X413 hx (hb hby at_217) (q := 219) rfl rfl rfl ?_
                  refine gIload X413 hx (hb hby at_219) (q := 221) rfl rfl ?_
                  refine gIaload X413 hx hZ e413 G259 (hb hby at_221) (q := 222) rfl (show ¬ (((2 : Int32) : Int32) < 0 ∨ 4 ≤ ((2 : Int32) : Int32).toNatClampNeg) by decide) (v := .int v205) rfl ?_
                  refine gIstore X413 hx (hb hby at_222) (q := 224) rfl (L' := #[.val (.int x0), .val (.int x1), .val (.int x2), .val (.int x3), .val (.int x4), .val (.ref a1), .val (.ref a156), .val (.int u168), .val (.int u186), .val (.int (2 : Int32)), .val (.int (1 : Int32)), .val (.int u415), .val (.int v205), .unset, .unset, .unset]) rfl ?_
                  refine gIload X413 hx (hb hby at_224) (q := 226) rfl rfl ?_
                  have J226_418 : ∀ v417 : Int32, v417 = (if v205 < (0 : Int32) then (-1 : Int32) else (own_par v205 v170 v188 v205)) → Go p.tables e below (Done s (Q_rm0 Z x0 x1 x2 x3 x4 rd h0 n0) (room_1.cells) (room_1.slots)) (T413.setTop (mkF m 238 #[.val (.int x0), .val (.int x1), .val (.int x2), .val (.int x3), .val (.int x4), .val (.ref a1), .val (.ref a156), .val (.int u168), .val (.int u186), .val (.int (2 : Int32)), .val (.int (1 : Int32)), .val (.int u415), .val (.int v205), .unset, .unset, .unset] [(.int v417)])) := by
                    intro v417 hv417
                    refine gIstore X413 hx (hb hby at_238) (q := 240) rfl (L' := #[.val (.int x0), .val (.int x1), .val (.int x2), .val (.int x3), .val (.int x4), .val (.ref a1), .val (.ref a156), .val (.int u168), .val (.int u186), .val (.int (2 : Int32)), .val (.int (1 : Int32)), .val (.int u415), .val (.int v205), .val (.int v417), .unset, .unset]) rfl ?_
                    refine gIload X413 hx (hb hby at_240) (q := 242) rfl rfl ?_
                    have J242_421 : ∀ v420 : Int32, v420 = (if v417 < (0 : Int32) then (-1 : Int32) else (own_par v417 v170 v188 v205)) → Go p.tables e below (Done s (Q_rm0 Z x0 x1 x2 x3 x4 rd h0 n0) (room_1.cells) (room_1.slots)) (T413.setTop (mkF m 254 #[.val (.int x0), .val (.int x1), .val (.int x2), .val (.int x3), .val (.int x4), .val (.ref a1), .val (.ref a156), .val (.int u168), .val (.int u186), .val (.int (2 : Int32)), .val (.int (1 : Int32)), .val (.int u415), .val (.int v205), .val (.int v417), .unset, .unset] [(.int v420)])) := by
                      intro v420 hv420
                      refine gIstore X413 hx (hb hby at_254) (q := 256) rfl (L' := #[.val (.int x0), .val (.int x1), .val (.int x2), .val (.int x3), .val (.int x4), .val (.ref a1), .val (.ref a156), .val (.int u168), .val (.int u186), .val (.int (2 : Int32)), .val (.int (1 : Int32)), .val (.int u415), .val (.int v205), .val (.int v417), .val (.int v420), .unset]) rfl ?_
                      refine gIload X413 hx (hb hby at_256) (q := 258) rfl rfl ?_
                      refine gIload X413 hx (hb hby at_258) (q := 260) rfl rfl ?_
                      refine gIcmpN X413 hx (hb hby at_260) (q := 263) rfl (XT.ii_eq_f (by decide)) ?_
                      refine gIload X413 hx (hb hby at_263) (q := 265) rfl rfl ?_
                      refine gIload X413 hx (hb hby at_265) (q := 267) rfl rfl ?_
                      have J267_424 : ∀ v423 : Int32, v423 = (if v205 = (1 : Int32) then (1 : Int32) else (if v417 = (1 : Int32) then (1 : Int32) else (if v420 = (1 : Int32) then (1 : Int32) else (0 : Int32)))) → Go p.tables e below (Done s (Q_rm0 Z x0 x1 x2 x3 x4 rd h0 n0) (room_1.cells) (room_1.slots)) (T413.setTop (mkF m 289 #[.val (.int x0), .val (.int x1), .val (.int x2), .val (.int x3), .val (.int x4), .val (.ref a1), .val (.ref a156), .val (.int u168), .val (.int u186), .val (.int (2 : Int32)), .val (.int (1 : Int32)), .val (.int u415), .val (.int v205), .val (.int v417), .val (.int v420), .unset] [(.int v423)])) := by
                        intro v423 hv423
                        refine gIstore X413 hx (hb hby at_289) (q := 291) rfl (L' := #[.val (.int x0), .val (.int x1), .val (.int x2), .val (.int x3), .val (.int x4), .val (.ref a1), .val (.ref a156), .val (.int u168), .val (.int u186), .val (.int (2 : Int32)), .val (.int (1 : Int32)), .val (.int u415), .val (.int v205), .val (.int v417), .val (.int v420), .val (.int v423)]) rfl ?_
                        refine gIload X413 hx (hb hby at_291) (q := 293) rfl rfl ?_
                        refine gIload X413 hx (hb hby at_293) (q := 295) rfl rfl ?_
                        have J295_427 : ∀ v426 : Int32, v426 = (if u415 = v423 then (1 : Int32) else (0 : Int32)) → Go p.tables e below (Done s (Q_rm0 Z x0 x1 x2 x3 x4 rd h0 n0) (room_1.cells) (room_1.slots)) (T413.setTop (mkF m 303 #[.val (.int x0), .val (.int x1), .val (.int x2), .val (.int x3), .val (.int x4), .val (.ref a1), .val (.ref a156), .val (.int u168), .val (.int u186), .val (.int (2 : Int32)), .val (.int (1 : Int32)), .val (.int u415), .val (.int v205), .val (.int v417), .val (.int v420), .val (.int v423)] [(.int v426)])) := by
                          intro v426 hv426
                          have hone : v426 = 1 := own_law10 x0 x1 x2 x3 x4 v170 v188 v205 a4 a33 a68 a109 s0 s1 s2 u168 hu168 u186 hu186 u415 hu415 v417 hv417 v420 hv420 v423 hv423 v426 hv426 PP0 PP1 PP2 ne_a4_a33 ne_a4_a68 ne_a4_a109 ne_a33_a68 ne_a33_a109 ne_a68_a109
                          exact gRetZ X413 hx hlk hret (hb hby at_303) (by decide) (by decide) (Or.inr hone) ⟨by rw [hone], N414⟩
                        by_cases c425 : u415 = v423
                        · refine gIcmpN X413 hx (hb hby at_295) (q := 298) rfl (XT.ii_ne_f c425) ?_
                          refine gIconst X413 hx (1 : Int32) (hb hby at_298) (q := 299) rfl (by decide) ?_
                          refine gGoto X413 hx (hb hby at_299) (q := 303) (by decide) (by decide) ?_
                          exact J295_427 _ (by first | rfl | (rw [if_pos c425]; done) | (simp only [if_pos c425]; done) | (simp only [if_pos c425]; done) | (simp only [if_pos c425, if_true, if_false]; done) | (exfalso; simp at c425; done))
                        · refine gIcmpY X413 hx (hb hby at_295) (q := 302) (by decide) (by decide) (XT.ii_ne_t c425) ?_
                          refine gIconst X413 hx (0 : Int32) (hb hby at_302) (q := 303) rfl (by decide) ?_
                          exact J295_427 _ (by first | rfl | (rw [if_neg c425]; done) | (simp only [if_neg c425]; done) | (simp only [if_neg c425]; done) | (simp only [if_neg c425, if_true, if_false]; done) | (exfalso; simp at c425; done))
                      by_cases c422 : v205 = (1 : Int32)
                      · refine gIcmpY X413 hx (hb hby at_267) (q := 284) (by decide) (by decide) (XT.ii_eq_t c422) ?_
                        refine gIconst X413 hx (1 : Int32) (hb hby at_284) (q := 285) rfl (by decide) ?_
                        refine gGoto X413 hx (hb hby at_285) (q := 289) (by decide) (by decide) ?_
                        exact J267_424 _ (by first | rfl | (rw [if_pos c422]; done) | (simp only [if_pos c422]; done) | (simp only [if_pos c422]; done) | (simp only [if_pos c422, if_true, if_false]; done) | (exfalso; simp at c422; done))
                      · refine gIcmpN X413 hx (hb hby at_267) (q := 270) rfl (XT.ii_eq_f c422) ?_
                        refine gIload X413 hx (hb hby at_270) (q := 272) rfl rfl ?_
                        refine gIload X413 hx (hb hby at_272) (q := 274) rfl rfl ?_
                        by_cases c428 : v417 = (1 : Int32)
                        · refine gIcmpY X413 hx (hb hby at_274) (q := 284) (by decide) (by decide) (XT.ii_eq_t c428) ?_
                          refine gIconst X413 hx (1 : Int32) (hb hby at_284) (q := 285) rfl (by decide) ?_
                          refine gGoto X413 hx (hb hby at_285) (q := 289) (by decide) (by decide) ?_
                          exact J267_424 _ (by first | rfl | (rw [if_neg c422, if_pos c428]; done) | (simp only [if_neg c422, if_pos c428]; done) | (simp only [if_neg c422, if_pos c428]; done) | (simp only [if_neg c422, if_pos c428, if_true, if_false]; done) | (exfalso; simp at c428; done))
                        · refine gIcmpN X413 hx (hb hby at_274) (q := 277) rfl (XT.ii_eq_f c428) ?_
                          refine gIload X413 hx (hb hby at_277) (q := 279) rfl rfl ?_
                          refine gIload X413 hx (hb hby at_279) (q := 281) rfl rfl ?_
                          by_cases c429 : v420 = (1 : Int32)
                          · refine gIcmpN X413 hx (hb hby at_281) (q := 284) rfl (XT.ii_ne_f c429) ?_
                            refine gIconst X413 hx (1 : Int32) (hb hby at_284) (q := 285) rfl (by decide) ?_
                            refine gGoto X413 hx (hb hby at_285) (q := 289) (by decide) (by decide) ?_
                            exact J267_424 _ (by first | rfl | (rw [if_neg c422, if_neg c428, if_pos c429]; done) | (simp only [if_neg c422, if_neg c428, if_pos c429]; done) | (simp only [if_neg c422, if_neg c428, if_pos c429]; done) | (simp only [if_neg c422, if_neg c428, if_pos c429, if_true, if_false]; done) | (exfalso; simp at c429; done))
                          · refine gIcmpY X413 hx (hb hby at_281) (q := 288) (by decide) (by decide) (XT.ii_ne_t c429) ?_
                            refine gIconst X413 hx (0 : Int32) (hb hby at_288) (q := 289) rfl (by decide) ?_
                            exact J267_424 _ (by first | rfl | (rw [if_neg c422, if_neg c428, if_neg c429]; done) | (simp only [if_neg c422, if_neg c428, if_neg c429]; done) | (simp only [if_neg c422, if_neg c428, if_neg c429]; done) | (simp only [if_neg c422, if_neg c428, if_neg c429, if_true, if_false]; done) | (exfalso; simp at c429; done))
                    by_cases c419 : v417 < (0 : Int32)
                    · refine gIfY X413 hx (hb hby at_242) (q := 253) (by decide) (by decide) (XT.i0_lt_t c419) ?_
                      refine gIconst X413 hx (-1 : Int32) (hb hby at_253) (q := 254) rfl (by decide) ?_
                      exact J242_421 _ (by first | rfl | (rw [if_pos c419]; done) | (simp only [if_pos c419]; done) | (simp only [if_pos c419]; done) | (simp only [if_pos c419, if_true, if_false]; done) | (exfalso; simp at c419; done))
                    · refine gIfN X413 hx (hb hby at_242) (q := 245) rfl (XT.i0_lt_f c419) ?_
                      refine gAload X413 hx (hb hby at_245) (q := 247) rfl rfl rfl ?_
                      refine gIload X413 hx (hb hby at_247) (q := 249) rfl rfl ?_
                      have hix249 : v417 = 0 ∨ v417 = 1 ∨ v417 = 2 ∨ v417 = 3 := by
                        have hneg := c419
                        rw [hv417] at hneg ⊢
                        rcases ov0 with e0 | e0 | e0 | e0 <;> rcases ov1 with e1 | e1 | e1 <;> rcases ov2 with e2 | e2 <;> simp only [e0, e1, e2, own_par] at hneg ⊢ <;> revert hneg <;> decide
                      refine gIaload X413 hx hZ e413 G259 (hb hby at_249) (q := 250) rfl (own_parget v417 v170 v188 v205 hix249).1 (own_parget v417 v170 v188 v205 hix249).2 ?_
                      refine gGoto X413 hx (hb hby at_250) (q := 254) (by decide) (by decide) ?_
                      exact J242_421 _ (by first | rfl | (rw [if_neg c419]; done) | (simp only [if_neg c419]; done) | (simp only [if_neg c419]; done) | (simp only [if_neg c419, if_true, if_false]; done) | (exfalso; simp at c419; done))
                  by_cases c416 : v205 < (0 : Int32)
                  · refine gIfY X413 hx (hb hby at_226) (q := 237) (by decide) (by decide) (XT.i0_lt_t c416) ?_
                    refine gIconst X413 hx (-1 : Int32) (hb hby at_237) (q := 238) rfl (by decide) ?_
                    exact J226_418 _ (by first | rfl | (rw [if_pos c416]; done) | (simp only [if_pos c416]; done) | (simp only [if_pos c416]; done) | (simp only [if_pos c416, if_true, if_false]; done) | (exfalso; simp at c416; done))
                  · refine gIfN X413 hx (hb hby at_226) (q := 229) rfl (XT.i0_lt_f c416) ?_
                    refine gAload X413 hx (hb hby at_229) (q := 231) rfl rfl rfl ?_
                    refine gIload X413 hx (hb hby at_231) (q := 233) rfl rfl ?_
                    have hix233 : v205 = 0 ∨ v205 = 1 ∨ v205 = 2 ∨ v205 = 3 := by
                      have hneg := c416
                      rcases ov0 with e0 | e0 | e0 | e0 <;> rcases ov1 with e1 | e1 | e1 <;> rcases ov2 with e2 | e2 <;> simp only [e0, e1, e2, own_par] at hneg ⊢ <;> revert hneg <;> decide
                    refine gIaload X413 hx hZ e413 G259 (hb hby at_233) (q := 234) rfl (own_parget v205 v170 v188 v205 hix233).1 (own_parget v205 v170 v188 v205 hix233).2 ?_
                    refine gGoto X413 hx (hb hby at_234) (q := 238) (by decide) (by decide) ?_
                    exact J226_418 _ (by first | rfl | (rw [if_neg c416]; done) | (simp only [if_neg c416]; done) | (simp only [if_neg c416]; done) | (simp only [if_neg c416, if_true, if_false]; done) | (exfalso; simp at c416; done))
                · subst hj
                  refine gAaload X257 hx hZ e257 G258 rfl (hb hby at_211) (q := 212) rfl (show ¬ (((2 : Int32) : Int32) < 0 ∨ 4 ≤ ((2 : Int32) : Int32).toNatClampNeg) by decide) (v := .ref a68) rfl ?_
                  refine gCallV X257 hx hZ hown (hw _ (List.mem_of_getElem? (i := 75) rfl)) (hw _ (List.mem_of_getElem? (i := 76) rfl)) (hw _ (List.mem_of_getElem? (i := 78) rfl)) (hw _ (List.mem_of_getElem? (i := 77) rfl)) (hw _ (List.mem_of_getElem? (i := 3) rfl)) (hw _ (List.mem_of_getElem? (i := 79) rfl)) (notFace_of_selects (args := #[]) (mvT hZ (hw _ (List.mem_of_getElem? (i := 78) rfl)))) (by decide) (rmIs2 l Z a0 hw [] a68 a109 a68 s2 hh257 n0 Z257 G266 G267 (by rcases PP2 with h | h <;> simp [h.2]) ne_a68_a109) (W := 0) (by decide) (by decide) e257 (by rw [hml]; rfl) G262 [(.ref a68)] (lenOf pd2 rfl) rfl (S := []) rfl (Nat.le_of_eq rfl) (hb hby at_212) (q := 215) rfl (by decide) (by decide) (fun r430 T430 M430 X430 q430 => ?_)
                  obtain ⟨rfl, M430n, e430⟩ := q430
                  have N431 := Fr.app N257 M430n
                  dsimp only [Option.toList, List.cons_append, List.nil_append]
                  generalize hu432 : (own_r2 a68 a109 a68 s2) = u432
                  refine gIstore X430 hx (hb hby at_215) (q := 217) rfl (L' := #[.val (.int x0), .val (.int x1), .val (.int x2), .val (.int x3), .val (.int x4), .val (.ref a1), .val (.ref a156), .val (.int u168), .val (.int u186), .val (.int (2 : Int32)), .val (.int (2 : Int32)), .val (.int u432), .unset, .unset, .unset, .unset]) rfl ?_
                  refine gAload X430 hx (hb hby at_217) (q := 219) rfl rfl rfl ?_
                  refine gIload X430 hx (hb hby at_219) (q := 221) rfl rfl ?_
                  refine gIaload X430 hx hZ e430 G259 (hb hby at_221) (q := 222) rfl (show ¬ (((2 : Int32) : Int32) < 0 ∨ 4 ≤ ((2 : Int32) : Int32).toNatClampNeg) by decide) (v := .int v205) rfl ?_
                  refine gIstore X430 hx (hb hby at_222) (q := 224) rfl (L' := #[.val (.int x0), .val (.int x1), .val (.int x2), .val (.int x3), .val (.int x4), .val (.ref a1), .val (.ref a156), .val (.int u168), .val (.int u186), .val (.int (2 : Int32)), .val (.int (2 : Int32)), .val (.int u432), .val (.int v205), .unset, .unset, .unset]) rfl ?_
                  refine gIload X430 hx (hb hby at_224) (q := 226) rfl rfl ?_
                  have J226_435 : ∀ v434 : Int32, v434 = (if v205 < (0 : Int32) then (-1 : Int32) else (own_par v205 v170 v188 v205)) → Go p.tables e below (Done s (Q_rm0 Z x0 x1 x2 x3 x4 rd h0 n0) (room_1.cells) (room_1.slots)) (T430.setTop (mkF m 238 #[.val (.int x0), .val (.int x1), .val (.int x2), .val (.int x3), .val (.int x4), .val (.ref a1), .val (.ref a156), .val (.int u168), .val (.int u186), .val (.int (2 : Int32)), .val (.int (2 : Int32)), .val (.int u432), .val (.int v205), .unset, .unset, .unset] [(.int v434)])) := by
                    intro v434 hv434
                    refine gIstore X430 hx (hb hby at_238) (q := 240) rfl (L' := #[.val (.int x0), .val (.int x1), .val (.int x2), .val (.int x3), .val (.int x4), .val (.ref a1), .val (.ref a156), .val (.int u168), .val (.int u186), .val (.int (2 : Int32)), .val (.int (2 : Int32)), .val (.int u432), .val (.int v205), .val (.int v434), .unset, .unset]) rfl ?_
                    refine gIload X430 hx (hb hby at_240) (q := 242) rfl rfl ?_
                    have J242_438 : ∀ v437 : Int32, v437 = (if v434 < (0 : Int32) then (-1 : Int32) else (own_par v434 v170 v188 v205)) → Go p.tables e below (Done s (Q_rm0 Z x0 x1 x2 x3 x4 rd h0 n0) (room_1.cells) (room_1.slots)) (T430.setTop (mkF m 254 #[.val (.int x0), .val (.int x1), .val (.int x2), .val (.int x3), .val (.int x4), .val (.ref a1), .val (.ref a156), .val (.int u168), .val (.int u186), .val (.int (2 : Int32)), .val (.int (2 : Int32)), .val (.int u432), .val (.int v205), .val (.int v434), .unset, .unset] [(.int v437)])) := by
                      intro v437 hv437
                      refine gIstore X430 hx (hb hby at_254) (q := 256) rfl (L' := #[.val (.int x0), .val (.int x1), .val (.int x2), .val (.int x3), .val (.int x4), .val (.ref a1), .val (.ref a156), .val (.int u168), .val (.int u186), .val (.int (2 : Int32)), .val (.int (2 : Int32)), .val (.int u432), .val (.int v205), .val (.int v434), .val (.int v437), .unset]) rfl ?_
                      refine gIload X430 hx (hb hby at_256) (q := 258) rfl rfl ?_
                      refine gIload X430 hx (hb hby at_258) (q := 260) rfl rfl ?_
                      refine gIcmpY X430 hx (hb hby at_260) (q := 284) (by decide) (by decide) (XT.ii_eq_t (by decide)) ?_
                      refine gIconst X430 hx (1 : Int32) (hb hby at_284) (q := 285) rfl (by decide) ?_
                      refine gGoto X430 hx (hb hby at_285) (q := 289) (by decide) (by decide) ?_
                      refine gIstore X430 hx (hb hby at_289) (q := 291) rfl (L' := #[.val (.int x0), .val (.int x1), .val (.int x2), .val (.int x3), .val (.int x4), .val (.ref a1), .val (.ref a156), .val (.int u168), .val (.int u186), .val (.int (2 : Int32)), .val (.int (2 : Int32)), .val (.int u432), .val (.int v205), .val (.int v434), .val (.int v437), .val (.int (1 : Int32))]) rfl ?_
                      refine gIload X430 hx (hb hby at_291) (q := 293) rfl rfl ?_
                      refine gIload X430 hx (hb hby at_293) (q := 295) rfl rfl ?_
                      have J295_441 : ∀ v440 : Int32, v440 = (if u432 = (1 : Int32) then (1 : Int32) else (0 : Int32)) → Go p.tables e below (Done s (Q_rm0 Z x0 x1 x2 x3 x4 rd h0 n0) (room_1.cells) (room_1.slots)) (T430.setTop (mkF m 303 #[.val (.int x0), .val (.int x1), .val (.int x2), .val (.int x3), .val (.int x4), .val (.ref a1), .val (.ref a156), .val (.int u168), .val (.int u186), .val (.int (2 : Int32)), .val (.int (2 : Int32)), .val (.int u432), .val (.int v205), .val (.int v434), .val (.int v437), .val (.int (1 : Int32))] [(.int v440)])) := by
                        intro v440 hv440
                        have hone : v440 = 1 := own_law11 x0 x1 x2 x3 x4 v170 v188 v205 a4 a33 a68 a109 s0 s1 s2 u168 hu168 u186 hu186 u432 hu432 v434 hv434 v437 hv437 v440 hv440 PP0 PP1 PP2 ne_a4_a33 ne_a4_a68 ne_a4_a109 ne_a33_a68 ne_a33_a109 ne_a68_a109
                        exact gRetZ X430 hx hlk hret (hb hby at_303) (by decide) (by decide) (Or.inr hone) ⟨by rw [hone], N431⟩
                      by_cases c439 : u432 = (1 : Int32)
                      · refine gIcmpN X430 hx (hb hby at_295) (q := 298) rfl (XT.ii_ne_f c439) ?_
                        refine gIconst X430 hx (1 : Int32) (hb hby at_298) (q := 299) rfl (by decide) ?_
                        refine gGoto X430 hx (hb hby at_299) (q := 303) (by decide) (by decide) ?_
                        exact J295_441 _ (by first | rfl | (rw [if_pos c439]; done) | (simp only [if_pos c439]; done) | (simp only [if_pos c439]; done) | (simp only [if_pos c439, if_true, if_false]; done) | (exfalso; simp at c439; done))
                      · refine gIcmpY X430 hx (hb hby at_295) (q := 302) (by decide) (by decide) (XT.ii_ne_t c439) ?_
                        refine gIconst X430 hx (0 : Int32) (hb hby at_302) (q := 303) rfl (by decide) ?_
                        exact J295_441 _ (by first | rfl | (rw [if_neg c439]; done) | (simp only [if_neg c439]; done) | (simp only [if_neg c439]; done) | (simp only [if_neg c439, if_true, if_false]; done) | (exfalso; simp at c439; done))
                    by_cases c436 : v434 < (0 : Int32)
                    · refine gIfY X430 hx (hb hby at_242) (q := 253) (by decide) (by decide) (XT.i0_lt_t c436) ?_
                      refine gIconst X430 hx (-1 : Int32) (hb hby at_253) (q := 254) rfl (by decide) ?_
                      exact J242_438 _ (by first | rfl | (rw [if_pos c436]; done) | (simp only [if_pos c436]; done) | (simp only [if_pos c436]; done) | (simp only [if_pos c436, if_true, if_false]; done) | (exfalso; simp at c436; done))
                    · refine gIfN X430 hx (hb hby at_242) (q := 245) rfl (XT.i0_lt_f c436) ?_
                      refine gAload X430 hx (hb hby at_245) (q := 247) rfl rfl rfl ?_
                      refine gIload X430 hx (hb hby at_247) (q := 249) rfl rfl ?_
                      have hix249 : v434 = 0 ∨ v434 = 1 ∨ v434 = 2 ∨ v434 = 3 := by
                        have hneg := c436
                        rw [hv434] at hneg ⊢
                        rcases ov0 with e0 | e0 | e0 | e0 <;> rcases ov1 with e1 | e1 | e1 <;> rcases ov2 with e2 | e2 <;> simp only [e0, e1, e2, own_par] at hneg ⊢ <;> revert hneg <;> decide
                      refine gIaload X430 hx hZ e430 G259 (hb hby at_249) (q := 250) rfl (own_parget v434 v170 v188 v205 hix249).1 (own_parget v434 v170 v188 v205 hix249).2 ?_
                      refine gGoto X430 hx (hb hby at_250) (q := 254) (by decide) (by decide) ?_
                      exact J242_438 _ (by first | rfl | (rw [if_neg c436]; done) | (simp only [if_neg c436]; done) | (simp only [if_neg c436]; done) | (simp only [if_neg c436, if_true, if_false]; done) | (exfalso; simp at c436; done))
                  by_cases c433 : v205 < (0 : Int32)
                  · refine gIfY X430 hx (hb hby at_226) (q := 237) (by decide) (by decide) (XT.i0_lt_t c433) ?_
                    refine gIconst X430 hx (-1 : Int32) (hb hby at_237) (q := 238) rfl (by decide) ?_
                    exact J226_435 _ (by first | rfl | (rw [if_pos c433]; done) | (simp only [if_pos c433]; done) | (simp only [if_pos c433]; done) | (simp only [if_pos c433, if_true, if_false]; done) | (exfalso; simp at c433; done))
                  · refine gIfN X430 hx (hb hby at_226) (q := 229) rfl (XT.i0_lt_f c433) ?_
                    refine gAload X430 hx (hb hby at_229) (q := 231) rfl rfl rfl ?_
                    refine gIload X430 hx (hb hby at_231) (q := 233) rfl rfl ?_
                    have hix233 : v205 = 0 ∨ v205 = 1 ∨ v205 = 2 ∨ v205 = 3 := by
                      have hneg := c433
                      rcases ov0 with e0 | e0 | e0 | e0 <;> rcases ov1 with e1 | e1 | e1 <;> rcases ov2 with e2 | e2 <;> simp only [e0, e1, e2, own_par] at hneg ⊢ <;> revert hneg <;> decide
                    refine gIaload X430 hx hZ e430 G259 (hb hby at_233) (q := 234) rfl (own_parget v205 v170 v188 v205 hix233).1 (own_parget v205 v170 v188 v205 hix233).2 ?_
                    refine gGoto X430 hx (hb hby at_234) (q := 238) (by decide) (by decide) ?_
                    exact J226_435 _ (by first | rfl | (rw [if_neg c433]; done) | (simp only [if_neg c433]; done) | (simp only [if_neg c433]; done) | (simp only [if_neg c433, if_true, if_false]; done) | (exfalso; simp at c433; done))
                · subst hj
                  refine gAaload X257 hx hZ e257 G258 rfl (hb hby at_211) (q := 212) rfl (show ¬ (((3 : Int32) : Int32) < 0 ∨ 4 ≤ ((3 : Int32) : Int32).toNatClampNeg) by decide) (v := .ref a109) rfl ?_
                  refine gCallV X257 hx hZ hown (hw _ (List.mem_of_getElem? (i := 75) rfl)) (hw _ (List.mem_of_getElem? (i := 76) rfl)) (hw _ (List.mem_of_getElem? (i := 78) rfl)) (hw _ (List.mem_of_getElem? (i := 77) rfl)) (hw _ (List.mem_of_getElem? (i := 3) rfl)) (hw _ (List.mem_of_getElem? (i := 79) rfl)) (notFace_of_selects (args := #[]) (mvT hZ (hw _ (List.mem_of_getElem? (i := 78) rfl)))) (by decide) (rmIs2 l Z a0 hw [] a68 a109 a109 s2 hh257 n0 Z257 G266 G267 (by rcases PP2 with h | h <;> simp [h.2]) ne_a68_a109) (W := 0) (by decide) (by decide) e257 (by rw [hml]; rfl) G262 [(.ref a109)] (lenOf pd2 rfl) rfl (S := []) rfl (Nat.le_of_eq rfl) (hb hby at_212) (q := 215) rfl (by decide) (by decide) (fun r442 T442 M442 X442 q442 => ?_)
                  obtain ⟨rfl, M442n, e442⟩ := q442
                  have N443 := Fr.app N257 M442n
                  dsimp only [Option.toList, List.cons_append, List.nil_append]
                  generalize hu444 : (own_r2 a68 a109 a109 s2) = u444
                  refine gIstore X442 hx (hb hby at_215) (q := 217) rfl (L' := #[.val (.int x0), .val (.int x1), .val (.int x2), .val (.int x3), .val (.int x4), .val (.ref a1), .val (.ref a156), .val (.int u168), .val (.int u186), .val (.int (2 : Int32)), .val (.int (3 : Int32)), .val (.int u444), .unset, .unset, .unset, .unset]) rfl ?_
                  refine gAload X442 hx (hb hby at_217) (q := 219) rfl rfl rfl ?_
                  refine gIload X442 hx (hb hby at_219) (q := 221) rfl rfl ?_
                  refine gIaload X442 hx hZ e442 G259 (hb hby at_221) (q := 222) rfl (show ¬ (((2 : Int32) : Int32) < 0 ∨ 4 ≤ ((2 : Int32) : Int32).toNatClampNeg) by decide) (v := .int v205) rfl ?_
                  refine gIstore X442 hx (hb hby at_222) (q := 224) rfl (L' := #[.val (.int x0), .val (.int x1), .val (.int x2), .val (.int x3), .val (.int x4), .val (.ref a1), .val (.ref a156), .val (.int u168), .val (.int u186), .val (.int (2 : Int32)), .val (.int (3 : Int32)), .val (.int u444), .val (.int v205), .unset, .unset, .unset]) rfl ?_
                  refine gIload X442 hx (hb hby at_224) (q := 226) rfl rfl ?_
                  have J226_447 : ∀ v446 : Int32, v446 = (if v205 < (0 : Int32) then (-1 : Int32) else (own_par v205 v170 v188 v205)) → Go p.tables e below (Done s (Q_rm0 Z x0 x1 x2 x3 x4 rd h0 n0) (room_1.cells) (room_1.slots)) (T442.setTop (mkF m 238 #[.val (.int x0), .val (.int x1), .val (.int x2), .val (.int x3), .val (.int x4), .val (.ref a1), .val (.ref a156), .val (.int u168), .val (.int u186), .val (.int (2 : Int32)), .val (.int (3 : Int32)), .val (.int u444), .val (.int v205), .unset, .unset, .unset] [(.int v446)])) := by
                    intro v446 hv446
                    refine gIstore X442 hx (hb hby at_238) (q := 240) rfl (L' := #[.val (.int x0), .val (.int x1), .val (.int x2), .val (.int x3), .val (.int x4), .val (.ref a1), .val (.ref a156), .val (.int u168), .val (.int u186), .val (.int (2 : Int32)), .val (.int (3 : Int32)), .val (.int u444), .val (.int v205), .val (.int v446), .unset, .unset]) rfl ?_
                    refine gIload X442 hx (hb hby at_240) (q := 242) rfl rfl ?_
                    have J242_450 : ∀ v449 : Int32, v449 = (if v446 < (0 : Int32) then (-1 : Int32) else (own_par v446 v170 v188 v205)) → Go p.tables e below (Done s (Q_rm0 Z x0 x1 x2 x3 x4 rd h0 n0) (room_1.cells) (room_1.slots)) (T442.setTop (mkF m 254 #[.val (.int x0), .val (.int x1), .val (.int x2), .val (.int x3), .val (.int x4), .val (.ref a1), .val (.ref a156), .val (.int u168), .val (.int u186), .val (.int (2 : Int32)), .val (.int (3 : Int32)), .val (.int u444), .val (.int v205), .val (.int v446), .unset, .unset] [(.int v449)])) := by
                      intro v449 hv449
                      refine gIstore X442 hx (hb hby at_254) (q := 256) rfl (L' := #[.val (.int x0), .val (.int x1), .val (.int x2), .val (.int x3), .val (.int x4), .val (.ref a1), .val (.ref a156), .val (.int u168), .val (.int u186), .val (.int (2 : Int32)), .val (.int (3 : Int32)), .val (.int u444), .val (.int v205), .val (.int v446), .val (.int v449), .unset]) rfl ?_
                      refine gIload X442 hx (hb hby at_256) (q := 258) rfl rfl ?_
                      refine gIload X442 hx (hb hby at_258) (q := 260) rfl rfl ?_
                      refine gIcmpN X442 hx (hb hby at_260) (q := 263) rfl (XT.ii_eq_f (by decide)) ?_
                      refine gIload X442 hx (hb hby at_263) (q := 265) rfl rfl ?_
                      refine gIload X442 hx (hb hby at_265) (q := 267) rfl rfl ?_
                      have J267_453 : ∀ v452 : Int32, v452 = (if v205 = (3 : Int32) then (1 : Int32) else (if v446 = (3 : Int32) then (1 : Int32) else (if v449 = (3 : Int32) then (1 : Int32) else (0 : Int32)))) → Go p.tables e below (Done s (Q_rm0 Z x0 x1 x2 x3 x4 rd h0 n0) (room_1.cells) (room_1.slots)) (T442.setTop (mkF m 289 #[.val (.int x0), .val (.int x1), .val (.int x2), .val (.int x3), .val (.int x4), .val (.ref a1), .val (.ref a156), .val (.int u168), .val (.int u186), .val (.int (2 : Int32)), .val (.int (3 : Int32)), .val (.int u444), .val (.int v205), .val (.int v446), .val (.int v449), .unset] [(.int v452)])) := by
                        intro v452 hv452
                        refine gIstore X442 hx (hb hby at_289) (q := 291) rfl (L' := #[.val (.int x0), .val (.int x1), .val (.int x2), .val (.int x3), .val (.int x4), .val (.ref a1), .val (.ref a156), .val (.int u168), .val (.int u186), .val (.int (2 : Int32)), .val (.int (3 : Int32)), .val (.int u444), .val (.int v205), .val (.int v446), .val (.int v449), .val (.int v452)]) rfl ?_
                        refine gIload X442 hx (hb hby at_291) (q := 293) rfl rfl ?_
                        refine gIload X442 hx (hb hby at_293) (q := 295) rfl rfl ?_
                        have J295_456 : ∀ v455 : Int32, v455 = (if u444 = v452 then (1 : Int32) else (0 : Int32)) → Go p.tables e below (Done s (Q_rm0 Z x0 x1 x2 x3 x4 rd h0 n0) (room_1.cells) (room_1.slots)) (T442.setTop (mkF m 303 #[.val (.int x0), .val (.int x1), .val (.int x2), .val (.int x3), .val (.int x4), .val (.ref a1), .val (.ref a156), .val (.int u168), .val (.int u186), .val (.int (2 : Int32)), .val (.int (3 : Int32)), .val (.int u444), .val (.int v205), .val (.int v446), .val (.int v449), .val (.int v452)] [(.int v455)])) := by
                          intro v455 hv455
                          have hone : v455 = 1 := own_law12 x0 x1 x2 x3 x4 v170 v188 v205 a4 a33 a68 a109 s0 s1 s2 u168 hu168 u186 hu186 u444 hu444 v446 hv446 v449 hv449 v452 hv452 v455 hv455 PP0 PP1 PP2 ne_a4_a33 ne_a4_a68 ne_a4_a109 ne_a33_a68 ne_a33_a109 ne_a68_a109
                          exact gRetZ X442 hx hlk hret (hb hby at_303) (by decide) (by decide) (Or.inr hone) ⟨by rw [hone], N443⟩
                        by_cases c454 : u444 = v452
                        · refine gIcmpN X442 hx (hb hby at_295) (q := 298) rfl (XT.ii_ne_f c454) ?_
                          refine gIconst X442 hx (1 : Int32) (hb hby at_298) (q := 299) rfl (by decide) ?_
                          refine gGoto X442 hx (hb hby at_299) (q := 303) (by decide) (by decide) ?_
                          exact J295_456 _ (by first | rfl | (rw [if_pos c454]; done) | (simp only [if_pos c454]; done) | (simp only [if_pos c454]; done) | (simp only [if_pos c454, if_true, if_false]; done) | (exfalso; simp at c454; done))
                        · refine gIcmpY X442 hx (hb hby at_295) (q := 302) (by decide) (by decide) (XT.ii_ne_t c454) ?_
                          refine gIconst X442 hx (0 : Int32) (hb hby at_302) (q := 303) rfl (by decide) ?_
                          exact J295_456 _ (by first | rfl | (rw [if_neg c454]; done) | (simp only [if_neg c454]; done) | (simp only [if_neg c454]; done) | (simp only [if_neg c454, if_true, if_false]; done) | (exfalso; simp at c454; done))
                      by_cases c451 : v205 = (3 : Int32)
                      · refine gIcmpY X442 hx (hb hby at_267) (q := 284) (by decide) (by decide) (XT.ii_eq_t c451) ?_
                        refine gIconst X442 hx (1 : Int32) (hb hby at_284) (q := 285) rfl (by decide) ?_
                        refine gGoto X442 hx (hb hby at_285) (q := 289) (by decide) (by decide) ?_
                        exact J267_453 _ (by first | rfl | (rw [if_pos c451]; done) | (simp only [if_pos c451]; done) | (simp only [if_pos c451]; done) | (simp only [if_pos c451, if_true, if_false]; done) | (exfalso; simp at c451; done))
                      · refine gIcmpN X442 hx (hb hby at_267) (q := 270) rfl (XT.ii_eq_f c451) ?_
                        refine gIload X442 hx (hb hby at_270) (q := 272) rfl rfl ?_
                        refine gIload X442 hx (hb hby at_272) (q := 274) rfl rfl ?_
                        by_cases c457 : v446 = (3 : Int32)
                        · refine gIcmpY X442 hx (hb hby at_274) (q := 284) (by decide) (by decide) (XT.ii_eq_t c457) ?_
                          refine gIconst X442 hx (1 : Int32) (hb hby at_284) (q := 285) rfl (by decide) ?_
                          refine gGoto X442 hx (hb hby at_285) (q := 289) (by decide) (by decide) ?_
                          exact J267_453 _ (by first | rfl | (rw [if_neg c451, if_pos c457]; done) | (simp only [if_neg c451, if_pos c457]; done) | (simp only [if_neg c451, if_pos c457]; done) | (simp only [if_neg c451, if_pos c457, if_true, if_false]; done) | (exfalso; simp at c457; done))
                        · refine gIcmpN X442 hx (hb hby at_274) (q := 277) rfl (XT.ii_eq_f c457) ?_
                          refine gIload X442 hx (hb hby at_277) (q := 279) rfl rfl ?_
                          refine gIload X442 hx (hb hby at_279) (q := 281) rfl rfl ?_
                          by_cases c458 : v449 = (3 : Int32)
                          · refine gIcmpN X442 hx (hb hby at_281) (q := 284) rfl (XT.ii_ne_f c458) ?_
                            refine gIconst X442 hx (1 : Int32) (hb hby at_284) (q := 285) rfl (by decide) ?_
                            refine gGoto X442 hx (hb hby at_285) (q := 289) (by decide) (by decide) ?_
                            exact J267_453 _ (by first | rfl | (rw [if_neg c451, if_neg c457, if_pos c458]; done) | (simp only [if_neg c451, if_neg c457, if_pos c458]; done) | (simp only [if_neg c451, if_neg c457, if_pos c458]; done) | (simp only [if_neg c451, if_neg c457, if_pos c458, if_true, if_false]; done) | (exfalso; simp at c458; done))
                          · refine gIcmpY X442 hx (hb hby at_281) (q := 288) (by decide) (by decide) (XT.ii_ne_t c458) ?_
                            refine gIconst X442 hx (0 : Int32) (hb hby at_288) (q := 289) rfl (by decide) ?_
                            exact J267_453 _ (by first | rfl | (rw [if_neg c451, if_neg c457, if_neg c458]; done) | (simp only [if_neg c451, if_neg c457, if_neg c458]; done) | (simp only [if_neg c451, if_neg c457, if_neg c458]; done) | (simp only [if_neg c451, if_neg c457, if_neg c458, if_true, if_false]; done) | (exfalso; simp at c458; done))
                    by_cases c448 : v446 < (0 : Int32)
                    · refine gIfY X442 hx (hb hby at_242) (q := 253) (by decide) (by decide) (XT.i0_lt_t c448) ?_
                      refine gIconst X442 hx (-1 : Int32) (hb hby at_253) (q := 254) rfl (by decide) ?_
                      exact J242_450 _ (by first | rfl | (rw [if_pos c448]; done) | (simp only [if_pos c448]; done) | (simp only [if_pos c448]; done) | (simp only [if_pos c448, if_true, if_false]; done) | (exfalso; simp at c448; done))
                    · refine gIfN X442 hx (hb hby at_242) (q := 245) rfl (XT.i0_lt_f c448) ?_
                      refine gAload X442 hx (hb hby at_245) (q := 247) rfl rfl rfl ?_
                      refine gIload X442 hx (hb hby at_247) (q := 249) rfl rfl ?_
                      have hix249 : v446 = 0 ∨ v446 = 1 ∨ v446 = 2 ∨ v446 = 3 := by
                        have hneg := c448
                        rw [hv446] at hneg ⊢
                        rcases ov0 with e0 | e0 | e0 | e0 <;> rcases ov1 with e1 | e1 | e1 <;> rcases ov2 with e2 | e2 <;> simp only [e0, e1, e2, own_par] at hneg ⊢ <;> revert hneg <;> decide
                      refine gIaload X442 hx hZ e442 G259 (hb hby at_249) (q := 250) rfl (own_parget v446 v170 v188 v205 hix249).1 (own_parget v446 v170 v188 v205 hix249).2 ?_
                      refine gGoto X442 hx (hb hby at_250) (q := 254) (by decide) (by decide) ?_
                      exact J242_450 _ (by first | rfl | (rw [if_neg c448]; done) | (simp only [if_neg c448]; done) | (simp only [if_neg c448]; done) | (simp only [if_neg c448, if_true, if_false]; done) | (exfalso; simp at c448; done))
                  by_cases c445 : v205 < (0 : Int32)
                  · refine gIfY X442 hx (hb hby at_226) (q := 237) (by decide) (by decide) (XT.i0_lt_t c445) ?_
                    refine gIconst X442 hx (-1 : Int32) (hb hby at_237) (q := 238) rfl (by decide) ?_
                    exact J226_447 _ (by first | rfl | (rw [if_pos c445]; done) | (simp only [if_pos c445]; done) | (simp only [if_pos c445]; done) | (simp only [if_pos c445, if_true, if_false]; done) | (exfalso; simp at c445; done))
                  · refine gIfN X442 hx (hb hby at_226) (q := 229) rfl (XT.i0_lt_f c445) ?_
                    refine gAload X442 hx (hb hby at_229) (q := 231) rfl rfl rfl ?_
                    refine gIload X442 hx (hb hby at_231) (q := 233) rfl rfl ?_
                    have hix233 : v205 = 0 ∨ v205 = 1 ∨ v205 = 2 ∨ v205 = 3 := by
                      have hneg := c445
                      rcases ov0 with e0 | e0 | e0 | e0 <;> rcases ov1 with e1 | e1 | e1 <;> rcases ov2 with e2 | e2 <;> simp only [e0, e1, e2, own_par] at hneg ⊢ <;> revert hneg <;> decide
                    refine gIaload X442 hx hZ e442 G259 (hb hby at_233) (q := 234) rfl (own_parget v205 v170 v188 v205 hix233).1 (own_parget v205 v170 v188 v205 hix233).2 ?_
                    refine gGoto X442 hx (hb hby at_234) (q := 238) (by decide) (by decide) ?_
                    exact J226_447 _ (by first | rfl | (rw [if_neg c445]; done) | (simp only [if_neg c445]; done) | (simp only [if_neg c445]; done) | (simp only [if_neg c445, if_true, if_false]; done) | (exfalso; simp at c445; done))
              · subst hi
                refine gAaload X257 hx hZ e257 G258 rfl (hb hby at_206) (q := 207) rfl (show ¬ (((3 : Int32) : Int32) < 0 ∨ 4 ≤ ((3 : Int32) : Int32).toNatClampNeg) by decide) (v := .ref a109) rfl ?_
                refine gAload X257 hx (hb hby at_207) (q := 209) rfl rfl rfl ?_
                refine gIload X257 hx (hb hby at_209) (q := 211) rfl rfl ?_
                have oj := own_m3 x4
                rw [hu269] at oj
                rcases oj with hj | hj | hj | hj
                · subst hj
                  refine gAaload X257 hx hZ e257 G258 rfl (hb hby at_211) (q := 212) rfl (show ¬ (((0 : Int32) : Int32) < 0 ∨ 4 ≤ ((0 : Int32) : Int32).toNatClampNeg) by decide) (v := .ref a4) rfl ?_
                  refine gCallV X257 hx hZ hown (hw _ (List.mem_of_getElem? (i := 75) rfl)) (hw _ (List.mem_of_getElem? (i := 76) rfl)) (hw _ (List.mem_of_getElem? (i := 78) rfl)) (hw _ (List.mem_of_getElem? (i := 77) rfl)) (hw _ (List.mem_of_getElem? (i := 3) rfl)) (hw _ (List.mem_of_getElem? (i := 79) rfl)) (notFace_of_selects (args := #[]) (mvT hZ (hw _ (List.mem_of_getElem? (i := 78) rfl)))) (by decide) (rmIs3 l Z a0 hw [] a109 a4  hh257 n0 Z257 G267  ) (W := 0) (by decide) (by decide) e257 (by rw [hml]; rfl) G263 [(.ref a4)] (lenOf pd2 rfl) rfl (S := []) rfl (Nat.le_of_eq rfl) (hb hby at_212) (q := 215) rfl (by decide) (by decide) (fun r459 T459 M459 X459 q459 => ?_)
                  obtain ⟨rfl, M459n, e459⟩ := q459
                  have N460 := Fr.app N257 M459n
                  dsimp only [Option.toList, List.cons_append, List.nil_append]
                  generalize hu461 : (own_r3 a109 a4 ) = u461
                  refine gIstore X459 hx (hb hby at_215) (q := 217) rfl (L' := #[.val (.int x0), .val (.int x1), .val (.int x2), .val (.int x3), .val (.int x4), .val (.ref a1), .val (.ref a156), .val (.int u168), .val (.int u186), .val (.int (3 : Int32)), .val (.int (0 : Int32)), .val (.int u461), .unset, .unset, .unset, .unset]) rfl ?_
                  refine gAload X459 hx (hb hby at_217) (q := 219) rfl rfl rfl ?_
                  refine gIload X459 hx (hb hby at_219) (q := 221) rfl rfl ?_
                  refine gIaload X459 hx hZ e459 G259 (hb hby at_221) (q := 222) rfl (show ¬ (((3 : Int32) : Int32) < 0 ∨ 4 ≤ ((3 : Int32) : Int32).toNatClampNeg) by decide) (v := .int (-1 : Int32)) rfl ?_
                  refine gIstore X459 hx (hb hby at_222) (q := 224) rfl (L' := #[.val (.int x0), .val (.int x1), .val (.int x2), .val (.int x3), .val (.int x4), .val (.ref a1), .val (.ref a156), .val (.int u168), .val (.int u186), .val (.int (3 : Int32)), .val (.int (0 : Int32)), .val (.int u461), .val (.int (-1 : Int32)), .unset, .unset, .unset]) rfl ?_
                  refine gIload X459 hx (hb hby at_224) (q := 226) rfl rfl ?_
                  refine gIfY X459 hx (hb hby at_226) (q := 237) (by decide) (by decide) (XT.i0_lt_t (by decide)) ?_
                  refine gIconst X459 hx (-1 : Int32) (hb hby at_237) (q := 238) rfl (by decide) ?_
                  refine gIstore X459 hx (hb hby at_238) (q := 240) rfl (L' := #[.val (.int x0), .val (.int x1), .val (.int x2), .val (.int x3), .val (.int x4), .val (.ref a1), .val (.ref a156), .val (.int u168), .val (.int u186), .val (.int (3 : Int32)), .val (.int (0 : Int32)), .val (.int u461), .val (.int (-1 : Int32)), .val (.int (-1 : Int32)), .unset, .unset]) rfl ?_
                  refine gIload X459 hx (hb hby at_240) (q := 242) rfl rfl ?_
                  refine gIfY X459 hx (hb hby at_242) (q := 253) (by decide) (by decide) (XT.i0_lt_t (by decide)) ?_
                  refine gIconst X459 hx (-1 : Int32) (hb hby at_253) (q := 254) rfl (by decide) ?_
                  refine gIstore X459 hx (hb hby at_254) (q := 256) rfl (L' := #[.val (.int x0), .val (.int x1), .val (.int x2), .val (.int x3), .val (.int x4), .val (.ref a1), .val (.ref a156), .val (.int u168), .val (.int u186), .val (.int (3 : Int32)), .val (.int (0 : Int32)), .val (.int u461), .val (.int (-1 : Int32)), .val (.int (-1 : Int32)), .val (.int (-1 : Int32)), .unset]) rfl ?_
                  refine gIload X459 hx (hb hby at_256) (q := 258) rfl rfl ?_
                  refine gIload X459 hx (hb hby at_258) (q := 260) rfl rfl ?_
                  refine gIcmpN X459 hx (hb hby at_260) (q := 263) rfl (XT.ii_eq_f (by decide)) ?_
                  refine gIload X459 hx (hb hby at_263) (q := 265) rfl rfl ?_
                  refine gIload X459 hx (hb hby at_265) (q := 267) rfl rfl ?_
                  refine gIcmpN X459 hx (hb hby at_267) (q := 270) rfl (XT.ii_eq_f (by decide)) ?_
                  refine gIload X459 hx (hb hby at_270) (q := 272) rfl rfl ?_
                  refine gIload X459 hx (hb hby at_272) (q := 274) rfl rfl ?_
                  refine gIcmpN X459 hx (hb hby at_274) (q := 277) rfl (XT.ii_eq_f (by decide)) ?_
                  refine gIload X459 hx (hb hby at_277) (q := 279) rfl rfl ?_
                  refine gIload X459 hx (hb hby at_279) (q := 281) rfl rfl ?_
                  refine gIcmpY X459 hx (hb hby at_281) (q := 288) (by decide) (by decide) (XT.ii_ne_t (by decide)) ?_
                  refine gIconst X459 hx (0 : Int32) (hb hby at_288) (q := 289) rfl (by decide) ?_
                  refine gIstore X459 hx (hb hby at_289) (q := 291) rfl (L' := #[.val (.int x0), .val (.int x1), .val (.int x2), .val (.int x3), .val (.int x4), .val (.ref a1), .val (.ref a156), .val (.int u168), .val (.int u186), .val (.int (3 : Int32)), .val (.int (0 : Int32)), .val (.int u461), .val (.int (-1 : Int32)), .val (.int (-1 : Int32)), .val (.int (-1 : Int32)), .val (.int (0 : Int32))]) rfl ?_
                  refine gIload X459 hx (hb hby at_291) (q := 293) rfl rfl ?_
                  refine gIload X459 hx (hb hby at_293) (q := 295) rfl rfl ?_
                  have J295_464 : ∀ v463 : Int32, v463 = (if u461 = (0 : Int32) then (1 : Int32) else (0 : Int32)) → Go p.tables e below (Done s (Q_rm0 Z x0 x1 x2 x3 x4 rd h0 n0) (room_1.cells) (room_1.slots)) (T459.setTop (mkF m 303 #[.val (.int x0), .val (.int x1), .val (.int x2), .val (.int x3), .val (.int x4), .val (.ref a1), .val (.ref a156), .val (.int u168), .val (.int u186), .val (.int (3 : Int32)), .val (.int (0 : Int32)), .val (.int u461), .val (.int (-1 : Int32)), .val (.int (-1 : Int32)), .val (.int (-1 : Int32)), .val (.int (0 : Int32))] [(.int v463)])) := by
                    intro v463 hv463
                    have hone : v463 = 1 := own_law13 x0 x1 x2 x3 x4 v170 v188 v205 a4 a33 a68 a109 s0 s1 s2 u168 hu168 u186 hu186 u461 hu461 v463 hv463 PP0 PP1 PP2 ne_a4_a33 ne_a4_a68 ne_a4_a109 ne_a33_a68 ne_a33_a109 ne_a68_a109
                    exact gRetZ X459 hx hlk hret (hb hby at_303) (by decide) (by decide) (Or.inr hone) ⟨by rw [hone], N460⟩
                  by_cases c462 : u461 = (0 : Int32)
                  · refine gIcmpN X459 hx (hb hby at_295) (q := 298) rfl (XT.ii_ne_f c462) ?_
                    refine gIconst X459 hx (1 : Int32) (hb hby at_298) (q := 299) rfl (by decide) ?_
                    refine gGoto X459 hx (hb hby at_299) (q := 303) (by decide) (by decide) ?_
                    exact J295_464 _ (by first | rfl | (rw [if_pos c462]; done) | (simp only [if_pos c462]; done) | (simp only [if_pos c462]; done) | (simp only [if_pos c462, if_true, if_false]; done) | (exfalso; simp at c462; done))
                  · refine gIcmpY X459 hx (hb hby at_295) (q := 302) (by decide) (by decide) (XT.ii_ne_t c462) ?_
                    refine gIconst X459 hx (0 : Int32) (hb hby at_302) (q := 303) rfl (by decide) ?_
                    exact J295_464 _ (by first | rfl | (rw [if_neg c462]; done) | (simp only [if_neg c462]; done) | (simp only [if_neg c462]; done) | (simp only [if_neg c462, if_true, if_false]; done) | (exfalso; simp at c462; done))
                · subst hj
                  refine gAaload X257 hx hZ e257 G258 rfl (hb hby at_211) (q := 212) rfl (show ¬ (((1 : Int32) : Int32) < 0 ∨ 4 ≤ ((1 : Int32) : Int32).toNatClampNeg) by decide) (v := .ref a33) rfl ?_
                  refine gCallV X257 hx hZ hown (hw _ (List.mem_of_getElem? (i := 75) rfl)) (hw _ (List.mem_of_getElem? (i := 76) rfl)) (hw _ (List.mem_of_getElem? (i := 78) rfl)) (hw _ (List.mem_of_getElem? (i := 77) rfl)) (hw _ (List.mem_of_getElem? (i := 3) rfl)) (hw _ (List.mem_of_getElem? (i := 79) rfl)) (notFace_of_selects (args := #[]) (mvT hZ (hw _ (List.mem_of_getElem? (i := 78) rfl)))) (by decide) (rmIs3 l Z a0 hw [] a109 a33  hh257 n0 Z257 G267  ) (W := 0) (by decide) (by decide) e257 (by rw [hml]; rfl) G263 [(.ref a33)] (lenOf pd2 rfl) rfl (S := []) rfl (Nat.le_of_eq rfl) (hb hby at_212) (q := 215) rfl (by decide) (by decide) (fun r465 T465 M465 X465 q465 => ?_)
                  obtain ⟨rfl, M465n, e465⟩ := q465
                  have N466 := Fr.app N257 M465n
                  dsimp only [Option.toList, List.cons_append, List.nil_append]
                  generalize hu467 : (own_r3 a109 a33 ) = u467
                  refine gIstore X465 hx (hb hby at_215) (q := 217) rfl (L' := #[.val (.int x0), .val (.int x1), .val (.int x2), .val (.int x3), .val (.int x4), .val (.ref a1), .val (.ref a156), .val (.int u168), .val (.int u186), .val (.int (3 : Int32)), .val (.int (1 : Int32)), .val (.int u467), .unset, .unset, .unset, .unset]) rfl ?_
                  refine gAload X465 hx (hb hby at_217) (q := 219) rfl rfl rfl ?_
                  refine gIload X465 hx (hb hby at_219) (q := 221) rfl rfl ?_
                  refine gIaload X465 hx hZ e465 G259 (hb hby at_221) (q := 222) rfl (show ¬ (((3 : Int32) : Int32) < 0 ∨ 4 ≤ ((3 : Int32) : Int32).toNatClampNeg) by decide) (v := .int (-1 : Int32)) rfl ?_
                  refine gIstore X465 hx (hb hby at_222) (q := 224) rfl (L' := #[.val (.int x0), .val (.int x1), .val (.int x2), .val (.int x3), .val (.int x4), .val (.ref a1), .val (.ref a156), .val (.int u168), .val (.int u186), .val (.int (3 : Int32)), .val (.int (1 : Int32)), .val (.int u467), .val (.int (-1 : Int32)), .unset, .unset, .unset]) rfl ?_
                  refine gIload X465 hx (hb hby at_224) (q := 226) rfl rfl ?_
                  refine gIfY X465 hx (hb hby at_226) (q := 237) (by decide) (by decide) (XT.i0_lt_t (by decide)) ?_
                  refine gIconst X465 hx (-1 : Int32) (hb hby at_237) (q := 238) rfl (by decide) ?_
                  refine gIstore X465 hx (hb hby at_238) (q := 240) rfl (L' := #[.val (.int x0), .val (.int x1), .val (.int x2), .val (.int x3), .val (.int x4), .val (.ref a1), .val (.ref a156), .val (.int u168), .val (.int u186), .val (.int (3 : Int32)), .val (.int (1 : Int32)), .val (.int u467), .val (.int (-1 : Int32)), .val (.int (-1 : Int32)), .unset, .unset]) rfl ?_
                  refine gIload X465 hx (hb hby at_240) (q := 242) rfl rfl ?_
                  refine gIfY X465 hx (hb hby at_242) (q := 253) (by decide) (by decide) (XT.i0_lt_t (by decide)) ?_
                  refine gIconst X465 hx (-1 : Int32) (hb hby at_253) (q := 254) rfl (by decide) ?_
                  refine gIstore X465 hx (hb hby at_254) (q := 256) rfl (L' := #[.val (.int x0), .val (.int x1), .val (.int x2), .val (.int x3), .val (.int x4), .val (.ref a1), .val (.ref a156), .val (.int u168), .val (.int u186), .val (.int (3 : Int32)), .val (.int (1 : Int32)), .val (.int u467), .val (.int (-1 : Int32)), .val (.int (-1 : Int32)), .val (.int (-1 : Int32)), .unset]) rfl ?_
                  refine gIload X465 hx (hb hby at_256) (q := 258) rfl rfl ?_
                  refine gIload X465 hx (hb hby at_258) (q := 260) rfl rfl ?_
                  refine gIcmpN X465 hx (hb hby at_260) (q := 263) rfl (XT.ii_eq_f (by decide)) ?_
                  refine gIload X465 hx (hb hby at_263) (q := 265) rfl rfl ?_
                  refine gIload X465 hx (hb hby at_265) (q := 267) rfl rfl ?_
                  refine gIcmpN X465 hx (hb hby at_267) (q := 270) rfl (XT.ii_eq_f (by decide)) ?_
                  refine gIload X465 hx (hb hby at_270) (q := 272) rfl rfl ?_
                  refine gIload X465 hx (hb hby at_272) (q := 274) rfl rfl ?_
                  refine gIcmpN X465 hx (hb hby at_274) (q := 277) rfl (XT.ii_eq_f (by decide)) ?_
                  refine gIload X465 hx (hb hby at_277) (q := 279) rfl rfl ?_
                  refine gIload X465 hx (hb hby at_279) (q := 281) rfl rfl ?_
                  refine gIcmpY X465 hx (hb hby at_281) (q := 288) (by decide) (by decide) (XT.ii_ne_t (by decide)) ?_
                  refine gIconst X465 hx (0 : Int32) (hb hby at_288) (q := 289) rfl (by decide) ?_
                  refine gIstore X465 hx (hb hby at_289) (q := 291) rfl (L' := #[.val (.int x0), .val (.int x1), .val (.int x2), .val (.int x3), .val (.int x4), .val (.ref a1), .val (.ref a156), .val (.int u168), .val (.int u186), .val (.int (3 : Int32)), .val (.int (1 : Int32)), .val (.int u467), .val (.int (-1 : Int32)), .val (.int (-1 : Int32)), .val (.int (-1 : Int32)), .val (.int (0 : Int32))]) rfl ?_
                  refine gIload X465 hx (hb hby at_291) (q := 293) rfl rfl ?_
                  refine gIload X465 hx (hb hby at_293) (q := 295) rfl rfl ?_
                  have J295_470 : ∀ v469 : Int32, v469 = (if u467 = (0 : Int32) then (1 : Int32) else (0 : Int32)) → Go p.tables e below (Done s (Q_rm0 Z x0 x1 x2 x3 x4 rd h0 n0) (room_1.cells) (room_1.slots)) (T465.setTop (mkF m 303 #[.val (.int x0), .val (.int x1), .val (.int x2), .val (.int x3), .val (.int x4), .val (.ref a1), .val (.ref a156), .val (.int u168), .val (.int u186), .val (.int (3 : Int32)), .val (.int (1 : Int32)), .val (.int u467), .val (.int (-1 : Int32)), .val (.int (-1 : Int32)), .val (.int (-1 : Int32)), .val (.int (0 : Int32))] [(.int v469)])) := by
                    intro v469 hv469
                    have hone : v469 = 1 := own_law14 x0 x1 x2 x3 x4 v170 v188 v205 a4 a33 a68 a109 s0 s1 s2 u168 hu168 u186 hu186 u467 hu467 v469 hv469 PP0 PP1 PP2 ne_a4_a33 ne_a4_a68 ne_a4_a109 ne_a33_a68 ne_a33_a109 ne_a68_a109
                    exact gRetZ X465 hx hlk hret (hb hby at_303) (by decide) (by decide) (Or.inr hone) ⟨by rw [hone], N466⟩
                  by_cases c468 : u467 = (0 : Int32)
                  · refine gIcmpN X465 hx (hb hby at_295) (q := 298) rfl (XT.ii_ne_f c468) ?_
                    refine gIconst X465 hx (1 : Int32) (hb hby at_298) (q := 299) rfl (by decide) ?_
                    refine gGoto X465 hx (hb hby at_299) (q := 303) (by decide) (by decide) ?_
                    exact J295_470 _ (by first | rfl | (rw [if_pos c468]; done) | (simp only [if_pos c468]; done) | (simp only [if_pos c468]; done) | (simp only [if_pos c468, if_true, if_false]; done) | (exfalso; simp at c468; done))
                  · refine gIcmpY X465 hx (hb hby at_295) (q := 302) (by decide) (by decide) (XT.ii_ne_t c468) ?_
                    refine gIconst X465 hx (0 : Int32) (hb hby at_302) (q := 303) rfl (by decide) ?_
                    exact J295_470 _ (by first | rfl | (rw [if_neg c468]; done) | (simp only [if_neg c468]; done) | (simp only [if_neg c468]; done) | (simp only [if_neg c468, if_true, if_false]; done) | (exfalso; simp at c468; done))
                · subst hj
                  refine gAaload X257 hx hZ e257 G258 rfl (hb hby at_211) (q := 212) rfl (show ¬ (((2 : Int32) : Int32) < 0 ∨ 4 ≤ ((2 : Int32) : Int32).toNatClampNeg) by decide) (v := .ref a68) rfl ?_
                  refine gCallV X257 hx hZ hown (hw _ (List.mem_of_getElem? (i := 75) rfl)) (hw _ (List.mem_of_getElem? (i := 76) rfl)) (hw _ (List.mem_of_getElem? (i := 78) rfl)) (hw _ (List.mem_of_getElem? (i := 77) rfl)) (hw _ (List.mem_of_getElem? (i := 3) rfl)) (hw _ (List.mem_of_getElem? (i := 79) rfl)) (notFace_of_selects (args := #[]) (mvT hZ (hw _ (List.mem_of_getElem? (i := 78) rfl)))) (by decide) (rmIs3 l Z a0 hw [] a109 a68  hh257 n0 Z257 G267  ) (W := 0) (by decide) (by decide) e257 (by rw [hml]; rfl) G263 [(.ref a68)] (lenOf pd2 rfl) rfl (S := []) rfl (Nat.le_of_eq rfl) (hb hby at_212) (q := 215) rfl (by decide) (by decide) (fun r471 T471 M471 X471 q471 => ?_)
                  obtain ⟨rfl, M471n, e471⟩ := q471
                  have N472 := Fr.app N257 M471n
                  dsimp only [Option.toList, List.cons_append, List.nil_append]
                  generalize hu473 : (own_r3 a109 a68 ) = u473
                  refine gIstore X471 hx (hb hby at_215) (q := 217) rfl (L' := #[.val (.int x0), .val (.int x1), .val (.int x2), .val (.int x3), .val (.int x4), .val (.ref a1), .val (.ref a156), .val (.int u168), .val (.int u186), .val (.int (3 : Int32)), .val (.int (2 : Int32)), .val (.int u473), .unset, .unset, .unset, .unset]) rfl ?_
                  refine gAload X471 hx (hb hby at_217) (q := 219) rfl rfl rfl ?_
                  refine gIload X471 hx (hb hby at_219) (q := 221) rfl rfl ?_
                  refine gIaload X471 hx hZ e471 G259 (hb hby at_221) (q := 222) rfl (show ¬ (((3 : Int32) : Int32) < 0 ∨ 4 ≤ ((3 : Int32) : Int32).toNatClampNeg) by decide) (v := .int (-1 : Int32)) rfl ?_
                  refine gIstore X471 hx (hb hby at_222) (q := 224) rfl (L' := #[.val (.int x0), .val (.int x1), .val (.int x2), .val (.int x3), .val (.int x4), .val (.ref a1), .val (.ref a156), .val (.int u168), .val (.int u186), .val (.int (3 : Int32)), .val (.int (2 : Int32)), .val (.int u473), .val (.int (-1 : Int32)), .unset, .unset, .unset]) rfl ?_
                  refine gIload X471 hx (hb hby at_224) (q := 226) rfl rfl ?_
                  refine gIfY X471 hx (hb hby at_226) (q := 237) (by decide) (by decide) (XT.i0_lt_t (by decide)) ?_
                  refine gIconst X471 hx (-1 : Int32) (hb hby at_237) (q := 238) rfl (by decide) ?_
                  refine gIstore X471 hx (hb hby at_238) (q := 240) rfl (L' := #[.val (.int x0), .val (.int x1), .val (.int x2), .val (.int x3), .val (.int x4), .val (.ref a1), .val (.ref a156), .val (.int u168), .val (.int u186), .val (.int (3 : Int32)), .val (.int (2 : Int32)), .val (.int u473), .val (.int (-1 : Int32)), .val (.int (-1 : Int32)), .unset, .unset]) rfl ?_
                  refine gIload X471 hx (hb hby at_240) (q := 242) rfl rfl ?_
                  refine gIfY X471 hx (hb hby at_242) (q := 253) (by decide) (by decide) (XT.i0_lt_t (by decide)) ?_
                  refine gIconst X471 hx (-1 : Int32) (hb hby at_253) (q := 254) rfl (by decide) ?_
                  refine gIstore X471 hx (hb hby at_254) (q := 256) rfl (L' := #[.val (.int x0), .val (.int x1), .val (.int x2), .val (.int x3), .val (.int x4), .val (.ref a1), .val (.ref a156), .val (.int u168), .val (.int u186), .val (.int (3 : Int32)), .val (.int (2 : Int32)), .val (.int u473), .val (.int (-1 : Int32)), .val (.int (-1 : Int32)), .val (.int (-1 : Int32)), .unset]) rfl ?_
                  refine gIload X471 hx (hb hby at_256) (q := 258) rfl rfl ?_
                  refine gIload X471 hx (hb hby at_258) (q := 260) rfl rfl ?_
                  refine gIcmpN X471 hx (hb hby at_260) (q := 263) rfl (XT.ii_eq_f (by decide)) ?_
                  refine gIload X471 hx (hb hby at_263) (q := 265) rfl rfl ?_
                  refine gIload X471 hx (hb hby at_265) (q := 267) rfl rfl ?_
                  refine gIcmpN X471 hx (hb hby at_267) (q := 270) rfl (XT.ii_eq_f (by decide)) ?_
                  refine gIload X471 hx (hb hby at_270) (q := 272) rfl rfl ?_
                  refine gIload X471 hx (hb hby at_272) (q := 274) rfl rfl ?_
                  refine gIcmpN X471 hx (hb hby at_274) (q := 277) rfl (XT.ii_eq_f (by decide)) ?_
                  refine gIload X471 hx (hb hby at_277) (q := 279) rfl rfl ?_
                  refine gIload X471 hx (hb hby at_279) (q := 281) rfl rfl ?_
                  refine gIcmpY X471 hx (hb hby at_281) (q := 288) (by decide) (by decide) (XT.ii_ne_t (by decide)) ?_
                  refine gIconst X471 hx (0 : Int32) (hb hby at_288) (q := 289) rfl (by decide) ?_
                  refine gIstore X471 hx (hb hby at_289) (q := 291) rfl (L' := #[.val (.int x0), .val (.int x1), .val (.int x2), .val (.int x3), .val (.int x4), .val (.ref a1), .val (.ref a156), .val (.int u168), .val (.int u186), .val (.int (3 : Int32)), .val (.int (2 : Int32)), .val (.int u473), .val (.int (-1 : Int32)), .val (.int (-1 : Int32)), .val (.int (-1 : Int32)), .val (.int (0 : Int32))]) rfl ?_
                  refine gIload X471 hx (hb hby at_291) (q := 293) rfl rfl ?_
                  refine gIload X471 hx (hb hby at_293) (q := 295) rfl rfl ?_
                  have J295_476 : ∀ v475 : Int32, v475 = (if u473 = (0 : Int32) then (1 : Int32) else (0 : Int32)) → Go p.tables e below (Done s (Q_rm0 Z x0 x1 x2 x3 x4 rd h0 n0) (room_1.cells) (room_1.slots)) (T471.setTop (mkF m 303 #[.val (.int x0), .val (.int x1), .val (.int x2), .val (.int x3), .val (.int x4), .val (.ref a1), .val (.ref a156), .val (.int u168), .val (.int u186), .val (.int (3 : Int32)), .val (.int (2 : Int32)), .val (.int u473), .val (.int (-1 : Int32)), .val (.int (-1 : Int32)), .val (.int (-1 : Int32)), .val (.int (0 : Int32))] [(.int v475)])) := by
                    intro v475 hv475
                    have hone : v475 = 1 := own_law15 x0 x1 x2 x3 x4 v170 v188 v205 a4 a33 a68 a109 s0 s1 s2 u168 hu168 u186 hu186 u473 hu473 v475 hv475 PP0 PP1 PP2 ne_a4_a33 ne_a4_a68 ne_a4_a109 ne_a33_a68 ne_a33_a109 ne_a68_a109
                    exact gRetZ X471 hx hlk hret (hb hby at_303) (by decide) (by decide) (Or.inr hone) ⟨by rw [hone], N472⟩
                  by_cases c474 : u473 = (0 : Int32)
                  · refine gIcmpN X471 hx (hb hby at_295) (q := 298) rfl (XT.ii_ne_f c474) ?_
                    refine gIconst X471 hx (1 : Int32) (hb hby at_298) (q := 299) rfl (by decide) ?_
                    refine gGoto X471 hx (hb hby at_299) (q := 303) (by decide) (by decide) ?_
                    exact J295_476 _ (by first | rfl | (rw [if_pos c474]; done) | (simp only [if_pos c474]; done) | (simp only [if_pos c474]; done) | (simp only [if_pos c474, if_true, if_false]; done) | (exfalso; simp at c474; done))
                  · refine gIcmpY X471 hx (hb hby at_295) (q := 302) (by decide) (by decide) (XT.ii_ne_t c474) ?_
                    refine gIconst X471 hx (0 : Int32) (hb hby at_302) (q := 303) rfl (by decide) ?_
                    exact J295_476 _ (by first | rfl | (rw [if_neg c474]; done) | (simp only [if_neg c474]; done) | (simp only [if_neg c474]; done) | (simp only [if_neg c474, if_true, if_false]; done) | (exfalso; simp at c474; done))
                · subst hj
                  refine gAaload X257 hx hZ e257 G258 rfl (hb hby at_211) (q := 212) rfl (show ¬ (((3 : Int32) : Int32) < 0 ∨ 4 ≤ ((3 : Int32) : Int32).toNatClampNeg) by decide) (v := .ref a109) rfl ?_
                  refine gCallV X257 hx hZ hown (hw _ (List.mem_of_getElem? (i := 75) rfl)) (hw _ (List.mem_of_getElem? (i := 76) rfl)) (hw _ (List.mem_of_getElem? (i := 78) rfl)) (hw _ (List.mem_of_getElem? (i := 77) rfl)) (hw _ (List.mem_of_getElem? (i := 3) rfl)) (hw _ (List.mem_of_getElem? (i := 79) rfl)) (notFace_of_selects (args := #[]) (mvT hZ (hw _ (List.mem_of_getElem? (i := 78) rfl)))) (by decide) (rmIs3 l Z a0 hw [] a109 a109  hh257 n0 Z257 G267  ) (W := 0) (by decide) (by decide) e257 (by rw [hml]; rfl) G263 [(.ref a109)] (lenOf pd2 rfl) rfl (S := []) rfl (Nat.le_of_eq rfl) (hb hby at_212) (q := 215) rfl (by decide) (by decide) (fun r477 T477 M477 X477 q477 => ?_)
                  obtain ⟨rfl, M477n, e477⟩ := q477
                  have N478 := Fr.app N257 M477n
                  dsimp only [Option.toList, List.cons_append, List.nil_append]
                  generalize hu479 : (own_r3 a109 a109 ) = u479
                  refine gIstore X477 hx (hb hby at_215) (q := 217) rfl (L' := #[.val (.int x0), .val (.int x1), .val (.int x2), .val (.int x3), .val (.int x4), .val (.ref a1), .val (.ref a156), .val (.int u168), .val (.int u186), .val (.int (3 : Int32)), .val (.int (3 : Int32)), .val (.int u479), .unset, .unset, .unset, .unset]) rfl ?_
                  refine gAload X477 hx (hb hby at_217) (q := 219) rfl rfl rfl ?_
                  refine gIload X477 hx (hb hby at_219) (q := 221) rfl rfl ?_
                  refine gIaload X477 hx hZ e477 G259 (hb hby at_221) (q := 222) rfl (show ¬ (((3 : Int32) : Int32) < 0 ∨ 4 ≤ ((3 : Int32) : Int32).toNatClampNeg) by decide) (v := .int (-1 : Int32)) rfl ?_
                  refine gIstore X477 hx (hb hby at_222) (q := 224) rfl (L' := #[.val (.int x0), .val (.int x1), .val (.int x2), .val (.int x3), .val (.int x4), .val (.ref a1), .val (.ref a156), .val (.int u168), .val (.int u186), .val (.int (3 : Int32)), .val (.int (3 : Int32)), .val (.int u479), .val (.int (-1 : Int32)), .unset, .unset, .unset]) rfl ?_
                  refine gIload X477 hx (hb hby at_224) (q := 226) rfl rfl ?_
                  refine gIfY X477 hx (hb hby at_226) (q := 237) (by decide) (by decide) (XT.i0_lt_t (by decide)) ?_
                  refine gIconst X477 hx (-1 : Int32) (hb hby at_237) (q := 238) rfl (by decide) ?_
                  refine gIstore X477 hx (hb hby at_238) (q := 240) rfl (L' := #[.val (.int x0), .val (.int x1), .val (.int x2), .val (.int x3), .val (.int x4), .val (.ref a1), .val (.ref a156), .val (.int u168), .val (.int u186), .val (.int (3 : Int32)), .val (.int (3 : Int32)), .val (.int u479), .val (.int (-1 : Int32)), .val (.int (-1 : Int32)), .unset, .unset]) rfl ?_
                  refine gIload X477 hx (hb hby at_240) (q := 242) rfl rfl ?_
                  refine gIfY X477 hx (hb hby at_242) (q := 253) (by decide) (by decide) (XT.i0_lt_t (by decide)) ?_
                  refine gIconst X477 hx (-1 : Int32) (hb hby at_253) (q := 254) rfl (by decide) ?_
                  refine gIstore X477 hx (hb hby at_254) (q := 256) rfl (L' := #[.val (.int x0), .val (.int x1), .val (.int x2), .val (.int x3), .val (.int x4), .val (.ref a1), .val (.ref a156), .val (.int u168), .val (.int u186), .val (.int (3 : Int32)), .val (.int (3 : Int32)), .val (.int u479), .val (.int (-1 : Int32)), .val (.int (-1 : Int32)), .val (.int (-1 : Int32)), .unset]) rfl ?_
                  refine gIload X477 hx (hb hby at_256) (q := 258) rfl rfl ?_
                  refine gIload X477 hx (hb hby at_258) (q := 260) rfl rfl ?_
                  refine gIcmpY X477 hx (hb hby at_260) (q := 284) (by decide) (by decide) (XT.ii_eq_t (by decide)) ?_
                  refine gIconst X477 hx (1 : Int32) (hb hby at_284) (q := 285) rfl (by decide) ?_
                  refine gGoto X477 hx (hb hby at_285) (q := 289) (by decide) (by decide) ?_
                  refine gIstore X477 hx (hb hby at_289) (q := 291) rfl (L' := #[.val (.int x0), .val (.int x1), .val (.int x2), .val (.int x3), .val (.int x4), .val (.ref a1), .val (.ref a156), .val (.int u168), .val (.int u186), .val (.int (3 : Int32)), .val (.int (3 : Int32)), .val (.int u479), .val (.int (-1 : Int32)), .val (.int (-1 : Int32)), .val (.int (-1 : Int32)), .val (.int (1 : Int32))]) rfl ?_
                  refine gIload X477 hx (hb hby at_291) (q := 293) rfl rfl ?_
                  refine gIload X477 hx (hb hby at_293) (q := 295) rfl rfl ?_
                  have J295_482 : ∀ v481 : Int32, v481 = (if u479 = (1 : Int32) then (1 : Int32) else (0 : Int32)) → Go p.tables e below (Done s (Q_rm0 Z x0 x1 x2 x3 x4 rd h0 n0) (room_1.cells) (room_1.slots)) (T477.setTop (mkF m 303 #[.val (.int x0), .val (.int x1), .val (.int x2), .val (.int x3), .val (.int x4), .val (.ref a1), .val (.ref a156), .val (.int u168), .val (.int u186), .val (.int (3 : Int32)), .val (.int (3 : Int32)), .val (.int u479), .val (.int (-1 : Int32)), .val (.int (-1 : Int32)), .val (.int (-1 : Int32)), .val (.int (1 : Int32))] [(.int v481)])) := by
                    intro v481 hv481
                    have hone : v481 = 1 := own_law16 x0 x1 x2 x3 x4 v170 v188 v205 a4 a33 a68 a109 s0 s1 s2 u168 hu168 u186 hu186 u479 hu479 v481 hv481 PP0 PP1 PP2 ne_a4_a33 ne_a4_a68 ne_a4_a109 ne_a33_a68 ne_a33_a109 ne_a68_a109
                    exact gRetZ X477 hx hlk hret (hb hby at_303) (by decide) (by decide) (Or.inr hone) ⟨by rw [hone], N478⟩
                  by_cases c480 : u479 = (1 : Int32)
                  · refine gIcmpN X477 hx (hb hby at_295) (q := 298) rfl (XT.ii_ne_f c480) ?_
                    refine gIconst X477 hx (1 : Int32) (hb hby at_298) (q := 299) rfl (by decide) ?_
                    refine gGoto X477 hx (hb hby at_299) (q := 303) (by decide) (by decide) ?_
                    exact J295_482 _ (by first | rfl | (rw [if_pos c480]; done) | (simp only [if_pos c480]; done) | (simp only [if_pos c480]; done) | (simp only [if_pos c480, if_true, if_false]; done) | (exfalso; simp at c480; done))
                  · refine gIcmpY X477 hx (hb hby at_295) (q := 302) (by decide) (by decide) (XT.ii_ne_t c480) ?_
                    refine gIconst X477 hx (0 : Int32) (hb hby at_302) (q := 303) rfl (by decide) ?_
                    exact J295_482 _ (by first | rfl | (rw [if_neg c480]; done) | (simp only [if_neg c480]; done) | (simp only [if_neg c480]; done) | (simp only [if_neg c480, if_true, if_false]; done) | (exfalso; simp at c480; done))
            have hv2o := ov2
            rcases hv2o with hv2e | hv2e
            · refine gIfY X246 hx (hb hby at_174) (q := 191) (by decide) (by decide) (XT.i0_lt_t (by rw [hv2e]; decide)) ?_
              exact J174 T246 _ hh246 .null X246 e246 N246 Z246 O246 G247 G248 G249 G250 G251 G252 G253 G254 G255 G256 (Or.inl ⟨hv2e, rfl⟩)
            · subst hv2e
              refine gIfN X246 hx (hb hby at_174) (q := 177) rfl (by decide) ?_
              refine gAload X246 hx (hb hby at_177) (q := 179) rfl rfl rfl ?_
              refine gIconst X246 hx (2 : Int32) (hb hby at_179) (q := 180) rfl (by decide) ?_
              refine gAaload X246 hx hZ e246 G247 rfl (hb hby at_180) (q := 181) rfl (show ¬ (((2 : Int32) : Int32) < 0 ∨ 4 ≤ ((2 : Int32) : Int32).toNatClampNeg) by decide) (v := .ref a68) rfl ?_
              refine gAload X246 hx (hb hby at_181) (q := 183) rfl rfl rfl ?_
              refine gAload X246 hx (hb hby at_183) (q := 185) rfl rfl rfl ?_
              refine gIconst X246 hx (2 : Int32) (hb hby at_185) (q := 186) rfl (by decide) ?_
              refine gIaload X246 hx hZ e246 G248 (hb hby at_186) (q := 187) rfl (show ¬ (((2 : Int32) : Int32) < 0 ∨ 4 ≤ ((2 : Int32) : Int32).toNatClampNeg) by decide) (v := .int (3 : Int32)) rfl ?_
              refine gAaload X246 hx hZ e246 G247 rfl (hb hby at_187) (q := 188) rfl (show ¬ (((3 : Int32) : Int32) < 0 ∨ 4 ≤ ((3 : Int32) : Int32).toNatClampNeg) by decide) (v := .ref a109) rfl ?_
              refine gCallV X246 hx hZ hown (hw _ (List.mem_of_getElem? (i := 82) rfl)) (hw _ (List.mem_of_getElem? (i := 83) rfl)) (hw _ (List.mem_of_getElem? (i := 85) rfl)) (hw _ (List.mem_of_getElem? (i := 84) rfl)) (hw _ (List.mem_of_getElem? (i := 3) rfl)) (hw _ (List.mem_of_getElem? (i := 86) rfl)) (notFace_of_selects (args := #[]) (mvT hZ (hw _ (List.mem_of_getElem? (i := 85) rfl)))) (by decide) (rmExt l Z a0 hw [] a68 a109 hh246 n0 Z246 G255 G251 le_a68) (W := 0) (by decide) (by decide) e246 (by rw [hml]; rfl) G251 [(.ref a109)] (lenOf pd3 rfl) rfl (S := []) rfl (Nat.le_of_eq rfl) (hb hby at_188) (q := 191) rfl (by decide) (by decide) (fun r483 T483 M483 X483 q483 => ?_)
              obtain ⟨rfl, M483n, K483, P483e, P483s⟩ := q483
              have N484 := Fr.app N246 M483n
              have A485 := Ary.keep G247 K483 (ninS ne_a1_a68 nin0)
              have E486 := Exa.keep G249 K483
              have F487 := Fld.keep G253 K483 (ninS ne_a4_a68 nin0)
              have E488 := Exa.keep G250 K483
              have F489 := Fld.keep G254 K483 (ninS ne_a33_a68 nin0)
              have E490 := Exa.keep G252 K483
              have F491 := Fld.keep G256 K483 (ninS ne_a68_a109.symm nin0)
              have A492 := Ary.keep G248 K483 (ninS ne_a68_a156.symm nin0)
              have O493 := O246.keep K483 (allS le_a68 all0)
              have Z494 := Nat.le_trans Z246 K483.1
              dsimp only [Option.toList, List.cons_append, List.nil_append]
              exact J174 T483 _ T483.heap (.ref a109) X483 rfl N484 Z494 O493 A485 A492 E486 E488 P483e E490 F487 F489 P483s F491 (Or.inr ⟨rfl, rfl⟩)
          have hv1o := ov1
          rcases hv1o with hv1e | hv1e | hv1e
          · refine gIfY X235 hx (hb hby at_153) (q := 170) (by decide) (by decide) (XT.i0_lt_t (by rw [hv1e]; decide)) ?_
            exact J153 T235 _ hh235 .null X235 e235 N235 Z235 O235 G236 G237 G238 G239 G240 G241 G242 G243 G244 G245 (Or.inl ⟨hv1e, rfl⟩)
          · subst hv1e
            refine gIfN X235 hx (hb hby at_153) (q := 156) rfl (by decide) ?_
            refine gAload X235 hx (hb hby at_156) (q := 158) rfl rfl rfl ?_
            refine gIconst X235 hx (1 : Int32) (hb hby at_158) (q := 159) rfl (by decide) ?_
            refine gAaload X235 hx hZ e235 G236 rfl (hb hby at_159) (q := 160) rfl (show ¬ (((1 : Int32) : Int32) < 0 ∨ 4 ≤ ((1 : Int32) : Int32).toNatClampNeg) by decide) (v := .ref a33) rfl ?_
            refine gAload X235 hx (hb hby at_160) (q := 162) rfl rfl rfl ?_
            refine gAload X235 hx (hb hby at_162) (q := 164) rfl rfl rfl ?_
            refine gIconst X235 hx (1 : Int32) (hb hby at_164) (q := 165) rfl (by decide) ?_
            refine gIaload X235 hx hZ e235 G237 (hb hby at_165) (q := 166) rfl (show ¬ (((1 : Int32) : Int32) < 0 ∨ 4 ≤ ((1 : Int32) : Int32).toNatClampNeg) by decide) (v := .int (2 : Int32)) rfl ?_
            refine gAaload X235 hx hZ e235 G236 rfl (hb hby at_166) (q := 167) rfl (show ¬ (((2 : Int32) : Int32) < 0 ∨ 4 ≤ ((2 : Int32) : Int32).toNatClampNeg) by decide) (v := .ref a68) rfl ?_
            refine gCallV X235 hx hZ hown (hw _ (List.mem_of_getElem? (i := 82) rfl)) (hw _ (List.mem_of_getElem? (i := 83) rfl)) (hw _ (List.mem_of_getElem? (i := 85) rfl)) (hw _ (List.mem_of_getElem? (i := 84) rfl)) (hw _ (List.mem_of_getElem? (i := 3) rfl)) (hw _ (List.mem_of_getElem? (i := 86) rfl)) (notFace_of_selects (args := #[]) (mvT hZ (hw _ (List.mem_of_getElem? (i := 85) rfl)))) (by decide) (rmExt l Z a0 hw [] a33 a68 hh235 n0 Z235 G243 G239 le_a33) (W := 0) (by decide) (by decide) e235 (by rw [hml]; rfl) G239 [(.ref a68)] (lenOf pd3 rfl) rfl (S := []) rfl (Nat.le_of_eq rfl) (hb hby at_167) (q := 170) rfl (by decide) (by decide) (fun r495 T495 M495 X495 q495 => ?_)
            obtain ⟨rfl, M495n, K495, P495e, P495s⟩ := q495
            have N496 := Fr.app N235 M495n
            have A497 := Ary.keep G236 K495 (ninS ne_a1_a33 nin0)
            have E498 := Exa.keep G238 K495
            have F499 := Fld.keep G242 K495 (ninS ne_a4_a33 nin0)
            have E500 := Exa.keep G240 K495
            have F501 := Fld.keep G244 K495 (ninS ne_a33_a68.symm nin0)
            have E502 := Exa.keep G241 K495
            have F503 := Fld.keep G245 K495 (ninS ne_a33_a109.symm nin0)
            have A504 := Ary.keep G237 K495 (ninS ne_a33_a156.symm nin0)
            have O505 := O235.keep K495 (allS le_a33 all0)
            have Z506 := Nat.le_trans Z235 K495.1
            dsimp only [Option.toList, List.cons_append, List.nil_append]
            exact J153 T495 _ T495.heap (.ref a68) X495 rfl N496 Z506 O505 A497 A504 E498 P495e E500 E502 F499 P495s F501 F503 (Or.inr (Or.inl ⟨rfl, rfl⟩))
          · subst hv1e
            refine gIfN X235 hx (hb hby at_153) (q := 156) rfl (by decide) ?_
            refine gAload X235 hx (hb hby at_156) (q := 158) rfl rfl rfl ?_
            refine gIconst X235 hx (1 : Int32) (hb hby at_158) (q := 159) rfl (by decide) ?_
            refine gAaload X235 hx hZ e235 G236 rfl (hb hby at_159) (q := 160) rfl (show ¬ (((1 : Int32) : Int32) < 0 ∨ 4 ≤ ((1 : Int32) : Int32).toNatClampNeg) by decide) (v := .ref a33) rfl ?_
            refine gAload X235 hx (hb hby at_160) (q := 162) rfl rfl rfl ?_
            refine gAload X235 hx (hb hby at_162) (q := 164) rfl rfl rfl ?_
            refine gIconst X235 hx (1 : Int32) (hb hby at_164) (q := 165) rfl (by decide) ?_
            refine gIaload X235 hx hZ e235 G237 (hb hby at_165) (q := 166) rfl (show ¬ (((1 : Int32) : Int32) < 0 ∨ 4 ≤ ((1 : Int32) : Int32).toNatClampNeg) by decide) (v := .int (3 : Int32)) rfl ?_
            refine gAaload X235 hx hZ e235 G236 rfl (hb hby at_166) (q := 167) rfl (show ¬ (((3 : Int32) : Int32) < 0 ∨ 4 ≤ ((3 : Int32) : Int32).toNatClampNeg) by decide) (v := .ref a109) rfl ?_
            refine gCallV X235 hx hZ hown (hw _ (List.mem_of_getElem? (i := 82) rfl)) (hw _ (List.mem_of_getElem? (i := 83) rfl)) (hw _ (List.mem_of_getElem? (i := 85) rfl)) (hw _ (List.mem_of_getElem? (i := 84) rfl)) (hw _ (List.mem_of_getElem? (i := 3) rfl)) (hw _ (List.mem_of_getElem? (i := 86) rfl)) (notFace_of_selects (args := #[]) (mvT hZ (hw _ (List.mem_of_getElem? (i := 85) rfl)))) (by decide) (rmExt l Z a0 hw [] a33 a109 hh235 n0 Z235 G243 G239 le_a33) (W := 0) (by decide) (by decide) e235 (by rw [hml]; rfl) G239 [(.ref a109)] (lenOf pd3 rfl) rfl (S := []) rfl (Nat.le_of_eq rfl) (hb hby at_167) (q := 170) rfl (by decide) (by decide) (fun r507 T507 M507 X507 q507 => ?_)
            obtain ⟨rfl, M507n, K507, P507e, P507s⟩ := q507
            have N508 := Fr.app N235 M507n
            have A509 := Ary.keep G236 K507 (ninS ne_a1_a33 nin0)
            have E510 := Exa.keep G238 K507
            have F511 := Fld.keep G242 K507 (ninS ne_a4_a33 nin0)
            have E512 := Exa.keep G240 K507
            have F513 := Fld.keep G244 K507 (ninS ne_a33_a68.symm nin0)
            have E514 := Exa.keep G241 K507
            have F515 := Fld.keep G245 K507 (ninS ne_a33_a109.symm nin0)
            have A516 := Ary.keep G237 K507 (ninS ne_a33_a156.symm nin0)
            have O517 := O235.keep K507 (allS le_a33 all0)
            have Z518 := Nat.le_trans Z235 K507.1
            dsimp only [Option.toList, List.cons_append, List.nil_append]
            exact J153 T507 _ T507.heap (.ref a109) X507 rfl N508 Z518 O517 A509 A516 E510 P507e E512 E514 F511 P507s F513 F515 (Or.inr (Or.inr ⟨rfl, rfl⟩))
        have hv0o := ov0
        rcases hv0o with hv0e | hv0e | hv0e | hv0e
        · refine gIfY X221 hx (hb hby at_132) (q := 149) (by decide) (by decide) (XT.i0_lt_t (by rw [hv0e]; decide)) ?_
          exact J132 T221 _ h221 .null X221 e221 N222 Z234 O233 A223 B221 E224 E226 E228 E230 F225 F227 F229 F231 (Or.inl ⟨hv0e, rfl⟩)
        · subst hv0e
          refine gIfN X221 hx (hb hby at_132) (q := 135) rfl (by decide) ?_
          refine gAload X221 hx (hb hby at_135) (q := 137) rfl rfl rfl ?_
          refine gIconst X221 hx (0 : Int32) (hb hby at_137) (q := 138) rfl (by decide) ?_
          refine gAaload X221 hx hZ e221 A223 rfl (hb hby at_138) (q := 139) rfl (show ¬ (((0 : Int32) : Int32) < 0 ∨ 4 ≤ ((0 : Int32) : Int32).toNatClampNeg) by decide) (v := .ref a4) rfl ?_
          refine gAload X221 hx (hb hby at_139) (q := 141) rfl rfl rfl ?_
          refine gAload X221 hx (hb hby at_141) (q := 143) rfl rfl rfl ?_
          refine gIconst X221 hx (0 : Int32) (hb hby at_143) (q := 144) rfl (by decide) ?_
          refine gIaload X221 hx hZ e221 B221 (hb hby at_144) (q := 145) rfl (show ¬ (((0 : Int32) : Int32) < 0 ∨ 4 ≤ ((0 : Int32) : Int32).toNatClampNeg) by decide) (v := .int (1 : Int32)) rfl ?_
          refine gAaload X221 hx hZ e221 A223 rfl (hb hby at_145) (q := 146) rfl (show ¬ (((1 : Int32) : Int32) < 0 ∨ 4 ≤ ((1 : Int32) : Int32).toNatClampNeg) by decide) (v := .ref a33) rfl ?_
          refine gCallV X221 hx hZ hown (hw _ (List.mem_of_getElem? (i := 82) rfl)) (hw _ (List.mem_of_getElem? (i := 83) rfl)) (hw _ (List.mem_of_getElem? (i := 85) rfl)) (hw _ (List.mem_of_getElem? (i := 84) rfl)) (hw _ (List.mem_of_getElem? (i := 3) rfl)) (hw _ (List.mem_of_getElem? (i := 86) rfl)) (notFace_of_selects (args := #[]) (mvT hZ (hw _ (List.mem_of_getElem? (i := 85) rfl)))) (by decide) (rmExt l Z a0 hw [] a4 a33 h221 n0 Z234 F225 E224 le_a4) (W := 0) (by decide) (by decide) e221 (by rw [hml]; rfl) E224 [(.ref a33)] (lenOf pd3 rfl) rfl (S := []) rfl (Nat.le_of_eq rfl) (hb hby at_146) (q := 149) rfl (by decide) (by decide) (fun r519 T519 M519 X519 q519 => ?_)
          obtain ⟨rfl, M519n, K519, P519e, P519s⟩ := q519
          have N520 := Fr.app N222 M519n
          have A521 := Ary.keep A223 K519 (ninS ne_a1_a4 nin0)
          have E522 := Exa.keep E226 K519
          have F523 := Fld.keep F227 K519 (ninS ne_a4_a33.symm nin0)
          have E524 := Exa.keep E228 K519
          have F525 := Fld.keep F229 K519 (ninS ne_a4_a68.symm nin0)
          have E526 := Exa.keep E230 K519
          have F527 := Fld.keep F231 K519 (ninS ne_a4_a109.symm nin0)
          have A528 := Ary.keep B221 K519 (ninS ne_a4_a156.symm nin0)
          have O529 := O233.keep K519 (allS le_a4 all0)
          have Z530 := Nat.le_trans Z234 K519.1
          dsimp only [Option.toList, List.cons_append, List.nil_append]
          exact J132 T519 _ T519.heap (.ref a33) X519 rfl N520 Z530 O529 A521 A528 P519e E522 E524 E526 P519s F523 F525 F527 (Or.inr (Or.inl ⟨rfl, rfl⟩))
        · subst hv0e
          refine gIfN X221 hx (hb hby at_132) (q := 135) rfl (by decide) ?_
          refine gAload X221 hx (hb hby at_135) (q := 137) rfl rfl rfl ?_
          refine gIconst X221 hx (0 : Int32) (hb hby at_137) (q := 138) rfl (by decide) ?_
          refine gAaload X221 hx hZ e221 A223 rfl (hb hby at_138) (q := 139) rfl (show ¬ (((0 : Int32) : Int32) < 0 ∨ 4 ≤ ((0 : Int32) : Int32).toNatClampNeg) by decide) (v := .ref a4) rfl ?_
          refine gAload X221 hx (hb hby at_139) (q := 141) rfl rfl rfl ?_
          refine gAload X221 hx (hb hby at_141) (q := 143) rfl rfl rfl ?_
          refine gIconst X221 hx (0 : Int32) (hb hby at_143) (q := 144) rfl (by decide) ?_
          refine gIaload X221 hx hZ e221 B221 (hb hby at_144) (q := 145) rfl (show ¬ (((0 : Int32) : Int32) < 0 ∨ 4 ≤ ((0 : Int32) : Int32).toNatClampNeg) by decide) (v := .int (2 : Int32)) rfl ?_
          refine gAaload X221 hx hZ e221 A223 rfl (hb hby at_145) (q := 146) rfl (show ¬ (((2 : Int32) : Int32) < 0 ∨ 4 ≤ ((2 : Int32) : Int32).toNatClampNeg) by decide) (v := .ref a68) rfl ?_
          refine gCallV X221 hx hZ hown (hw _ (List.mem_of_getElem? (i := 82) rfl)) (hw _ (List.mem_of_getElem? (i := 83) rfl)) (hw _ (List.mem_of_getElem? (i := 85) rfl)) (hw _ (List.mem_of_getElem? (i := 84) rfl)) (hw _ (List.mem_of_getElem? (i := 3) rfl)) (hw _ (List.mem_of_getElem? (i := 86) rfl)) (notFace_of_selects (args := #[]) (mvT hZ (hw _ (List.mem_of_getElem? (i := 85) rfl)))) (by decide) (rmExt l Z a0 hw [] a4 a68 h221 n0 Z234 F225 E224 le_a4) (W := 0) (by decide) (by decide) e221 (by rw [hml]; rfl) E224 [(.ref a68)] (lenOf pd3 rfl) rfl (S := []) rfl (Nat.le_of_eq rfl) (hb hby at_146) (q := 149) rfl (by decide) (by decide) (fun r531 T531 M531 X531 q531 => ?_)
          obtain ⟨rfl, M531n, K531, P531e, P531s⟩ := q531
          have N532 := Fr.app N222 M531n
          have A533 := Ary.keep A223 K531 (ninS ne_a1_a4 nin0)
          have E534 := Exa.keep E226 K531
          have F535 := Fld.keep F227 K531 (ninS ne_a4_a33.symm nin0)
          have E536 := Exa.keep E228 K531
          have F537 := Fld.keep F229 K531 (ninS ne_a4_a68.symm nin0)
          have E538 := Exa.keep E230 K531
          have F539 := Fld.keep F231 K531 (ninS ne_a4_a109.symm nin0)
          have A540 := Ary.keep B221 K531 (ninS ne_a4_a156.symm nin0)
          have O541 := O233.keep K531 (allS le_a4 all0)
          have Z542 := Nat.le_trans Z234 K531.1
          dsimp only [Option.toList, List.cons_append, List.nil_append]
          exact J132 T531 _ T531.heap (.ref a68) X531 rfl N532 Z542 O541 A533 A540 P531e E534 E536 E538 P531s F535 F537 F539 (Or.inr (Or.inr (Or.inl ⟨rfl, rfl⟩)))
        · subst hv0e
          refine gIfN X221 hx (hb hby at_132) (q := 135) rfl (by decide) ?_
          refine gAload X221 hx (hb hby at_135) (q := 137) rfl rfl rfl ?_
          refine gIconst X221 hx (0 : Int32) (hb hby at_137) (q := 138) rfl (by decide) ?_
          refine gAaload X221 hx hZ e221 A223 rfl (hb hby at_138) (q := 139) rfl (show ¬ (((0 : Int32) : Int32) < 0 ∨ 4 ≤ ((0 : Int32) : Int32).toNatClampNeg) by decide) (v := .ref a4) rfl ?_
          refine gAload X221 hx (hb hby at_139) (q := 141) rfl rfl rfl ?_
          refine gAload X221 hx (hb hby at_141) (q := 143) rfl rfl rfl ?_
          refine gIconst X221 hx (0 : Int32) (hb hby at_143) (q := 144) rfl (by decide) ?_
          refine gIaload X221 hx hZ e221 B221 (hb hby at_144) (q := 145) rfl (show ¬ (((0 : Int32) : Int32) < 0 ∨ 4 ≤ ((0 : Int32) : Int32).toNatClampNeg) by decide) (v := .int (3 : Int32)) rfl ?_
          refine gAaload X221 hx hZ e221 A223 rfl (hb hby at_145) (q := 146) rfl (show ¬ (((3 : Int32) : Int32) < 0 ∨ 4 ≤ ((3 : Int32) : Int32).toNatClampNeg) by decide) (v := .ref a109) rfl ?_
          refine gCallV X221 hx hZ hown (hw _ (List.mem_of_getElem? (i := 82) rfl)) (hw _ (List.mem_of_getElem? (i := 83) rfl)) (hw _ (List.mem_of_getElem? (i := 85) rfl)) (hw _ (List.mem_of_getElem? (i := 84) rfl)) (hw _ (List.mem_of_getElem? (i := 3) rfl)) (hw _ (List.mem_of_getElem? (i := 86) rfl)) (notFace_of_selects (args := #[]) (mvT hZ (hw _ (List.mem_of_getElem? (i := 85) rfl)))) (by decide) (rmExt l Z a0 hw [] a4 a109 h221 n0 Z234 F225 E224 le_a4) (W := 0) (by decide) (by decide) e221 (by rw [hml]; rfl) E224 [(.ref a109)] (lenOf pd3 rfl) rfl (S := []) rfl (Nat.le_of_eq rfl) (hb hby at_146) (q := 149) rfl (by decide) (by decide) (fun r543 T543 M543 X543 q543 => ?_)
          obtain ⟨rfl, M543n, K543, P543e, P543s⟩ := q543
          have N544 := Fr.app N222 M543n
          have A545 := Ary.keep A223 K543 (ninS ne_a1_a4 nin0)
          have E546 := Exa.keep E226 K543
          have F547 := Fld.keep F227 K543 (ninS ne_a4_a33.symm nin0)
          have E548 := Exa.keep E228 K543
          have F549 := Fld.keep F229 K543 (ninS ne_a4_a68.symm nin0)
          have E550 := Exa.keep E230 K543
          have F551 := Fld.keep F231 K543 (ninS ne_a4_a109.symm nin0)
          have A552 := Ary.keep B221 K543 (ninS ne_a4_a156.symm nin0)
          have O553 := O233.keep K543 (allS le_a4 all0)
          have Z554 := Nat.le_trans Z234 K543.1
          dsimp only [Option.toList, List.cons_append, List.nil_append]
          exact J132 T543 _ T543.heap (.ref a109) X543 rfl N544 Z554 O553 A545 A552 P543e E546 E548 E550 P543s F547 F549 F551 (Or.inr (Or.inr (Or.inr ⟨rfl, rfl⟩)))
      by_cases c204 : (x2 &&& (1 : Int32)) = (0 : Int32)
      · refine gIfN X190 hx (hb hby at_114) (q := 117) rfl (XT.i0_ne_f c204) ?_
        refine gIconst X190 hx (-1 : Int32) (hb hby at_117) (q := 118) rfl (by decide) ?_
        refine gGoto X190 hx (hb hby at_118) (q := 122) (by decide) (by decide) ?_
        exact J114_206 _ (by first | rfl | (rw [if_pos c204]; done) | (simp only [if_pos c204]; done) | (simp only [if_pos c204]; done) | (simp only [if_pos c204, if_true, if_false]; done) | (exfalso; simp at c204; done))
      · refine gIfY X190 hx (hb hby at_114) (q := 121) (by decide) (by decide) (XT.i0_ne_t c204) ?_
        refine gIconst X190 hx (3 : Int32) (hb hby at_121) (q := 122) rfl (by decide) ?_
        exact J114_206 _ (by first | rfl | (rw [if_neg c204]; done) | (simp only [if_neg c204]; done) | (simp only [if_neg c204]; done) | (simp only [if_neg c204, if_true, if_false]; done) | (exfalso; simp at c204; done))
    by_cases c187 : u186 = (0 : Int32)
    · refine gIfN X172 hx (hb hby at_96) (q := 99) rfl (XT.i0_ne_f c187) ?_
      refine gIconst X172 hx (-1 : Int32) (hb hby at_99) (q := 100) rfl (by decide) ?_
      refine gGoto X172 hx (hb hby at_100) (q := 107) (by decide) (by decide) ?_
      exact J96_189 _ (by first | rfl | (rw [if_pos c187]; done) | (simp only [if_pos c187]; done) | (simp only [if_pos c187]; done) | (simp only [if_pos c187, if_true, if_false]; done) | (exfalso; simp at c187; done))
    · refine gIfY X172 hx (hb hby at_96) (q := 103) (by decide) (by decide) (XT.i0_ne_t c187) ?_
      refine gIload X172 hx (hb hby at_103) (q := 105) rfl rfl ?_
      refine gIconst X172 hx (1 : Int32) (hb hby at_105) (q := 106) rfl (by decide) ?_
      refine gIadd X172 hx (hb hby at_106) (q := 107) rfl ?_
      exact J96_189 _ (by first | rfl | (rw [if_neg c187]; done) | (simp only [if_neg c187]; done) | (simp only [if_neg c187]; done) | (simp only [if_neg c187, if_true, if_false]; done) | (exfalso; simp at c187; done))
  by_cases c169 : u168 = (0 : Int32)
  · refine gIfN X156 hx (hb hby at_73) (q := 76) rfl (XT.i0_ne_f c169) ?_
    refine gIconst X156 hx (-1 : Int32) (hb hby at_76) (q := 77) rfl (by decide) ?_
    refine gGoto X156 hx (hb hby at_77) (q := 82) (by decide) (by decide) ?_
    exact J73_171 _ (by first | rfl | (rw [if_pos c169]; done) | (simp only [if_pos c169]; done) | (simp only [if_pos c169]; done) | (simp only [if_pos c169, if_true, if_false]; done) | (exfalso; simp at c169; done))
  · refine gIfY X156 hx (hb hby at_73) (q := 80) (by decide) (by decide) (XT.i0_ne_t c169) ?_
    refine gIload X156 hx (hb hby at_80) (q := 82) rfl rfl ?_
    exact J73_171 _ (by first | rfl | (rw [if_neg c169]; done) | (simp only [if_neg c169]; done) | (simp only [if_neg c169]; done) | (simp only [if_neg c169, if_true, if_false]; done) | (exfalso; simp at c169; done))
set_option maxRecDepth 65536 in
set_option maxHeartbeats 40000000 in
theorem comes_1 {Post : Tables → Env → Array Value → State → Outcome → State → Prop} (hpost : ∀ tb e args s v u, (limb_1_1.after args s (.returned v) u = true ∧ limb_1_2.after args s (.returned v) u = true ∧ True) → FrameEnd s (.returned v) u (Jvm.fieldLocs frame_1_writes args s ++ Jvm.arrayLocs frame_1_arrays args s ++ Jvm.staticLocs frame_1_statics s) 56 384 → Post tb e args s (.returned v) u) :
    ArmFor flags0 classFile x code maxLocals ret World_1 tables_1 room_1 Calls_1 rest_1 Pre_1 Post := by
  intro l hfl _ _ p e ha hc hk s m args below hf hA hF happ hP
  obtain ⟨hcalls, hrest, hpre⟩ := hP
  obtain ⟨-, -, -, hnamed, -, -, -, hat⟩ := (Spec.applies_iff hf).mp happ
  obtain ⟨hg, hn⟩ := and_e (Cond.before_iff.mp (show (Jvm.Cond.and given_1 narrow_1).before args s = true from hpre))
  obtain ⟨hcount, hg⟩ := and_e hg
  obtain ⟨hk0, hg⟩ := and_e hg
  obtain ⟨hk1, hg⟩ := and_e hg
  obtain ⟨hk2, hg⟩ := and_e hg
  obtain ⟨hk3, hg⟩ := and_e hg
  have hk4 := hg
  obtain ⟨w0, w1, w2, w3, w4, rfl⟩ : ∃ w0 w1 w2 w3 w4 : Value, args = #[w0, w1, w2, w3, w4] := by
    have hs : args.size = 5 := by simpa [Cond.value, given_1] using hcount
    obtain ⟨L⟩ := args
    match L, hs with
    | [w0, w1, w2, w3, w4], _ => exact ⟨w0, w1, w2, w3, w4, rfl⟩
  have hw := fun d (hd : d ∈ tables_1) => atoms_spec (ws := Jvm.Cond.code x code maxLocals ret :: tables_1) hat d (List.mem_cons_of_mem _ hd)
  have hfit : Fit s := fun {y c} hc i hi => by
    obtain ⟨ha, rfl⟩ := Array.getElem?_eq_some_iff.mp hc
    have q := List.all_eq_true.mp ((Array.all_eq_true_iff_forall_mem.mp hF) _ (Array.getElem_mem ha)) i (List.mem_range.mpr hi)
    simpa [Array.getElem?_eq_getElem hi] using q
  obtain ⟨i0, hi0⟩ := is_v hk0
  obtain rfl : w0 = (.int i0) := Option.some.inj hi0
  obtain ⟨i1, hi1⟩ := is_v hk1
  obtain rfl : w1 = (.int i1) := Option.some.inj hi1
  obtain ⟨i2, hi2⟩ := is_v hk2
  obtain rfl : w2 = (.int i2) := Option.some.inj hi2
  obtain ⟨i3, hi3⟩ := is_v hk3
  obtain rfl : w3 = (.int i3) := Option.some.inj hi3
  obtain ⟨i4, hi4⟩ := is_v hk4
  obtain rfl : w4 = (.int i4) := Option.some.inj hi4
  obtain ⟨hsets, hown0⟩ := atoms_of _ (rest_1_c_eq ▸ (show rest_1_c.before _ s = true from hrest))
  obtain ⟨rd, evd⟩ := arr_v (Cond.before_iff.mp (hsets _ (List.mem_of_getElem? (i := 6) rfl)))
  have SD : Sta s s.heap "java/util/ArrayList" "DEFAULTCAPACITY_EMPTY_ELEMENTDATA" "[Ljava/lang/Object;" (.ref rd) := Sta.start evd (Or.inr ⟨(hw _ (List.mem_of_getElem? (i := 40) rfl)), (hsets _ (List.mem_of_getElem? (i := 2) rfl))⟩)
  obtain ⟨n, o, h1, h2, h3, _, L, rfl, ⟨rfl, N⟩, hq⟩ := rm0 l s _ hw tables_1 i0 i1 i2 i3 i4 rd s.heap s.heap.size (Nat.le_refl _) (Old.start s) SD p e ha hc hk s m _ below hf ((Spec.applies_iff_loose hf).mp happ).1 ⟨rfl, State.Warmed39.refl s, rfl⟩ trivial
  refine ⟨n, _, h1, h2, h3, hpost _ _ _ _ _ _ ⟨Cond.after_iff.mpr rfl, Cond.after_iff.mpr (eq_i res_at (Term.int_eval (1)) rfl), trivial⟩ ⟨hq.1, hq.2.1, (hq.2.2.sift fun y hy => Or.inr (N y hy)).mono (by decide) (by decide)⟩⟩
theorem main_1_1 : Claimed_1_1 := comes_1 fun _ _ _ _ _ _ h hF => ⟨h.1, hF⟩
theorem main_1_2 : Claimed_1_2 := comes_1 fun _ _ _ _ _ _ h hF => ⟨h.2.1, hF⟩
end Jvm.Pilot.@@N@@
namespace Jvm.Pilot.@@N@@
open Jvm Jvm.ClassFile Sem Op Lib Jvm.Free Jvm.Stand Jvm.Pilot.@@N@@.Jvm.D
/-! MADE BY PROGRAM (witnessworld.py) out of the Statement's table words and the real class files: 24 classes; the members and pool entries that the words name. The judged class is class 1, her method 1. -/
namespace start1
open Jvm.ClassFile
def u (s : String) : CpInfo := .utf8 (stringToUtf16 s)
/-- a pool by its gaps: so many unusable entries, then the entry; so many at the end -/
def gap : Nat → List CpInfo → List CpInfo
  | 0, r => r
  | n + 1, r => .unusable :: gap n r
def poolList (es : List (Nat × CpInfo)) (last : Nat) : List CpInfo := es.foldr (fun e r => gap e.1 (e.2 :: r)) (gap last [])
def pool (es : List (Nat × CpInfo)) (last : Nat) : Array CpInfo := ⟨poolList es last⟩
def fileOf (pool : Array CpInfo) (this : Nat) (attrs : Array Attribute := #[]) (ms : Array MethodInfo := #[]) (fl : Nat := 33) (sup : Nat := 0) (ifs : Array Nat := #[]) (fds : Array FieldInfo := #[]) : ClassFile where
  minorVersion := 0
  majorVersion := 65
  constantPool := pool
  accessFlags := fl
  thisClass := this
  superClass := sup
  interfaces := ifs
  fields := fds
  methods := ms
  attributes := attrs
def plain (name : String) (sup : Option ClassId) : Class where
  name := name
  kind := .ordinary
  loader := none
  accessFlags := 33
  super := sup
  interfaces := #[]
  cf := none
  fields := #[]
  methods := #[]
  instanceTypes := #[]
  staticTypes := #[]
  resolved := #[]
  callSites := []
  init := .initialized
  statics := none
  mirror := none

def pool0 : Array CpInfo := pool [(5, u "<init>"), (0, u "()V"), (1, .class_ 10), (1, u "java/lang/Object")] 113

def k0c0 : Code := { maxStack := 0, maxLocals := 1, code := object_method_1_code, exceptionTable := #[], attributes := #[] }
def k0m0 : Method := { name := "<init>", desc := "()V", sig := { parameters := [], returnType := none }, accessFlags := 1, code := some k0c0 }
/-- java/lang/Object -/
def k0 : Class := { plain "java/lang/Object" none with
  accessFlags := 33
  interfaces := #[]
  cf := some (fileOf pool0 8 #[] #[{ accessFlags := 1, nameIndex := 5, descriptorIndex := 6, attributes := #[] }] 33 0 #[] #[])
  fields := #[]
  methods := #[k0m0]
  instanceTypes := #[]
  staticTypes := #[]
  resolved := Array.replicate 124 none
  statics := none }

def pool1 : Array CpInfo := pool [(2, .class_ 4), (1, u "java/lang/Object"), (0, u "<init>"), (0, u "()V"), (0, .class_ 8), (0, u "com/example/hoarewright/hoarewright/loy/LoyClass"), (0, .methodref 7 10), (0, .nameAndType 5 11), (0, u "(Ljava/lang/String;Lcom/example/hoarewright/hoarewright/analysis/Location;)V"), (0, .integer 2147483647), (0, .methodref 7 14), (0, .nameAndType 15 16), (0, u "extend"), (0, u "(Lcom/example/hoarewright/hoarewright/loy/LoyClass;)V"), (0, .methodref 7 18), (0, .nameAndType 19 20), (0, u "isA"), (0, u "(Lcom/example/hoarewright/hoarewright/loy/LoyClass;)Z"), (0, .class_ 22), (0, u "com/example/hoarewright/hoarewright/loy/LoyClassIsAPinLaw"), (2, u "law"), (0, u "(IIIII)Z")] 7

def k1m0 : Method := { name := "<init>", desc := "()V", sig := { parameters := [], returnType := none }, accessFlags := 1, code := none }
def k1c1 : Code := { maxStack := 6, maxLocals := 16, code := code, exceptionTable := #[], attributes := #[] }
def k1m1 : Method := { name := "law", desc := "(IIIII)Z", sig := { parameters := [.int, .int, .int, .int, .int], returnType := some .boolean }, accessFlags := 9, code := some k1c1 }
/-- com/example/hoarewright/hoarewright/loy/LoyClassIsAPinLaw -/
def k1 : Class := { plain "com/example/hoarewright/hoarewright/loy/LoyClassIsAPinLaw" (some 0) with
  accessFlags := 49
  interfaces := #[]
  cf := some (fileOf pool1 21 #[] #[{ accessFlags := 1, nameIndex := 5, descriptorIndex := 6, attributes := #[] }, { accessFlags := 9, nameIndex := 25, descriptorIndex := 26, attributes := #[] }] 49 2 #[] #[])
  fields := #[]
  methods := #[k1m0, k1m1]
  instanceTypes := #[]
  staticTypes := #[]
  resolved := Array.replicate 34 none
  statics := none }

def pool2 : Array CpInfo := pool [(1, .methodref 2 3), (0, .class_ 4), (0, .nameAndType 5 6), (0, u "java/lang/Object"), (0, u "<init>"), (0, u "()V"), (0, .class_ 8), (0, u "java/util/LinkedHashMap"), (0, .methodref 7 3), (0, .fieldref 11 12), (0, .class_ 13), (0, .nameAndType 14 15), (0, u "com/example/hoarewright/hoarewright/loy/LoyClass"), (0, u "fields"), (0, u "Ljava/util/Map;"), (0, .class_ 17), (0, u "java/util/ArrayList"), (0, .methodref 16 3), (0, .fieldref 11 20), (0, .nameAndType 21 22), (0, u "invariants"), (0, u "Ljava/util/List;"), (0, .fieldref 11 24), (0, .nameAndType 25 22), (0, u "depends"), (0, .fieldref 11 27), (0, .nameAndType 28 15), (0, u "methods"), (0, .fieldref 11 30), (0, .nameAndType 31 32), (0, u "name"), (0, u "Ljava/lang/String;"), (0, .fieldref 11 34), (0, .nameAndType 35 36), (0, u "location"), (0, u "Lcom/example/hoarewright/hoarewright/analysis/Location;"), (0, .fieldref 11 38), (0, .nameAndType 39 40), (0, u "superclass"), (0, u "Lcom/example/hoarewright/hoarewright/loy/LoyClass;"), (47, .class_ 89), (0, u "com/example/hoarewright/hoarewright/loy/LoyClass$Depends"), (34, u "(Ljava/lang/String;Lcom/example/hoarewright/hoarewright/analysis/Location;)V"), (4, u "isA"), (0, u "(Lcom/example/hoarewright/hoarewright/loy/LoyClass;)Z"), (10, u "extend"), (0, u "(Lcom/example/hoarewright/hoarewright/loy/LoyClass;)V")] 9

def k2c0 : Code := { maxStack := 3, maxLocals := 3, code := prog_43_method_1_code, exceptionTable := #[], attributes := #[] }
def k2m0 : Method := { name := "<init>", desc := "(Ljava/lang/String;Lcom/example/hoarewright/hoarewright/analysis/Location;)V", sig := { parameters := [(.object "java/lang/String"), (.object "com/example/hoarewright/hoarewright/analysis/Location")], returnType := none }, accessFlags := 0, code := some k2c0 }
def k2c1 : Code := { maxStack := 2, maxLocals := 4, code := prog_43_method_5_code, exceptionTable := #[], attributes := #[] }
def k2m1 : Method := { name := "isA", desc := "(Lcom/example/hoarewright/hoarewright/loy/LoyClass;)Z", sig := { parameters := [(.object "com/example/hoarewright/hoarewright/loy/LoyClass")], returnType := some .boolean }, accessFlags := 0, code := some k2c1 }
def k2c2 : Code := { maxStack := 2, maxLocals := 2, code := prog_43_method_13_code, exceptionTable := #[], attributes := #[] }
def k2m2 : Method := { name := "extend", desc := "(Lcom/example/hoarewright/hoarewright/loy/LoyClass;)V", sig := { parameters := [(.object "com/example/hoarewright/hoarewright/loy/LoyClass")], returnType := none }, accessFlags := 0, code := some k2c2 }
/-- com/example/hoarewright/hoarewright/loy/LoyClass -/
def k2 : Class := { plain "com/example/hoarewright/hoarewright/loy/LoyClass" (some 0) with
  accessFlags := 48
  interfaces := #[]
  cf := some (fileOf pool2 11 #[.nestMembers #[88]] #[{ accessFlags := 0, nameIndex := 5, descriptorIndex := 124, attributes := #[] }, { accessFlags := 0, nameIndex := 129, descriptorIndex := 130, attributes := #[] }, { accessFlags := 0, nameIndex := 141, descriptorIndex := 142, attributes := #[] }] 48 2 #[] #[{ accessFlags := 18, nameIndex := 31, descriptorIndex := 32, attributes := #[] }, { accessFlags := 18, nameIndex := 35, descriptorIndex := 36, attributes := #[] }, { accessFlags := 2, nameIndex := 39, descriptorIndex := 40, attributes := #[] }, { accessFlags := 18, nameIndex := 14, descriptorIndex := 15, attributes := #[] }, { accessFlags := 18, nameIndex := 21, descriptorIndex := 22, attributes := #[] }, { accessFlags := 18, nameIndex := 25, descriptorIndex := 22, attributes := #[] }, { accessFlags := 18, nameIndex := 28, descriptorIndex := 15, attributes := #[] }])
  fields := #[{ name := "name", type := (.object "java/lang/String"), accessFlags := 18, slot := 0, constantValue := 0 }, { name := "location", type := (.object "com/example/hoarewright/hoarewright/analysis/Location"), accessFlags := 18, slot := 1, constantValue := 0 }, { name := "superclass", type := (.object "com/example/hoarewright/hoarewright/loy/LoyClass"), accessFlags := 2, slot := 2, constantValue := 0 }, { name := "fields", type := (.object "java/util/Map"), accessFlags := 18, slot := 3, constantValue := 0 }, { name := "invariants", type := (.object "java/util/List"), accessFlags := 18, slot := 4, constantValue := 0 }, { name := "depends", type := (.object "java/util/List"), accessFlags := 18, slot := 5, constantValue := 0 }, { name := "methods", type := (.object "java/util/Map"), accessFlags := 18, slot := 6, constantValue := 0 }]
  methods := #[k2m0, k2m1, k2m2]
  instanceTypes := #[(.object "java/lang/String"), (.object "com/example/hoarewright/hoarewright/analysis/Location"), (.object "com/example/hoarewright/hoarewright/loy/LoyClass"), (.object "java/util/Map"), (.object "java/util/List"), (.object "java/util/List"), (.object "java/util/Map")]
  staticTypes := #[]
  resolved := Array.replicate 152 none
  statics := none }

def pool3 : Array CpInfo := pool [(2, .class_ 4), (1, u "java/util/Map"), (31, .class_ 37), (0, u "java/util/Map$Entry"), (55, .class_ 94), (0, u "java/lang/Object")] 168

/-- java/util/Map -/
def k3 : Class := { plain "java/util/Map" (some 0) with
  accessFlags := 1537
  interfaces := #[]
  cf := some (fileOf pool3 2 #[.nestMembers #[36]] #[] 1537 93 #[] #[])
  fields := #[]
  methods := #[]
  instanceTypes := #[]
  staticTypes := #[]
  resolved := Array.replicate 263 none
  statics := none }

def pool4 : Array CpInfo := pool [(1, .methodref 2 3), (0, .class_ 4), (0, .nameAndType 5 6), (0, u "java/lang/Object"), (0, u "<init>"), (0, u "()V"), (1, .class_ 10), (1, u "java/util/AbstractMap"), (42, .class_ 54), (0, u "java/util/Map"), (9, u "keySet"), (0, u "Ljava/util/Set;"), (0, .class_ 67), (0, u "java/util/AbstractMap$1"), (5, u "values"), (0, u "Ljava/util/Collection;"), (0, .class_ 76), (0, u "java/util/AbstractMap$2"), (104, .class_ 182), (0, u "java/util/AbstractMap$ViewCollection"), (0, .class_ 184), (0, u "java/util/AbstractMap$SimpleImmutableEntry"), (0, .class_ 186), (0, u "java/util/AbstractMap$SimpleEntry"), (0, .class_ 188), (0, u "java/util/AbstractMap$2$1"), (0, .class_ 190), (0, u "java/util/AbstractMap$1$1")] 5

def k4c0 : Code := { maxStack := 1, maxLocals := 1, code := jdk_71_method_1_code, exceptionTable := #[], attributes := #[] }
def k4m0 : Method := { name := "<init>", desc := "()V", sig := { parameters := [], returnType := none }, accessFlags := 4, code := some k4c0 }
/-- java/util/AbstractMap -/
def k4 : Class := { plain "java/util/AbstractMap" (some 0) with
  accessFlags := 1057
  interfaces := #[3]
  cf := some (fileOf pool4 8 #[.nestMembers #[181, 183, 185, 75, 187, 66, 189]] #[{ accessFlags := 4, nameIndex := 5, descriptorIndex := 6, attributes := #[] }] 1057 2 #[53] #[{ accessFlags := 128, nameIndex := 64, descriptorIndex := 65, attributes := #[] }, { accessFlags := 128, nameIndex := 73, descriptorIndex := 74, attributes := #[] }])
  fields := #[{ name := "keySet", type := (.object "java/util/Set"), accessFlags := 128, slot := 0, constantValue := 0 }, { name := "values", type := (.object "java/util/Collection"), accessFlags := 128, slot := 1, constantValue := 0 }]
  methods := #[k4m0]
  instanceTypes := #[(.object "java/util/Set"), (.object "java/util/Collection")]
  staticTypes := #[]
  resolved := Array.replicate 196 none
  statics := none }

def pool5 : Array CpInfo := pool [(1, .class_ 2), (0, u "java/lang/Cloneable"), (0, .class_ 4), (0, u "java/lang/Object")] 2

/-- java/lang/Cloneable -/
def k5 : Class := { plain "java/lang/Cloneable" (some 0) with
  accessFlags := 1537
  interfaces := #[]
  cf := some (fileOf pool5 1 #[] #[] 1537 3 #[] #[])
  fields := #[]
  methods := #[]
  instanceTypes := #[]
  staticTypes := #[]
  resolved := Array.replicate 7 none
  statics := none }

def pool6 : Array CpInfo := pool [(1, .class_ 2), (0, u "java/io/Serializable"), (0, .class_ 4), (0, u "java/lang/Object")] 2

/-- java/io/Serializable -/
def k6 : Class := { plain "java/io/Serializable" (some 0) with
  accessFlags := 1537
  interfaces := #[]
  cf := some (fileOf pool6 1 #[] #[] 1537 3 #[] #[])
  fields := #[]
  methods := #[]
  instanceTypes := #[]
  staticTypes := #[]
  resolved := Array.replicate 7 none
  statics := none }

def pool7 : Array CpInfo := pool [(40, .class_ 41), (0, u "java/util/HashMap"), (1, .methodref 44 45), (0, .class_ 46), (0, .nameAndType 47 48), (0, u "java/util/AbstractMap"), (0, u "<init>"), (0, u "()V"), (32, .fieldref 40 82), (0, .nameAndType 83 84), (0, u "loadFactor"), (0, u "F"), (5, u "threshold"), (0, u "I"), (0, .float 1061158912), (8, .class_ 103), (1, u "java/util/Map"), (0, u "size"), (2, u "table"), (0, u "[Ljava/util/HashMap$Node;"), (14, u "entrySet"), (39, .class_ 165), (1, u "java/util/HashMap$Node"), (14, .class_ 181), (0, u "java/util/HashMap$TreeNode"), (22, u "modCount"), (37, u "Ljava/util/Set;"), (0, .class_ 244), (0, u "java/util/HashMap$KeySet"), (18, .class_ 264), (0, u "java/util/HashMap$Values"), (3, .class_ 269), (0, u "java/util/HashMap$EntrySet"), (76, .class_ 348), (1, u "java/util/HashMap$UnsafeHolder"), (43, .class_ 393), (0, u "java/lang/Cloneable"), (0, .class_ 395), (0, u "java/io/Serializable"), (0, u "serialVersionUID"), (0, u "J"), (3, u "DEFAULT_INITIAL_CAPACITY"), (1, u "MAXIMUM_CAPACITY"), (0, u "DEFAULT_LOAD_FACTOR"), (0, u "TREEIFY_THRESHOLD"), (1, u "UNTREEIFY_THRESHOLD"), (1, u "MIN_TREEIFY_CAPACITY"), (186, .class_ 597), (0, u "java/util/HashMap$EntrySpliterator"), (0, .class_ 599), (0, u "java/util/HashMap$ValueSpliterator"), (0, .class_ 601), (0, u "java/util/HashMap$KeySpliterator"), (0, .class_ 603), (0, u "java/util/HashMap$HashMapSpliterator"), (0, .class_ 605), (0, u "java/util/HashMap$EntryIterator"), (0, .class_ 607), (0, u "java/util/HashMap$ValueIterator"), (0, .class_ 609), (0, u "java/util/HashMap$KeyIterator"), (0, .class_ 611), (0, u "java/util/HashMap$HashIterator")] 17

def k7c0 : Code := { maxStack := 2, maxLocals := 1, code := jdk_69_method_7_code, exceptionTable := #[], attributes := #[] }
def k7m0 : Method := { name := "<init>", desc := "()V", sig := { parameters := [], returnType := none }, accessFlags := 1, code := some k7c0 }
/-- java/util/HashMap -/
def k7 : Class := { plain "java/util/HashMap" (some 4) with
  accessFlags := 33
  interfaces := #[3, 5, 6]
  cf := some (fileOf pool7 40 #[.nestMembers #[180, 596, 598, 600, 602, 604, 606, 608, 610, 346, 268, 263, 243, 163]] #[{ accessFlags := 1, nameIndex := 47, descriptorIndex := 48, attributes := #[] }] 33 44 #[101, 392, 394] #[{ accessFlags := 26, nameIndex := 396, descriptorIndex := 397, attributes := #[] }, { accessFlags := 24, nameIndex := 401, descriptorIndex := 91, attributes := #[] }, { accessFlags := 24, nameIndex := 403, descriptorIndex := 91, attributes := #[] }, { accessFlags := 24, nameIndex := 404, descriptorIndex := 84, attributes := #[] }, { accessFlags := 24, nameIndex := 405, descriptorIndex := 91, attributes := #[] }, { accessFlags := 24, nameIndex := 407, descriptorIndex := 91, attributes := #[] }, { accessFlags := 24, nameIndex := 409, descriptorIndex := 91, attributes := #[] }, { accessFlags := 128, nameIndex := 107, descriptorIndex := 108, attributes := #[] }, { accessFlags := 128, nameIndex := 123, descriptorIndex := 242, attributes := #[] }, { accessFlags := 128, nameIndex := 104, descriptorIndex := 91, attributes := #[] }, { accessFlags := 128, nameIndex := 204, descriptorIndex := 91, attributes := #[] }, { accessFlags := 0, nameIndex := 90, descriptorIndex := 91, attributes := #[] }, { accessFlags := 16, nameIndex := 83, descriptorIndex := 84, attributes := #[] }])
  fields := #[{ name := "serialVersionUID", type := .long, accessFlags := 26, slot := 0, constantValue := 0 }, { name := "DEFAULT_INITIAL_CAPACITY", type := .int, accessFlags := 24, slot := 1, constantValue := 0 }, { name := "MAXIMUM_CAPACITY", type := .int, accessFlags := 24, slot := 2, constantValue := 0 }, { name := "DEFAULT_LOAD_FACTOR", type := .float, accessFlags := 24, slot := 3, constantValue := 0 }, { name := "TREEIFY_THRESHOLD", type := .int, accessFlags := 24, slot := 4, constantValue := 0 }, { name := "UNTREEIFY_THRESHOLD", type := .int, accessFlags := 24, slot := 5, constantValue := 0 }, { name := "MIN_TREEIFY_CAPACITY", type := .int, accessFlags := 24, slot := 6, constantValue := 0 }, { name := "table", type := (.array (.object "java/util/HashMap$Node")), accessFlags := 128, slot := 2, constantValue := 0 }, { name := "entrySet", type := (.object "java/util/Set"), accessFlags := 128, slot := 3, constantValue := 0 }, { name := "size", type := .int, accessFlags := 128, slot := 4, constantValue := 0 }, { name := "modCount", type := .int, accessFlags := 128, slot := 5, constantValue := 0 }, { name := "threshold", type := .int, accessFlags := 0, slot := 6, constantValue := 0 }, { name := "loadFactor", type := .float, accessFlags := 16, slot := 7, constantValue := 0 }]
  methods := #[k7m0]
  instanceTypes := #[(.object "java/util/Set"), (.object "java/util/Collection"), (.array (.object "java/util/HashMap$Node")), (.object "java/util/Set"), .int, .int, .int, .float]
  staticTypes := #[.long, .int, .int, .float, .int, .int, .int]
  resolved := Array.replicate 629 none
  statics := none }

def pool8 : Array CpInfo := pool [(2, .class_ 4), (1, u "java/util/SequencedMap"), (38, .class_ 44), (0, u "java/util/SequencedMap$1SeqKeySet"), (3, .class_ 49), (0, u "java/util/SequencedMap$1SeqValues"), (1, .class_ 52), (0, u "java/util/SequencedMap$1SeqEntrySet"), (1, .class_ 55), (0, u "java/lang/Object"), (0, .class_ 57), (0, u "java/util/Map")] 48

/-- java/util/SequencedMap -/
def k8 : Class := { plain "java/util/SequencedMap" (some 0) with
  accessFlags := 1537
  interfaces := #[3]
  cf := some (fileOf pool8 2 #[.nestMembers #[51, 48, 43]] #[] 1537 54 #[56] #[])
  fields := #[]
  methods := #[]
  instanceTypes := #[]
  staticTypes := #[]
  resolved := Array.replicate 106 none
  statics := none }

def pool9 : Array CpInfo := pool [(1, .fieldref 2 3), (0, .class_ 4), (0, .nameAndType 5 6), (0, u "java/util/LinkedHashMap"), (0, u "putMode"), (0, u "I"), (2, u "head"), (0, u "Ljava/util/LinkedHashMap$Entry;"), (2, u "tail"), (1, .class_ 17), (1, u "java/util/LinkedHashMap$Entry"), (5, .class_ 25), (1, u "java/util/HashMap"), (1, u "()V"), (2, u "<init>"), (33, .fieldref 2 65), (0, .nameAndType 66 67), (0, u "accessOrder"), (0, u "Z"), (19, .methodref 23 88), (0, .nameAndType 30 27), (32, .class_ 122), (0, u "java/util/LinkedHashMap$LinkedKeySet"), (20, .class_ 144), (0, u "java/util/LinkedHashMap$LinkedValues"), (9, .class_ 155), (0, u "java/util/LinkedHashMap$LinkedEntrySet"), (44, .class_ 201), (0, u "java/util/LinkedHashMap$ReversedLinkedHashMapView"), (3, .class_ 206), (0, u "java/util/SequencedMap"), (0, u "serialVersionUID"), (0, u "J"), (5, u "PUT_NORM"), (1, u "PUT_FIRST"), (1, u "PUT_LAST"), (143, .class_ 363), (0, u "java/util/LinkedHashMap$LinkedEntryIterator"), (0, .class_ 365), (0, u "java/util/LinkedHashMap$LinkedValueIterator"), (0, .class_ 367), (0, u "java/util/LinkedHashMap$LinkedKeyIterator"), (0, .class_ 369), (0, u "java/util/LinkedHashMap$LinkedHashIterator")] 16

def k9c0 : Code := { maxStack := 2, maxLocals := 1, code := jdk_94_method_16_code, exceptionTable := #[], attributes := #[] }
def k9m0 : Method := { name := "<init>", desc := "()V", sig := { parameters := [], returnType := none }, accessFlags := 1, code := some k9c0 }
/-- java/util/LinkedHashMap -/
def k9 : Class := { plain "java/util/LinkedHashMap" (some 7) with
  accessFlags := 33
  interfaces := #[8]
  cf := some (fileOf pool9 2 #[.nestMembers #[200, 362, 364, 366, 368, 154, 143, 121, 15]] #[{ accessFlags := 1, nameIndex := 30, descriptorIndex := 27, attributes := #[] }] 33 23 #[205] #[{ accessFlags := 26, nameIndex := 207, descriptorIndex := 208, attributes := #[] }, { accessFlags := 128, nameIndex := 9, descriptorIndex := 10, attributes := #[] }, { accessFlags := 128, nameIndex := 13, descriptorIndex := 10, attributes := #[] }, { accessFlags := 16, nameIndex := 66, descriptorIndex := 67, attributes := #[] }, { accessFlags := 24, nameIndex := 214, descriptorIndex := 6, attributes := #[] }, { accessFlags := 24, nameIndex := 216, descriptorIndex := 6, attributes := #[] }, { accessFlags := 24, nameIndex := 218, descriptorIndex := 6, attributes := #[] }, { accessFlags := 128, nameIndex := 5, descriptorIndex := 6, attributes := #[] }])
  fields := #[{ name := "serialVersionUID", type := .long, accessFlags := 26, slot := 0, constantValue := 0 }, { name := "head", type := (.object "java/util/LinkedHashMap$Entry"), accessFlags := 128, slot := 8, constantValue := 0 }, { name := "tail", type := (.object "java/util/LinkedHashMap$Entry"), accessFlags := 128, slot := 9, constantValue := 0 }, { name := "accessOrder", type := .boolean, accessFlags := 16, slot := 10, constantValue := 0 }, { name := "PUT_NORM", type := .int, accessFlags := 24, slot := 1, constantValue := 0 }, { name := "PUT_FIRST", type := .int, accessFlags := 24, slot := 2, constantValue := 0 }, { name := "PUT_LAST", type := .int, accessFlags := 24, slot := 3, constantValue := 0 }, { name := "putMode", type := .int, accessFlags := 128, slot := 11, constantValue := 0 }]
  methods := #[k9m0]
  instanceTypes := #[(.object "java/util/Set"), (.object "java/util/Collection"), (.array (.object "java/util/HashMap$Node")), (.object "java/util/Set"), .int, .int, .int, .float, (.object "java/util/LinkedHashMap$Entry"), (.object "java/util/LinkedHashMap$Entry"), .boolean, .int]
  staticTypes := #[.long, .int, .int, .int]
  resolved := Array.replicate 386 none
  statics := none }

def pool10 : Array CpInfo := pool [(8, .class_ 10), (1, u "java/lang/Iterable"), (24, .class_ 36), (0, u "java/lang/Object")] 25

/-- java/lang/Iterable -/
def k10 : Class := { plain "java/lang/Iterable" (some 0) with
  accessFlags := 1537
  interfaces := #[]
  cf := some (fileOf pool10 8 #[] #[] 1537 35 #[] #[])
  fields := #[]
  methods := #[]
  instanceTypes := #[]
  staticTypes := #[]
  resolved := Array.replicate 62 none
  statics := none }

def pool11 : Array CpInfo := pool [(10, .class_ 12), (1, u "java/util/Collection"), (47, .class_ 61), (0, u "java/lang/Object"), (0, .class_ 63), (0, u "java/lang/Iterable")] 51

/-- java/util/Collection -/
def k11 : Class := { plain "java/util/Collection" (some 0) with
  accessFlags := 1537
  interfaces := #[10]
  cf := some (fileOf pool11 10 #[] #[] 1537 60 #[62] #[])
  fields := #[]
  methods := #[]
  instanceTypes := #[]
  staticTypes := #[]
  resolved := Array.replicate 115 none
  statics := none }

def pool12 : Array CpInfo := pool [(1, .methodref 2 3), (0, .class_ 4), (0, .nameAndType 5 6), (0, u "java/lang/Object"), (0, u "<init>"), (0, u "()V"), (1, .class_ 10), (1, u "java/util/AbstractCollection"), (66, .class_ 78), (0, u "java/util/Collection")] 81

def k12c0 : Code := { maxStack := 1, maxLocals := 1, code := jdk_22_method_1_code, exceptionTable := #[], attributes := #[] }
def k12m0 : Method := { name := "<init>", desc := "()V", sig := { parameters := [], returnType := none }, accessFlags := 4, code := some k12c0 }
/-- java/util/AbstractCollection -/
def k12 : Class := { plain "java/util/AbstractCollection" (some 0) with
  accessFlags := 1057
  interfaces := #[11]
  cf := some (fileOf pool12 8 #[] #[{ accessFlags := 4, nameIndex := 5, descriptorIndex := 6, attributes := #[] }] 1057 2 #[77] #[])
  fields := #[]
  methods := #[k12m0]
  instanceTypes := #[]
  staticTypes := #[]
  resolved := Array.replicate 160 none
  statics := none }

def pool13 : Array CpInfo := pool [(8, .class_ 10), (1, u "java/util/SequencedCollection"), (15, .class_ 27), (0, u "java/lang/Object"), (0, .class_ 29), (0, u "java/util/Collection")] 27

/-- java/util/SequencedCollection -/
def k13 : Class := { plain "java/util/SequencedCollection" (some 0) with
  accessFlags := 1537
  interfaces := #[11]
  cf := some (fileOf pool13 8 #[] #[] 1537 26 #[28] #[])
  fields := #[]
  methods := #[]
  instanceTypes := #[]
  staticTypes := #[]
  resolved := Array.replicate 57 none
  statics := none }

def pool14 : Array CpInfo := pool [(8, .class_ 10), (1, u "java/util/List"), (92, .class_ 104), (0, u "java/lang/Object"), (15, .class_ 121), (0, u "java/util/SequencedCollection")] 129

/-- java/util/List -/
def k14 : Class := { plain "java/util/List" (some 0) with
  accessFlags := 1537
  interfaces := #[13]
  cf := some (fileOf pool14 8 #[] #[] 1537 103 #[120] #[])
  fields := #[]
  methods := #[]
  instanceTypes := #[]
  staticTypes := #[]
  resolved := Array.replicate 251 none
  statics := none }

def pool15 : Array CpInfo := pool [(1, .methodref 2 3), (0, .class_ 4), (0, .nameAndType 5 6), (0, u "java/util/AbstractCollection"), (0, u "<init>"), (0, u "()V"), (0, .fieldref 8 9), (0, .class_ 10), (0, .nameAndType 11 12), (0, u "java/util/AbstractList"), (0, u "modCount"), (0, u "I"), (64, .class_ 78), (0, u "java/util/AbstractList$Itr"), (3, .class_ 83), (0, u "java/util/AbstractList$ListItr"), (9, .class_ 94), (0, u "java/util/AbstractList$RandomAccessSubList"), (3, .class_ 99), (0, u "java/util/AbstractList$SubList"), (33, .class_ 134), (0, u "java/util/List"), (73, .class_ 209), (0, u "java/util/AbstractList$SubList$1"), (0, .class_ 211), (0, u "java/util/AbstractList$RandomAccessSpliterator")] 6

def k15c0 : Code := { maxStack := 2, maxLocals := 1, code := jdk_39_method_1_code, exceptionTable := #[], attributes := #[] }
def k15m0 : Method := { name := "<init>", desc := "()V", sig := { parameters := [], returnType := none }, accessFlags := 4, code := some k15c0 }
/-- java/util/AbstractList -/
def k15 : Class := { plain "java/util/AbstractList" (some 12) with
  accessFlags := 1057
  interfaces := #[14]
  cf := some (fileOf pool15 8 #[.nestMembers #[93, 98, 208, 210, 82, 77]] #[{ accessFlags := 4, nameIndex := 5, descriptorIndex := 6, attributes := #[] }] 1057 2 #[133] #[{ accessFlags := 132, nameIndex := 11, descriptorIndex := 12, attributes := #[] }])
  fields := #[{ name := "modCount", type := .int, accessFlags := 132, slot := 0, constantValue := 0 }]
  methods := #[k15m0]
  instanceTypes := #[.int]
  staticTypes := #[]
  resolved := Array.replicate 218 none
  statics := none }

def pool16 : Array CpInfo := pool [(1, .class_ 2), (0, u "java/util/RandomAccess"), (0, .class_ 4), (0, u "java/lang/Object")] 2

/-- java/util/RandomAccess -/
def k16 : Class := { plain "java/util/RandomAccess" (some 0) with
  accessFlags := 1537
  interfaces := #[]
  cf := some (fileOf pool16 1 #[] #[] 1537 3 #[] #[])
  fields := #[]
  methods := #[]
  instanceTypes := #[]
  staticTypes := #[]
  resolved := Array.replicate 7 none
  statics := none }

def pool17 : Array CpInfo := pool [(1, .methodref 2 3), (0, .class_ 4), (0, .nameAndType 5 6), (0, u "java/util/AbstractList"), (0, u "<init>"), (0, u "()V"), (2, .fieldref 10 11), (0, .class_ 12), (0, .nameAndType 13 14), (0, u "java/util/ArrayList"), (0, u "elementData"), (0, u "[Ljava/lang/Object;"), (2, u "EMPTY_ELEMENTDATA"), (21, .fieldref 10 40), (0, .nameAndType 41 14), (0, u "DEFAULTCAPACITY_EMPTY_ELEMENTDATA"), (8, u "size"), (0, u "I"), (96, .class_ 149), (0, u "java/util/List"), (112, .class_ 263), (0, u "java/util/ArrayList$ListItr"), (3, .class_ 268), (0, u "java/util/ArrayList$Itr"), (7, .class_ 277), (0, u "java/util/ArrayList$SubList"), (12, .class_ 291), (0, u "java/util/ArrayList$ArrayListSpliterator"), (37, .class_ 330), (0, u "java/util/RandomAccess"), (0, .class_ 332), (0, u "java/lang/Cloneable"), (0, .class_ 334), (0, u "java/io/Serializable"), (0, u "serialVersionUID"), (0, u "J"), (3, u "DEFAULT_CAPACITY"), (159, .class_ 501), (0, u "java/util/ArrayList$SubList$2"), (0, .class_ 503), (0, u "java/util/ArrayList$SubList$1")] 5

def k17c0 : Code := { maxStack := 2, maxLocals := 1, code := jdk_38_method_2_code, exceptionTable := #[], attributes := #[] }
def k17m0 : Method := { name := "<init>", desc := "()V", sig := { parameters := [], returnType := none }, accessFlags := 1, code := some k17c0 }
/-- java/util/ArrayList -/
def k17 : Class := { plain "java/util/ArrayList" (some 15) with
  accessFlags := 33
  interfaces := #[14, 16, 5, 6]
  cf := some (fileOf pool17 10 #[.nestMembers #[290, 276, 500, 502, 262, 267]] #[{ accessFlags := 1, nameIndex := 5, descriptorIndex := 6, attributes := #[] }] 33 2 #[148, 329, 331, 333] #[{ accessFlags := 26, nameIndex := 335, descriptorIndex := 336, attributes := #[] }, { accessFlags := 26, nameIndex := 340, descriptorIndex := 51, attributes := #[] }, { accessFlags := 26, nameIndex := 17, descriptorIndex := 14, attributes := #[] }, { accessFlags := 26, nameIndex := 41, descriptorIndex := 14, attributes := #[] }, { accessFlags := 128, nameIndex := 13, descriptorIndex := 14, attributes := #[] }, { accessFlags := 2, nameIndex := 50, descriptorIndex := 51, attributes := #[] }])
  fields := #[{ name := "serialVersionUID", type := .long, accessFlags := 26, slot := 0, constantValue := 0 }, { name := "DEFAULT_CAPACITY", type := .int, accessFlags := 26, slot := 1, constantValue := 0 }, { name := "EMPTY_ELEMENTDATA", type := (.array (.object "java/lang/Object")), accessFlags := 26, slot := 2, constantValue := 0 }, { name := "DEFAULTCAPACITY_EMPTY_ELEMENTDATA", type := (.array (.object "java/lang/Object")), accessFlags := 26, slot := 3, constantValue := 0 }, { name := "elementData", type := (.array (.object "java/lang/Object")), accessFlags := 128, slot := 1, constantValue := 0 }, { name := "size", type := .int, accessFlags := 2, slot := 2, constantValue := 0 }]
  methods := #[k17m0]
  instanceTypes := #[.int, (.array (.object "java/lang/Object")), .int]
  staticTypes := #[.long, .int, (.array (.object "java/lang/Object")), (.array (.object "java/lang/Object"))]
  resolved := Array.replicate 509 none
  statics := some 0 }

/-- the primitive byte -/
def k18 : Class := { plain "byte" none with kind := .primitive 'B', accessFlags := 0x411 }
/-- [B -/
def k19 : Class := { plain "[B" (some 0) with kind := .array 18 .byte, interfaces := #[5, 6], accessFlags := 1041 }

/-- the primitive int -/
def k20 : Class := { plain "int" none with kind := .primitive 'I', accessFlags := 0x411 }
/-- [I -/
def k21 : Class := { plain "[I" (some 0) with kind := .array 20 .int, interfaces := #[5, 6], accessFlags := 1041 }

/-- [Lcom/example/hoarewright/hoarewright/loy/LoyClass; -/
def k22 : Class := { plain "[Lcom/example/hoarewright/hoarewright/loy/LoyClass;" (some 0) with kind := .array 2 (.object "com/example/hoarewright/hoarewright/loy/LoyClass"), interfaces := #[5, 6], accessFlags := 1041 }

/-- [Ljava/lang/Object; -/
def k23 : Class := { plain "[Ljava/lang/Object;" (some 0) with kind := .array 0 (.object "java/lang/Object"), interfaces := #[5, 6], accessFlags := 1041 }

def heap : Heap := #[{ cls := 17, slots := #[.long 0, .int 0, .ref 1, .ref 2], vm := .statics 17 },
  { cls := 23, slots := #[], vm := .none },
  { cls := 23, slots := #[], vm := .none }]
def classes : Array Class := #[k0, k1, k2, k3, k4, k5, k6, k7, k8, k9, k10, k11, k12, k13, k14, k15, k16, k17, k18, k19, k20, k21, k22, k23]
def interned : List (Array UInt16 × Addr) := []
def slotsUsed : Nat := 4
def theMethod : MethodId := ⟨1, 1⟩
def args0 : Array Value := #[.int 5, .int 3, .int 7, .int 2, .int 1]
def aboutOver (below : List Frame) : State where
  vm := { classes := classes, interned := interned.toArray }
  heap := heap
  slotsUsed := slotsUsed
  threads := #[{ frames := .invoking theMethod args0 :: below }]
def below0 : List Frame := [.native { method := ⟨0, 0⟩, args := #[] }]
def about1 : State := aboutOver below0
def p0 : Program := .bare "" "" ""
def e0 : Env := launch0.env 0 0 0
theorem w_frames : about1.frames = Frame.invoking theMethod args0 :: below0 := rfl
set_option maxRecDepth 65536 in
theorem w_args : argsFit about1.vm theMethod args0 = true := by decide +kernel
set_option maxRecDepth 65536 in
theorem w_heap : heapFits about1 = true := by decide +kernel
set_option maxRecDepth 65536 in
theorem w_runnable : about1.curStatus? = some .runnable := by decide +kernel
set_option maxRecDepth 65536 in
theorem w_alone : about1.alone = true := by decide +kernel
set_option maxRecDepth 65536 in
theorem w_named : about1.methodNamed? x = some theMethod := by decide +kernel
set_option maxRecDepth 65536 in
theorem w_hears : about1.hears theMethod below0 = true := by decide +kernel
set_option maxRecDepth 65536 in
theorem w_ripe : about1.ripe theMethod args0 below0 = true := by decide +kernel
theorem w_running : about1.status = .running := rfl
set_option maxRecDepth 65536 in
theorem w_room : about1.hasRoom e0.platform room_1 = true :=
  launch0.hasRoom_least _ room_1 (by decide +kernel) (by decide +kernel) (by decide +kernel) (by decide +kernel) (by decide +kernel) (by decide +kernel)
theorem allAtoms_all (ts : List Jvm.Cond) (a : Array Jvm.Value) (st : Jvm.State) : (allAtoms ts).before a st = ts.all (fun c => c.before a st) := by
  induction ts with
  | nil => rfl
  | cons c t ih =>
    show (Jvm.Cond.and c (allAtoms t)).before a st = _
    rw [Jvm.Cond.before_and, ih, List.all_cons]
def words1 : List Jvm.Cond := Jvm.Cond.code x code maxLocals ret :: tables_1
/-- a 'code' word, met by the world's own term for the bytes: nothing is compared byte by byte -/
theorem code_word {y : MethodName} {bytes : ByteArray} {mx : Nat} {rt : Option FieldType} {a : Array Value} {s : State} {m : MethodId} {meth : Method} {c : Code} (h1 : s.methodNamed? y = some m) (h2 : s.vm.method? m = some meth) (h3 : meth.code = some c) (h4 : c.code = bytes)
    (h5 : (c.maxLocals == mx && c.exceptionTable.isEmpty && decide (c.maxStack ≤ mostOperands) && decide (meth.sig.returnType = rt) && !meth.locks && decide (parseMethodDescriptor y.desc = some meth.sig)) = true) : (Jvm.Cond.code y bytes mx rt).before a s = true := by
  simp only [Bool.and_eq_true, beq_iff_eq, Bool.not_eq_true', decide_eq_true_eq] at h5
  obtain ⟨⟨⟨⟨⟨g1, g2⟩, g3⟩, g4⟩, g5⟩, g6⟩ := h5
  simp [Cond.before, Cond.holds, Cond.value, h1, h2, h3, h4, g1, g2, g3, g4, g5, g6]
def isCode : Jvm.Cond → Bool
  | .code _ _ _ _ => true
  | _ => false
theorem all_split {L : List Jvm.Cond} {P : Jvm.Cond → Bool} (h1 : L.all (fun c => isCode c || P c) = true) (h2 : ∀ c ∈ L.filter isCode, P c = true) : L.all P = true := by
  refine List.all_eq_true.mpr fun c hc => ?_
  have h := List.all_eq_true.mp h1 c hc
  rcases Bool.eq_false_or_eq_true (isCode c) with hi | hi
  · exact h2 c (List.mem_filter.mpr ⟨hc, hi⟩)
  · simpa [hi] using h
set_option maxRecDepth 65536 in
theorem w_c0 : (Jvm.Cond.code x code maxLocals ret).before args0 about1 = true := code_word (m := ⟨1, 1⟩) (meth := k1m1) (c := k1c1) (by decide +kernel) rfl rfl rfl (by decide +kernel)
set_option maxRecDepth 65536 in
theorem w_c1 : (Jvm.Cond.code ({ cls := "com/example/hoarewright/hoarewright/loy/LoyClass", name := "<init>", desc := "(Ljava/lang/String;Lcom/example/hoarewright/hoarewright/analysis/Location;)V" } : Jvm.MethodName) prog_43_method_1_code (3 : Nat) (Option.none : Option Jvm.ClassFile.FieldType)).before args0 about1 = true := code_word (m := ⟨2, 0⟩) (meth := k2m0) (c := k2c0) (by decide +kernel) rfl rfl rfl (by decide +kernel)
set_option maxRecDepth 65536 in
theorem w_c2 : (Jvm.Cond.code ({ cls := "java/lang/Object", name := "<init>", desc := "()V" } : Jvm.MethodName) object_method_1_code (1 : Nat) (Option.none : Option Jvm.ClassFile.FieldType)).before args0 about1 = true := code_word (m := ⟨0, 0⟩) (meth := k0m0) (c := k0c0) (by decide +kernel) rfl rfl rfl (by decide +kernel)
set_option maxRecDepth 65536 in
theorem w_c3 : (Jvm.Cond.code ({ cls := "java/util/LinkedHashMap", name := "<init>", desc := "()V" } : Jvm.MethodName) jdk_94_method_16_code (1 : Nat) (Option.none : Option Jvm.ClassFile.FieldType)).before args0 about1 = true := code_word (m := ⟨9, 0⟩) (meth := k9m0) (c := k9c0) (by decide +kernel) rfl rfl rfl (by decide +kernel)
set_option maxRecDepth 65536 in
theorem w_c4 : (Jvm.Cond.code ({ cls := "java/util/HashMap", name := "<init>", desc := "()V" } : Jvm.MethodName) jdk_69_method_7_code (1 : Nat) (Option.none : Option Jvm.ClassFile.FieldType)).before args0 about1 = true := code_word (m := ⟨7, 0⟩) (meth := k7m0) (c := k7c0) (by decide +kernel) rfl rfl rfl (by decide +kernel)
set_option maxRecDepth 65536 in
theorem w_c5 : (Jvm.Cond.code ({ cls := "java/util/AbstractMap", name := "<init>", desc := "()V" } : Jvm.MethodName) jdk_71_method_1_code (1 : Nat) (Option.none : Option Jvm.ClassFile.FieldType)).before args0 about1 = true := code_word (m := ⟨4, 0⟩) (meth := k4m0) (c := k4c0) (by decide +kernel) rfl rfl rfl (by decide +kernel)
set_option maxRecDepth 65536 in
theorem w_c6 : (Jvm.Cond.code ({ cls := "java/util/ArrayList", name := "<init>", desc := "()V" } : Jvm.MethodName) jdk_38_method_2_code (1 : Nat) (Option.none : Option Jvm.ClassFile.FieldType)).before args0 about1 = true := code_word (m := ⟨17, 0⟩) (meth := k17m0) (c := k17c0) (by decide +kernel) rfl rfl rfl (by decide +kernel)
set_option maxRecDepth 65536 in
theorem w_c7 : (Jvm.Cond.code ({ cls := "java/util/AbstractList", name := "<init>", desc := "()V" } : Jvm.MethodName) jdk_39_method_1_code (1 : Nat) (Option.none : Option Jvm.ClassFile.FieldType)).before args0 about1 = true := code_word (m := ⟨15, 0⟩) (meth := k15m0) (c := k15c0) (by decide +kernel) rfl rfl rfl (by decide +kernel)
set_option maxRecDepth 65536 in
theorem w_c8 : (Jvm.Cond.code ({ cls := "java/util/AbstractCollection", name := "<init>", desc := "()V" } : Jvm.MethodName) jdk_22_method_1_code (1 : Nat) (Option.none : Option Jvm.ClassFile.FieldType)).before args0 about1 = true := code_word (m := ⟨12, 0⟩) (meth := k12m0) (c := k12c0) (by decide +kernel) rfl rfl rfl (by decide +kernel)
set_option maxRecDepth 65536 in
theorem w_c9 : (Jvm.Cond.code ({ cls := "com/example/hoarewright/hoarewright/loy/LoyClass", name := "isA", desc := "(Lcom/example/hoarewright/hoarewright/loy/LoyClass;)Z" } : Jvm.MethodName) prog_43_method_5_code (4 : Nat) (Option.some Jvm.ClassFile.FieldType.boolean)).before args0 about1 = true := code_word (m := ⟨2, 1⟩) (meth := k2m1) (c := k2c1) (by decide +kernel) rfl rfl rfl (by decide +kernel)
set_option maxRecDepth 65536 in
theorem w_c10 : (Jvm.Cond.code ({ cls := "com/example/hoarewright/hoarewright/loy/LoyClass", name := "extend", desc := "(Lcom/example/hoarewright/hoarewright/loy/LoyClass;)V" } : Jvm.MethodName) prog_43_method_13_code (2 : Nat) (Option.none : Option Jvm.ClassFile.FieldType)).before args0 about1 = true := code_word (m := ⟨2, 2⟩) (meth := k2m2) (c := k2c2) (by decide +kernel) rfl rfl rfl (by decide +kernel)
def codes1 : List Jvm.Cond := [Jvm.Cond.code x code maxLocals ret, Jvm.Cond.code ({ cls := "com/example/hoarewright/hoarewright/loy/LoyClass", name := "<init>", desc := "(Ljava/lang/String;Lcom/example/hoarewright/hoarewright/analysis/Location;)V" } : Jvm.MethodName) prog_43_method_1_code (3 : Nat) (Option.none : Option Jvm.ClassFile.FieldType), Jvm.Cond.code ({ cls := "java/lang/Object", name := "<init>", desc := "()V" } : Jvm.MethodName) object_method_1_code (1 : Nat) (Option.none : Option Jvm.ClassFile.FieldType), Jvm.Cond.code ({ cls := "java/util/LinkedHashMap", name := "<init>", desc := "()V" } : Jvm.MethodName) jdk_94_method_16_code (1 : Nat) (Option.none : Option Jvm.ClassFile.FieldType), Jvm.Cond.code ({ cls := "java/util/HashMap", name := "<init>", desc := "()V" } : Jvm.MethodName) jdk_69_method_7_code (1 : Nat) (Option.none : Option Jvm.ClassFile.FieldType), Jvm.Cond.code ({ cls := "java/util/AbstractMap", name := "<init>", desc := "()V" } : Jvm.MethodName) jdk_71_method_1_code (1 : Nat) (Option.none : Option Jvm.ClassFile.FieldType), Jvm.Cond.code ({ cls := "java/util/ArrayList", name := "<init>", desc := "()V" } : Jvm.MethodName) jdk_38_method_2_code (1 : Nat) (Option.none : Option Jvm.ClassFile.FieldType), Jvm.Cond.code ({ cls := "java/util/AbstractList", name := "<init>", desc := "()V" } : Jvm.MethodName) jdk_39_method_1_code (1 : Nat) (Option.none : Option Jvm.ClassFile.FieldType), Jvm.Cond.code ({ cls := "java/util/AbstractCollection", name := "<init>", desc := "()V" } : Jvm.MethodName) jdk_22_method_1_code (1 : Nat) (Option.none : Option Jvm.ClassFile.FieldType), Jvm.Cond.code ({ cls := "com/example/hoarewright/hoarewright/loy/LoyClass", name := "isA", desc := "(Lcom/example/hoarewright/hoarewright/loy/LoyClass;)Z" } : Jvm.MethodName) prog_43_method_5_code (4 : Nat) (Option.some Jvm.ClassFile.FieldType.boolean), Jvm.Cond.code ({ cls := "com/example/hoarewright/hoarewright/loy/LoyClass", name := "extend", desc := "(Lcom/example/hoarewright/hoarewright/loy/LoyClass;)V" } : Jvm.MethodName) prog_43_method_13_code (2 : Nat) (Option.none : Option Jvm.ClassFile.FieldType)]
set_option maxRecDepth 65536 in
theorem codes_eq : words1.filter isCode = codes1 := rfl
theorem w_codes : ∀ c ∈ words1.filter isCode, c.before args0 about1 = true := by
  rw [codes_eq]
  intro c hc
  simp only [codes1, List.mem_cons, List.not_mem_nil, or_false] at hc
  rcases hc with rfl | rfl | rfl | rfl | rfl | rfl | rfl | rfl | rfl | rfl | rfl
  · exact w_c0
  · exact w_c1
  · exact w_c2
  · exact w_c3
  · exact w_c4
  · exact w_c5
  · exact w_c6
  · exact w_c7
  · exact w_c8
  · exact w_c9
  · exact w_c10
set_option maxRecDepth 65536 in
theorem w_t1 : (words1.take 24).all (fun c => isCode c || c.before args0 about1) = true := by decide +kernel
set_option maxRecDepth 65536 in
theorem w_t2 : ((words1.drop 24).take 24).all (fun c => isCode c || c.before args0 about1) = true := by decide +kernel
set_option maxRecDepth 65536 in
theorem w_t3 : (((words1.drop 24).drop 24).take 24).all (fun c => isCode c || c.before args0 about1) = true := by decide +kernel
set_option maxRecDepth 65536 in
theorem w_t4 : (((words1.drop 24).drop 24).drop 24).all (fun c => isCode c || c.before args0 about1) = true := by decide +kernel
theorem w_tables : (allAtoms (Jvm.Cond.code x code maxLocals ret :: tables_1)).before args0 about1 = true := by
  rw [allAtoms_all]
  show words1.all (fun c => c.before args0 about1) = true
  refine all_split ?_ w_codes
  rw [← List.take_append_drop 24 words1, List.all_append, w_t1, ← List.take_append_drop 24 (words1.drop 24), List.all_append, w_t2, ← List.take_append_drop 24 ((words1.drop 24).drop 24), List.all_append, w_t3, w_t4]
  rfl
set_option maxRecDepth 65536 in
theorem w_rest : rest_1_c.before args0 about1 = true := by decide +kernel
set_option maxRecDepth 65536 in
theorem w_case : (Jvm.Cond.and given_1 narrow_1).before args0 about1 = true := by decide +kernel
theorem w_applies : (headSpec (Jvm.Cond.code x code maxLocals ret :: tables_1) room_1).applies x e0.platform about1 = true :=
  (Spec.applies_iff w_frames).mpr ⟨w_running, w_runnable, w_alone, w_named, w_hears, w_ripe, w_room, w_tables⟩
theorem atStart : AtStart classFile x code maxLocals ret World_1 tables_1 room_1 Calls_1 rest_1 Pre_1 launch0 p0 e0 about1 theMethod args0 below0 :=
  ⟨lists_1, trivial, launch0.admits_env _ _ _, launch0.least_env, fairChoices_fair.cas, fairChoices_fair.clock, w_frames, w_args, w_heap, w_applies, trivial, w_rest, w_case⟩
end start1
theorem witness_1 : WitnessClaimed_1 := ⟨start1.p0, start1.e0, start1.about1, start1.theMethod, start1.args0, start1.below0, start1.atStart⟩
end Jvm.Pilot.@@N@@
