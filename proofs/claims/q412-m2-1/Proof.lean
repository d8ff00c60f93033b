import JvmDerived
import JvmDerived.Pilot.@@N@@Statement
import JvmDerived.Pilot.@@N@@Code
set_option linter.unusedVariables false
set_option linter.unusedSimpArgs false
namespace Jvm.OwnKit
open Sem ClassFile Op Lib Jvm.Stand Jvm.Free Jvm.LawKit Jvm.RoadKit
def Go (tb : Tables) (e : Env) (below : List Frame) (P : State → Outcome → Prop) (S : State) : Prop :=
  ∃ s₂ o, Steps tb e below S s₂ ∧ s₂.status = .running ∧ Ended s₂ below o ∧ P s₂ o
theorem go {tb : Tables} {e : Env} {below : List Frame} {P : State → Outcome → Prop} {S S' : State} (h : ∀ t, Steps tb e below S' t → Steps tb e below S t) (k : Go tb e below P S') : Go tb e below P S := by
  obtain ⟨s₂, o, h1, h2⟩ := k
  exact ⟨s₂, o, h _ h1, h2⟩
theorem goT {tb : Tables} {e : Env} {below : List Frame} {P : State → Outcome → Prop} {S S' : State} (h : Steps tb e below S S') (k : Go tb e below P S') : Go tb e below P S := go (fun _ q => h.trans q) k
def Done (s : State) (Q : Option Value → Heap → List Loc → Prop) (k n : Nat) (t : State) (o : Outcome) : Prop := ∃ v L, o = .returned v ∧ Q v t.heap L ∧ FrameEnd s o t L k n
/-- a body's contract: called with just these arguments, over this heap -/
def Con (l : Launch) (Z : State) (y : MethodName) (bytes : ByteArray) (maxL : Nat) (rt : Option FieldType) (ws : List Jvm.Cond) (rm : Room) (as' : Array Value) (h : Heap) (k n : Nat) (Q : Option Value → Heap → List Loc → Prop) : Prop :=
  MetFree l y (head1 (Jvm.Cond.code y bytes maxL rt :: ws) rm) (fun a U => a = as' ∧ Z.Warmed39 U.vm ∧ U.heap = h) (fun _ _ _ _ _ => True) (fun _ U o U' => ∃ v L, o = .returned v ∧ Q v U'.heap L ∧ FrameEnd U o U' L k n)
theorem Con.of {l : Launch} {Z : State} {y : MethodName} {bytes : ByteArray} {maxL : Nat} {rt : Option FieldType} {ws : List Jvm.Cond} {rm : Room} {as' : Array Value} {h : Heap} {k n : Nat} {Q : Option Value → Heap → List Loc → Prop} (hp : plainFor y = true)
    (body : ∀ (p : Program) (e : Env) (s : State) (m : MethodId) (below : List Frame) (meth : Method) (c : Code) (s₁ : State), p.tables.exec = Jvm.exec → c.code = bytes → c.maxLocals = maxL → s.vm.findClass y.cls = some m.cls → meth.name = y.name → meth.sig.returnType = rt → meth.locks = false → Z.Warmed39 s.vm →
      Stand p l e rm s m as' below meth c s₁ [] 0 0 → s₁.heap = h → Go p.tables e below (Done s Q k n) (s₁.setTop (entryFrame m as' maxL))) : Con l Z y bytes maxL rt ws rm as' h k n Q := by
  refine MetFree.of_bodySF hp hisR ?_
  intro p e s m args below meth c s₁ Bd hml0 hP hK
  obtain ⟨rfl, hZ, hh⟩ := hP
  exact body p e s m below meth c s₁ Bd.exec Bd.bytes hml0 (findClass_of_methodNamed Bd.named) (name_of_methodNamed Bd.named Bd.method).1 Bd.returns Bd.notSynchronized hZ (Stand.of_body Bd) (by rw [← hh, Bd.state]; rfl)
section Steps1
variable {p : Program} {l : Launch} {e : Env} {R : Room} {s : State} {m : MethodId} {args : Array Value} {below : List Frame} {meth : Method} {c : Code} {T : State} {locs : List Loc} {cells slots : Nat} {P : State → Outcome → Prop} {pc q : Nat} {L L' : Array Slot} {S : List Value}
theorem goE {args' : Array Value} {n : Nat} (hq : entryFrame m args' n = mkF m 0 L []) (K : Go p.tables e below P (T.setTop (mkF m 0 L []))) : Go p.tables e below P (T.setTop (entryFrame m args' n)) := go (fun _ k => castTop hq k) K
theorem gIloadN (X : Stand p l e R s m args below meth c T locs cells slots) (hx : p.tables.exec = Jvm.exec) {k : Fin 4} {v : Int32} (hd : decode c.code pc = .ok (.iload_n k, 1)) (hq : pc + 1 = q) (hl : L[k.val]? = some (.val (.int v))) (K : Go p.tables e below P (T.setTop (mkF m q L (.int v :: S)))) : Go p.tables e below P (T.setTop (mkF m pc L (S))) := by subst hq; exact go (fun t k => XS.iloadN X.here hx rfl hd hl k) K
theorem gIload (X : Stand p l e R s m args below meth c T locs cells slots) (hx : p.tables.exec = Jvm.exec) {k : Nat} {v : Int32} (hd : decode c.code pc = .ok (.iload k, 2)) (hq : pc + 2 = q) (hl : L[k]? = some (.val (.int v))) (K : Go p.tables e below P (T.setTop (mkF m q L (.int v :: S)))) : Go p.tables e below P (T.setTop (mkF m pc L (S))) := by subst hq; exact go (fun t k => XS.iload X.here hx rfl hd hl k) K
theorem gLloadN (X : Stand p l e R s m args below meth c T locs cells slots) (hx : p.tables.exec = Jvm.exec) {k : Fin 4} {v : Int64} (hd : decode c.code pc = .ok (.lload_n k, 1)) (hq : pc + 1 = q) (hl : L[k.val]? = some (.val (.long v))) (K : Go p.tables e below P (T.setTop (mkF m q L (.long v :: S)))) : Go p.tables e below P (T.setTop (mkF m pc L (S))) := by subst hq; exact go (fun t k => XT.lloadN X.here hx rfl hd hl k) K
theorem gLload (X : Stand p l e R s m args below meth c T locs cells slots) (hx : p.tables.exec = Jvm.exec) {k : Nat} {v : Int64} (hd : decode c.code pc = .ok (.lload k, 2)) (hq : pc + 2 = q) (hl : L[k]? = some (.val (.long v))) (K : Go p.tables e below P (T.setTop (mkF m q L (.long v :: S)))) : Go p.tables e below P (T.setTop (mkF m pc L (S))) := by subst hq; exact go (fun t k => XT.lload X.here hx rfl hd hl k) K
theorem gAloadN (X : Stand p l e R s m args below meth c T locs cells slots) (hx : p.tables.exec = Jvm.exec) {k : Fin 4} {v : Value} (hd : decode c.code pc = .ok (.aload_n k, 1)) (hq : pc + 1 = q) (hl : L[k.val]? = some (.val v)) (hv : v.isRef = true) (K : Go p.tables e below P (T.setTop (mkF m q L (v :: S)))) : Go p.tables e below P (T.setTop (mkF m pc L (S))) := by subst hq; exact go (fun t k => XS.aloadN X.here hx rfl hd hl hv k) K
theorem gAload (X : Stand p l e R s m args below meth c T locs cells slots) (hx : p.tables.exec = Jvm.exec) {k : Nat} {v : Value} (hd : decode c.code pc = .ok (.aload k, 2)) (hq : pc + 2 = q) (hl : L[k]? = some (.val v)) (hv : v.isRef = true) (K : Go p.tables e below P (T.setTop (mkF m q L (v :: S)))) : Go p.tables e below P (T.setTop (mkF m pc L (S))) := by subst hq; exact go (fun t k => XS.aload X.here hx rfl hd hl hv k) K
theorem gIconst (X : Stand p l e R s m args below meth c T locs cells slots) (hx : p.tables.exec = Jvm.exec) {i : Int} (v : Int32) (hd : decode c.code pc = .ok (.iconst i, 1)) (hq : pc + 1 = q) (hv : Int32.ofInt i = v) (K : Go p.tables e below P (T.setTop (mkF m q L (.int v :: S)))) : Go p.tables e below P (T.setTop (mkF m pc L (S))) := by subst hq; exact go (fun t k => XT.iconstV X.here hx rfl v hd hv k) K
theorem gBipush (X : Stand p l e R s m args below meth c T locs cells slots) (hx : p.tables.exec = Jvm.exec) {i : Int} (v : Int32) (hd : decode c.code pc = .ok (.bipush i, 2)) (hq : pc + 2 = q) (hv : (Int8.ofInt i).toInt32 = v) (K : Go p.tables e below P (T.setTop (mkF m q L (.int v :: S)))) : Go p.tables e below P (T.setTop (mkF m pc L (S))) := by subst hq; exact go (fun t k => XT.bipushV X.here hx rfl v hd hv k) K
theorem gSipush (X : Stand p l e R s m args below meth c T locs cells slots) (hx : p.tables.exec = Jvm.exec) {i : Int} (v : Int32) (hd : decode c.code pc = .ok (.sipush i, 3)) (hq : pc + 3 = q) (hv : (Int16.ofInt i).toInt32 = v) (K : Go p.tables e below P (T.setTop (mkF m q L (.int v :: S)))) : Go p.tables e below P (T.setTop (mkF m pc L (S))) := by subst hq; exact go (fun t k => XT.sipushV X.here hx rfl v hd hv k) K
theorem gLconst (X : Stand p l e R s m args below meth c T locs cells slots) (hx : p.tables.exec = Jvm.exec) {k : Fin 2} (v : Int64) (hd : decode c.code pc = .ok (.lconst k, 1)) (hq : pc + 1 = q) (hv : Int64.ofNat k = v) (K : Go p.tables e below P (T.setTop (mkF m q L (.long v :: S)))) : Go p.tables e below P (T.setTop (mkF m pc L (S))) := by subst hq; exact go (fun t k => XT.lconstV X.here hx rfl v hd hv k) K
theorem gNull (X : Stand p l e R s m args below meth c T locs cells slots) (hx : p.tables.exec = Jvm.exec)  (hd : decode c.code pc = .ok (.aconst_null, 1)) (hq : pc + 1 = q)  (K : Go p.tables e below P (T.setTop (mkF m q L (.null :: S)))) : Go p.tables e below P (T.setTop (mkF m pc L (S))) := by subst hq; exact go (fun t k => XS.aconstNull X.here hx rfl hd  k) K
theorem gLdc (X : Stand p l e R s m args below meth c T locs cells slots) (hx : p.tables.exec = Jvm.exec) {Z : State} {a0 : Array Value} (hZ : Z.Warmed39 s.vm) {own : String} {i : Nat} {v : Int32} (hown : s.vm.findClass own = some m.cls) (w : (Jvm.Cond.constant own i v).before a0 Z = true) (hd : decode c.code pc = .ok (.ldc i, 2)) (hq : pc + 2 = q) (K : Go p.tables e below P (T.setTop (mkF m q L (.int v :: S)))) : Go p.tables e below P (T.setTop (mkF m pc L (S))) := by subst hq; exact go (fun t k => Stand.ldcI X hx hown (mvT hZ w) rfl hd k) K
theorem gLdcW (X : Stand p l e R s m args below meth c T locs cells slots) (hx : p.tables.exec = Jvm.exec) {Z : State} {a0 : Array Value} (hZ : Z.Warmed39 s.vm) {own : String} {i : Nat} {v : Int32} (hown : s.vm.findClass own = some m.cls) (w : (Jvm.Cond.constant own i v).before a0 Z = true) (hd : decode c.code pc = .ok (.ldc_w i, 3)) (hq : pc + 3 = q) (K : Go p.tables e below P (T.setTop (mkF m q L (.int v :: S)))) : Go p.tables e below P (T.setTop (mkF m pc L (S))) := by subst hq; exact go (fun t k => Stand.ldcWI X hx hown (mvT hZ w) rfl hd k) K
theorem gLdc2 (X : Stand p l e R s m args below meth c T locs cells slots) (hx : p.tables.exec = Jvm.exec) {Z : State} {a0 : Array Value} (hZ : Z.Warmed39 s.vm) {own : String} {i : Nat} {v : Int64} (hown : s.vm.findClass own = some m.cls) (w : (Jvm.Cond.constantLong own i v).before a0 Z = true) (hd : decode c.code pc = .ok (.ldc2_w i, 3)) (hq : pc + 3 = q) (K : Go p.tables e below P (T.setTop (mkF m q L (.long v :: S)))) : Go p.tables e below P (T.setTop (mkF m pc L (S))) := by subst hq; exact go (fun t k => Stand.ldc2J X hx hown (mvT hZ w) rfl hd k) K
theorem gIadd (X : Stand p l e R s m args below meth c T locs cells slots) (hx : p.tables.exec = Jvm.exec) {x y : Int32} (hd : decode c.code pc = .ok (.iadd, 1)) (hq : pc + 1 = q)  (K : Go p.tables e below P (T.setTop (mkF m q L (.int (x + y) :: S)))) : Go p.tables e below P (T.setTop (mkF m pc L (.int y :: .int x :: S))) := by subst hq; exact go (fun t k => XS.iadd X.here hx rfl hd rfl  k) K
theorem gIsub (X : Stand p l e R s m args below meth c T locs cells slots) (hx : p.tables.exec = Jvm.exec) {x y : Int32} (hd : decode c.code pc = .ok (.isub, 1)) (hq : pc + 1 = q)  (K : Go p.tables e below P (T.setTop (mkF m q L (.int (x - y) :: S)))) : Go p.tables e below P (T.setTop (mkF m pc L (.int y :: .int x :: S))) := by subst hq; exact go (fun t k => XS.isub X.here hx rfl hd rfl  k) K
theorem gIand (X : Stand p l e R s m args below meth c T locs cells slots) (hx : p.tables.exec = Jvm.exec) {x y : Int32} (hd : decode c.code pc = .ok (.iand, 1)) (hq : pc + 1 = q)  (K : Go p.tables e below P (T.setTop (mkF m q L (.int (x &&& y) :: S)))) : Go p.tables e below P (T.setTop (mkF m pc L (.int y :: .int x :: S))) := by subst hq; exact go (fun t k => XS.iand X.here hx rfl hd rfl  k) K
theorem gImul (X : Stand p l e R s m args below meth c T locs cells slots) (hx : p.tables.exec = Jvm.exec) {x y : Int32} (hd : decode c.code pc = .ok (.imul, 1)) (hq : pc + 1 = q)  (K : Go p.tables e below P (T.setTop (mkF m q L (.int (x * y) :: S)))) : Go p.tables e below P (T.setTop (mkF m pc L (.int y :: .int x :: S))) := by subst hq; exact go (fun t k => XS.imul X.here hx rfl hd rfl  k) K
theorem gIxor (X : Stand p l e R s m args below meth c T locs cells slots) (hx : p.tables.exec = Jvm.exec) {x y : Int32} (hd : decode c.code pc = .ok (.ixor, 1)) (hq : pc + 1 = q)  (K : Go p.tables e below P (T.setTop (mkF m q L (.int (x ^^^ y) :: S)))) : Go p.tables e below P (T.setTop (mkF m pc L (.int y :: .int x :: S))) := by subst hq; exact go (fun t k => XT.ixor X.here hx rfl hd rfl  k) K
theorem gIor (X : Stand p l e R s m args below meth c T locs cells slots) (hx : p.tables.exec = Jvm.exec) {x y : Int32} (hd : decode c.code pc = .ok (.ior, 1)) (hq : pc + 1 = q)  (K : Go p.tables e below P (T.setTop (mkF m q L (.int (x ||| y) :: S)))) : Go p.tables e below P (T.setTop (mkF m pc L (.int y :: .int x :: S))) := by subst hq; exact go (fun t k => XT.ior X.here hx rfl hd rfl  k) K
theorem gIshl (X : Stand p l e R s m args below meth c T locs cells slots) (hx : p.tables.exec = Jvm.exec) {x y : Int32} (hd : decode c.code pc = .ok (.ishl, 1)) (hq : pc + 1 = q)  (K : Go p.tables e below P (T.setTop (mkF m q L (.int (x <<< (y &&& 31)) :: S)))) : Go p.tables e below P (T.setTop (mkF m pc L (.int y :: .int x :: S))) := by subst hq; exact go (fun t k => XT.ishl X.here hx rfl hd rfl  k) K
theorem gIshr (X : Stand p l e R s m args below meth c T locs cells slots) (hx : p.tables.exec = Jvm.exec) {x y : Int32} (hd : decode c.code pc = .ok (.ishr, 1)) (hq : pc + 1 = q)  (K : Go p.tables e below P (T.setTop (mkF m q L (.int (x >>> (y &&& 31)) :: S)))) : Go p.tables e below P (T.setTop (mkF m pc L (.int y :: .int x :: S))) := by subst hq; exact go (fun t k => XT.ishr X.here hx rfl hd rfl  k) K
theorem gIushr (X : Stand p l e R s m args below meth c T locs cells slots) (hx : p.tables.exec = Jvm.exec) {x y : Int32} (hd : decode c.code pc = .ok (.iushr, 1)) (hq : pc + 1 = q)  (K : Go p.tables e below P (T.setTop (mkF m q L (.int (XT.ushr x y) :: S)))) : Go p.tables e below P (T.setTop (mkF m pc L (.int y :: .int x :: S))) := by subst hq; exact go (fun t k => XT.iushr X.here hx rfl hd rfl  k) K
theorem gIdiv (X : Stand p l e R s m args below meth c T locs cells slots) (hx : p.tables.exec = Jvm.exec) {x y : Int32} (hd : decode c.code pc = .ok (.idiv, 1)) (hq : pc + 1 = q) (hy : y ≠ 0) (K : Go p.tables e below P (T.setTop (mkF m q L (.int (x / y) :: S)))) : Go p.tables e below P (T.setTop (mkF m pc L (.int y :: .int x :: S))) := by subst hq; exact go (fun t k => XS.idiv X.here hx rfl hd rfl hy k) K
theorem gIrem (X : Stand p l e R s m args below meth c T locs cells slots) (hx : p.tables.exec = Jvm.exec) {x y : Int32} (hd : decode c.code pc = .ok (.irem, 1)) (hq : pc + 1 = q) (hy : y ≠ 0) (K : Go p.tables e below P (T.setTop (mkF m q L (.int (x % y) :: S)))) : Go p.tables e below P (T.setTop (mkF m pc L (.int y :: .int x :: S))) := by subst hq; exact go (fun t k => iremM X hx rfl hd rfl hy k) K
theorem gIneg (X : Stand p l e R s m args below meth c T locs cells slots) (hx : p.tables.exec = Jvm.exec) {x : Int32} (hd : decode c.code pc = .ok (.ineg, 1)) (hq : pc + 1 = q)  (K : Go p.tables e below P (T.setTop (mkF m q L (.int (-x) :: S)))) : Go p.tables e below P (T.setTop (mkF m pc L (.int x :: S))) := by subst hq; exact go (fun t k => XS.ineg X.here hx rfl hd rfl  k) K
theorem gLadd (X : Stand p l e R s m args below meth c T locs cells slots) (hx : p.tables.exec = Jvm.exec) {x y : Int64} (hd : decode c.code pc = .ok (.ladd, 1)) (hq : pc + 1 = q)  (K : Go p.tables e below P (T.setTop (mkF m q L (.long (x + y) :: S)))) : Go p.tables e below P (T.setTop (mkF m pc L (.long y :: .long x :: S))) := by subst hq; exact go (fun t k => XT.ladd X.here hx rfl hd rfl  k) K
theorem gLsub (X : Stand p l e R s m args below meth c T locs cells slots) (hx : p.tables.exec = Jvm.exec) {x y : Int64} (hd : decode c.code pc = .ok (.lsub, 1)) (hq : pc + 1 = q)  (K : Go p.tables e below P (T.setTop (mkF m q L (.long (x - y) :: S)))) : Go p.tables e below P (T.setTop (mkF m pc L (.long y :: .long x :: S))) := by subst hq; exact go (fun t k => XT.lsub X.here hx rfl hd rfl  k) K
theorem gLmul (X : Stand p l e R s m args below meth c T locs cells slots) (hx : p.tables.exec = Jvm.exec) {x y : Int64} (hd : decode c.code pc = .ok (.lmul, 1)) (hq : pc + 1 = q)  (K : Go p.tables e below P (T.setTop (mkF m q L (.long (x * y) :: S)))) : Go p.tables e below P (T.setTop (mkF m pc L (.long y :: .long x :: S))) := by subst hq; exact go (fun t k => XT.lmul X.here hx rfl hd rfl  k) K
theorem gLand (X : Stand p l e R s m args below meth c T locs cells slots) (hx : p.tables.exec = Jvm.exec) {x y : Int64} (hd : decode c.code pc = .ok (.land, 1)) (hq : pc + 1 = q)  (K : Go p.tables e below P (T.setTop (mkF m q L (.long (x &&& y) :: S)))) : Go p.tables e below P (T.setTop (mkF m pc L (.long y :: .long x :: S))) := by subst hq; exact go (fun t k => XT.land X.here hx rfl hd rfl  k) K
theorem gLor (X : Stand p l e R s m args below meth c T locs cells slots) (hx : p.tables.exec = Jvm.exec) {x y : Int64} (hd : decode c.code pc = .ok (.lor, 1)) (hq : pc + 1 = q)  (K : Go p.tables e below P (T.setTop (mkF m q L (.long (x ||| y) :: S)))) : Go p.tables e below P (T.setTop (mkF m pc L (.long y :: .long x :: S))) := by subst hq; exact go (fun t k => XT.lor X.here hx rfl hd rfl  k) K
theorem gLxor (X : Stand p l e R s m args below meth c T locs cells slots) (hx : p.tables.exec = Jvm.exec) {x y : Int64} (hd : decode c.code pc = .ok (.lxor, 1)) (hq : pc + 1 = q)  (K : Go p.tables e below P (T.setTop (mkF m q L (.long (x ^^^ y) :: S)))) : Go p.tables e below P (T.setTop (mkF m pc L (.long y :: .long x :: S))) := by subst hq; exact go (fun t k => XT.lxor X.here hx rfl hd rfl  k) K
theorem gLcmp (X : Stand p l e R s m args below meth c T locs cells slots) (hx : p.tables.exec = Jvm.exec) {x y : Int64} (hd : decode c.code pc = .ok (.lcmp, 1)) (hq : pc + 1 = q)  (K : Go p.tables e below P (T.setTop (mkF m q L (.int (XT.cmpL x y) :: S)))) : Go p.tables e below P (T.setTop (mkF m pc L (.long y :: .long x :: S))) := by subst hq; exact go (fun t k => XT.lcmp X.here hx rfl hd rfl  k) K
theorem gLneg (X : Stand p l e R s m args below meth c T locs cells slots) (hx : p.tables.exec = Jvm.exec) {x : Int64} (hd : decode c.code pc = .ok (.lneg, 1)) (hq : pc + 1 = q)  (K : Go p.tables e below P (T.setTop (mkF m q L (.long (-x) :: S)))) : Go p.tables e below P (T.setTop (mkF m pc L (.long x :: S))) := by subst hq; exact go (fun t k => XT.lneg X.here hx rfl hd rfl  k) K
theorem gI2l (X : Stand p l e R s m args below meth c T locs cells slots) (hx : p.tables.exec = Jvm.exec) {x : Int32} (hd : decode c.code pc = .ok (.i2l, 1)) (hq : pc + 1 = q)  (K : Go p.tables e below P (T.setTop (mkF m q L (.long x.toInt64 :: S)))) : Go p.tables e below P (T.setTop (mkF m pc L (.int x :: S))) := by subst hq; exact go (fun t k => XT.i2l X.here hx rfl hd rfl  k) K
theorem gL2i (X : Stand p l e R s m args below meth c T locs cells slots) (hx : p.tables.exec = Jvm.exec) {x : Int64} (hd : decode c.code pc = .ok (.l2i, 1)) (hq : pc + 1 = q)  (K : Go p.tables e below P (T.setTop (mkF m q L (.int x.toInt32 :: S)))) : Go p.tables e below P (T.setTop (mkF m pc L (.long x :: S))) := by subst hq; exact go (fun t k => XT.l2i X.here hx rfl hd rfl  k) K
theorem gI2c (X : Stand p l e R s m args below meth c T locs cells slots) (hx : p.tables.exec = Jvm.exec) {x : Int32} (hd : decode c.code pc = .ok (.i2c, 1)) (hq : pc + 1 = q)  (K : Go p.tables e below P (T.setTop (mkF m q L (.int x.toUInt32.toUInt16.toUInt32.toInt32 :: S)))) : Go p.tables e below P (T.setTop (mkF m pc L (.int x :: S))) := by subst hq; exact go (fun t k => XT.i2c X.here hx rfl hd rfl  k) K
theorem gI2b (X : Stand p l e R s m args below meth c T locs cells slots) (hx : p.tables.exec = Jvm.exec) {x : Int32} (hd : decode c.code pc = .ok (.i2b, 1)) (hq : pc + 1 = q)  (K : Go p.tables e below P (T.setTop (mkF m q L (.int x.toInt8.toInt32 :: S)))) : Go p.tables e below P (T.setTop (mkF m pc L (.int x :: S))) := by subst hq; exact go (fun t k => XT.i2b X.here hx rfl hd rfl  k) K
theorem gLdiv (X : Stand p l e R s m args below meth c T locs cells slots) (hx : p.tables.exec = Jvm.exec) {x y : Int64} (hd : decode c.code pc = .ok (.ldiv, 1)) (hq : pc + 1 = q) (hy : y ≠ 0) (K : Go p.tables e below P (T.setTop (mkF m q L (.long (x / y) :: S)))) : Go p.tables e below P (T.setTop (mkF m pc L (.long y :: .long x :: S))) := by subst hq; exact go (fun t k => XT.ldiv X.here hx rfl hd rfl hy k) K
theorem gLshl (X : Stand p l e R s m args below meth c T locs cells slots) (hx : p.tables.exec = Jvm.exec) {x : Int64} {y : Int32} (hd : decode c.code pc = .ok (.lshl, 1)) (hq : pc + 1 = q)  (K : Go p.tables e below P (T.setTop (mkF m q L (.long (x <<< (y.toInt64 &&& 63)) :: S)))) : Go p.tables e below P (T.setTop (mkF m pc L (.int y :: .long x :: S))) := by subst hq; exact go (fun t k => XT.lshl X.here hx rfl hd rfl  k) K
theorem gLshr (X : Stand p l e R s m args below meth c T locs cells slots) (hx : p.tables.exec = Jvm.exec) {x : Int64} {y : Int32} (hd : decode c.code pc = .ok (.lshr, 1)) (hq : pc + 1 = q)  (K : Go p.tables e below P (T.setTop (mkF m q L (.long (x >>> (y.toInt64 &&& 63)) :: S)))) : Go p.tables e below P (T.setTop (mkF m pc L (.int y :: .long x :: S))) := by subst hq; exact go (fun t k => XT.lshr X.here hx rfl hd rfl  k) K
theorem gLushr (X : Stand p l e R s m args below meth c T locs cells slots) (hx : p.tables.exec = Jvm.exec) {x : Int64} {y : Int32} (hd : decode c.code pc = .ok (.lushr, 1)) (hq : pc + 1 = q)  (K : Go p.tables e below P (T.setTop (mkF m q L (.long (XT.ushrL x y) :: S)))) : Go p.tables e below P (T.setTop (mkF m pc L (.int y :: .long x :: S))) := by subst hq; exact go (fun t k => XT.lushr X.here hx rfl hd rfl  k) K
theorem gLrem (X : Stand p l e R s m args below meth c T locs cells slots) (hx : p.tables.exec = Jvm.exec) {x y : Int64} (hd : decode c.code pc = .ok (.lrem, 1)) (hq : pc + 1 = q) (hy : y ≠ 0) (K : Go p.tables e below P (T.setTop (mkF m q L (.long (x - (x / y) * y) :: S)))) : Go p.tables e below P (T.setTop (mkF m pc L (.long y :: .long x :: S))) := by subst hq; exact go (fun t k => XT.lrem X.here hx rfl hd rfl hy k) K
theorem gIstoreN (X : Stand p l e R s m args below meth c T locs cells slots) (hx : p.tables.exec = Jvm.exec) {k : Fin 4} {x : Int32} (hd : decode c.code pc = .ok (.istore_n k, 1)) (hq : pc + 1 = q) (hl : storeLocals L k.val (.int x) = some L') (K : Go p.tables e below P (T.setTop (mkF m q L' (S)))) : Go p.tables e below P (T.setTop (mkF m pc L (.int x :: S))) := by subst hq; exact go (fun t k => XS.istoreN X.here hx rfl hd rfl hl k) K
theorem gIstore (X : Stand p l e R s m args below meth c T locs cells slots) (hx : p.tables.exec = Jvm.exec) {k : Nat} {x : Int32} (hd : decode c.code pc = .ok (.istore k, 2)) (hq : pc + 2 = q) (hl : storeLocals L k (.int x) = some L') (K : Go p.tables e below P (T.setTop (mkF m q L' (S)))) : Go p.tables e below P (T.setTop (mkF m pc L (.int x :: S))) := by subst hq; exact go (fun t k => XS.istore X.here hx rfl hd rfl hl k) K
theorem gLstoreN (X : Stand p l e R s m args below meth c T locs cells slots) (hx : p.tables.exec = Jvm.exec) {k : Fin 4} {x : Int64} (hd : decode c.code pc = .ok (.lstore_n k, 1)) (hq : pc + 1 = q) (hl : storeLocals L k.val (.long x) = some L') (K : Go p.tables e below P (T.setTop (mkF m q L' (S)))) : Go p.tables e below P (T.setTop (mkF m pc L (.long x :: S))) := by subst hq; exact go (fun t k => XT.lstoreN X.here hx rfl hd rfl hl k) K
theorem gLstore (X : Stand p l e R s m args below meth c T locs cells slots) (hx : p.tables.exec = Jvm.exec) {k : Nat} {x : Int64} (hd : decode c.code pc = .ok (.lstore k, 2)) (hq : pc + 2 = q) (hl : storeLocals L k (.long x) = some L') (K : Go p.tables e below P (T.setTop (mkF m q L' (S)))) : Go p.tables e below P (T.setTop (mkF m pc L (.long x :: S))) := by subst hq; exact go (fun t k => XT.lstore X.here hx rfl hd rfl hl k) K
theorem gAstoreN (X : Stand p l e R s m args below meth c T locs cells slots) (hx : p.tables.exec = Jvm.exec) {k : Fin 4} {x : Value} (hd : decode c.code pc = .ok (.astore_n k, 1)) (hq : pc + 1 = q) (hv : x.isRef = true) (hl : storeLocals L k.val x = some L') (K : Go p.tables e below P (T.setTop (mkF m q L' (S)))) : Go p.tables e below P (T.setTop (mkF m pc L (x :: S))) := by subst hq; exact go (fun t k => XS.astoreN X.here hx rfl hd rfl hv hl k) K
theorem gAstore (X : Stand p l e R s m args below meth c T locs cells slots) (hx : p.tables.exec = Jvm.exec) {k : Nat} {x : Value} (hd : decode c.code pc = .ok (.astore k, 2)) (hq : pc + 2 = q) (hv : x.isRef = true) (hl : storeLocals L k x = some L') (K : Go p.tables e below P (T.setTop (mkF m q L' (S)))) : Go p.tables e below P (T.setTop (mkF m pc L (x :: S))) := by subst hq; exact go (fun t k => XS.astore X.here hx rfl hd rfl hv hl k) K
theorem gIinc (X : Stand p l e R s m args below meth c T locs cells slots) (hx : p.tables.exec = Jvm.exec) {k : Nat} {cst : Int} {x : Int32} (v : Int32) (hd : decode c.code pc = .ok (.iinc k cst, 3)) (hq : pc + 3 = q) (hv : Int32.ofInt cst = v) (hl : L[k]? = some (.val (.int x))) (hl' : storeLocals L k (.int (x + v)) = some L') (K : Go p.tables e below P (T.setTop (mkF m q L' (S)))) : Go p.tables e below P (T.setTop (mkF m pc L (S))) := by subst hq; exact go (fun t k => XT.iincV X.here hx rfl v hd hv hl hl' k) K
theorem gDup (X : Stand p l e R s m args below meth c T locs cells slots) (hx : p.tables.exec = Jvm.exec) {x : Value} (hd : decode c.code pc = .ok (.dup, 1)) (hq : pc + 1 = q) (hc : x.category = 1) (K : Go p.tables e below P (T.setTop (mkF m q L (x :: x :: S)))) : Go p.tables e below P (T.setTop (mkF m pc L (x :: S))) := by subst hq; exact go (fun t k => XS.dup X.here hx rfl hd rfl hc k) K
theorem gPop (X : Stand p l e R s m args below meth c T locs cells slots) (hx : p.tables.exec = Jvm.exec) {x : Value} (hd : decode c.code pc = .ok (.pop, 1)) (hq : pc + 1 = q) (hc : x.category = 1) (K : Go p.tables e below P (T.setTop (mkF m q L (S)))) : Go p.tables e below P (T.setTop (mkF m pc L (x :: S))) := by subst hq; exact go (fun t k => XT.pop X.here hx rfl hd rfl hc k) K
theorem gDupX1 (X : Stand p l e R s m args below meth c T locs cells slots) (hx : p.tables.exec = Jvm.exec) {x y : Value} (hd : decode c.code pc = .ok (.dup_x1, 1)) (hq : pc + 1 = q) (hc : x.category = 1) (hc' : y.category = 1) (K : Go p.tables e below P (T.setTop (mkF m q L (x :: y :: x :: S)))) : Go p.tables e below P (T.setTop (mkF m pc L (x :: y :: S))) := by subst hq; exact go (fun t k => XT.dupX1 X.here hx rfl hd rfl hc hc' k) K
theorem gDup2 (X : Stand p l e R s m args below meth c T locs cells slots) (hx : p.tables.exec = Jvm.exec) {x y : Value} (hd : decode c.code pc = .ok (.dup2, 1)) (hq : pc + 1 = q) (hc : x.category = 1) (hc' : y.category = 1) (K : Go p.tables e below P (T.setTop (mkF m q L (x :: y :: x :: y :: S)))) : Go p.tables e below P (T.setTop (mkF m pc L (x :: y :: S))) := by subst hq; exact go (fun t k => XT.dup2 X.here hx rfl hd rfl hc hc' k) K
theorem gDup2L (X : Stand p l e R s m args below meth c T locs cells slots) (hx : p.tables.exec = Jvm.exec) {x : Int64} (hd : decode c.code pc = .ok (.dup2, 1)) (hq : pc + 1 = q)  (K : Go p.tables e below P (T.setTop (mkF m q L (.long x :: .long x :: S)))) : Go p.tables e below P (T.setTop (mkF m pc L (.long x :: S))) := by subst hq; exact go (fun t k => XT.dup2L X.here hx rfl hd rfl  k) K
theorem gGoto (X : Stand p l e R s m args below meth c T locs cells slots) (hx : p.tables.exec = Jvm.exec) {o : Int} (hd : decode c.code pc = .ok (.goto o, 3)) (ho : 0 ≤ (pc : Int) + o) (hq : ((pc : Int) + o).toNat = q) (K : Go p.tables e below P (T.setTop (mkF m q L (S)))) : Go p.tables e below P (T.setTop (mkF m pc L (S))) := go (fun t k => XS.goto X.here hx rfl rfl hd ho hq k) K
theorem gIfY (X : Stand p l e R s m args below meth c T locs cells slots) (hx : p.tables.exec = Jvm.exec) {cd : ClassFile.Cond} {x : Int32} {o : Int} (hd : decode c.code pc = .ok (.ifCond cd o, 3)) (ho : 0 ≤ (pc : Int) + o) (hq : ((pc : Int) + o).toNat = q) (hc : ifCond.holds cd x = true) (K : Go p.tables e below P (T.setTop (mkF m q L (S)))) : Go p.tables e below P (T.setTop (mkF m pc L (.int x :: S))) := go (fun t k => XS.ifYes X.here hx rfl rfl hd rfl hc ho hq k) K
theorem gIfN (X : Stand p l e R s m args below meth c T locs cells slots) (hx : p.tables.exec = Jvm.exec) {cd : ClassFile.Cond} {x : Int32} {o : Int} (hd : decode c.code pc = .ok (.ifCond cd o, 3)) (hq : pc + 3 = q) (hc : ifCond.holds cd x = false) (K : Go p.tables e below P (T.setTop (mkF m q L (S)))) : Go p.tables e below P (T.setTop (mkF m pc L (.int x :: S))) := by subst hq; exact go (fun t k => XS.ifNo X.here hx rfl hd rfl hc k) K
theorem gIcmpY (X : Stand p l e R s m args below meth c T locs cells slots) (hx : p.tables.exec = Jvm.exec) {cd : ClassFile.Cond} {x y : Int32} {o : Int} (hd : decode c.code pc = .ok (.if_icmp cd o, 3)) (ho : 0 ≤ (pc : Int) + o) (hq : ((pc : Int) + o).toNat = q) (hc : if_icmp.holds cd x y = true) (K : Go p.tables e below P (T.setTop (mkF m q L (S)))) : Go p.tables e below P (T.setTop (mkF m pc L (.int y :: .int x :: S))) := go (fun t k => XS.icmpYes X.here hx rfl rfl hd rfl hc ho hq k) K
theorem gIcmpN (X : Stand p l e R s m args below meth c T locs cells slots) (hx : p.tables.exec = Jvm.exec) {cd : ClassFile.Cond} {x y : Int32} {o : Int} (hd : decode c.code pc = .ok (.if_icmp cd o, 3)) (hq : pc + 3 = q) (hc : if_icmp.holds cd x y = false) (K : Go p.tables e below P (T.setTop (mkF m q L (S)))) : Go p.tables e below P (T.setTop (mkF m pc L (.int y :: .int x :: S))) := by subst hq; exact go (fun t k => XS.icmpNo X.here hx rfl hd rfl hc k) K
theorem gAcmpY (X : Stand p l e R s m args below meth c T locs cells slots) (hx : p.tables.exec = Jvm.exec) {cd : ClassFile.ACond} {x y : Value} {o : Int} (hd : decode c.code pc = .ok (.if_acmp cd o, 3)) (ho : 0 ≤ (pc : Int) + o) (hq : ((pc : Int) + o).toNat = q) (h1 : x.isRef = true) (h2 : y.isRef = true) (hc : XT.acmp cd x y = true) (K : Go p.tables e below P (T.setTop (mkF m q L (S)))) : Go p.tables e below P (T.setTop (mkF m pc L (y :: x :: S))) := go (fun t k => XT.acmpYes X.here hx rfl rfl hd rfl h1 h2 hc ho hq k) K
theorem gAcmpN (X : Stand p l e R s m args below meth c T locs cells slots) (hx : p.tables.exec = Jvm.exec) {cd : ClassFile.ACond} {x y : Value} {o : Int} (hd : decode c.code pc = .ok (.if_acmp cd o, 3)) (hq : pc + 3 = q) (h1 : x.isRef = true) (h2 : y.isRef = true) (hc : XT.acmp cd x y = false) (K : Go p.tables e below P (T.setTop (mkF m q L (S)))) : Go p.tables e below P (T.setTop (mkF m pc L (y :: x :: S))) := by subst hq; exact go (fun t k => XT.acmpNo X.here hx rfl hd rfl h1 h2 hc k) K
theorem gNullY (X : Stand p l e R s m args below meth c T locs cells slots) (hx : p.tables.exec = Jvm.exec) {v : Value} {o : Int} (hd : decode c.code pc = .ok (.ifnull o, 3)) (ho : 0 ≤ (pc : Int) + o) (hq : ((pc : Int) + o).toNat = q) (hv : v = .null) (K : Go p.tables e below P (T.setTop (mkF m q L (S)))) : Go p.tables e below P (T.setTop (mkF m pc L (v :: S))) := go (fun t k => XT.nullYes X.here hx rfl rfl hd rfl hv ho hq k) K
theorem gNullN (X : Stand p l e R s m args below meth c T locs cells slots) (hx : p.tables.exec = Jvm.exec) {v : Value} {o : Int} (hd : decode c.code pc = .ok (.ifnull o, 3)) (hq : pc + 3 = q) (hr : v.isRef = true) (hv : ¬ v = .null) (K : Go p.tables e below P (T.setTop (mkF m q L (S)))) : Go p.tables e below P (T.setTop (mkF m pc L (v :: S))) := by subst hq; exact go (fun t k => XT.nullNo X.here hx rfl hd rfl hr hv k) K
theorem gNonY (X : Stand p l e R s m args below meth c T locs cells slots) (hx : p.tables.exec = Jvm.exec) {v : Value} {o : Int} (hd : decode c.code pc = .ok (.ifnonnull o, 3)) (ho : 0 ≤ (pc : Int) + o) (hq : ((pc : Int) + o).toNat = q) (hr : v.isRef = true) (hv : ¬ v = .null) (K : Go p.tables e below P (T.setTop (mkF m q L (S)))) : Go p.tables e below P (T.setTop (mkF m pc L (v :: S))) := go (fun t k => XT.nonnullYes X.here hx rfl rfl hd rfl hr hv ho hq k) K
theorem gNonN (X : Stand p l e R s m args below meth c T locs cells slots) (hx : p.tables.exec = Jvm.exec) {v : Value} {o : Int} (hd : decode c.code pc = .ok (.ifnonnull o, 3)) (hq : pc + 3 = q) (hv : v = .null) (K : Go p.tables e below P (T.setTop (mkF m q L (S)))) : Go p.tables e below P (T.setTop (mkF m pc L (v :: S))) := by subst hq; exact go (fun t k => XT.nonnullNo X.here hx rfl hd rfl hv k) K
theorem gRet (X : Stand p l e R s m args below meth c T locs cells slots) (hx : p.tables.exec = Jvm.exec) {Q : Option Value → Heap → List Loc → Prop} {k n : Nat} {w : Value} {t : FieldType} {i : Instr} (hlk : meth.locks = false) (hret : meth.sig.returnType = some t) (hn : narrow t w = w)
    (hi : (i = .ireturn ∧ (t = .int ∨ t = .boolean ∨ t = .byte ∨ t = .char ∨ t = .short) ∧ ∃ z, w = .int z) ∨ (i = .lreturn ∧ t = .long ∧ ∃ z, w = .long z) ∨ (i = .dreturn ∧ t = .double ∧ ∃ z, w = .double z) ∨ (i = .freturn ∧ t = .float ∧ ∃ z, w = .float z) ∨ (i = .areturn ∧ t.isReference = true ∧ w.isRef = true))
    (hd : decode c.code pc = .ok (i, 1)) (hk : cells ≤ k) (hs : slots ≤ n) (hQ : Q (some w) T.heap locs) : Go p.tables e below (Done s Q k n) (T.setTop (mkF m pc L (w :: S))) := by
  obtain ⟨fs, hr, hrun, hended, hW, hsame⟩ := X.leave (v := some w) (fun h => by rw [hret] at h; cases h) hlk
  exact ⟨_, _, retOut X hx hret hn hi hd hr, hrun, hended, _, _, rfl, hQ, ⟨_, rfl⟩, hW, hsame.mono hk hs⟩
theorem gRetI (X : Stand p l e R s m args below meth c T locs cells slots) (hx : p.tables.exec = Jvm.exec) {Q : Option Value → Heap → List Loc → Prop} {k n : Nat} {z : Int32} (hlk : meth.locks = false) (hret : meth.sig.returnType = some .int) (hd : decode c.code pc = .ok (.ireturn, 1)) (hk : cells ≤ k) (hs : slots ≤ n) (hQ : Q (some (.int z)) T.heap locs) : Go p.tables e below (Done s Q k n) (T.setTop (mkF m pc L (.int z :: S))) :=
  gRet X hx hlk hret rfl (Or.inl ⟨rfl, Or.inl rfl, _, rfl⟩) hd hk hs hQ
theorem gRetZ (X : Stand p l e R s m args below meth c T locs cells slots) (hx : p.tables.exec = Jvm.exec) {Q : Option Value → Heap → List Loc → Prop} {k n : Nat} {z : Int32} (hlk : meth.locks = false) (hret : meth.sig.returnType = some .boolean) (hd : decode c.code pc = .ok (.ireturn, 1)) (hk : cells ≤ k) (hs : slots ≤ n) (hz : z = 0 ∨ z = 1) (hQ : Q (some (.int z)) T.heap locs) : Go p.tables e below (Done s Q k n) (T.setTop (mkF m pc L (.int z :: S))) :=
  gRet X hx hlk hret (by rcases hz with rfl | rfl <;> rfl) (Or.inl ⟨rfl, Or.inr (Or.inl rfl), _, rfl⟩) hd hk hs hQ
theorem gRetJ (X : Stand p l e R s m args below meth c T locs cells slots) (hx : p.tables.exec = Jvm.exec) {Q : Option Value → Heap → List Loc → Prop} {k n : Nat} {z : Int64} (hlk : meth.locks = false) (hret : meth.sig.returnType = some .long) (hd : decode c.code pc = .ok (.lreturn, 1)) (hk : cells ≤ k) (hs : slots ≤ n) (hQ : Q (some (.long z)) T.heap locs) : Go p.tables e below (Done s Q k n) (T.setTop (mkF m pc L (.long z :: S))) :=
  gRet X hx hlk hret rfl (Or.inr (Or.inl ⟨rfl, rfl, _, rfl⟩)) hd hk hs hQ
theorem gRetA (X : Stand p l e R s m args below meth c T locs cells slots) (hx : p.tables.exec = Jvm.exec) {Q : Option Value → Heap → List Loc → Prop} {k n : Nat} {w : Value} {t : FieldType} (hlk : meth.locks = false) (hret : meth.sig.returnType = some t) (ht : t.isReference = true) (hw : w.isRef = true) (hd : decode c.code pc = .ok (.areturn, 1)) (hk : cells ≤ k) (hs : slots ≤ n) (hQ : Q (some w) T.heap locs) : Go p.tables e below (Done s Q k n) (T.setTop (mkF m pc L (w :: S))) :=
  gRet X hx hlk hret (by cases t <;> simp [FieldType.isReference] at ht <;> cases w <;> simp [Value.isRef] at hw <;> rfl) (Or.inr (Or.inr (Or.inr (Or.inr ⟨rfl, ht, hw⟩)))) hd hk hs hQ
theorem gRetV (X : Stand p l e R s m args below meth c T locs cells slots) (hx : p.tables.exec = Jvm.exec) {Q : Option Value → Heap → List Loc → Prop} {k n : Nat} (hlk : meth.locks = false) (hret : meth.sig.returnType = none) (hd : decode c.code pc = .ok (.return_, 1)) (hk : cells ≤ k) (hs : slots ≤ n) (hQ : Q none T.heap locs) : Go p.tables e below (Done s Q k n) (T.setTop (mkF m pc L [])) := by
  obtain ⟨fs, hr, hrun, hended, hW, hsame⟩ := X.leave (v := none) (fun _ => rfl) hlk
  exact ⟨_, _, X.returnOut hx hret hd hr, hrun, hended, _, _, rfl, hQ, ⟨_, rfl⟩, hW, hsame.mono hk hs⟩
end Steps1
section Steps2
variable {p : Program} {l : Launch} {e : Env} {R : Room} {s : State} {m : MethodId} {args : Array Value} {below : List Frame} {meth : Method} {c : Code} {T : State} {locs : List Loc} {cells slots : Nat} {P : State → Outcome → Prop} {pc q : Nat} {L L' : Array Slot} {S : List Value} {Z : State} {a0 : Array Value} {h : Heap}
theorem gGetF (X : Stand p l e R s m args below meth c T locs cells slots) (hx : p.tables.exec = Jvm.exec) (hZ : Z.Warmed39 s.vm) {own R0 O n d host : String} {i : Nat} (hown : s.vm.findClass own = some m.cls) (w : (Jvm.Cond.fieldLink own i R0 n d).before a0 Z = true ∨ (Jvm.Cond.fieldLinkNest own i R0 n d host).before a0 Z = true) (via : Via Z R0 O n d)
    (eT : T.heap = h) {a : Addr} {v : Value} (F : Fld Z h a O n d v) (hd : decode c.code pc = .ok (.getfield i, 3)) (hq : pc + 3 = q)
    (K : ∀ T', Stand p l e R s m args below meth c T' locs cells slots → T'.heap = h → Go p.tables e below P (T'.setTop (mkF m q L (v :: S)))) : Go p.tables e below P (T.setTop (mkF m pc L (.ref a :: S))) := by
  subst hq
  obtain ⟨T', X', e', st⟩ := getF X hx hZ hown w via eT F (g := mkF m pc L (.ref a :: S)) rfl rfl hd
  exact go st (K T' X' e')
theorem gGetS (X : Stand p l e R s m args below meth c T locs cells slots) (hx : p.tables.exec = Jvm.exec) (hZ : Z.Warmed39 s.vm) {own R0 O n d : String} {i : Nat} (hown : s.vm.findClass own = some m.cls) (w : (Jvm.Cond.fieldLink own i R0 n d).before a0 Z = true) (via : Via Z R0 O n d)
    (eT : T.heap = h) {v : Value} (F : Sta Z h O n d v) (hd : decode c.code pc = .ok (.getstatic i, 3)) (hq : pc + 3 = q)
    (K : ∀ T', Stand p l e R s m args below meth c T' locs cells slots → T'.heap = h → Go p.tables e below P (T'.setTop (mkF m q L (v :: S)))) : Go p.tables e below P (T.setTop (mkF m pc L S)) := by
  subst hq
  obtain ⟨T', X', e', st⟩ := getS X hx hZ (host := "") hown w via eT F (g := mkF m pc L S) rfl hd
  exact go st (K T' X' e')
theorem gPutF (X : Stand p l e R s m args below meth c T locs cells slots) (hx : p.tables.exec = Jvm.exec) (hZ : Z.Warmed39 s.vm) {own R0 O n d host C : String} {i kk : Nat} {ty : FieldType} (hown : s.vm.findClass own = some m.cls) (w : (Jvm.Cond.fieldLink own i R0 n d).before a0 Z = true ∨ (Jvm.Cond.fieldLinkNest own i R0 n d host).before a0 Z = true) (via : Via Z R0 O n d)
    (eT : T.heap = h) {a : Addr} {v old : Value} (F : Fld Z h a O n d old) (E : Exa Z h a C) (Ly : (Jvm.Cond.lays C O n d).before a0 Z = true ∨ ((Jvm.Cond.laysFinal C O n d).before a0 Z = true ∧ own = O ∧ meth.name = "<init>")) (wi : (Jvm.Cond.instantiable C kk).before a0 Z = true)
    (hty : parseFieldDescriptor d = some ty) (hn : narrow ty v = v) (hf : fits ty v = true) (hd : decode c.code pc = .ok (.putfield i, 3)) (hq : pc + 3 = q)
    (K : ∀ T' h', Stand p l e R s m args below meth c T' (locs ++ [⟨a, Jvm.RoadKit.slotOf Z O n d⟩]) cells slots → T'.heap = h' → Wr h h' a (Jvm.RoadKit.slotOf Z O n d) v → Go p.tables e below P (T'.setTop (mkF m q L S))) : Go p.tables e below P (T.setTop (mkF m pc L (v :: .ref a :: S))) := by
  subst hq
  obtain ⟨T', h', X', e', W', st⟩ := putF X hx hZ hown w via eT F E Ly wi hty hn hf (g := mkF m pc L (v :: .ref a :: S)) rfl rfl hd
  exact go st (K T' h' X' e' W')
theorem gNewO (X : Stand p l e R s m args below meth c T locs cells slots) (hx : p.tables.exec = Jvm.exec) (hZ : Z.Warmed39 s.vm) {own C : String} {i n : Nat} (hown : s.vm.findClass own = some m.cls) (w : (Jvm.Cond.classLink own i C).before a0 Z = true) (wi : (Jvm.Cond.instantiable C n).before a0 Z = true) (wz : (Jvm.Cond.initialized C).before a0 Z = true) (eT : T.heap = h)
    (hd : decode c.code pc = .ok (.new i, 3)) (hq : pc + 3 = q) (hc : cells + 1 ≤ R.cells) (hl : slots + n ≤ R.slots)
    (K : ∀ T' h' a, Stand p l e R s m args below meth c T' locs (cells + 1) (slots + n) → T'.heap = h' → a = h.size → Ext h h' → Exa Z h' a C → (∀ {O nm d : String} {ty : FieldType}, Laid Z a0 C O nm d → parseFieldDescriptor d = some ty → Fld Z h' a O nm d (defaultValue ty)) → Go p.tables e below P (T'.setTop (mkF m q L (.ref a :: S)))) : Go p.tables e below P (T.setTop (mkF m pc L S)) := by
  subst hq
  obtain ⟨T', h', X', e', E', A', D', -, st⟩ := newO X hx hZ hown w wi wz eT (g := mkF m pc L S) rfl hd hc hl
  exact go st (K T' h' _ X' e' rfl E' A' D')
theorem gInitO (X : Stand p l e R s m args below meth c T locs cells slots) (hx : p.tables.exec = Jvm.exec) (hZ : Z.Warmed39 s.vm) {own : String} {i : Nat} (hown : s.vm.findClass own = some m.cls) (w1 : (Jvm.Cond.methodLink own i Lib.objectInit).before a0 Z = true) (w2 : (Jvm.Cond.instanceMethod Lib.objectInit).before a0 Z = true) (w3 : (Jvm.Cond.code Lib.objectInit ⟨#[0xb1]⟩ 1 none).before a0 Z = true) (eT : T.heap = h)
    (hsize : L.size = c.maxLocals) {a : Addr} (hd : decode c.code pc = .ok (.invokespecial i, 3)) (hq : pc + 3 = q) (hf : 1 ≤ R.frames) {W : Nat} (hW : (S.map fun v => v.category).sum ≤ W) (hl : W + 12 ≤ R.locals)
    (K : ∀ T', Stand p l e R s m args below meth c T' locs cells slots → T'.heap = h → Go p.tables e below P (T'.setTop (mkF m q L S))) : Go p.tables e below P (T.setTop (mkF m pc L (.ref a :: S))) := by
  subst hq
  obtain ⟨T', X', e', st⟩ := initO X hx hZ hown w1 w2 w3 eT (g := mkF m pc L (.ref a :: S)) rfl hsize rfl hd hf (W := W) (by show 2 * 0 + _ ≤ _; rw [Nat.mul_zero, Nat.zero_add]; exact hW) hl
  exact go st (K T' X' e')
/-! calls by a contract -/
theorem gCallS (X : Stand p l e R s m args below meth c T locs cells slots) (hx : p.tables.exec = Jvm.exec) (hZ : Z.Warmed39 s.vm) {own : String} {i : Nat} {y : MethodName} {bytes : ByteArray} {maxL : Nat} {rt : Option FieldType} {rm : Room} {as' : Array Value} {Q : Option Value → Heap → List Loc → Prop} (hown : s.vm.findClass own = some m.cls)
    (w1 : (Jvm.Cond.methodLink own i y).before a0 Z = true) (w2 : (Jvm.Cond.static y).before a0 Z = true) (w3 : (Jvm.Cond.initialized y.cls).before a0 Z = true) (w4 : (Jvm.Cond.code y bytes maxL rt).before a0 Z = true) (hy : y.cls ≠ "java/lang/invoke/MethodHandle" ∧ y.cls ≠ "java/lang/invoke/VarHandle")
    (hM : Con l Z y bytes maxL rt [] rm as' h rm.cells rm.slots Q) {W : Nat} (hf : rm.frames + 1 ≤ R.frames) (hlo : W + (maxL + 11) + rm.locals ≤ R.locals) (eT : T.heap = h) (hsize : L.size = c.maxLocals)
    {S0 : List Value} (argsL : List Value) (hlen : ∀ sig, parseMethodDescriptor y.desc = some sig → argsL.length = sig.parameters.length) (has : argsL.toArray = as') (hst : S0 = argsL.reverse ++ S) (hW : (S.map fun v => v.category).sum ≤ W) (hd : decode c.code pc = .ok (.invokestatic i, 3)) (hq : pc + 3 = q)
    (hc : cells + rm.cells ≤ R.cells) (hs : slots + rm.slots ≤ R.slots)
    (K : ∀ v T' Lc, Stand p l e R s m args below meth c T' (locs ++ Lc) (cells + rm.cells) (slots + rm.slots) → Q v T'.heap Lc → Go p.tables e below P (T'.setTop (mkF m q L (v.toList ++ S)))) : Go p.tables e below P (T.setTop (mkF m pc L S0)) := by
  subst hq has hst
  obtain ⟨v, _, ⟨T', L1, k1, n1⟩, -, X', ⟨Lc, hQ, h1, h2, h3⟩, st⟩ := Jvm.LawKit.callS X hx hown (mvT hZ w1) (mvT hZ w2) (mvT hZ w3) (mvT hZ w4) hy (backOf (W := W) hM hZ w4 w3 hf hlo) (g := mkF m pc L (argsL.reverse ++ S)) rfl hsize (argsL := argsL) (rest := S) hlen rfl (by show 2 * 0 + _ ≤ _; rw [Nat.mul_zero, Nat.zero_add]; exact hW) hd (fun _ _ => ⟨rfl, eT, hc, hs⟩)
  dsimp only [Pt.U, Pt.locs, Pt.cells, Pt.slots] at X' h1 h2 h3 st hQ
  subst h1 h2 h3
  exact go st (K v T' Lc X' hQ)
theorem gCallSN (X : Stand p l e R s m args below meth c T locs cells slots) (hx : p.tables.exec = Jvm.exec) (hZ : Z.Warmed39 s.vm) {own host : String} {i : Nat} {y : MethodName} {bytes : ByteArray} {maxL : Nat} {rt : Option FieldType} {rm : Room} {as' : Array Value} {Q : Option Value → Heap → List Loc → Prop} (hown : s.vm.findClass own = some m.cls)
    (w1 : (Jvm.Cond.methodLinkNest own i y host).before a0 Z = true) (w2 : (Jvm.Cond.static y).before a0 Z = true) (w3 : (Jvm.Cond.initialized y.cls).before a0 Z = true) (w4 : (Jvm.Cond.code y bytes maxL rt).before a0 Z = true) (hy : y.cls ≠ "java/lang/invoke/MethodHandle" ∧ y.cls ≠ "java/lang/invoke/VarHandle")
    (hM : Con l Z y bytes maxL rt [] rm as' h rm.cells rm.slots Q) {W : Nat} (hf : rm.frames + 1 ≤ R.frames) (hlo : W + (maxL + 11) + rm.locals ≤ R.locals) (eT : T.heap = h) (hsize : L.size = c.maxLocals)
    {S0 : List Value} (argsL : List Value) (hlen : ∀ sig, parseMethodDescriptor y.desc = some sig → argsL.length = sig.parameters.length) (has : argsL.toArray = as') (hst : S0 = argsL.reverse ++ S) (hW : (S.map fun v => v.category).sum ≤ W) (hd : decode c.code pc = .ok (.invokestatic i, 3)) (hq : pc + 3 = q)
    (hc : cells + rm.cells ≤ R.cells) (hs : slots + rm.slots ≤ R.slots)
    (K : ∀ v T' Lc, Stand p l e R s m args below meth c T' (locs ++ Lc) (cells + rm.cells) (slots + rm.slots) → Q v T'.heap Lc → Go p.tables e below P (T'.setTop (mkF m q L (v.toList ++ S)))) : Go p.tables e below P (T.setTop (mkF m pc L S0)) := by
  subst hq has hst
  obtain ⟨v, _, ⟨T', L1, k1, n1⟩, -, X', ⟨Lc, hQ, h1, h2, h3⟩, st⟩ := callSN X hx hown (Cond.methodLinkNest_wide hZ w1 :) (mvT hZ w2) (mvT hZ w3) (mvT hZ w4) hy (backOf (W := W) hM hZ w4 w3 hf hlo) (g := mkF m pc L (argsL.reverse ++ S)) rfl hsize (argsL := argsL) (rest := S) hlen rfl (by show 2 * 0 + _ ≤ _; rw [Nat.mul_zero, Nat.zero_add]; exact hW) hd (fun _ _ => ⟨rfl, eT, hc, hs⟩)
  dsimp only [Pt.U, Pt.locs, Pt.cells, Pt.slots] at X' h1 h2 h3 st hQ
  subst h1 h2 h3
  exact goT st (K v T' Lc X' hQ)
theorem gCallN (X : Stand p l e R s m args below meth c T locs cells slots) (hx : p.tables.exec = Jvm.exec) (hZ : Z.Warmed39 s.vm) {own : String} {i : Nat} {y : MethodName} {bytes : ByteArray} {maxL : Nat} {rm : Room} {as' : Array Value} {Q : Option Value → Heap → List Loc → Prop} (hy1 : y.name = "<init>") (hown : s.vm.findClass own = some m.cls)
    (w1 : (Jvm.Cond.methodLink own i y).before a0 Z = true) (w2 : (Jvm.Cond.instanceMethod y).before a0 Z = true) (w3 : (Jvm.Cond.initialized y.cls).before a0 Z = true) (w4 : (Jvm.Cond.code y bytes maxL none).before a0 Z = true) (hy : y.cls ≠ "java/lang/invoke/MethodHandle" ∧ y.cls ≠ "java/lang/invoke/VarHandle")
    (hM : Con l Z y bytes maxL none [] rm as' h rm.cells rm.slots Q) {W : Nat} (hf : rm.frames + 1 ≤ R.frames) (hlo : W + (maxL + 11) + rm.locals ≤ R.locals) (eT : T.heap = h) (hsize : L.size = c.maxLocals)
    {S0 : List Value} {a : Addr} (argsL : List Value) (hlen : ∀ sig, parseMethodDescriptor y.desc = some sig → argsL.length = sig.parameters.length) (has : (.ref a :: argsL).toArray = as') (hst : S0 = argsL.reverse ++ .ref a :: S) (hW : (S.map fun v => v.category).sum ≤ W) (hd : decode c.code pc = .ok (.invokespecial i, 3)) (hq : pc + 3 = q)
    (hc : cells + rm.cells ≤ R.cells) (hs : slots + rm.slots ≤ R.slots)
    (K : ∀ v T' Lc, Stand p l e R s m args below meth c T' (locs ++ Lc) (cells + rm.cells) (slots + rm.slots) → Q v T'.heap Lc → Go p.tables e below P (T'.setTop (mkF m q L (v.toList ++ S)))) : Go p.tables e below P (T.setTop (mkF m pc L S0)) := by
  subst hq has hst
  obtain ⟨v, _, ⟨T', L1, k1, n1⟩, -, X', ⟨Lc, hQ, h1, h2, h3⟩, st⟩ := X.specialBack hx hy1 hown (mvT hZ w1) (mvT hZ w2) (mvT hZ w4) hy (backOf (W := W) hM hZ w4 w3 hf hlo) (g := mkF m pc L (argsL.reverse ++ .ref a :: S)) rfl hsize (Steps.refl _) (a := a) (argsL := argsL) (rest := S) hlen rfl (by show 2 * 0 + _ ≤ _; rw [Nat.mul_zero, Nat.zero_add]; exact hW) hd (fun _ _ => ⟨rfl, eT, hc, hs⟩)
  dsimp only [Pt.U, Pt.locs, Pt.cells, Pt.slots] at X' h1 h2 h3 st hQ
  subst h1 h2 h3
  exact goT st (K v T' Lc X' hQ)
theorem gCallV (X : Stand p l e R s m args below meth c T locs cells slots) (hx : p.tables.exec = Jvm.exec) (hZ : Z.Warmed39 s.vm) {own C : String} {i : Nat} {y z : MethodName} {bytes : ByteArray} {maxL : Nat} {rt : Option FieldType} {rm : Room} {as' : Array Value} {Q : Option Value → Heap → List Loc → Prop} (hown : s.vm.findClass own = some m.cls)
    (w1 : (Jvm.Cond.methodLink own i y).before a0 Z = true) (w2 : (Jvm.Cond.declares y).before a0 Z = true) (w5 : (Jvm.Cond.selects C y z).before a0 Z = true) (w6 : (Jvm.Cond.instanceMethod z).before a0 Z = true) (w3 : (Jvm.Cond.initialized z.cls).before a0 Z = true) (w4 : (Jvm.Cond.code z bytes maxL rt).before a0 Z = true) (hnf : NotFace s y) (hy : y.cls ≠ "java/lang/invoke/MethodHandle" ∧ y.cls ≠ "java/lang/invoke/VarHandle")
    (hM : Con l Z z bytes maxL rt [] rm as' h rm.cells rm.slots Q) {W : Nat} (hf : rm.frames + 1 ≤ R.frames) (hlo : W + (maxL + 11) + rm.locals ≤ R.locals) (eT : T.heap = h) (hsize : L.size = c.maxLocals)
    {S0 : List Value} {a : Addr} (E : Exa Z h a C) (argsL : List Value) (hlen : ∀ sig, parseMethodDescriptor y.desc = some sig → argsL.length = sig.parameters.length) (has : (.ref a :: argsL).toArray = as') (hst : S0 = argsL.reverse ++ .ref a :: S) (hW : (S.map fun v => v.category).sum ≤ W) (hd : decode c.code pc = .ok (.invokevirtual i, 3)) (hq : pc + 3 = q)
    (hc : cells + rm.cells ≤ R.cells) (hs : slots + rm.slots ≤ R.slots)
    (K : ∀ v T' Lc, Stand p l e R s m args below meth c T' (locs ++ Lc) (cells + rm.cells) (slots + rm.slots) → Q v T'.heap Lc → Go p.tables e below P (T'.setTop (mkF m q L (v.toList ++ S)))) : Go p.tables e below P (T.setTop (mkF m pc L S0)) := by
  subst hq has hst
  obtain ⟨cq, kq, q1, q2, q3⟩ := isOf hZ eT E
  obtain ⟨v, _, ⟨T', L1, k1, n1⟩, -, X', ⟨Lc, hQ, h1, h2, h3⟩, st⟩ := X.virtualBack hx hown (mvT hZ w1) (mvT hZ w2) hnf (mvT hZ w5) (mvT hZ w6) hy (backOf (W := W) hM hZ w4 w3 hf hlo) q1 q3 (g := mkF m pc L (argsL.reverse ++ .ref a :: S)) rfl hsize (Steps.refl _) (argsL := argsL) (rest := S) hlen rfl (by show 2 * 0 + _ ≤ _; rw [Nat.mul_zero, Nat.zero_add]; exact hW) hd (fun _ _ => ⟨rfl, eT, hc, hs⟩)
  dsimp only [Pt.U, Pt.locs, Pt.cells, Pt.slots] at X' h1 h2 h3 st hQ
  subst h1 h2 h3
  exact goT st (K v T' Lc X' hQ)
end Steps2
end Jvm.OwnKit
namespace Jvm.OwnKit
open Sem ClassFile Op Lib Jvm.Stand Jvm.Free Jvm.LawKit Jvm.RoadKit
theorem own_fldI {args : Array Value} {Z : State} {t : Term} {C n d : String} {x : Addr} {k : Int32} (ev : t.eval args Z none [] Z = some (.ref x)) (h : (Jvm.Cond.eq (Term.field t C n d) (Term.int k)).value args Z none Z [] = some true) : Fld Z Z.heap x C n d (.int k) := by
  obtain ⟨u, w, h1, h2, h3, h4⟩ := cmp_v (Or.inl h)
  obtain rfl : w = .int k := Option.some.inj (h2.symm.trans (Term.int_eval k))
  obtain ⟨z, rfl⟩ := h4
  have hz : z = k := gotT (Cond.eq_ints h1 h2) h
  subst hz
  exact Fld.start ((fld_at ev).symm.trans h1)
end Jvm.OwnKit
namespace Jvm.OwnKit
open Sem ClassFile Op Lib Jvm.Stand Jvm.Free Jvm.LawKit Jvm.RoadKit
/-- the array at a: its class, its element type, its values -/
def Ary (Z : State) (h : Heap) (a : Addr) (k : ClassId) (ty : FieldType) (vs : List Value) : Prop := ∃ c : Cell, Arr Z h a c ty ∧ c.cls = k ∧ c.slots.toList = vs
section Ary
variable {Z : State} {h h' : Heap} {a b : Addr} {k : ClassId} {ty : FieldType} {vs : List Value} {sl : Nat} {v : Value} {ws : List Addr}
theorem Ary.ext (E : Ext h h') (F : Ary Z h a k ty vs) : Ary Z h' a k ty vs := by obtain ⟨c, A, r⟩ := F; exact ⟨c, A.ext E, r⟩
theorem Ary.other (W : Wr h h' a sl v) (F : Ary Z h b k ty vs) (q : b ≠ a) : Ary Z h' b k ty vs := by obtain ⟨c, A, r⟩ := F; exact ⟨c, A.other W q, r⟩
theorem Ary.keep (F : Ary Z h a k ty vs) (K : Keep h h' ws) (q : a ∉ ws) : Ary Z h' a k ty vs := by obtain ⟨c, A, r⟩ := F; exact ⟨c, ⟨K.2.1 a c A.1 q, A.2⟩, r⟩
theorem Ary.lt (F : Ary Z h a k ty vs) : a < h.size := by obtain ⟨c, A, -⟩ := F; exact A.lt
theorem Ary.same (W : Wr h h' a sl v) (F : Ary Z h a k ty vs) : Ary Z h' a k ty (vs.set sl v) := by
  obtain ⟨c, A, r1, r2⟩ := F
  exact ⟨_, A.same W, r1, by subst r2; simp [Cell.setSlot]⟩
theorem Ary.new {n : Int32} (A : Arr Z h a (newA k ty n) ty) : Ary Z h a k ty (List.replicate n.toNatClampNeg (defaultValue ty)) := ⟨_, A, rfl, by simp [newA]⟩
theorem Ary.ne_exa {a0 : Array Value} {C : String} {n : Nat} (F : Ary Z h a k ty vs) (E : Exa Z h b C) (wi : (Jvm.Cond.instantiable C n).before a0 Z = true) : a ≠ b := by obtain ⟨c, A, -⟩ := F; exact (ne_arr E wi A).symm
end Ary
section Steps3
variable {p : Program} {l : Launch} {e : Env} {R : Room} {s : State} {m : MethodId} {args : Array Value} {below : List Frame} {meth : Method} {c : Code} {T : State} {locs : List Loc} {cells slots : Nat} {P : State → Outcome → Prop} {pc q : Nat} {L L' : Array Slot} {S : List Value} {Z : State} {a0 : Array Value} {h : Heap} {a : Addr} {k : ClassId} {vs : List Value}
theorem gIaload (X : Stand p l e R s m args below meth c T locs cells slots) (hx : p.tables.exec = Jvm.exec) (hZ : Z.Warmed39 s.vm) (eT : T.heap = h) (A : Ary Z h a k .int vs) {j : Int32} {v : Value} (hd : decode c.code pc = .ok (.iaload, 1)) (hq : pc + 1 = q) (hj : ¬ (j < 0 ∨ vs.length ≤ j.toNatClampNeg)) (hv : vs[j.toNatClampNeg]? = some v) (K : Go p.tables e below P (T.setTop (mkF m q L (v :: S)))) : Go p.tables e below P (T.setTop (mkF m pc L (.int j :: .ref a :: S))) := by
  subst hq eT
  obtain ⟨cl, A, -, rfl⟩ := A
  exact go (fun t k => X.iaload hx (j := j) (v := v) A.1 (State.isArrayOf_alike hZ.alike A.2.1) A.2.2 (by simpa using hj) (by simpa using hv) (g := mkF m pc L (.int j :: .ref a :: S)) rfl rfl hd _ k) K
theorem gLaload (X : Stand p l e R s m args below meth c T locs cells slots) (hx : p.tables.exec = Jvm.exec) (hZ : Z.Warmed39 s.vm) (eT : T.heap = h) (A : Ary Z h a k .long vs) {j : Int32} {v : Value} (hd : decode c.code pc = .ok (.laload, 1)) (hq : pc + 1 = q) (hj : ¬ (j < 0 ∨ vs.length ≤ j.toNatClampNeg)) (hv : vs[j.toNatClampNeg]? = some v) (K : Go p.tables e below P (T.setTop (mkF m q L (v :: S)))) : Go p.tables e below P (T.setTop (mkF m pc L (.int j :: .ref a :: S))) := by
  subst hq eT
  obtain ⟨cl, A, -, rfl⟩ := A
  exact go (fun t k => X.laload hx (j := j) (v := v) A.1 (State.isArrayOf_alike hZ.alike A.2.1) A.2.2 (by simpa using hj) (by simpa using hv) (g := mkF m pc L (.int j :: .ref a :: S)) rfl rfl hd _ k) K
theorem gCaload (X : Stand p l e R s m args below meth c T locs cells slots) (hx : p.tables.exec = Jvm.exec) (hZ : Z.Warmed39 s.vm) (eT : T.heap = h) (A : Ary Z h a k .char vs) {j : Int32} {v : Value} (hd : decode c.code pc = .ok (.caload, 1)) (hq : pc + 1 = q) (hj : ¬ (j < 0 ∨ vs.length ≤ j.toNatClampNeg)) (hv : vs[j.toNatClampNeg]? = some v) (K : Go p.tables e below P (T.setTop (mkF m q L (v :: S)))) : Go p.tables e below P (T.setTop (mkF m pc L (.int j :: .ref a :: S))) := by
  subst hq eT
  obtain ⟨cl, A, -, rfl⟩ := A
  exact go (fun t k => X.caload hx (j := j) (v := v) A.1 (State.isArrayOf_alike hZ.alike A.2.1) A.2.2 (by simpa using hj) (by simpa using hv) (g := mkF m pc L (.int j :: .ref a :: S)) rfl rfl hd _ k) K
theorem gAaload (X : Stand p l e R s m args below meth c T locs cells slots) (hx : p.tables.exec = Jvm.exec) (hZ : Z.Warmed39 s.vm) (eT : T.heap = h) {ty : FieldType} (A : Ary Z h a k ty vs) (ht : ty.isReference = true) {j : Int32} {v : Value} (hd : decode c.code pc = .ok (.aaload, 1)) (hq : pc + 1 = q) (hj : ¬ (j < 0 ∨ vs.length ≤ j.toNatClampNeg)) (hv : vs[j.toNatClampNeg]? = some v) (K : Go p.tables e below P (T.setTop (mkF m q L (v :: S)))) : Go p.tables e below P (T.setTop (mkF m pc L (.int j :: .ref a :: S))) := by
  subst hq eT
  obtain ⟨cl, A, -, rfl⟩ := A
  exact go (fun t k => X.aaload hx (j := j) (v := v) A.1 (State.isArrayOf_alike hZ.alike A.2.1) ht A.2.2 (by simpa using hj) (by simpa using hv) (g := mkF m pc L (.int j :: .ref a :: S)) rfl rfl hd _ k) K
theorem gLen (X : Stand p l e R s m args below meth c T locs cells slots) (hx : p.tables.exec = Jvm.exec) (hZ : Z.Warmed39 s.vm) (eT : T.heap = h) {ty : FieldType} (A : Ary Z h a k ty vs) {n : Int32} (hn : vs.length.toInt32 = n) (hd : decode c.code pc = .ok (.arraylength, 1)) (hq : pc + 1 = q) (K : Go p.tables e below P (T.setTop (mkF m q L (.int n :: S)))) : Go p.tables e below P (T.setTop (mkF m pc L (.ref a :: S))) := by
  subst hq eT hn
  obtain ⟨cl, A, -, rfl⟩ := A
  exact go (fun t k => X.arraylength hx A.1 (State.isArrayOf_alike hZ.alike A.2.1) (g := mkF m pc L (.ref a :: S)) rfl rfl hd _ (by simpa using k)) K
theorem gIastore (X : Stand p l e R s m args below meth c T locs cells slots) (hx : p.tables.exec = Jvm.exec) (hZ : Z.Warmed39 s.vm) (eT : T.heap = h) (A : Ary Z h a k .int vs) {j : Int32} {x : Int32} (hd : decode c.code pc = .ok (.iastore, 1)) (hq : pc + 1 = q) (hj : ¬ (j < 0 ∨ vs.length ≤ j.toNatClampNeg))
    (K : ∀ T' h', Stand p l e R s m args below meth c T' (locs ++ [⟨a, j.toNatClampNeg⟩]) cells slots → T'.heap = h' → Wr h h' a j.toNatClampNeg (.int x) → Ary Z h' a k .int (vs.set j.toNatClampNeg (.int x)) → Go p.tables e below P (T'.setTop (mkF m q L (S)))) : Go p.tables e below P (T.setTop (mkF m pc L (.int x :: .int j :: .ref a :: S))) := by
  subst hq
  have A' := A
  obtain ⟨cl, Ac, r1, r2⟩ := A'
  obtain ⟨T', h', X', e', W', st⟩ := stI X hx hZ eT Ac (j := j) (x := x) (by subst r2; simpa using hj) (g := mkF m pc L (.int x :: .int j :: .ref a :: S)) rfl rfl hd
  exact go st (K T' h' X' e' W' (Ary.same W' A))
theorem gLastore (X : Stand p l e R s m args below meth c T locs cells slots) (hx : p.tables.exec = Jvm.exec) (hZ : Z.Warmed39 s.vm) (eT : T.heap = h) (A : Ary Z h a k .long vs) {j : Int32} {x : Int64} (hd : decode c.code pc = .ok (.lastore, 1)) (hq : pc + 1 = q) (hj : ¬ (j < 0 ∨ vs.length ≤ j.toNatClampNeg))
    (K : ∀ T' h', Stand p l e R s m args below meth c T' (locs ++ [⟨a, j.toNatClampNeg⟩]) cells slots → T'.heap = h' → Wr h h' a j.toNatClampNeg (.long x) → Ary Z h' a k .long (vs.set j.toNatClampNeg (.long x)) → Go p.tables e below P (T'.setTop (mkF m q L (S)))) : Go p.tables e below P (T.setTop (mkF m pc L (.long x :: .int j :: .ref a :: S))) := by
  subst hq
  have A' := A
  obtain ⟨cl, Ac, r1, r2⟩ := A'
  obtain ⟨T', h', X', e', W', st⟩ := stJ X hx hZ eT Ac (j := j) (x := x) (by subst r2; simpa using hj) (g := mkF m pc L (.long x :: .int j :: .ref a :: S)) rfl rfl hd
  exact go st (K T' h' X' e' W' (Ary.same W' A))
theorem gCastore (X : Stand p l e R s m args below meth c T locs cells slots) (hx : p.tables.exec = Jvm.exec) (hZ : Z.Warmed39 s.vm) (eT : T.heap = h) (A : Ary Z h a k .char vs) {j x : Int32} (hd : decode c.code pc = .ok (.castore, 1)) (hq : pc + 1 = q) (hj : ¬ (j < 0 ∨ vs.length ≤ j.toNatClampNeg))
    (K : ∀ T' h', Stand p l e R s m args below meth c T' (locs ++ [⟨a, j.toNatClampNeg⟩]) cells slots → T'.heap = h' → Wr h h' a j.toNatClampNeg (.int (nar .char x)) → Ary Z h' a k .char (vs.set j.toNatClampNeg (.int (nar .char x))) → Go p.tables e below P (T'.setTop (mkF m q L (S)))) : Go p.tables e below P (T.setTop (mkF m pc L (.int x :: .int j :: .ref a :: S))) := by
  subst hq
  have A' := A
  obtain ⟨cl, Ac, r1, r2⟩ := A'
  obtain ⟨T', h', X', e', W', st⟩ := stC X hx hZ eT Ac (j := j) (x := x) (by subst r2; simpa using hj) (g := mkF m pc L (.int x :: .int j :: .ref a :: S)) rfl rfl hd
  exact go st (K T' h' X' e' W' (Ary.same W' A))
theorem gAastore (X : Stand p l e R s m args below meth c T locs cells slots) (hx : p.tables.exec = Jvm.exec) (hZ : Z.Warmed39 s.vm) (eT : T.heap = h) {ty : FieldType} (A : Ary Z h a k ty vs) (ht : ty.isReference = true) {j : Int32} {v : Value} (F : Sto Z h a v) (hd : decode c.code pc = .ok (.aastore, 1)) (hq : pc + 1 = q) (hj : ¬ (j < 0 ∨ vs.length ≤ j.toNatClampNeg))
    (K : ∀ T' h', Stand p l e R s m args below meth c T' (locs ++ [⟨a, j.toNatClampNeg⟩]) cells slots → T'.heap = h' → Wr h h' a j.toNatClampNeg v → Ary Z h' a k ty (vs.set j.toNatClampNeg v) → Go p.tables e below P (T'.setTop (mkF m q L (S)))) : Go p.tables e below P (T.setTop (mkF m pc L (v :: .int j :: .ref a :: S))) := by
  subst hq
  have A' := A
  obtain ⟨cl, Ac, r1, r2⟩ := A'
  obtain ⟨T', h', X', e', W', st⟩ := stR X hx hZ eT Ac (j := j) (by subst r2; simpa using hj) ht F (g := mkF m pc L (v :: .int j :: .ref a :: S)) rfl rfl hd
  exact go st (K T' h' X' e' W' (Ary.same W' A))
theorem Sto.ofA {Z : State} {h : Heap} {a y : Addr} {k : ClassId} {ty : FieldType} {vs : List Value} {C : String} (A : Ary Z h a k ty vs) (O : Ovr Z k C) (I : Ins Z h y C true) : Sto Z h a (.ref y) := by obtain ⟨c, Ac, r, -⟩ := A; exact Sto.ofV Ac r O I
theorem gNewP (X : Stand p l e R s m args below meth c T locs cells slots) (hx : p.tables.exec = Jvm.exec) (hZ : Z.Warmed39 s.vm) {aty : ArrayType} (w : (Jvm.Cond.arrayClass (newarray.typeOf aty)).before a0 Z = true) (eT : T.heap = h) (hd : decode c.code pc = .ok (.newarray aty, 2)) (hq : pc + 2 = q) {n : Int32} (hn : ¬ n < 0) {cap : Nat} (hcap : n.toNatClampNeg ≤ cap) (hb : cap * 8 ≤ 536870912) (hc : cells + 1 ≤ R.cells) (hl : slots + cap ≤ R.slots)
    (K : ∀ T' h' a cA, Stand p l e R s m args below meth c T' locs (cells + 1) (slots + cap) → T'.heap = h' → a = h.size → Ext h h' → Ary Z h' a cA (newarray.typeOf aty) (List.replicate n.toNatClampNeg (defaultValue (newarray.typeOf aty))) → Go p.tables e below P (T'.setTop (mkF m q L (.ref a :: S)))) : Go p.tables e below P (T.setTop (mkF m pc L (.int n :: S))) := by
  subst hq
  obtain ⟨T', h', cA, X', e', E', A', st⟩ := newP X hx hZ w eT (g := mkF m pc L (.int n :: S)) rfl hd rfl hn hcap hb hc hl
  exact go st (K T' h' _ cA X' e' rfl E' (Ary.new A'))
theorem gNewR (X : Stand p l e R s m args below meth c T locs cells slots) (hx : p.tables.exec = Jvm.exec) (hZ : Z.Warmed39 s.vm) {own C : String} {i : Nat} (hown : s.vm.findClass own = some m.cls) (w1 : (Jvm.Cond.classLink own i C).before a0 Z = true) (w2 : (Jvm.Cond.arrayOver (.object C)).before a0 Z = true) (eT : T.heap = h) (hd : decode c.code pc = .ok (.anewarray i, 3)) (hq : pc + 3 = q) {n : Int32} (hn : ¬ n < 0) {cap : Nat} (hcap : n.toNatClampNeg ≤ cap) (hb : cap * 8 ≤ 536870912) (hc : cells + 1 ≤ R.cells) (hl : slots + cap ≤ R.slots)
    (K : ∀ T' h' a cA, Stand p l e R s m args below meth c T' locs (cells + 1) (slots + cap) → T'.heap = h' → a = h.size → Ext h h' → Ary Z h' a cA (.object C) (List.replicate n.toNatClampNeg .null) → Ovr Z cA C → Go p.tables e below P (T'.setTop (mkF m q L (.ref a :: S)))) : Go p.tables e below P (T.setTop (mkF m pc L (.int n :: S))) := by
  subst hq
  obtain ⟨T', h', cA, X', e', E', A', O', st⟩ := newR X hx hZ hown w1 w2 eT (g := mkF m pc L (.int n :: S)) rfl hd rfl hn hcap hb hc hl
  exact go st (K T' h' _ cA X' e' rfl E' (Ary.new A') O')
end Steps3
end Jvm.OwnKit
namespace Jvm.OwnKit
open Sem ClassFile Op Lib Jvm.Stand Jvm.Free Jvm.LawKit Jvm.RoadKit
theorem own_inst {Z : State} {a0 : Array Value} {K : String} {n : Nat} (w : (Jvm.Cond.instantiable K n).before a0 Z = true) : ∃ t k, Z.vm.findClass K = some t ∧ Z.vm.classes[t]? = some k ∧ k.kind = .ordinary ∧ k.isInterface = false := by
  obtain ⟨t, k, h1, h2, h3, h4, -⟩ := Cond.instantiable_spec w
  exact ⟨t, k, h1, h2, h3, by simp only [Bool.or_eq_false_iff] at h4; exact h4.1⟩
theorem own_nsRoot {Z : State} {a0 : Array Value} {O K : String} {n : Nat} (w : (Jvm.Cond.noSuperclass O).before a0 Z = true) (wk : (Jvm.Cond.instantiable K n).before a0 Z = true) (hn : O ≠ K) : NS Z O K := by
  obtain ⟨c, k, h1, h2, h3, -, -⟩ := Cond.noSuperclass_spec w
  obtain ⟨t, k', g1, -⟩ := own_inst wk
  have ne := ids_ne h1 g1 hn
  refine ⟨c, t, h1, g1, fun fuel => ?_⟩
  cases fuel with
  | zero => rfl
  | succ f => simp [Vm.isSubclassAux, ne, h2, h3]
theorem own_nsNo {Z : State} {a0 : Array Value} {C S K : String} {n : Nat} (w : (Jvm.Cond.superclass C S).before a0 Z = true) (wk : (Jvm.Cond.instantiable K n).before a0 Z = true) (m : NS Z C K) (hn : C ≠ K) : ∃ c t, Z.vm.findClass C = some c ∧ Z.vm.findClass K = some t ∧ Z.vm.assignable c t = false := by
  obtain ⟨c, t, h0, g0, n3⟩ := m
  obtain ⟨p, k, kp, h1, h2, h3, h4, h5, -, h7⟩ := Cond.superclass_spec h0 w
  obtain ⟨t', k', g1, g2, g3, g4⟩ := own_inst wk
  cases g0.symm.trans g1
  have ne := ids_ne h0 g0 hn
  refine ⟨c, t, h0, g0, ?_⟩
  show Z.vm.assignableAux (255 + 1) c t = false
  simp [Vm.assignableAux, ne, h2, g2, h5, g3, g4, Vm.isSubclass, n3]
section Steps4
variable {p : Program} {l : Launch} {e : Env} {R : Room} {s : State} {m : MethodId} {args : Array Value} {below : List Frame} {meth : Method} {c : Code} {T : State} {locs : List Loc} {cells slots : Nat} {P : State → Outcome → Prop} {pc q : Nat} {L L' : Array Slot} {S : List Value} {Z : State} {a0 : Array Value} {h : Heap} {a : Addr}
theorem gInstY (X : Stand p l e R s m args below meth c T locs cells slots) (hx : p.tables.exec = Jvm.exec) (hZ : Z.Warmed39 s.vm) {own K : String} {i : Nat} (hown : s.vm.findClass own = some m.cls) (w : (Jvm.Cond.classLink own i K).before a0 Z = true) (eT : T.heap = h) (F : Ins Z h a K true) (hd : decode c.code pc = .ok (.instanceof i, 3)) (hq : pc + 3 = q)
    (K1 : ∀ T', Stand p l e R s m args below meth c T' locs cells slots → T'.heap = h → Go p.tables e below P (T'.setTop (mkF m q L (.int 1 :: S)))) : Go p.tables e below P (T.setTop (mkF m pc L (.ref a :: S))) := by
  subst hq
  obtain ⟨T', X', e', st⟩ := instY X hx hZ hown w eT F (g := mkF m pc L (.ref a :: S)) rfl rfl hd
  exact go st (K1 T' X' e')
theorem gInstNo (X : Stand p l e R s m args below meth c T locs cells slots) (hx : p.tables.exec = Jvm.exec) (hZ : Z.Warmed39 s.vm) {own K C : String} {i : Nat} (hown : s.vm.findClass own = some m.cls) (w : (Jvm.Cond.classLink own i K).before a0 Z = true) (eT : T.heap = h) (E : Exa Z h a C) (F : ∃ c t, Z.vm.findClass C = some c ∧ Z.vm.findClass K = some t ∧ Z.vm.assignable c t = false) (hd : decode c.code pc = .ok (.instanceof i, 3)) (hq : pc + 3 = q)
    (K1 : ∀ T', Stand p l e R s m args below meth c T' locs cells slots → T'.heap = h → Go p.tables e below P (T'.setTop (mkF m q L (.int 0 :: S)))) : Go p.tables e below P (T.setTop (mkF m pc L (.ref a :: S))) := by
  subst hq
  obtain ⟨T', X', e', st⟩ := instNo X hx hZ hown w eT E F (g := mkF m pc L (.ref a :: S)) rfl rfl hd
  exact go st (K1 T' X' e')
theorem gInstNull (X : Stand p l e R s m args below meth c T locs cells slots) (hx : p.tables.exec = Jvm.exec) {i : Nat} (hd : decode c.code pc = .ok (.instanceof i, 3)) (hq : pc + 3 = q) (K1 : Go p.tables e below P (T.setTop (mkF m q L (.int 0 :: S)))) : Go p.tables e below P (T.setTop (mkF m pc L (.null :: S))) := by
  subst hq
  exact go (fun t k => X.instanceofNull hx (g := mkF m pc L (.null :: S)) rfl rfl hd _ k) K1
theorem gCastY (X : Stand p l e R s m args below meth c T locs cells slots) (hx : p.tables.exec = Jvm.exec) (hZ : Z.Warmed39 s.vm) {own K : String} {i : Nat} (hown : s.vm.findClass own = some m.cls) (w : (Jvm.Cond.classLink own i K).before a0 Z = true) (eT : T.heap = h) (F : Ins Z h a K true) (hd : decode c.code pc = .ok (.checkcast i, 3)) (hq : pc + 3 = q)
    (K1 : ∀ T', Stand p l e R s m args below meth c T' locs cells slots → T'.heap = h → Go p.tables e below P (T'.setTop (mkF m q L (.ref a :: S)))) : Go p.tables e below P (T.setTop (mkF m pc L (.ref a :: S))) := by
  subst hq
  obtain ⟨T', X', e', st⟩ := castY X hx hZ hown w eT F (g := mkF m pc L (.ref a :: S)) rfl rfl hd
  exact go st (K1 T' X' e')
theorem gLdcF (X : Stand p l e R s m args below meth c T locs cells slots) (hx : p.tables.exec = Jvm.exec) (hZ : Z.Warmed39 s.vm) {own : String} {i : Nat} {b : UInt32} (hown : s.vm.findClass own = some m.cls) (w : (Jvm.Cond.constantFloat own i b).before a0 Z = true) (hd : decode c.code pc = .ok (.ldc i, 2)) (hq : pc + 2 = q) (K1 : Go p.tables e below P (T.setTop (mkF m q L (.float b :: S)))) : Go p.tables e below P (T.setTop (mkF m pc L (S))) := by
  subst hq; exact go (X.ldcFloatC hx hown (mvT hZ w) (g := mkF m pc L S) rfl hd) K1
end Steps4
end Jvm.OwnKit
namespace Jvm.OwnKit
open Sem ClassFile Op Lib Jvm.Stand Jvm.Free Jvm.LawKit Jvm.RoadKit
section Steps6
variable {p : Program} {l : Launch} {e : Env} {R : Room} {s : State} {m : MethodId} {args : Array Value} {below : List Frame} {meth : Method} {c : Code} {T : State} {locs : List Loc} {cells slots : Nat} {P : State → Outcome → Prop} {pc q : Nat} {L L' : Array Slot} {S : List Value} {Z : State} {a0 : Array Value} {h : Heap} {a : Addr} {k : ClassId} {vs : List Value}
theorem gBaload (X : Stand p l e R s m args below meth c T locs cells slots) (hx : p.tables.exec = Jvm.exec) (hZ : Z.Warmed39 s.vm) (eT : T.heap = h) (A : Ary Z h a k .byte vs) {j : Int32} {v : Value} (hd : decode c.code pc = .ok (.baload, 1)) (hq : pc + 1 = q) (hj : ¬ (j < 0 ∨ vs.length ≤ j.toNatClampNeg)) (hv : vs[j.toNatClampNeg]? = some v) (K : Go p.tables e below P (T.setTop (mkF m q L (v :: S)))) : Go p.tables e below P (T.setTop (mkF m pc L (.int j :: .ref a :: S))) := by
  subst hq eT
  obtain ⟨cl, A, -, rfl⟩ := A
  exact go (fun t k => X.baloadBytes hx (j := j) (v := v) A.1 (State.isArrayOf_alike hZ.alike A.2.1) A.2.2 (by simpa using hj) (by simpa using hv) (g := mkF m pc L (.int j :: .ref a :: S)) rfl rfl hd _ k) K
theorem gBastore (X : Stand p l e R s m args below meth c T locs cells slots) (hx : p.tables.exec = Jvm.exec) (hZ : Z.Warmed39 s.vm) (eT : T.heap = h) (A : Ary Z h a k .byte vs) {j x : Int32} (hd : decode c.code pc = .ok (.bastore, 1)) (hq : pc + 1 = q) (hj : ¬ (j < 0 ∨ vs.length ≤ j.toNatClampNeg))
    (K : ∀ T' h', Stand p l e R s m args below meth c T' (locs ++ [⟨a, j.toNatClampNeg⟩]) cells slots → T'.heap = h' → Wr h h' a j.toNatClampNeg (.int (nar .byte x)) → Ary Z h' a k .byte (vs.set j.toNatClampNeg (.int (nar .byte x))) → Go p.tables e below P (T'.setTop (mkF m q L (S)))) : Go p.tables e below P (T.setTop (mkF m pc L (.int x :: .int j :: .ref a :: S))) := by
  subst hq
  have A' := A
  obtain ⟨cl, Ac, r1, r2⟩ := A'
  obtain ⟨T', h', X', e', W', st⟩ := stB X hx hZ eT Ac (j := j) (x := x) (by subst r2; simpa using hj) (g := mkF m pc L (.int x :: .int j :: .ref a :: S)) rfl rfl hd
  exact go st (K T' h' X' e' W' (Ary.same W' A))
theorem gClone (X : Stand p l e R s m args below meth c T locs cells slots) (hx : p.tables.exec = Jvm.exec) (hZ : Z.Warmed39 s.vm) {own ad : String} {i : Nat} {ty : FieldType} (hown : s.vm.findClass own = some m.cls) (w1 : (Jvm.Cond.methodLink own i ⟨ad, "clone", "()Ljava/lang/Object;"⟩).before a0 Z = true) (w2 : (Jvm.Cond.sameMethod ad "java/lang/Object" "clone" "()Ljava/lang/Object;").before a0 Z = true) (w3 : (Jvm.Cond.native ⟨"java/lang/Object", "clone", "()Ljava/lang/Object;"⟩).before a0 Z = true) (w4 : (Jvm.Cond.instanceMethod ⟨"java/lang/Object", "clone", "()Ljava/lang/Object;"⟩).before a0 Z = true) (w5 : (Jvm.Cond.selects ad ⟨ad, "clone", "()Ljava/lang/Object;"⟩ ⟨"java/lang/Object", "clone", "()Ljava/lang/Object;"⟩).before a0 Z = true) (w6 : (Jvm.Cond.castable ad "java/lang/Cloneable").before a0 Z = true)
    (eT : T.heap = h) (A : Ary Z h a k ty vs) (E : Exa Z h a ad) (hfit : ∀ v ∈ vs, fits ty v = true) (hsize : L.size = c.maxLocals) (hd : decode c.code pc = .ok (.invokevirtual i, 3)) (hq : pc + 3 = q) (hf : 1 ≤ R.frames) {W cap : Nat} (hW : (S.map fun v => v.category).sum ≤ W) (hl : W + 14 ≤ R.locals) (hcap : vs.length ≤ cap) (hc : cells + 1 ≤ R.cells) (hsl : slots + cap ≤ R.slots)
    (K : ∀ T' h' b, Stand p l e R s m args below meth c T' locs (cells + 1) (slots + cap) → T'.heap = h' → b = h.size → Ext h h' → Ary Z h' b k ty vs → Exa Z h' b ad → Go p.tables e below P (T'.setTop (mkF m q L (.ref b :: S)))) : Go p.tables e below P (T.setTop (mkF m pc L (.ref a :: S))) := by
  subst hq
  obtain ⟨cl, Ac, r1, r2⟩ := A
  have FC : FitC Z cl := fitC_of Ac fun i hi v hv => hfit v (by rw [← r2]; rw [← Array.getElem?_toList] at hv; exact List.mem_of_getElem? hv)
  obtain ⟨T', h', X', e', ex, A', E', st⟩ := cloneA X hx hZ hown w1 w2 w3 w4 w5 w6 eT Ac E FC (g := mkF m pc L (.ref a :: S)) rfl hsize rfl hd hf (W := W) (cap := cap) (by show 2 * 0 + _ ≤ _; rw [Nat.mul_zero, Nat.zero_add]; exact hW) hl (by rw [← r2] at hcap; simpa using hcap) hc hsl
  exact go st (K T' h' _ X' e' rfl ex ⟨_, A', r1, r2⟩ E')
end Steps6
theorem gRetB {p : Program} {l : Launch} {e : Env} {R : Room} {s : State} {m : MethodId} {args : Array Value} {below : List Frame} {meth : Method} {c : Code} {T : State} {locs : List Loc} {cells slots : Nat} {pc : Nat} {L : Array Slot} {S : List Value} (X : Stand p l e R s m args below meth c T locs cells slots) (hx : p.tables.exec = Jvm.exec) {Q : Option Value → Heap → List Loc → Prop} {k n : Nat} {z : Int32} (hlk : meth.locks = false) (hret : meth.sig.returnType = some .byte) (hd : decode c.code pc = .ok (.ireturn, 1)) (hk : cells ≤ k) (hs : slots ≤ n) (hz : narrow .byte (.int z) = .int z) (hQ : Q (some (.int z)) T.heap locs) : Go p.tables e below (Done s Q k n) (T.setTop (mkF m pc L (.int z :: S))) :=
  gRet X hx hlk hret hz (Or.inl ⟨rfl, Or.inr (Or.inr (Or.inl rfl)), _, rfl⟩) hd hk hs hQ
section Start
variable {s : State} {args : Array Value} {t : Term} {a x y : Addr} {C n d : String}
theorem own_fldR (ev : t.eval args s none [] s = some (.ref x)) (ev2 : (Term.field t C n d).eval args s none [] s = some (.ref y)) : Fld s s.heap x C n d (.ref y) := Fld.start ((fld_at ev).symm.trans ev2)
theorem own_lenlt' {cl : Cell} {v : Value} (ev : t.eval args s none [] s = some (.ref a)) (hat : s.arrayAt? a = some cl) (h : (Term.length t).eval args s none [] s = some v) : cl.slots.size < 2 ^ 31 := by
  simp [Term.eval, ev, hat] at h
  exact h.1
theorem own_arr {ty : FieldType} {N : Int32} {M : Nat} (ev : t.eval args s none [] s = some (.ref a)) (w5 : (Jvm.Cond.arrayOf t ty).value args s none s [] = some true) (w6 : (Jvm.Cond.eq (Term.length t) (Term.int N)).value args s none s [] = some true) (hN : N.toInt = M) : ∃ cl, Arr s s.heap a cl ty ∧ cl.slots.toList.length = M := by
  obtain ⟨cl, A⟩ := Arr.start ev w5
  have hat := Arr.fin (Vm.Alike.refl _) A
  obtain ⟨u, w, g1, g2, g3, g4⟩ := cmp_v (Or.inl w6)
  obtain rfl : w = .int N := Option.some.inj (g2.symm.trans (Term.int_eval N))
  obtain ⟨z, rfl⟩ := g4
  have hz : z = N := gotT (Cond.eq_ints g1 g2) w6
  subst hz
  obtain ⟨b, cell, e1, e2, e3⟩ := Term.length_spec g1
  obtain rfl : a = b := Value.ref.inj (Option.some.inj (ev.symm.trans e1))
  obtain rfl : cl = cell := Option.some.inj (hat.symm.trans e2)
  have hlt := own_lenlt' ev hat g1
  refine ⟨cl, A, ?_⟩
  have e4 := congrArg Int32.toInt (Value.int.inj e3)
  rw [len_toInt hlt] at e4
  simp only [Array.length_toList]
  omega
theorem own_el {cl : Cell} {j b : Int32} {ty : FieldType} (ev : t.eval args s none [] s = some (.ref a)) (A : Arr s s.heap a cl ty) (h : (Jvm.Cond.eq (Term.elem t (Term.int j)) (Term.int b)).value args s none s [] = some true) : cl.slots.toList[j.toNatClampNeg]? = some (.int b) := by
  obtain ⟨u, w, g1, g2, g3, g4⟩ := cmp_v (Or.inl h)
  obtain rfl : w = .int b := Option.some.inj (g2.symm.trans (Term.int_eval b))
  obtain ⟨z, rfl⟩ := g4
  have hz : z = b := gotT (Cond.eq_ints g1 g2) h
  subst hz
  rw [Array.getElem?_toList]
  exact (elem_in g1 ev (Term.int_eval j) A.1).2
theorem own_elR {cl : Cell} {j : Int32} {ty : FieldType} {t2 : Term} {r : Addr} (ev : t.eval args s none [] s = some (.ref a)) (A : Arr s s.heap a cl ty) (ev2 : t2.eval args s none [] s = some (.ref r)) (h : (Jvm.Cond.eq (Term.elem t (Term.int j)) t2).value args s none s [] = some true) : cl.slots.toList[j.toNatClampNeg]? = some (.ref r) := by
  obtain ⟨u, w, g1, g2, g3, g4⟩ := cmp_v (Or.inl h)
  obtain rfl : w = .ref r := Option.some.inj (g2.symm.trans ev2)
  have hu : u.isRef = true := g4.2
  have hz : u = .ref r := gotT (eq_R g1 g2 hu rfl) h
  subst hz
  rw [Array.getElem?_toList]
  exact (elem_in g1 ev (Term.int_eval j) A.1).2
end Start
end Jvm.OwnKit
namespace Jvm.OwnKit
open Sem ClassFile Op Lib Bundle Jvm.Stand Jvm.Free Jvm.LawKit Jvm.RoadKit Jvm.Free.SB Jvm.Free.SBG
def DoneS (Z : State) (EL : List (String × Nat)) (s : State) (h : Heap) (Q : Option Value → Heap → List Loc → Prop) (k n : Nat) (t : State) (o : Outcome) : Prop := ∃ v L, o = .returned v ∧ Q v t.heap L ∧ CHr Z EL s.vm h t.vm t.heap ∧ ReturnedEndW s o t L k n
def ConS (l : Launch) (Z : State) (EL : List (String × Nat)) (y : MethodName) (bytes : ByteArray) (maxL : Nat) (rt : Option FieldType) (ws : List Jvm.Cond) (rm : Room) (as' : Array Value) (h : Heap) (k n : Nat) (Q : Option Value → Heap → List Loc → Prop) : Prop :=
  MetFree l y (head1 (Jvm.Cond.code y bytes maxL rt :: ws) rm) (fun a U => a = as' ∧ Z.Warmed39 U.vm ∧ U.heap = h ∧ CHv Z EL U.vm h) (fun _ _ _ _ _ => True) (fun _ U o U' => ∃ v L, o = .returned v ∧ Q v U'.heap L ∧ CHr Z EL U.vm U.heap U'.vm U'.heap ∧ ReturnedEndW U o U' L k n)
theorem ConS.of {l : Launch} {Z : State} {EL : List (String × Nat)} {y : MethodName} {bytes : ByteArray} {maxL : Nat} {rt : Option FieldType} {ws : List Jvm.Cond} {rm : Room} {as' : Array Value} {h : Heap} {k n : Nat} {Q : Option Value → Heap → List Loc → Prop} (hp : plainFor y = true)
    (body : ∀ (p : Program) (e : Env) (s : State) (m : MethodId) (below : List Frame) (meth : Method) (c : Code) (s₁ : State) (vm0 : Vm) (k0 : Nat), p.tables.exec = Jvm.exec → c.code = bytes → c.maxLocals = maxL → (s.setVm vm0).vm.findClass y.cls = some m.cls → meth.name = y.name → meth.sig.returnType = rt → meth.locks = false → Z.Warmed39 (s.setVm vm0).vm → s.Since vm0 k0 → k0 ≤ h.size → CHr Z EL s.vm h vm0 h →
      Stand p l e rm (s.setVm vm0) m as' below meth c s₁ [] 0 0 → s₁.heap = h → Go p.tables e below (DoneS Z EL s h Q k n) (s₁.setTop (entryFrame m as' maxL))) : ConS l Z EL y bytes maxL rt ws rm as' h k n Q := by
  refine MetFree.of_bodySF hp hisR ?_
  intro p e s m args below meth c s₁ Bd hml0 hP hK
  obtain ⟨rfl, hZ, rfl, hC⟩ := hP
  exact body p e s m below meth c s₁ s.vm s.heap.size Bd.exec Bd.bytes hml0 (findClass_of_methodNamed Bd.named) (name_of_methodNamed Bd.named Bd.method).1 Bd.returns Bd.notSynchronized hZ ((State.WarmedH.refl s).since _) (Nat.le_refl _) (CHr.refl hC) (Stand.of_body Bd) (by rw [Bd.state]; rfl)
section StepsS
variable {p : Program} {l : Launch} {e : Env} {R : Room} {s : State} {m : MethodId} {args : Array Value} {below : List Frame} {meth : Method} {c : Code} {T : State} {locs : List Loc} {cells slots : Nat} {P : State → Outcome → Prop} {pc q : Nat} {L L' : Array Slot} {S : List Value} {Z : State} {EL : List (String × Nat)} {a0 : Array Value} {h h0 : Heap} {a : Addr} {vm0 : Vm} {k0 : Nat}
theorem gRetS (X : Stand p l e R (s.setVm vm0) m args below meth c T locs cells slots) (hx : p.tables.exec = Jvm.exec) (hZ : Z.Warmed39 (s.setVm vm0).vm) (hS : s.Since vm0 k0) (hEL : EW Z a0 EL) {Q : Option Value → Heap → List Loc → Prop} {k n : Nat} {w : Value} {t : FieldType} {i : Instr} (hlk : meth.locks = false) (hret : meth.sig.returnType = some t) (hn : narrow t w = w)
    (hi : (i = .ireturn ∧ (t = .int ∨ t = .boolean ∨ t = .byte ∨ t = .char ∨ t = .short) ∧ ∃ z, w = .int z) ∨ (i = .lreturn ∧ t = .long ∧ ∃ z, w = .long z) ∨ (i = .dreturn ∧ t = .double ∧ ∃ z, w = .double z) ∨ (i = .freturn ∧ t = .float ∧ ∃ z, w = .float z) ∨ (i = .areturn ∧ t.isReference = true ∧ w.isRef = true))
    (hd : decode c.code pc = .ok (i, 1)) (hk : cells ≤ k) (hs : slots ≤ n) (eT : T.heap = h) (hkk : k0 ≤ h.size) (hC : CHr Z EL s.vm h0 vm0 h) (hQ : Q (some w) T.heap locs) : Go p.tables e below (DoneS Z EL s h0 Q k n) (T.setTop (mkF m pc L (w :: S))) := by
  subst eT
  obtain ⟨fs, hr, hrun, hended, hR⟩ := X.leaveW hS hkk (v := some w) (fun h => by rw [hret] at h; cases h) hlk
  exact ⟨_, _, retOut X hx hret hn hi hd hr, hrun, hended, _, _, rfl, hQ, (show CHr Z EL s.vm h0 T.vm T.heap from hC.trans (CHv.at X hZ hEL hC.1)), hR.1, hR.2.1, hR.2.2.1, hR.2.2.2.mono hk hs⟩
theorem gRetSA (X : Stand p l e R (s.setVm vm0) m args below meth c T locs cells slots) (hx : p.tables.exec = Jvm.exec) (hZ : Z.Warmed39 (s.setVm vm0).vm) (hS : s.Since vm0 k0) (hEL : EW Z a0 EL) {Q : Option Value → Heap → List Loc → Prop} {k n : Nat} {w : Value} {t : FieldType} (hlk : meth.locks = false) (hret : meth.sig.returnType = some t) (ht : t.isReference = true) (hw : w.isRef = true) (hd : decode c.code pc = .ok (.areturn, 1)) (hk : cells ≤ k) (hs : slots ≤ n) (eT : T.heap = h) (hkk : k0 ≤ h.size) (hC : CHr Z EL s.vm h0 vm0 h) (hQ : Q (some w) T.heap locs) : Go p.tables e below (DoneS Z EL s h0 Q k n) (T.setTop (mkF m pc L (w :: S))) :=
  gRetS X hx hZ hS hEL hlk hret (by cases t <;> simp [FieldType.isReference] at ht <;> cases w <;> simp [Value.isRef] at hw <;> rfl) (Or.inr (Or.inr (Or.inr (Or.inr ⟨rfl, ht, hw⟩)))) hd hk hs eT hkk hC hQ
theorem gRetSZ (X : Stand p l e R (s.setVm vm0) m args below meth c T locs cells slots) (hx : p.tables.exec = Jvm.exec) (hZ : Z.Warmed39 (s.setVm vm0).vm) (hS : s.Since vm0 k0) (hEL : EW Z a0 EL) {Q : Option Value → Heap → List Loc → Prop} {k n : Nat} {z : Int32} (hlk : meth.locks = false) (hret : meth.sig.returnType = some .boolean) (hd : decode c.code pc = .ok (.ireturn, 1)) (hk : cells ≤ k) (hs : slots ≤ n) (eT : T.heap = h) (hkk : k0 ≤ h.size) (hC : CHr Z EL s.vm h0 vm0 h) (hz : z = 0 ∨ z = 1) (hQ : Q (some (.int z)) T.heap locs) : Go p.tables e below (DoneS Z EL s h0 Q k n) (T.setTop (mkF m pc L (.int z :: S))) :=
  gRetS X hx hZ hS hEL hlk hret (by rcases hz with rfl | rfl <;> rfl) (Or.inl ⟨rfl, Or.inr (Or.inl rfl), _, rfl⟩) hd hk hs eT hkk hC hQ
theorem gRetSV (X : Stand p l e R (s.setVm vm0) m args below meth c T locs cells slots) (hx : p.tables.exec = Jvm.exec) (hZ : Z.Warmed39 (s.setVm vm0).vm) (hS : s.Since vm0 k0) (hEL : EW Z a0 EL) {Q : Option Value → Heap → List Loc → Prop} {k n : Nat} (hlk : meth.locks = false) (hret : meth.sig.returnType = none) (hd : decode c.code pc = .ok (.return_, 1)) (hk : cells ≤ k) (hs : slots ≤ n) (eT : T.heap = h) (hkk : k0 ≤ h.size) (hC : CHr Z EL s.vm h0 vm0 h) (hQ : Q none T.heap locs) : Go p.tables e below (DoneS Z EL s h0 Q k n) (T.setTop (mkF m pc L [])) := by
  subst eT
  obtain ⟨fs, hr, hrun, hended, hR⟩ := X.leaveW hS hkk (v := none) (fun _ => rfl) hlk
  exact ⟨_, _, X.returnOut hx hret hd hr, hrun, hended, _, _, rfl, hQ, (show CHr Z EL s.vm h0 T.vm T.heap from hC.trans (CHv.at X hZ hEL hC.1)), hR.1, hR.2.1, hR.2.2.1, hR.2.2.2.mono hk hs⟩
theorem gLdcE (X : Stand p l e R (s.setVm vm0) m args below meth c T locs cells slots) (hx : p.tables.exec = Jvm.exec) (hZ : Z.Warmed39 (s.setVm vm0).vm) (hS : s.Since vm0 k0) (hEL : EW Z a0 EL) {own text : String} {i : Nat} (hown : (s.setVm vm0).vm.findClass own = some m.cls) (w : (Jvm.Cond.stringLink own i text).before a0 Z = true) (wS : ∀ a ∈ Bundle.stringAtoms, a.before a0 Z = true) (hmem : (own, i) ∈ EL)
    (eT : T.heap = h) (hkk : k0 ≤ h.size) (hC : CHr Z EL s.vm h0 vm0 h) {vs : List Value} {z : Int32} (ht : (∀ c ∈ text.toList, c.toNat < 256) ∧ text.toList.map (fun c => Value.int (Jvm.Lit.byteI c.toNat.toUInt16)) = vs) (hz : ¬ z < 0) (hl : z.toNatClampNeg = vs.length)
    (hd : decode c.code pc = .ok (.ldc i, 2)) (hq : pc + 2 = q) {n : Nat} (hn : 4 * text.toList.length ≤ n) (hbig : n ≤ 536870912) (hc : cells + 2 ≤ R.cells) (hl' : slots + (n + 4) ≤ R.slots)
    (K : ∀ (T' : State) (h' : Heap) (k1 : Nat) (a b : Addr) (k : ClassId), Stand p l e R (s.setVm T'.vm) m args below meth c T' locs (cells + 2) (slots + (n + 4)) → T'.heap = h' → Ext h h' → s.Since T'.vm k1 → k1 ≤ h'.size → Z.Warmed39 (s.setVm T'.vm).vm → (s.setVm T'.vm).vm.findClass own = some m.cls → Exa Z h' a "java/lang/String" → Fld Z h' a "java/lang/String" "coder" "B" (.int 0) → Fld Z h' a "java/lang/String" "value" "[B" (.ref b) → Arv Z h' b k .byte z vs (.int 0) → CHr Z EL s.vm h0 T'.vm h' → (∀ x, x < h.size → Safe Z EL vm0 h x → Safe Z EL T'.vm h' x ∧ x ≠ a ∧ x ≠ b) → Go p.tables e below P (T'.setTop (mkF m q L (.ref a :: S)))) : Go p.tables e below P (T.setTop (mkF m pc L (S))) := by
  subst hq
  obtain ⟨a, T', h', k1, b, k, X', e', E, hS', hk', hZ', ho', r1, r2, r3, r4, r5, r6, C', -, sf, st⟩ := ldcCH X hx hZ hown w wS eT hS hkk hEL hmem hC.1 ht hz hl (g := mkF m pc L S) rfl hd hn hbig hc hl'
  exact go st (K T' h' k1 a b k X' e' E hS' hk' hZ' ho' r1 r2 r3 r4 (hC.trans C') fun x hx Sx => ⟨C'.safe hx Sx, sf x (C'.safe hx Sx)⟩)
theorem gCallSS (X : Stand p l e R (s.setVm vm0) m args below meth c T locs cells slots) (hx : p.tables.exec = Jvm.exec) (hZ : Z.Warmed39 (s.setVm vm0).vm) (hS : s.Since vm0 k0) (hEL : EW Z a0 EL) {own : String} {i : Nat} {y : MethodName} {bytes : ByteArray} {maxL : Nat} {rt : Option FieldType} {rm : Room} {as' : Array Value} {Q : Option Value → Heap → List Loc → Prop} (hown : (s.setVm vm0).vm.findClass own = some m.cls)
    (w1 : (Jvm.Cond.methodLink own i y).before a0 Z = true) (w2 : (Jvm.Cond.static y).before a0 Z = true) (w3 : (Jvm.Cond.initialized y.cls).before a0 Z = true) (w4 : (Jvm.Cond.code y bytes maxL rt).before a0 Z = true) (hy : y.cls ≠ "java/lang/invoke/MethodHandle" ∧ y.cls ≠ "java/lang/invoke/VarHandle")
    (hM : ConS l Z EL y bytes maxL rt [] rm as' h rm.cells rm.slots Q) {W : Nat} (hf : rm.frames + 1 ≤ R.frames) (hlo : W + (maxL + 11) + rm.locals ≤ R.locals) (eT : T.heap = h) (hkk : k0 ≤ h.size) (hC : CHr Z EL s.vm h0 vm0 h) (hsize : L.size = c.maxLocals)
    {S0 : List Value} (argsL : List Value) (hlen : ∀ sig, parseMethodDescriptor y.desc = some sig → argsL.length = sig.parameters.length) (has : argsL.toArray = as') (hst : S0 = argsL.reverse ++ S) (hW : (S.map fun v => v.category).sum ≤ W) (hd : decode c.code pc = .ok (.invokestatic i, 3)) (hq : pc + 3 = q)
    (hc : cells + rm.cells ≤ R.cells) (hs : slots + rm.slots ≤ R.slots)
    (K : ∀ v T' Lc, Stand p l e R (s.setVm T'.vm) m args below meth c T' (locs ++ Lc) (cells + rm.cells) (slots + rm.slots) → Q v T'.heap Lc → s.Since T'.vm T'.heap.size → Z.Warmed39 (s.setVm T'.vm).vm → (s.setVm T'.vm).vm.findClass own = some m.cls → CHr Z EL s.vm h0 T'.vm T'.heap → (∀ x, x < h.size → Safe Z EL vm0 h x → Safe Z EL T'.vm T'.heap x) → Go p.tables e below P (T'.setTop (mkF m q L (v.toList ++ S)))) : Go p.tables e below P (T.setTop (mkF m pc L S0)) := by
  subst hq has hst eT
  obtain ⟨v, _, ⟨T', L1, k1, n1⟩, -, X', h2, hg, ⟨Lc, hQ, e1, e2, e3, C'⟩, st⟩ := callSS X hx hown (mvT hZ w1) (mvT hZ w2) (mvT hZ w3) (mvT hZ w4) hy (backOfSH (W := W) hM hZ w4 w3 hf hlo hEL hC.1) (g := mkF m pc L (argsL.reverse ++ S)) rfl hsize (argsL := argsL) (rest := S) hlen rfl (by show 2 * 0 + _ ≤ _; rw [Nat.mul_zero, Nat.zero_add]; exact hW) hd (fun _ _ => ⟨rfl, rfl, hc, hs⟩)
  dsimp only [Pt.U, Pt.locs, Pt.cells, Pt.slots] at X' e1 e2 e3 st hQ h2 hg C'
  subst e1 e2 e3
  obtain ⟨X2, hS2, hZ2, ho2⟩ := rebS hS hkk X' h2 hg hZ hown
  exact goT st (K v T' Lc X2 hQ hS2 hZ2 ho2 (hC.trans C') fun x hx Sx => C'.safe hx Sx)
theorem gCallNS (X : Stand p l e R (s.setVm vm0) m args below meth c T locs cells slots) (hx : p.tables.exec = Jvm.exec) (hZ : Z.Warmed39 (s.setVm vm0).vm) (hS : s.Since vm0 k0) (hEL : EW Z a0 EL) {own : String} {i : Nat} {y : MethodName} {bytes : ByteArray} {maxL : Nat} {rm : Room} {as' : Array Value} {Q : Option Value → Heap → List Loc → Prop} (hy1 : y.name = "<init>") (hown : (s.setVm vm0).vm.findClass own = some m.cls)
    (w1 : (Jvm.Cond.methodLink own i y).before a0 Z = true) (w2 : (Jvm.Cond.instanceMethod y).before a0 Z = true) (w3 : (Jvm.Cond.initialized y.cls).before a0 Z = true) (w4 : (Jvm.Cond.code y bytes maxL none).before a0 Z = true) (hy : y.cls ≠ "java/lang/invoke/MethodHandle" ∧ y.cls ≠ "java/lang/invoke/VarHandle")
    (hM : ConS l Z EL y bytes maxL none [] rm as' h rm.cells rm.slots Q) {W : Nat} (hf : rm.frames + 1 ≤ R.frames) (hlo : W + (maxL + 11) + rm.locals ≤ R.locals) (eT : T.heap = h) (hkk : k0 ≤ h.size) (hC : CHr Z EL s.vm h0 vm0 h) (hsize : L.size = c.maxLocals)
    {S0 : List Value} {a : Addr} (argsL : List Value) (hlen : ∀ sig, parseMethodDescriptor y.desc = some sig → argsL.length = sig.parameters.length) (has : (.ref a :: argsL).toArray = as') (hst : S0 = argsL.reverse ++ .ref a :: S) (hW : (S.map fun v => v.category).sum ≤ W) (hd : decode c.code pc = .ok (.invokespecial i, 3)) (hq : pc + 3 = q)
    (hc : cells + rm.cells ≤ R.cells) (hs : slots + rm.slots ≤ R.slots)
    (K : ∀ v T' Lc, Stand p l e R (s.setVm T'.vm) m args below meth c T' (locs ++ Lc) (cells + rm.cells) (slots + rm.slots) → Q v T'.heap Lc → s.Since T'.vm T'.heap.size → Z.Warmed39 (s.setVm T'.vm).vm → (s.setVm T'.vm).vm.findClass own = some m.cls → CHr Z EL s.vm h0 T'.vm T'.heap → (∀ x, x < h.size → Safe Z EL vm0 h x → Safe Z EL T'.vm T'.heap x) → Go p.tables e below P (T'.setTop (mkF m q L (v.toList ++ S)))) : Go p.tables e below P (T.setTop (mkF m pc L S0)) := by
  subst hq has hst eT
  obtain ⟨v, _, ⟨T', L1, k1, n1⟩, -, X', h2, hg, ⟨Lc, hQ, e1, e2, e3, C'⟩, st⟩ := X.specialBackS hx hy1 hown (mvT hZ w1) (mvT hZ w2) (mvT hZ w4) hy (backOfSH (W := W) hM hZ w4 w3 hf hlo hEL hC.1) (g := mkF m pc L (argsL.reverse ++ .ref a :: S)) rfl hsize (Steps.refl _) (a := a) (argsL := argsL) (rest := S) hlen rfl (by show 2 * 0 + _ ≤ _; rw [Nat.mul_zero, Nat.zero_add]; exact hW) hd (fun _ _ => ⟨rfl, rfl, hc, hs⟩)
  dsimp only [Pt.U, Pt.locs, Pt.cells, Pt.slots] at X' e1 e2 e3 st hQ h2 hg C'
  subst e1 e2 e3
  obtain ⟨X2, hS2, hZ2, ho2⟩ := rebS hS hkk X' h2 hg hZ hown
  exact goT st (K v T' Lc X2 hQ hS2 hZ2 ho2 (hC.trans C') fun x hx Sx => C'.safe hx Sx)
end StepsS
/-- a String whose value is null is no booked one -/
theorem own_safeS {Z : State} {EL : List (String × Nat)} {vm : Vm} {h : Heap} {a : Addr} (hal : Z.vm.Alike vm) (E : Exa Z h a "java/lang/String") (F : Fld Z h a "java/lang/String" "value" "[B" .null) : Safe Z EL vm h a := fun B => by
  obtain ⟨p, -, u, x, -, q, -, Fq, rfl | rfl⟩ := B
  · obtain ⟨cell, cf, k, i, f, e1, e2, -, -, -, -, e3⟩ := F
    cases (show h[q.sa]? = some q.sC from Fq.ha).symm.trans e1
    obtain ⟨cS, ⟨⟨-, -, -, ⟨c1, k1, i1, f1, -⟩, -, -, -, v1, -⟩, -⟩, -⟩ := Fq
    obtain ⟨k3, q3, -⟩ := State.fieldFound?_setVm (s := ({ Z with heap := h } : State)) hal e2
    have q4 := (show (Wst Z vm h).fieldFound? _ _ _ = _ from q3).symm.trans f1
    simp only [Option.some.injEq, Prod.mk.injEq] at q4
    rw [← q4.2.2.2, e3] at v1
    cases v1
  · obtain ⟨cell, k, e1, e2, e3, -, -⟩ := E
    cases (show h[q.sd]? = some q.SA from Fq.hd).symm.trans e1
    obtain ⟨cS, -, -, f, -⟩ := Fq
    have f' : vm.findClass "[B" = some q.SA.cls := f
    rw [hal.findClass] at f'
    obtain ⟨k1, q1, q2⟩ := Vm.findClass_spec f'
    obtain ⟨k2, q3, q4⟩ := Vm.findClass_spec e2
    cases q1.symm.trans q3
    exact absurd (q2.symm.trans q4) (by decide)
end Jvm.OwnKit
namespace Jvm.Pilot.@@N@@
open Jvm Jvm.ClassFile Sem Op Lib Jvm.Free Jvm.Stand Jvm.LawKit Jvm.RoadKit Bundle Jvm.OwnKit Jvm.Pilot.@@N@@.Jvm.D
theorem own_EL_2_7 : (("java/lang/String", 7) : String × Nat) ∈ consts_1 := by simp [consts_1]
theorem own_EL_3_7 : (("java/lang/String", 7) : String × Nat) ∈ consts_1 := by simp [consts_1]
theorem own_wS {Z : State} {a0 : Array Value} (hw : ∀ d ∈ tables_1, d.before a0 Z = true) : ∀ a ∈ Bundle.stringAtoms, a.before a0 Z = true := by
  intro a ha
  simp only [Bundle.stringAtoms, Bundle.sN, List.mem_cons, List.not_mem_nil, or_false] at ha
  rcases ha with rfl | rfl | rfl | rfl | rfl | rfl | rfl
  · exact (hw _ (List.mem_of_getElem? (i := 6) rfl))
  · exact (hw _ (List.mem_of_getElem? (i := 5) rfl))
  · exact (hw _ (List.mem_of_getElem? (i := 19) rfl))
  · exact (hw _ (List.mem_of_getElem? (i := 20) rfl))
  · exact (hw _ (List.mem_of_getElem? (i := 21) rfl))
  · exact (hw _ (List.mem_of_getElem? (i := 22) rfl))
  · exact (hw _ (List.mem_of_getElem? (i := 23) rfl))
theorem own_safeA {Z : State} {EL : List (String × Nat)} {vm : Vm} {h : Heap} {a : Addr} {k : ClassId} {ty : FieldType} {vs : List Value} (hal : Z.vm.Alike vm) (A : Ary Z h a k ty vs) (ht : ty ≠ .byte) : Safe Z EL vm h a := by
  obtain ⟨c, A, -⟩ := A
  exact Safe.arr hal A ht
theorem own_ary0 {Z : State} {h : Heap} {b : Addr} {k : ClassId} {d : Value} (A : Arv Z h b k .byte 0 [] d) : Ary Z h b k .byte [] := by
  obtain ⟨c, A, r1, r2, -⟩ := A
  refine ⟨c, A, r1, ?_⟩
  have : c.slots.size = 0 := r2
  exact List.eq_nil_of_length_eq_zero (by simpa using this)
theorem own_EW {Z : State} {a0 : Array Value} (hw : ∀ d ∈ tables_1, d.before a0 Z = true) : EW Z a0 consts_1 := EW.cons (hw _ (List.mem_of_getElem? (i := 18) rfl)) (by simp) (EW.nil)
theorem own_narR {t : FieldType} {v : Value} (ht : t.isReference = true) (hv : v.isRef = true) : narrow t v = v := by
  cases t <;> simp [FieldType.isReference] at ht <;> cases v <;> simp [Value.isRef] at hv <;> rfl
theorem own_fitR {t : FieldType} {v : Value} (ht : t.isReference = true) (hv : v.isRef = true) : fits t v = true := by
  cases t <;> simp [FieldType.isReference] at ht <;> cases v <;> simp [Value.isRef] at hv <;> rfl
theorem own_narB (x : Int32) : nar .byte (x.toInt8.toInt32) = x.toInt8.toInt32 := by simp [nar]
theorem own_ch (x : Int32) : ¬ (255 : Int32) < (x &&& (255 : Int32)).toUInt32.toUInt16.toUInt32.toInt32 := by
  rw [i2c_mask]
  have e := c_mask x 255 8 (by decide) (by decide)
  have h : (255 : Int32).toInt = 255 := rfl
  rw [Int32.lt_iff_toInt_lt]
  omega
theorem own_chn (x : Int32) : nar .char (x &&& (255 : Int32)).toUInt32.toUInt16.toUInt32.toInt32 = (x &&& (255 : Int32)).toUInt32.toUInt16.toUInt32.toInt32 := by
  show ((x &&& (255 : Int32)).toUInt32.toUInt16.toUInt32.toInt32).toUInt32.toUInt16.toUInt32.toInt32 = _
  rw [i2c_mask, i2c_mask]
theorem d15_0 : decode jdk_52_method_21_code 0 = .ok (.iconst 0, 1) := by decide +kernel
theorem d15_1 : decode jdk_52_method_21_code 1 = .ok (.istore 5, 2) := by decide +kernel
theorem d15_3 : decode jdk_52_method_21_code 3 = .ok (.iload 5, 2) := by decide +kernel
theorem d15_5 : decode jdk_52_method_21_code 5 = .ok (.iload 4, 2) := by decide +kernel
theorem d15_7 : decode jdk_52_method_21_code 7 = .ok (.if_icmp .ge 37, 3) := by decide +kernel
theorem d15_10 : decode jdk_52_method_21_code 10 = .ok (.aload_n 0, 1) := by decide +kernel
theorem d15_11 : decode jdk_52_method_21_code 11 = .ok (.iload_n 1, 1) := by decide +kernel
theorem d15_12 : decode jdk_52_method_21_code 12 = .ok (.caload, 1) := by decide +kernel
theorem d15_13 : decode jdk_52_method_21_code 13 = .ok (.istore 6, 2) := by decide +kernel
theorem d15_15 : decode jdk_52_method_21_code 15 = .ok (.iload 6, 2) := by decide +kernel
theorem d15_17 : decode jdk_52_method_21_code 17 = .ok (.sipush 255, 3) := by decide +kernel
theorem d15_20 : decode jdk_52_method_21_code 20 = .ok (.if_icmp .le 6, 3) := by decide +kernel
theorem d15_23 : decode jdk_52_method_21_code 23 = .ok (.iload 5, 2) := by decide +kernel
theorem d15_25 : decode jdk_52_method_21_code 25 = .ok (.ireturn, 1) := by decide +kernel
theorem d15_26 : decode jdk_52_method_21_code 26 = .ok (.aload_n 2, 1) := by decide +kernel
theorem d15_27 : decode jdk_52_method_21_code 27 = .ok (.iload_n 3, 1) := by decide +kernel
theorem d15_28 : decode jdk_52_method_21_code 28 = .ok (.iload 6, 2) := by decide +kernel
theorem d15_30 : decode jdk_52_method_21_code 30 = .ok (.i2b, 1) := by decide +kernel
theorem d15_31 : decode jdk_52_method_21_code 31 = .ok (.bastore, 1) := by decide +kernel
theorem d15_32 : decode jdk_52_method_21_code 32 = .ok (.iinc 1 1, 3) := by decide +kernel
theorem d15_35 : decode jdk_52_method_21_code 35 = .ok (.iinc 3 1, 3) := by decide +kernel
theorem d15_38 : decode jdk_52_method_21_code 38 = .ok (.iinc 5 1, 3) := by decide +kernel
theorem d15_41 : decode jdk_52_method_21_code 41 = .ok (.goto (-38), 3) := by decide +kernel
theorem d15_44 : decode jdk_52_method_21_code 44 = .ok (.iload 4, 2) := by decide +kernel
theorem d15_46 : decode jdk_52_method_21_code 46 = .ok (.ireturn, 1) := by decide +kernel
theorem pn0 : plainName "java/lang/StringUTF16" = true := by first | (simp [plainName, overriddenIn]; done) | decide +kernel
theorem ef0 (m : MethodId) (x0 : Addr) (x1 : Int32) (x2 : Addr) (x3 : Int32) (x4 : Int32) : entryFrame m #[(.ref x0), (.int x1), (.ref x2), (.int x3), (.int x4)] 7 = mkF m 0 #[.val (.ref x0), .val (.int x1), .val (.ref x2), .val (.int x3), .val (.int x4), .unset, .unset] [] := by first | (simp [entryFrame, mkF, argsToLocals, Value.category]; done) | rfl
def Q_rmC2A (Z : State) (kx1 : Addr) (kx2 : Addr) (kc : ClassId) (kd : ClassId) (y0 : Int32) (h0 : Heap) (n0 : Nat) (v : Option Value) (h : Heap) (L : List Loc) : Prop := v = some (.int (1 : Int32)) ∧ Fr n0 L ∧ Keep h0 h [kx2] ∧ Ary Z h kx2 kd .byte [(.int (y0.toInt8.toInt32))]
set_option maxRecDepth 65536 in
set_option maxHeartbeats 40000000 in
theorem rmC2A (l : Launch) (Z : State) (a0 : Array Value) (hw : ∀ d ∈ tables_1, d.before a0 Z = true) (ws : List Jvm.Cond) (kx1 : Addr) (kx2 : Addr) (kc : ClassId) (kd : ClassId) (y0 : Int32) (h0 : Heap) (n0 : Nat) (Z0 : n0 ≤ h0.size) (pA1 : Ary Z h0 kx1 kc .char [(.int y0)]) (pA2 : Ary Z h0 kx2 kd .byte [(.int (0 : Int32))]) (n12 : kx1 ≠ kx2) (lkx2 : n0 ≤ kx2) (hy0 : ¬ (255 : Int32) < y0) :
    Con l Z (⟨"java/lang/StringUTF16", "compress", "([CI[BII)I"⟩ : MethodName) jdk_52_method_21_code 7 (some (.int)) ws ({ frames := 0, cells := 0, slots := 0, locals := 0 } : Room) #[(.ref kx1), (.int (0 : Int32)), (.ref kx2), (.int (0 : Int32)), (.int (1 : Int32))] h0 (({ frames := 0, cells := 0, slots := 0, locals := 0 } : Room).cells) (({ frames := 0, cells := 0, slots := 0, locals := 0 } : Room).slots) (Q_rmC2A Z kx1 kx2 kc kd y0 h0 n0) := by
  refine Con.of (plainFor_of_name pn0) ?_
  intro p e s m below meth c s₁ hx hby hml hown hnm hret hlk hZ X0 e0
  have N0 := Fr.nil n0
  refine goE (L := #[.val (.ref kx1), .val (.int (0 : Int32)), .val (.ref kx2), .val (.int (0 : Int32)), .val (.int (1 : Int32)), .unset, .unset]) (ef0 m kx1 (0 : Int32) kx2 (0 : Int32) (1 : Int32)) ?_
  refine gIconst X0 hx (0 : Int32) (hb hby d15_0) (q := 1) rfl (by decide) ?_
  refine gIstore X0 hx (hb hby d15_1) (q := 3) rfl (L' := #[.val (.ref kx1), .val (.int (0 : Int32)), .val (.ref kx2), .val (.int (0 : Int32)), .val (.int (1 : Int32)), .val (.int (0 : Int32)), .unset]) rfl ?_
  refine gIload X0 hx (hb hby d15_3) (q := 5) rfl rfl ?_
  refine gIload X0 hx (hb hby d15_5) (q := 7) rfl rfl ?_
  refine gIcmpN X0 hx (hb hby d15_7) (q := 10) rfl (XT.ii_ge_f (by decide)) ?_
  refine gAloadN X0 hx (hb hby d15_10) (q := 11) rfl rfl rfl ?_
  refine gIloadN X0 hx (hb hby d15_11) (q := 12) rfl rfl ?_
  refine gCaload X0 hx hZ e0 pA1 (hb hby d15_12) (q := 13) rfl (show ¬ (((0 : Int32) : Int32) < 0 ∨ 1 ≤ ((0 : Int32) : Int32).toNatClampNeg) by decide) (v := .int y0) rfl ?_
  refine gIstore X0 hx (hb hby d15_13) (q := 15) rfl (L' := #[.val (.ref kx1), .val (.int (0 : Int32)), .val (.ref kx2), .val (.int (0 : Int32)), .val (.int (1 : Int32)), .val (.int (0 : Int32)), .val (.int y0)]) rfl ?_
  refine gIload X0 hx (hb hby d15_15) (q := 17) rfl rfl ?_
  refine gSipush X0 hx (255 : Int32) (hb hby d15_17) (q := 20) rfl (by decide) ?_
  refine gIcmpY X0 hx (hb hby d15_20) (q := 26) (by decide) (by decide) (XT.ii_le_t hy0) ?_
  refine gAloadN X0 hx (hb hby d15_26) (q := 27) rfl rfl rfl ?_
  refine gIloadN X0 hx (hb hby d15_27) (q := 28) rfl rfl ?_
  refine gIload X0 hx (hb hby d15_28) (q := 30) rfl rfl ?_
  refine gI2b X0 hx (hb hby d15_30) (q := 31) rfl ?_
  refine gBastore X0 hx hZ e0 pA2 (hb hby d15_31) (q := 32) rfl (show ¬ (((0 : Int32) : Int32) < 0 ∨ 1 ≤ ((0 : Int32) : Int32).toNatClampNeg) by decide) (fun T1 h1 X1 e1 W1 A1 => ?_)
  have B1 : Ary Z h1 kx2 kd (.byte) [(.int (y0.toInt8.toInt32))] := (by have zA := A1; rw [show nar .byte (y0.toInt8.toInt32) = (y0.toInt8.toInt32) from own_narB _] at zA; exact zA)
  have N2 := Fr.snoc X1 N0 lkx2
  have K3 := (Keep.refl h0 [kx2]).wr W1 (Or.inl (List.mem_of_getElem? (i := 0) rfl))
  have A4 := Ary.other W1 pA1 n12
  have Z6 : n0 ≤ h1.size := by rw [W1.size]; exact Z0
  refine gIinc X1 hx (1 : Int32) (hb hby d15_32) (q := 35) rfl (by decide) rfl (L' := #[.val (.ref kx1), .val (.int (1 : Int32)), .val (.ref kx2), .val (.int (0 : Int32)), .val (.int (1 : Int32)), .val (.int (0 : Int32)), .val (.int y0)]) rfl ?_
  refine gIinc X1 hx (1 : Int32) (hb hby d15_35) (q := 38) rfl (by decide) rfl (L' := #[.val (.ref kx1), .val (.int (1 : Int32)), .val (.ref kx2), .val (.int (1 : Int32)), .val (.int (1 : Int32)), .val (.int (0 : Int32)), .val (.int y0)]) rfl ?_
  refine gIinc X1 hx (1 : Int32) (hb hby d15_38) (q := 41) rfl (by decide) rfl (L' := #[.val (.ref kx1), .val (.int (1 : Int32)), .val (.ref kx2), .val (.int (1 : Int32)), .val (.int (1 : Int32)), .val (.int (1 : Int32)), .val (.int y0)]) rfl ?_
  refine gGoto X1 hx (hb hby d15_41) (q := 3) (by decide) (by decide) ?_
  refine gIload X1 hx (hb hby d15_3) (q := 5) rfl rfl ?_
  refine gIload X1 hx (hb hby d15_5) (q := 7) rfl rfl ?_
  refine gIcmpY X1 hx (hb hby d15_7) (q := 44) (by decide) (by decide) (XT.ii_ge_t (by decide)) ?_
  refine gIload X1 hx (hb hby d15_44) (q := 46) rfl rfl ?_
  exact gRetI X1 hx hlk hret (hb hby d15_46) (by decide) (by decide) (by rw [e1]; exact ⟨rfl, N2, K3, B1⟩)
theorem d14_0 : decode jdk_52_method_16_code 0 = .ok (.iload_n 2, 1) := by decide +kernel
theorem d14_1 : decode jdk_52_method_16_code 1 = .ok (.newarray .byte, 2) := by decide +kernel
theorem d14_3 : decode jdk_52_method_16_code 3 = .ok (.astore_n 3, 1) := by decide +kernel
theorem d14_4 : decode jdk_52_method_16_code 4 = .ok (.aload_n 0, 1) := by decide +kernel
theorem d14_5 : decode jdk_52_method_16_code 5 = .ok (.iload_n 1, 1) := by decide +kernel
theorem d14_6 : decode jdk_52_method_16_code 6 = .ok (.aload_n 3, 1) := by decide +kernel
theorem d14_7 : decode jdk_52_method_16_code 7 = .ok (.iconst 0, 1) := by decide +kernel
theorem d14_8 : decode jdk_52_method_16_code 8 = .ok (.iload_n 2, 1) := by decide +kernel
theorem d14_9 : decode jdk_52_method_16_code 9 = .ok (.invokestatic 115, 3) := by decide +kernel
theorem d14_12 : decode jdk_52_method_16_code 12 = .ok (.istore 4, 2) := by decide +kernel
theorem d14_14 : decode jdk_52_method_16_code 14 = .ok (.iload 4, 2) := by decide +kernel
theorem d14_16 : decode jdk_52_method_16_code 16 = .ok (.iload_n 2, 1) := by decide +kernel
theorem d14_17 : decode jdk_52_method_16_code 17 = .ok (.if_icmp .eq 40, 3) := by decide +kernel
theorem d14_20 : decode jdk_52_method_16_code 20 = .ok (.aload_n 0, 1) := by decide +kernel
theorem d14_21 : decode jdk_52_method_16_code 21 = .ok (.iload_n 1, 1) := by decide +kernel
theorem d14_22 : decode jdk_52_method_16_code 22 = .ok (.iload_n 2, 1) := by decide +kernel
theorem d14_23 : decode jdk_52_method_16_code 23 = .ok (.invokestatic 119, 3) := by decide +kernel
theorem d14_26 : decode jdk_52_method_16_code 26 = .ok (.astore 5, 2) := by decide +kernel
theorem d14_28 : decode jdk_52_method_16_code 28 = .ok (.aload 5, 2) := by decide +kernel
theorem d14_30 : decode jdk_52_method_16_code 30 = .ok (.iload 4, 2) := by decide +kernel
theorem d14_32 : decode jdk_52_method_16_code 32 = .ok (.invokestatic 71, 3) := by decide +kernel
theorem d14_35 : decode jdk_52_method_16_code 35 = .ok (.sipush 255, 3) := by decide +kernel
theorem d14_38 : decode jdk_52_method_16_code 38 = .ok (.if_icmp .gt 16, 3) := by decide +kernel
theorem d14_41 : decode jdk_52_method_16_code 41 = .ok (.aload 5, 2) := by decide +kernel
theorem d14_43 : decode jdk_52_method_16_code 43 = .ok (.iconst 0, 1) := by decide +kernel
theorem d14_44 : decode jdk_52_method_16_code 44 = .ok (.aload_n 3, 1) := by decide +kernel
theorem d14_45 : decode jdk_52_method_16_code 45 = .ok (.iconst 0, 1) := by decide +kernel
theorem d14_46 : decode jdk_52_method_16_code 46 = .ok (.iload_n 2, 1) := by decide +kernel
theorem d14_47 : decode jdk_52_method_16_code 47 = .ok (.invokestatic 123, 3) := by decide +kernel
theorem d14_50 : decode jdk_52_method_16_code 50 = .ok (.iload_n 2, 1) := by decide +kernel
theorem d14_51 : decode jdk_52_method_16_code 51 = .ok (.if_icmp .eq 6, 3) := by decide +kernel
theorem d14_54 : decode jdk_52_method_16_code 54 = .ok (.aload 5, 2) := by decide +kernel
theorem d14_56 : decode jdk_52_method_16_code 56 = .ok (.areturn, 1) := by decide +kernel
theorem d14_57 : decode jdk_52_method_16_code 57 = .ok (.aload_n 3, 1) := by decide +kernel
theorem d14_58 : decode jdk_52_method_16_code 58 = .ok (.areturn, 1) := by decide +kernel
theorem ef1 (m : MethodId) (x0 : Addr) (x1 : Int32) (x2 : Int32) : entryFrame m #[(.ref x0), (.int x1), (.int x2)] 6 = mkF m 0 #[.val (.ref x0), .val (.int x1), .val (.int x2), .unset, .unset, .unset] [] := by first | (simp [entryFrame, mkF, argsToLocals, Value.category]; done) | rfl
def Q_rmC1A (Z : State) (kx1 : Addr) (kc : ClassId) (y0 : Int32) (h0 : Heap) (n0 : Nat) (v : Option Value) (h : Heap) (L : List Loc) : Prop := ∃ r kd, v = some (.ref r) ∧ Fr n0 L ∧ Keep h0 h [] ∧ Ary Z h r kd .byte [(.int (y0.toInt8.toInt32))] ∧ h0.size ≤ r
theorem pd0 : parseMethodDescriptor "([CI[BII)I" = some ⟨[.array (.char), .int, .array (.byte), .int, .int], some (.int)⟩ := by decide +kernel
set_option maxRecDepth 65536 in
set_option maxHeartbeats 40000000 in
theorem rmC1A (l : Launch) (Z : State) (a0 : Array Value) (hw : ∀ d ∈ tables_1, d.before a0 Z = true) (ws : List Jvm.Cond) (kx1 : Addr) (kc : ClassId) (y0 : Int32) (h0 : Heap) (n0 : Nat) (Z0 : n0 ≤ h0.size) (pA1 : Ary Z h0 kx1 kc .char [(.int y0)]) (hy0 : ¬ (255 : Int32) < y0) :
    Con l Z (⟨"java/lang/StringUTF16", "compress", "([CII)[B"⟩ : MethodName) jdk_52_method_16_code 6 (some (.array (.byte))) ws ({ frames := 1, cells := 1, slots := 1, locals := 18 } : Room) #[(.ref kx1), (.int (0 : Int32)), (.int (1 : Int32))] h0 (({ frames := 1, cells := 1, slots := 1, locals := 18 } : Room).cells) (({ frames := 1, cells := 1, slots := 1, locals := 18 } : Room).slots) (Q_rmC1A Z kx1 kc y0 h0 n0) := by
  refine Con.of (plainFor_of_name pn0) ?_
  intro p e s m below meth c s₁ hx hby hml hown hnm hret hlk hZ X0 e0
  have N0 := Fr.nil n0
  refine goE (L := #[.val (.ref kx1), .val (.int (0 : Int32)), .val (.int (1 : Int32)), .unset, .unset, .unset]) (ef1 m kx1 (0 : Int32) (1 : Int32)) ?_
  refine gIloadN X0 hx (hb hby d14_0) (q := 1) rfl rfl ?_
  refine gNewP X0 hx hZ (hw _ (List.mem_of_getElem? (i := 19) rfl)) e0 (hb hby d14_1) (q := 3) rfl (by decide) (cap := 1) (by decide) (by decide) (by decide) (by decide) (fun T1 h1 a1 k1 X1 e1 g1 E1 A1 => ?_)
  have A2 := Ary.ext E1 pA1
  have ge_a1 : h0.size ≤ a1 := by rw [g1]; exact (Keep.refl h0 []).1
  have K3 := (Keep.refl h0 []).ext E1
  have le_a1 : n0 ≤ a1 := by rw [g1]; exact Z0
  have ne_kx1_a1 : kx1 ≠ a1 := by rw [g1]; exact Nat.ne_of_lt pA1.lt
  have Z4 := Nat.le_trans Z0 E1.1
  have B1 : Ary Z h1 a1 k1 (.byte) [(.int (0 : Int32))] := A1
  refine gAstoreN X1 hx (hb hby d14_3) (q := 4) rfl rfl (L' := #[.val (.ref kx1), .val (.int (0 : Int32)), .val (.int (1 : Int32)), .val (.ref a1), .unset, .unset]) rfl ?_
  refine gAloadN X1 hx (hb hby d14_4) (q := 5) rfl rfl rfl ?_
  refine gIloadN X1 hx (hb hby d14_5) (q := 6) rfl rfl ?_
  refine gAloadN X1 hx (hb hby d14_6) (q := 7) rfl rfl rfl ?_
  refine gIconst X1 hx (0 : Int32) (hb hby d14_7) (q := 8) rfl (by decide) ?_
  refine gIloadN X1 hx (hb hby d14_8) (q := 9) rfl rfl ?_
  refine gCallS X1 hx hZ hown (hw _ (List.mem_of_getElem? (i := 98) rfl)) (hw _ (List.mem_of_getElem? (i := 99) rfl)) (hw _ (List.mem_of_getElem? (i := 96) rfl)) (hw _ (List.mem_of_getElem? (i := 100) rfl)) (by decide) (rmC2A l Z a0 hw [] kx1 a1 kc k1 y0 h1 n0 Z4 A2 B1 ne_kx1_a1 le_a1 hy0) (W := 0) (by decide) (by decide) e1 (by rw [hml]; rfl) [(.ref kx1), (.int (0 : Int32)), (.ref a1), (.int (0 : Int32)), (.int (1 : Int32))] (lenOf pd0 rfl) rfl (S := []) rfl (Nat.le_of_eq rfl) (hb hby d14_9) (q := 12) rfl (by decide) (by decide) (fun r5 T5 M5 X5 q5 => ?_)
  obtain ⟨rfl, M5n, K5, P5a⟩ := q5
  have N6 := Fr.app N0 M5n
  have A7 := Ary.keep A2 K5 (ninS ne_kx1_a1 nin0)
  have Z8 := Nat.le_trans Z4 K5.1
  have KK9 := K3.trans K5 (allS (Or.inr ge_a1) all0)
  dsimp only [Option.toList, List.cons_append, List.nil_append]
  refine gIstore X5 hx (hb hby d14_12) (q := 14) rfl (L' := #[.val (.ref kx1), .val (.int (0 : Int32)), .val (.int (1 : Int32)), .val (.ref a1), .val (.int (1 : Int32)), .unset]) rfl ?_
  refine gIload X5 hx (hb hby d14_14) (q := 16) rfl rfl ?_
  refine gIloadN X5 hx (hb hby d14_16) (q := 17) rfl rfl ?_
  refine gIcmpY X5 hx (hb hby d14_17) (q := 57) (by decide) (by decide) (XT.ii_eq_t (by decide)) ?_
  refine gAloadN X5 hx (hb hby d14_57) (q := 58) rfl rfl rfl ?_
  exact gRetA X5 hx hlk hret rfl rfl (hb hby d14_58) (by decide) (by decide) (by exact ⟨_, _, rfl, N6, KK9, P5a, ge_a1⟩)
theorem d16_0 : decode jdk_52_method_15_code 0 = .ok (.iload_n 1, 1) := by decide +kernel
theorem d16_1 : decode jdk_52_method_15_code 1 = .ok (.aload_n 0, 1) := by decide +kernel
theorem d16_2 : decode jdk_52_method_15_code 2 = .ok (.arraylength, 1) := by decide +kernel
theorem d16_3 : decode jdk_52_method_15_code 3 = .ok (.isub, 1) := by decide +kernel
theorem d16_4 : decode jdk_52_method_15_code 4 = .ok (.bipush 31, 2) := by decide +kernel
theorem d16_6 : decode jdk_52_method_15_code 6 = .ok (.iushr, 1) := by decide +kernel
theorem d16_7 : decode jdk_52_method_15_code 7 = .ok (.i2b, 1) := by decide +kernel
theorem d16_8 : decode jdk_52_method_15_code 8 = .ok (.ireturn, 1) := by decide +kernel
theorem ef2 (m : MethodId) (x0 : Addr) (x1 : Int32) : entryFrame m #[(.ref x0), (.int x1)] 2 = mkF m 0 #[.val (.ref x0), .val (.int x1)] [] := by first | (simp [entryFrame, mkF, argsToLocals, Value.category]; done) | rfl
def Q_rmCdA (Z : State) (kx1 : Addr) (kd : ClassId) (y0 : Int32) (h0 : Heap) (n0 : Nat) (v : Option Value) (h : Heap) (L : List Loc) : Prop := v = some (.int (0 : Int32)) ∧ Fr n0 L ∧ h = h0
set_option maxRecDepth 65536 in
set_option maxHeartbeats 40000000 in
theorem rmCdA (l : Launch) (Z : State) (a0 : Array Value) (hw : ∀ d ∈ tables_1, d.before a0 Z = true) (ws : List Jvm.Cond) (kx1 : Addr) (kd : ClassId) (y0 : Int32) (h0 : Heap) (n0 : Nat) (Z0 : n0 ≤ h0.size) (pA1 : Ary Z h0 kx1 kd .byte [(.int (y0.toInt8.toInt32))]) :
    Con l Z (⟨"java/lang/StringUTF16", "coderFromArrayLen", "([BI)B"⟩ : MethodName) jdk_52_method_15_code 2 (some (.byte)) ws ({ frames := 0, cells := 0, slots := 0, locals := 0 } : Room) #[(.ref kx1), (.int (1 : Int32))] h0 (({ frames := 0, cells := 0, slots := 0, locals := 0 } : Room).cells) (({ frames := 0, cells := 0, slots := 0, locals := 0 } : Room).slots) (Q_rmCdA Z kx1 kd y0 h0 n0) := by
  refine Con.of (plainFor_of_name pn0) ?_
  intro p e s m below meth c s₁ hx hby hml hown hnm hret hlk hZ X0 e0
  have N0 := Fr.nil n0
  refine goE (L := #[.val (.ref kx1), .val (.int (1 : Int32))]) (ef2 m kx1 (1 : Int32)) ?_
  refine gIloadN X0 hx (hb hby d16_0) (q := 1) rfl rfl ?_
  refine gAloadN X0 hx (hb hby d16_1) (q := 2) rfl rfl rfl ?_
  refine gLen X0 hx hZ e0 pA1 (n := (1 : Int32)) rfl (hb hby d16_2) (q := 3) rfl ?_
  refine gIsub X0 hx (hb hby d16_3) (q := 4) rfl ?_
  rw [show ((1 : Int32) - (1 : Int32)) = (0 : Int32) from by decide]
  refine gBipush X0 hx (31 : Int32) (hb hby d16_4) (q := 6) rfl (by decide) ?_
  refine gIushr X0 hx (hb hby d16_6) (q := 7) rfl ?_
  rw [show (XT.ushr (0 : Int32) (31 : Int32)) = (0 : Int32) from by decide]
  refine gI2b X0 hx (hb hby d16_7) (q := 8) rfl ?_
  rw [show ((0 : Int32).toInt8.toInt32) = (0 : Int32) from by decide]
  exact gRetB X0 hx hlk hret (hb hby d16_8) (by decide) (by decide) rfl ⟨rfl, N0, e0⟩
theorem d3_0 : decode jdk_42_method_149_code 0 = .ok (.aload_n 0, 1) := by decide +kernel
theorem d3_1 : decode jdk_42_method_149_code 1 = .ok (.invokespecial 1, 3) := by decide +kernel
theorem d3_4 : decode jdk_42_method_149_code 4 = .ok (.iload_n 3, 1) := by decide +kernel
theorem d3_5 : decode jdk_42_method_149_code 5 = .ok (.ifCond .ne 22, 3) := by decide +kernel
theorem d3_8 : decode jdk_42_method_149_code 8 = .ok (.aload_n 0, 1) := by decide +kernel
theorem d3_9 : decode jdk_42_method_149_code 9 = .ok (.ldc 7, 2) := by decide +kernel
theorem d3_11 : decode jdk_42_method_149_code 11 = .ok (.getfield 9, 3) := by decide +kernel
theorem d3_14 : decode jdk_42_method_149_code 14 = .ok (.putfield 9, 3) := by decide +kernel
theorem d3_17 : decode jdk_42_method_149_code 17 = .ok (.aload_n 0, 1) := by decide +kernel
theorem d3_18 : decode jdk_42_method_149_code 18 = .ok (.ldc 7, 2) := by decide +kernel
theorem d3_20 : decode jdk_42_method_149_code 20 = .ok (.getfield 15, 3) := by decide +kernel
theorem d3_23 : decode jdk_42_method_149_code 23 = .ok (.putfield 15, 3) := by decide +kernel
theorem d3_26 : decode jdk_42_method_149_code 26 = .ok (.return_, 1) := by decide +kernel
theorem d3_27 : decode jdk_42_method_149_code 27 = .ok (.getstatic 38, 3) := by decide +kernel
theorem d3_30 : decode jdk_42_method_149_code 30 = .ok (.ifCond .eq 28, 3) := by decide +kernel
theorem d3_33 : decode jdk_42_method_149_code 33 = .ok (.aload_n 1, 1) := by decide +kernel
theorem d3_34 : decode jdk_42_method_149_code 34 = .ok (.iload_n 2, 1) := by decide +kernel
theorem d3_35 : decode jdk_42_method_149_code 35 = .ok (.iload_n 3, 1) := by decide +kernel
theorem d3_36 : decode jdk_42_method_149_code 36 = .ok (.invokestatic 177, 3) := by decide +kernel
theorem d3_39 : decode jdk_42_method_149_code 39 = .ok (.astore 5, 2) := by decide +kernel
theorem d3_41 : decode jdk_42_method_149_code 41 = .ok (.aload_n 0, 1) := by decide +kernel
theorem d3_42 : decode jdk_42_method_149_code 42 = .ok (.aload 5, 2) := by decide +kernel
theorem d3_44 : decode jdk_42_method_149_code 44 = .ok (.iload_n 3, 1) := by decide +kernel
theorem d3_45 : decode jdk_42_method_149_code 45 = .ok (.invokestatic 47, 3) := by decide +kernel
theorem d3_48 : decode jdk_42_method_149_code 48 = .ok (.putfield 15, 3) := by decide +kernel
theorem d3_51 : decode jdk_42_method_149_code 51 = .ok (.aload_n 0, 1) := by decide +kernel
theorem d3_52 : decode jdk_42_method_149_code 52 = .ok (.aload 5, 2) := by decide +kernel
theorem d3_54 : decode jdk_42_method_149_code 54 = .ok (.putfield 9, 3) := by decide +kernel
theorem d3_57 : decode jdk_42_method_149_code 57 = .ok (.return_, 1) := by decide +kernel
theorem d3_58 : decode jdk_42_method_149_code 58 = .ok (.aload_n 0, 1) := by decide +kernel
theorem d3_59 : decode jdk_42_method_149_code 59 = .ok (.iconst 1, 1) := by decide +kernel
theorem d3_60 : decode jdk_42_method_149_code 60 = .ok (.putfield 15, 3) := by decide +kernel
theorem d3_63 : decode jdk_42_method_149_code 63 = .ok (.aload_n 0, 1) := by decide +kernel
theorem d3_64 : decode jdk_42_method_149_code 64 = .ok (.aload_n 1, 1) := by decide +kernel
theorem d3_65 : decode jdk_42_method_149_code 65 = .ok (.iload_n 2, 1) := by decide +kernel
theorem d3_66 : decode jdk_42_method_149_code 66 = .ok (.iload_n 3, 1) := by decide +kernel
theorem d3_67 : decode jdk_42_method_149_code 67 = .ok (.invokestatic 180, 3) := by decide +kernel
theorem d3_70 : decode jdk_42_method_149_code 70 = .ok (.putfield 9, 3) := by decide +kernel
theorem d3_73 : decode jdk_42_method_149_code 73 = .ok (.return_, 1) := by decide +kernel
theorem pn1 : plainName "java/lang/String" = true := by first | (simp [plainName, overriddenIn]; done) | decide +kernel
theorem ef3 (m : MethodId) (x0 : Addr) (x1 : Addr) (x2 : Int32) (x3 : Int32) : entryFrame m #[(.ref x0), (.ref x1), (.int x2), (.int x3), (.null)] 6 = mkF m 0 #[.val (.ref x0), .val (.ref x1), .val (.int x2), .val (.int x3), .val (.null), .unset] [] := by first | (simp [entryFrame, mkF, argsToLocals, Value.category]; done) | rfl
def Q_rmI4A (Z : State) (a : Addr) (kx1 : Addr) (kc : ClassId) (ic : Int32) (y0 : Int32) (h0 : Heap) (n0 : Nat) (v : Option Value) (h : Heap) (L : List Loc) : Prop := v = none ∧ Fr n0 L ∧ Keep h0 h [a] ∧ Exa Z h a "java/lang/String" ∧ Fld Z h a "java/lang/String" "coder" "B" (.int (0 : Int32)) ∧ ∃ rb kb, Fld Z h a "java/lang/String" "value" "[B" (.ref rb) ∧ Ary Z h rb kb .byte [(.int (y0.toInt8.toInt32))] ∧ h0.size ≤ rb
theorem pd1 : parseMethodDescriptor "([CII)[B" = some ⟨[.array (.char), .int, .int], some (.array (.byte))⟩ := by decide +kernel
theorem pd2 : parseMethodDescriptor "([BI)B" = some ⟨[.array (.byte), .int], some (.byte)⟩ := by decide +kernel
set_option maxRecDepth 65536 in
set_option maxHeartbeats 40000000 in
theorem rmI4A (l : Launch) (Z : State) (a0 : Array Value) (hw : ∀ d ∈ tables_1, d.before a0 Z = true) (ws : List Jvm.Cond) (a : Addr) (kx1 : Addr) (kc : ClassId) (ic : Int32) (y0 : Int32) (h0 : Heap) (n0 : Nat) (Z0 : n0 ≤ h0.size) (pF1 : Fld Z h0 a "java/lang/String" "value" "[B" .null) (pF2 : Fld Z h0 a "java/lang/String" "coder" "B" (.int (0 : Int32))) (EXa : Exa Z h0 a "java/lang/String") (la : n0 ≤ a) (pA1 : Ary Z h0 kx1 kc .char [(.int y0)]) (n1a : kx1 ≠ a) (SCs : Sta Z Z.heap "java/lang/String" "COMPACT_STRINGS" "Z" (.int ic)) (hic : ¬ ic = (0 : Int32)) (O0 : Old Z n0 h0) (hy0 : ¬ (255 : Int32) < y0) :
    Con l Z (⟨"java/lang/String", "<init>", "([CIILjava/lang/Void;)V"⟩ : MethodName) jdk_42_method_149_code 6 none ws ({ frames := 2, cells := 1, slots := 1, locals := 36 } : Room) #[(.ref a), (.ref kx1), (.int (0 : Int32)), (.int (1 : Int32)), (.null)] h0 (({ frames := 2, cells := 1, slots := 1, locals := 36 } : Room).cells) (({ frames := 2, cells := 1, slots := 1, locals := 36 } : Room).slots) (Q_rmI4A Z a kx1 kc ic y0 h0 n0) := by
  refine Con.of (plainFor_of_name pn1) ?_
  intro p e s m below meth c s₁ hx hby hml hown hnm hret hlk hZ X0 e0
  have N0 := Fr.nil n0
  refine goE (L := #[.val (.ref a), .val (.ref kx1), .val (.int (0 : Int32)), .val (.int (1 : Int32)), .val (.null), .unset]) (ef3 m a kx1 (0 : Int32) (1 : Int32)) ?_
  refine gAloadN X0 hx (hb hby d3_0) (q := 1) rfl rfl rfl ?_
  refine gInitO X0 hx hZ hown (hw _ (List.mem_of_getElem? (i := 15) rfl)) (hw _ (List.mem_of_getElem? (i := 16) rfl)) (hw _ (List.mem_of_getElem? (i := 17) rfl)) e0 (by rw [hml]; rfl) (hb hby d3_1) (q := 4) rfl (by decide) (W := 0) (Nat.le_of_eq rfl) (by decide) (fun T1 X1 e1 => ?_)
  refine gIloadN X1 hx (hb hby d3_4) (q := 5) rfl rfl ?_
  refine gIfY X1 hx (hb hby d3_5) (q := 27) (by decide) (by decide) (XT.i0_ne_t (by decide)) ?_
  refine gGetS X1 hx hZ hown (hw _ (List.mem_of_getElem? (i := 93) rfl)) Via.refl e1 (Sta.ext O0.2 SCs) (hb hby d3_27) (q := 30) rfl (fun T2 X2 e2 => ?_)
  refine gIfN X2 hx (hb hby d3_30) (q := 33) rfl (XT.i0_eq_f hic) ?_
  refine gAloadN X2 hx (hb hby d3_33) (q := 34) rfl rfl rfl ?_
  refine gIloadN X2 hx (hb hby d3_34) (q := 35) rfl rfl ?_
  refine gIloadN X2 hx (hb hby d3_35) (q := 36) rfl rfl ?_
  refine gCallS X2 hx hZ hown (hw _ (List.mem_of_getElem? (i := 94) rfl)) (hw _ (List.mem_of_getElem? (i := 95) rfl)) (hw _ (List.mem_of_getElem? (i := 96) rfl)) (hw _ (List.mem_of_getElem? (i := 97) rfl)) (by decide) (rmC1A l Z a0 hw [] kx1 kc y0 h0 n0 Z0 pA1 hy0) (W := 0) (by decide) (by decide) e2 (by rw [hml]; rfl) [(.ref kx1), (.int (0 : Int32)), (.int (1 : Int32))] (lenOf pd1 rfl) rfl (S := []) rfl (Nat.le_of_eq rfl) (hb hby d3_36) (q := 39) rfl (by decide) (by decide) (fun r3 T3 M3 X3 q3 => ?_)
  obtain ⟨rb, kb, rfl, M3n, K3, Arb, grb⟩ := q3
  have N4 := Fr.app N0 M3n
  have lrb : n0 ≤ rb := Nat.le_trans Z0 grb
  have ne_a_rb : a ≠ rb := Nat.ne_of_lt (Nat.lt_of_lt_of_le EXa.lt grb)
  have ne_kx1_rb : kx1 ≠ rb := Nat.ne_of_lt (Nat.lt_of_lt_of_le pA1.lt grb)
  have g0rb : h0.size ≤ rb := Nat.le_trans (Keep.refl h0 [a]).1 grb
  have F5 := Fld.keep pF1 K3 nin0
  have F6 := Fld.keep pF2 K3 nin0
  have E7 := Exa.keep EXa K3
  have A8 := Ary.keep pA1 K3 nin0
  have O9 := O0.keep K3 all0
  have Z10 := Nat.le_trans Z0 K3.1
  have KK11 := (Keep.refl h0 [a]).trans K3 all0
  dsimp only [Option.toList, List.cons_append, List.nil_append]
  refine gAstore X3 hx (hb hby d3_39) (q := 41) rfl rfl (L' := #[.val (.ref a), .val (.ref kx1), .val (.int (0 : Int32)), .val (.int (1 : Int32)), .val (.null), .val (.ref rb)]) rfl ?_
  refine gAloadN X3 hx (hb hby d3_41) (q := 42) rfl rfl rfl ?_
  refine gAload X3 hx (hb hby d3_42) (q := 44) rfl rfl rfl ?_
  refine gIloadN X3 hx (hb hby d3_44) (q := 45) rfl rfl ?_
  refine gCallS X3 hx hZ hown (hw _ (List.mem_of_getElem? (i := 101) rfl)) (hw _ (List.mem_of_getElem? (i := 102) rfl)) (hw _ (List.mem_of_getElem? (i := 96) rfl)) (hw _ (List.mem_of_getElem? (i := 103) rfl)) (by decide) (rmCdA l Z a0 hw [] rb kb y0 T3.heap n0 Z10 Arb) (W := 1) (by decide) (by decide) rfl (by rw [hml]; rfl) [(.ref rb), (.int (1 : Int32))] (lenOf pd2 rfl) rfl (S := [(.ref a)]) rfl (Nat.le_of_eq rfl) (hb hby d3_45) (q := 48) rfl (by decide) (by decide) (fun r12 T12 M12 X12 q12 => ?_)
  obtain ⟨rfl, M12n, e12⟩ := q12
  have N13 := Fr.app N4 M12n
  dsimp only [Option.toList, List.cons_append, List.nil_append]
  refine gPutF X12 hx hZ (host := "") hown (Or.inl (hw _ (List.mem_of_getElem? (i := 25) rfl))) Via.refl e12 F6 E7 (Or.inr ⟨(hw _ (List.mem_of_getElem? (i := 21) rfl)), rfl, hnm⟩) (hw _ (List.mem_of_getElem? (i := 5) rfl)) (ty := .byte) (by decide) rfl rfl (hb hby d3_48) (q := 51) rfl (fun T14 h14 X14 e14 W14 => ?_)
  have N15 := Fr.snoc X14 N13 la
  have K16 := KK11.wr W14 (Or.inl (List.mem_of_getElem? (i := 0) rfl))
  have F17 := Fld.other W14 F5 (Or.inr (slot_ne (Or.inr (hw _ (List.mem_of_getElem? (i := 20) rfl))) (Or.inr (hw _ (List.mem_of_getElem? (i := 21) rfl))) (by decide) (t := .array (.byte)) (by decide) (t' := .byte) (by decide)))
  have F18 := Fld.same W14 F6
  have E19 := Exa.wr W14 E7
  have A20 := Ary.other W14 A8 n1a
  have A21 := Ary.other W14 Arb ne_a_rb.symm
  have O22 := O9.wr W14 la
  have Z23 : n0 ≤ h14.size := by rw [W14.size]; exact Z10
  refine gAloadN X14 hx (hb hby d3_51) (q := 52) rfl rfl rfl ?_
  refine gAload X14 hx (hb hby d3_52) (q := 54) rfl rfl rfl ?_
  refine gPutF X14 hx hZ (host := "") hown (Or.inl (hw _ (List.mem_of_getElem? (i := 24) rfl))) Via.refl e14 F17 E19 (Or.inr ⟨(hw _ (List.mem_of_getElem? (i := 20) rfl)), rfl, hnm⟩) (hw _ (List.mem_of_getElem? (i := 5) rfl)) (ty := .array (.byte)) (by decide) rfl rfl (hb hby d3_54) (q := 57) rfl (fun T24 h24 X24 e24 W24 => ?_)
  have N25 := Fr.snoc X24 N15 la
  have K26 := K16.wr W24 (Or.inl (List.mem_of_getElem? (i := 0) rfl))
  have F27 := Fld.same W24 F17
  have F28 := Fld.other W24 F18 (Or.inr (slot_ne (Or.inr (hw _ (List.mem_of_getElem? (i := 21) rfl))) (Or.inr (hw _ (List.mem_of_getElem? (i := 20) rfl))) (by decide) (t := .byte) (by decide) (t' := .array (.byte)) (by decide)))
  have E29 := Exa.wr W24 E19
  have A30 := Ary.other W24 A20 n1a
  have A31 := Ary.other W24 A21 ne_a_rb.symm
  have O32 := O22.wr W24 la
  have Z33 : n0 ≤ h24.size := by rw [W24.size]; exact Z23
  exact gRetV X24 hx hlk hret (hb hby d3_57) (by decide) (by decide) (by rw [e24]; exact ⟨rfl, N25, K26, E29, F28, _, _, F27, A31, g0rb⟩)
theorem d2_0 : decode jdk_42_method_3_code 0 = .ok (.aload_n 0, 1) := by decide +kernel
theorem d2_1 : decode jdk_42_method_3_code 1 = .ok (.aload_n 1, 1) := by decide +kernel
theorem d2_2 : decode jdk_42_method_3_code 2 = .ok (.iconst 0, 1) := by decide +kernel
theorem d2_3 : decode jdk_42_method_3_code 3 = .ok (.aload_n 1, 1) := by decide +kernel
theorem d2_4 : decode jdk_42_method_3_code 4 = .ok (.arraylength, 1) := by decide +kernel
theorem d2_5 : decode jdk_42_method_3_code 5 = .ok (.aconst_null, 1) := by decide +kernel
theorem d2_6 : decode jdk_42_method_3_code 6 = .ok (.invokespecial 27, 3) := by decide +kernel
theorem d2_9 : decode jdk_42_method_3_code 9 = .ok (.return_, 1) := by decide +kernel
theorem ef4 (m : MethodId) (x0 : Addr) (x1 : Addr) : entryFrame m #[(.ref x0), (.ref x1)] 2 = mkF m 0 #[.val (.ref x0), .val (.ref x1)] [] := by first | (simp [entryFrame, mkF, argsToLocals, Value.category]; done) | rfl
def Q_rmI1A (Z : State) (a : Addr) (kx1 : Addr) (kc : ClassId) (ic : Int32) (y0 : Int32) (h0 : Heap) (n0 : Nat) (v : Option Value) (h : Heap) (L : List Loc) : Prop := v = none ∧ Fr n0 L ∧ Keep h0 h [a] ∧ Exa Z h a "java/lang/String" ∧ Fld Z h a "java/lang/String" "coder" "B" (.int (0 : Int32)) ∧ ∃ rb kb, Fld Z h a "java/lang/String" "value" "[B" (.ref rb) ∧ Ary Z h rb kb .byte [(.int (y0.toInt8.toInt32))] ∧ h0.size ≤ rb
theorem pd3 : parseMethodDescriptor "([CIILjava/lang/Void;)V" = some ⟨[.array (.char), .int, .int, .object "java/lang/Void"], none⟩ := by decide +kernel
set_option maxRecDepth 65536 in
set_option maxHeartbeats 40000000 in
theorem rmI1A (l : Launch) (Z : State) (a0 : Array Value) (hw : ∀ d ∈ tables_1, d.before a0 Z = true) (ws : List Jvm.Cond) (a : Addr) (kx1 : Addr) (kc : ClassId) (ic : Int32) (y0 : Int32) (h0 : Heap) (n0 : Nat) (Z0 : n0 ≤ h0.size) (pF1 : Fld Z h0 a "java/lang/String" "value" "[B" .null) (pF2 : Fld Z h0 a "java/lang/String" "coder" "B" (.int (0 : Int32))) (EXa : Exa Z h0 a "java/lang/String") (la : n0 ≤ a) (pA1 : Ary Z h0 kx1 kc .char [(.int y0)]) (n1a : kx1 ≠ a) (SCs : Sta Z Z.heap "java/lang/String" "COMPACT_STRINGS" "Z" (.int ic)) (hic : ¬ ic = (0 : Int32)) (O0 : Old Z n0 h0) (hy0 : ¬ (255 : Int32) < y0) :
    Con l Z (⟨"java/lang/String", "<init>", "([C)V"⟩ : MethodName) jdk_42_method_3_code 2 none ws ({ frames := 3, cells := 1, slots := 1, locals := 53 } : Room) #[(.ref a), (.ref kx1)] h0 (({ frames := 3, cells := 1, slots := 1, locals := 53 } : Room).cells) (({ frames := 3, cells := 1, slots := 1, locals := 53 } : Room).slots) (Q_rmI1A Z a kx1 kc ic y0 h0 n0) := by
  refine Con.of (plainFor_of_name pn1) ?_
  intro p e s m below meth c s₁ hx hby hml hown hnm hret hlk hZ X0 e0
  have N0 := Fr.nil n0
  refine goE (L := #[.val (.ref a), .val (.ref kx1)]) (ef4 m a kx1) ?_
  refine gAloadN X0 hx (hb hby d2_0) (q := 1) rfl rfl rfl ?_
  refine gAloadN X0 hx (hb hby d2_1) (q := 2) rfl rfl rfl ?_
  refine gIconst X0 hx (0 : Int32) (hb hby d2_2) (q := 3) rfl (by decide) ?_
  refine gAloadN X0 hx (hb hby d2_3) (q := 4) rfl rfl rfl ?_
  refine gLen X0 hx hZ e0 pA1 (n := (1 : Int32)) rfl (hb hby d2_4) (q := 5) rfl ?_
  refine gNull X0 hx (hb hby d2_5) (q := 6) rfl ?_
  refine gCallN X0 hx hZ rfl hown (hw _ (List.mem_of_getElem? (i := 11) rfl)) (hw _ (List.mem_of_getElem? (i := 12) rfl)) (hw _ (List.mem_of_getElem? (i := 6) rfl)) (hw _ (List.mem_of_getElem? (i := 14) rfl)) (by decide) (rmI4A l Z a0 hw [] a kx1 kc ic y0 h0 n0 Z0 pF1 pF2 EXa la pA1 n1a SCs hic O0 hy0) (W := 0) (by decide) (by decide) e0 (by rw [hml]; rfl) [(.ref kx1), (.int (0 : Int32)), (.int (1 : Int32)), (.null)] (lenOf pd3 rfl) rfl (S := []) rfl (Nat.le_of_eq rfl) (hb hby d2_6) (q := 9) rfl (by decide) (by decide) (fun r1 T1 M1 X1 q1 => ?_)
  obtain ⟨rfl, M1n, K1, P1e, P1c, rb, kb, P1v, P1a, grb⟩ := q1
  have N2 := Fr.app N0 M1n
  dsimp only [Option.toList, List.cons_append, List.nil_append]
  exact gRetV X1 hx hlk hret (hb hby d2_9) (by decide) (by decide) ⟨rfl, N2, K1, P1e, P1c, _, _, P1v, P1a, grb⟩
theorem ef5 (m : MethodId) (x0 : Addr) (x1 : Int32) (x2 : Addr) (x3 : Int32) (x4 : Int32) : entryFrame m #[(.ref x0), (.int x1), (.ref x2), (.int x3), (.int x4)] 7 = mkF m 0 #[.val (.ref x0), .val (.int x1), .val (.ref x2), .val (.int x3), .val (.int x4), .unset, .unset] [] := by first | (simp [entryFrame, mkF, argsToLocals, Value.category]; done) | rfl
def Q_rmC2B (Z : State) (kx1 : Addr) (kx2 : Addr) (kc : ClassId) (kd : ClassId) (y0 : Int32) (y1 : Int32) (h0 : Heap) (n0 : Nat) (v : Option Value) (h : Heap) (L : List Loc) : Prop := v = some (.int (2 : Int32)) ∧ Fr n0 L ∧ Keep h0 h [kx2] ∧ Ary Z h kx2 kd .byte [(.int (y0.toInt8.toInt32)), (.int (y1.toInt8.toInt32))]
set_option maxRecDepth 65536 in
set_option maxHeartbeats 40000000 in
theorem rmC2B (l : Launch) (Z : State) (a0 : Array Value) (hw : ∀ d ∈ tables_1, d.before a0 Z = true) (ws : List Jvm.Cond) (kx1 : Addr) (kx2 : Addr) (kc : ClassId) (kd : ClassId) (y0 : Int32) (y1 : Int32) (h0 : Heap) (n0 : Nat) (Z0 : n0 ≤ h0.size) (pA1 : Ary Z h0 kx1 kc .char [(.int y0), (.int y1)]) (pA2 : Ary Z h0 kx2 kd .byte [(.int (0 : Int32)), (.int (0 : Int32))]) (n12 : kx1 ≠ kx2) (lkx2 : n0 ≤ kx2) (hy0 : ¬ (255 : Int32) < y0) (hy1 : ¬ (255 : Int32) < y1) :
    Con l Z (⟨"java/lang/StringUTF16", "compress", "([CI[BII)I"⟩ : MethodName) jdk_52_method_21_code 7 (some (.int)) ws ({ frames := 0, cells := 0, slots := 0, locals := 0 } : Room) #[(.ref kx1), (.int (0 : Int32)), (.ref kx2), (.int (0 : Int32)), (.int (2 : Int32))] h0 (({ frames := 0, cells := 0, slots := 0, locals := 0 } : Room).cells) (({ frames := 0, cells := 0, slots := 0, locals := 0 } : Room).slots) (Q_rmC2B Z kx1 kx2 kc kd y0 y1 h0 n0) := by
  refine Con.of (plainFor_of_name pn0) ?_
  intro p e s m below meth c s₁ hx hby hml hown hnm hret hlk hZ X0 e0
  have N0 := Fr.nil n0
  refine goE (L := #[.val (.ref kx1), .val (.int (0 : Int32)), .val (.ref kx2), .val (.int (0 : Int32)), .val (.int (2 : Int32)), .unset, .unset]) (ef5 m kx1 (0 : Int32) kx2 (0 : Int32) (2 : Int32)) ?_
  refine gIconst X0 hx (0 : Int32) (hb hby d15_0) (q := 1) rfl (by decide) ?_
  refine gIstore X0 hx (hb hby d15_1) (q := 3) rfl (L' := #[.val (.ref kx1), .val (.int (0 : Int32)), .val (.ref kx2), .val (.int (0 : Int32)), .val (.int (2 : Int32)), .val (.int (0 : Int32)), .unset]) rfl ?_
  refine gIload X0 hx (hb hby d15_3) (q := 5) rfl rfl ?_
  refine gIload X0 hx (hb hby d15_5) (q := 7) rfl rfl ?_
  refine gIcmpN X0 hx (hb hby d15_7) (q := 10) rfl (XT.ii_ge_f (by decide)) ?_
  refine gAloadN X0 hx (hb hby d15_10) (q := 11) rfl rfl rfl ?_
  refine gIloadN X0 hx (hb hby d15_11) (q := 12) rfl rfl ?_
  refine gCaload X0 hx hZ e0 pA1 (hb hby d15_12) (q := 13) rfl (show ¬ (((0 : Int32) : Int32) < 0 ∨ 2 ≤ ((0 : Int32) : Int32).toNatClampNeg) by decide) (v := .int y0) rfl ?_
  refine gIstore X0 hx (hb hby d15_13) (q := 15) rfl (L' := #[.val (.ref kx1), .val (.int (0 : Int32)), .val (.ref kx2), .val (.int (0 : Int32)), .val (.int (2 : Int32)), .val (.int (0 : Int32)), .val (.int y0)]) rfl ?_
  refine gIload X0 hx (hb hby d15_15) (q := 17) rfl rfl ?_
  refine gSipush X0 hx (255 : Int32) (hb hby d15_17) (q := 20) rfl (by decide) ?_
  refine gIcmpY X0 hx (hb hby d15_20) (q := 26) (by decide) (by decide) (XT.ii_le_t hy0) ?_
  refine gAloadN X0 hx (hb hby d15_26) (q := 27) rfl rfl rfl ?_
  refine gIloadN X0 hx (hb hby d15_27) (q := 28) rfl rfl ?_
  refine gIload X0 hx (hb hby d15_28) (q := 30) rfl rfl ?_
  refine gI2b X0 hx (hb hby d15_30) (q := 31) rfl ?_
  refine gBastore X0 hx hZ e0 pA2 (hb hby d15_31) (q := 32) rfl (show ¬ (((0 : Int32) : Int32) < 0 ∨ 2 ≤ ((0 : Int32) : Int32).toNatClampNeg) by decide) (fun T1 h1 X1 e1 W1 A1 => ?_)
  have B1 : Ary Z h1 kx2 kd (.byte) [(.int (y0.toInt8.toInt32)), (.int (0 : Int32))] := (by have zA := A1; rw [show nar .byte (y0.toInt8.toInt32) = (y0.toInt8.toInt32) from own_narB _] at zA; exact zA)
  have N2 := Fr.snoc X1 N0 lkx2
  have K3 := (Keep.refl h0 [kx2]).wr W1 (Or.inl (List.mem_of_getElem? (i := 0) rfl))
  have A4 := Ary.other W1 pA1 n12
  have Z6 : n0 ≤ h1.size := by rw [W1.size]; exact Z0
  refine gIinc X1 hx (1 : Int32) (hb hby d15_32) (q := 35) rfl (by decide) rfl (L' := #[.val (.ref kx1), .val (.int (1 : Int32)), .val (.ref kx2), .val (.int (0 : Int32)), .val (.int (2 : Int32)), .val (.int (0 : Int32)), .val (.int y0)]) rfl ?_
  refine gIinc X1 hx (1 : Int32) (hb hby d15_35) (q := 38) rfl (by decide) rfl (L' := #[.val (.ref kx1), .val (.int (1 : Int32)), .val (.ref kx2), .val (.int (1 : Int32)), .val (.int (2 : Int32)), .val (.int (0 : Int32)), .val (.int y0)]) rfl ?_
  refine gIinc X1 hx (1 : Int32) (hb hby d15_38) (q := 41) rfl (by decide) rfl (L' := #[.val (.ref kx1), .val (.int (1 : Int32)), .val (.ref kx2), .val (.int (1 : Int32)), .val (.int (2 : Int32)), .val (.int (1 : Int32)), .val (.int y0)]) rfl ?_
  refine gGoto X1 hx (hb hby d15_41) (q := 3) (by decide) (by decide) ?_
  refine gIload X1 hx (hb hby d15_3) (q := 5) rfl rfl ?_
  refine gIload X1 hx (hb hby d15_5) (q := 7) rfl rfl ?_
  refine gIcmpN X1 hx (hb hby d15_7) (q := 10) rfl (XT.ii_ge_f (by decide)) ?_
  refine gAloadN X1 hx (hb hby d15_10) (q := 11) rfl rfl rfl ?_
  refine gIloadN X1 hx (hb hby d15_11) (q := 12) rfl rfl ?_
  refine gCaload X1 hx hZ e1 A4 (hb hby d15_12) (q := 13) rfl (show ¬ (((1 : Int32) : Int32) < 0 ∨ 2 ≤ ((1 : Int32) : Int32).toNatClampNeg) by decide) (v := .int y1) rfl ?_
  refine gIstore X1 hx (hb hby d15_13) (q := 15) rfl (L' := #[.val (.ref kx1), .val (.int (1 : Int32)), .val (.ref kx2), .val (.int (1 : Int32)), .val (.int (2 : Int32)), .val (.int (1 : Int32)), .val (.int y1)]) rfl ?_
  refine gIload X1 hx (hb hby d15_15) (q := 17) rfl rfl ?_
  refine gSipush X1 hx (255 : Int32) (hb hby d15_17) (q := 20) rfl (by decide) ?_
  refine gIcmpY X1 hx (hb hby d15_20) (q := 26) (by decide) (by decide) (XT.ii_le_t hy1) ?_
  refine gAloadN X1 hx (hb hby d15_26) (q := 27) rfl rfl rfl ?_
  refine gIloadN X1 hx (hb hby d15_27) (q := 28) rfl rfl ?_
  refine gIload X1 hx (hb hby d15_28) (q := 30) rfl rfl ?_
  refine gI2b X1 hx (hb hby d15_30) (q := 31) rfl ?_
  refine gBastore X1 hx hZ e1 B1 (hb hby d15_31) (q := 32) rfl (show ¬ (((1 : Int32) : Int32) < 0 ∨ 2 ≤ ((1 : Int32) : Int32).toNatClampNeg) by decide) (fun T7 h7 X7 e7 W7 A7 => ?_)
  have B7 : Ary Z h7 kx2 kd (.byte) [(.int (y0.toInt8.toInt32)), (.int (y1.toInt8.toInt32))] := (by have zA := A7; rw [show nar .byte (y1.toInt8.toInt32) = (y1.toInt8.toInt32) from own_narB _] at zA; exact zA)
  have N8 := Fr.snoc X7 N2 lkx2
  have K9 := K3.wr W7 (Or.inl (List.mem_of_getElem? (i := 0) rfl))
  have A10 := Ary.other W7 A4 n12
  have Z12 : n0 ≤ h7.size := by rw [W7.size]; exact Z6
  refine gIinc X7 hx (1 : Int32) (hb hby d15_32) (q := 35) rfl (by decide) rfl (L' := #[.val (.ref kx1), .val (.int (2 : Int32)), .val (.ref kx2), .val (.int (1 : Int32)), .val (.int (2 : Int32)), .val (.int (1 : Int32)), .val (.int y1)]) rfl ?_
  refine gIinc X7 hx (1 : Int32) (hb hby d15_35) (q := 38) rfl (by decide) rfl (L' := #[.val (.ref kx1), .val (.int (2 : Int32)), .val (.ref kx2), .val (.int (2 : Int32)), .val (.int (2 : Int32)), .val (.int (1 : Int32)), .val (.int y1)]) rfl ?_
  refine gIinc X7 hx (1 : Int32) (hb hby d15_38) (q := 41) rfl (by decide) rfl (L' := #[.val (.ref kx1), .val (.int (2 : Int32)), .val (.ref kx2), .val (.int (2 : Int32)), .val (.int (2 : Int32)), .val (.int (2 : Int32)), .val (.int y1)]) rfl ?_
  refine gGoto X7 hx (hb hby d15_41) (q := 3) (by decide) (by decide) ?_
  refine gIload X7 hx (hb hby d15_3) (q := 5) rfl rfl ?_
  refine gIload X7 hx (hb hby d15_5) (q := 7) rfl rfl ?_
  refine gIcmpY X7 hx (hb hby d15_7) (q := 44) (by decide) (by decide) (XT.ii_ge_t (by decide)) ?_
  refine gIload X7 hx (hb hby d15_44) (q := 46) rfl rfl ?_
  exact gRetI X7 hx hlk hret (hb hby d15_46) (by decide) (by decide) (by rw [e7]; exact ⟨rfl, N8, K9, B7⟩)
theorem ef6 (m : MethodId) (x0 : Addr) (x1 : Int32) (x2 : Int32) : entryFrame m #[(.ref x0), (.int x1), (.int x2)] 6 = mkF m 0 #[.val (.ref x0), .val (.int x1), .val (.int x2), .unset, .unset, .unset] [] := by first | (simp [entryFrame, mkF, argsToLocals, Value.category]; done) | rfl
def Q_rmC1B (Z : State) (kx1 : Addr) (kc : ClassId) (y0 : Int32) (y1 : Int32) (h0 : Heap) (n0 : Nat) (v : Option Value) (h : Heap) (L : List Loc) : Prop := ∃ r kd, v = some (.ref r) ∧ Fr n0 L ∧ Keep h0 h [] ∧ Ary Z h r kd .byte [(.int (y0.toInt8.toInt32)), (.int (y1.toInt8.toInt32))] ∧ h0.size ≤ r
set_option maxRecDepth 65536 in
set_option maxHeartbeats 40000000 in
theorem rmC1B (l : Launch) (Z : State) (a0 : Array Value) (hw : ∀ d ∈ tables_1, d.before a0 Z = true) (ws : List Jvm.Cond) (kx1 : Addr) (kc : ClassId) (y0 : Int32) (y1 : Int32) (h0 : Heap) (n0 : Nat) (Z0 : n0 ≤ h0.size) (pA1 : Ary Z h0 kx1 kc .char [(.int y0), (.int y1)]) (hy0 : ¬ (255 : Int32) < y0) (hy1 : ¬ (255 : Int32) < y1) :
    Con l Z (⟨"java/lang/StringUTF16", "compress", "([CII)[B"⟩ : MethodName) jdk_52_method_16_code 6 (some (.array (.byte))) ws ({ frames := 1, cells := 1, slots := 2, locals := 18 } : Room) #[(.ref kx1), (.int (0 : Int32)), (.int (2 : Int32))] h0 (({ frames := 1, cells := 1, slots := 2, locals := 18 } : Room).cells) (({ frames := 1, cells := 1, slots := 2, locals := 18 } : Room).slots) (Q_rmC1B Z kx1 kc y0 y1 h0 n0) := by
  refine Con.of (plainFor_of_name pn0) ?_
  intro p e s m below meth c s₁ hx hby hml hown hnm hret hlk hZ X0 e0
  have N0 := Fr.nil n0
  refine goE (L := #[.val (.ref kx1), .val (.int (0 : Int32)), .val (.int (2 : Int32)), .unset, .unset, .unset]) (ef6 m kx1 (0 : Int32) (2 : Int32)) ?_
  refine gIloadN X0 hx (hb hby d14_0) (q := 1) rfl rfl ?_
  refine gNewP X0 hx hZ (hw _ (List.mem_of_getElem? (i := 19) rfl)) e0 (hb hby d14_1) (q := 3) rfl (by decide) (cap := 2) (by decide) (by decide) (by decide) (by decide) (fun T1 h1 a1 k1 X1 e1 g1 E1 A1 => ?_)
  have A2 := Ary.ext E1 pA1
  have ge_a1 : h0.size ≤ a1 := by rw [g1]; exact (Keep.refl h0 []).1
  have K3 := (Keep.refl h0 []).ext E1
  have le_a1 : n0 ≤ a1 := by rw [g1]; exact Z0
  have ne_kx1_a1 : kx1 ≠ a1 := by rw [g1]; exact Nat.ne_of_lt pA1.lt
  have Z4 := Nat.le_trans Z0 E1.1
  have B1 : Ary Z h1 a1 k1 (.byte) [(.int (0 : Int32)), (.int (0 : Int32))] := A1
  refine gAstoreN X1 hx (hb hby d14_3) (q := 4) rfl rfl (L' := #[.val (.ref kx1), .val (.int (0 : Int32)), .val (.int (2 : Int32)), .val (.ref a1), .unset, .unset]) rfl ?_
  refine gAloadN X1 hx (hb hby d14_4) (q := 5) rfl rfl rfl ?_
  refine gIloadN X1 hx (hb hby d14_5) (q := 6) rfl rfl ?_
  refine gAloadN X1 hx (hb hby d14_6) (q := 7) rfl rfl rfl ?_
  refine gIconst X1 hx (0 : Int32) (hb hby d14_7) (q := 8) rfl (by decide) ?_
  refine gIloadN X1 hx (hb hby d14_8) (q := 9) rfl rfl ?_
  refine gCallS X1 hx hZ hown (hw _ (List.mem_of_getElem? (i := 98) rfl)) (hw _ (List.mem_of_getElem? (i := 99) rfl)) (hw _ (List.mem_of_getElem? (i := 96) rfl)) (hw _ (List.mem_of_getElem? (i := 100) rfl)) (by decide) (rmC2B l Z a0 hw [] kx1 a1 kc k1 y0 y1 h1 n0 Z4 A2 B1 ne_kx1_a1 le_a1 hy0 hy1) (W := 0) (by decide) (by decide) e1 (by rw [hml]; rfl) [(.ref kx1), (.int (0 : Int32)), (.ref a1), (.int (0 : Int32)), (.int (2 : Int32))] (lenOf pd0 rfl) rfl (S := []) rfl (Nat.le_of_eq rfl) (hb hby d14_9) (q := 12) rfl (by decide) (by decide) (fun r5 T5 M5 X5 q5 => ?_)
  obtain ⟨rfl, M5n, K5, P5a⟩ := q5
  have N6 := Fr.app N0 M5n
  have A7 := Ary.keep A2 K5 (ninS ne_kx1_a1 nin0)
  have Z8 := Nat.le_trans Z4 K5.1
  have KK9 := K3.trans K5 (allS (Or.inr ge_a1) all0)
  dsimp only [Option.toList, List.cons_append, List.nil_append]
  refine gIstore X5 hx (hb hby d14_12) (q := 14) rfl (L' := #[.val (.ref kx1), .val (.int (0 : Int32)), .val (.int (2 : Int32)), .val (.ref a1), .val (.int (2 : Int32)), .unset]) rfl ?_
  refine gIload X5 hx (hb hby d14_14) (q := 16) rfl rfl ?_
  refine gIloadN X5 hx (hb hby d14_16) (q := 17) rfl rfl ?_
  refine gIcmpY X5 hx (hb hby d14_17) (q := 57) (by decide) (by decide) (XT.ii_eq_t (by decide)) ?_
  refine gAloadN X5 hx (hb hby d14_57) (q := 58) rfl rfl rfl ?_
  exact gRetA X5 hx hlk hret rfl rfl (hb hby d14_58) (by decide) (by decide) (by exact ⟨_, _, rfl, N6, KK9, P5a, ge_a1⟩)
theorem ef7 (m : MethodId) (x0 : Addr) (x1 : Int32) : entryFrame m #[(.ref x0), (.int x1)] 2 = mkF m 0 #[.val (.ref x0), .val (.int x1)] [] := by first | (simp [entryFrame, mkF, argsToLocals, Value.category]; done) | rfl
def Q_rmCdB (Z : State) (kx1 : Addr) (kd : ClassId) (y0 : Int32) (y1 : Int32) (h0 : Heap) (n0 : Nat) (v : Option Value) (h : Heap) (L : List Loc) : Prop := v = some (.int (0 : Int32)) ∧ Fr n0 L ∧ h = h0
set_option maxRecDepth 65536 in
set_option maxHeartbeats 40000000 in
theorem rmCdB (l : Launch) (Z : State) (a0 : Array Value) (hw : ∀ d ∈ tables_1, d.before a0 Z = true) (ws : List Jvm.Cond) (kx1 : Addr) (kd : ClassId) (y0 : Int32) (y1 : Int32) (h0 : Heap) (n0 : Nat) (Z0 : n0 ≤ h0.size) (pA1 : Ary Z h0 kx1 kd .byte [(.int (y0.toInt8.toInt32)), (.int (y1.toInt8.toInt32))]) :
    Con l Z (⟨"java/lang/StringUTF16", "coderFromArrayLen", "([BI)B"⟩ : MethodName) jdk_52_method_15_code 2 (some (.byte)) ws ({ frames := 0, cells := 0, slots := 0, locals := 0 } : Room) #[(.ref kx1), (.int (2 : Int32))] h0 (({ frames := 0, cells := 0, slots := 0, locals := 0 } : Room).cells) (({ frames := 0, cells := 0, slots := 0, locals := 0 } : Room).slots) (Q_rmCdB Z kx1 kd y0 y1 h0 n0) := by
  refine Con.of (plainFor_of_name pn0) ?_
  intro p e s m below meth c s₁ hx hby hml hown hnm hret hlk hZ X0 e0
  have N0 := Fr.nil n0
  refine goE (L := #[.val (.ref kx1), .val (.int (2 : Int32))]) (ef7 m kx1 (2 : Int32)) ?_
  refine gIloadN X0 hx (hb hby d16_0) (q := 1) rfl rfl ?_
  refine gAloadN X0 hx (hb hby d16_1) (q := 2) rfl rfl rfl ?_
  refine gLen X0 hx hZ e0 pA1 (n := (2 : Int32)) rfl (hb hby d16_2) (q := 3) rfl ?_
  refine gIsub X0 hx (hb hby d16_3) (q := 4) rfl ?_
  rw [show ((2 : Int32) - (2 : Int32)) = (0 : Int32) from by decide]
  refine gBipush X0 hx (31 : Int32) (hb hby d16_4) (q := 6) rfl (by decide) ?_
  refine gIushr X0 hx (hb hby d16_6) (q := 7) rfl ?_
  rw [show (XT.ushr (0 : Int32) (31 : Int32)) = (0 : Int32) from by decide]
  refine gI2b X0 hx (hb hby d16_7) (q := 8) rfl ?_
  rw [show ((0 : Int32).toInt8.toInt32) = (0 : Int32) from by decide]
  exact gRetB X0 hx hlk hret (hb hby d16_8) (by decide) (by decide) rfl ⟨rfl, N0, e0⟩
theorem ef8 (m : MethodId) (x0 : Addr) (x1 : Addr) (x2 : Int32) (x3 : Int32) : entryFrame m #[(.ref x0), (.ref x1), (.int x2), (.int x3), (.null)] 6 = mkF m 0 #[.val (.ref x0), .val (.ref x1), .val (.int x2), .val (.int x3), .val (.null), .unset] [] := by first | (simp [entryFrame, mkF, argsToLocals, Value.category]; done) | rfl
def Q_rmI4B (Z : State) (a : Addr) (kx1 : Addr) (kc : ClassId) (ic : Int32) (y0 : Int32) (y1 : Int32) (h0 : Heap) (n0 : Nat) (v : Option Value) (h : Heap) (L : List Loc) : Prop := v = none ∧ Fr n0 L ∧ Keep h0 h [a] ∧ Exa Z h a "java/lang/String" ∧ Fld Z h a "java/lang/String" "coder" "B" (.int (0 : Int32)) ∧ ∃ rb kb, Fld Z h a "java/lang/String" "value" "[B" (.ref rb) ∧ Ary Z h rb kb .byte [(.int (y0.toInt8.toInt32)), (.int (y1.toInt8.toInt32))] ∧ h0.size ≤ rb
set_option maxRecDepth 65536 in
set_option maxHeartbeats 40000000 in
theorem rmI4B (l : Launch) (Z : State) (a0 : Array Value) (hw : ∀ d ∈ tables_1, d.before a0 Z = true) (ws : List Jvm.Cond) (a : Addr) (kx1 : Addr) (kc : ClassId) (ic : Int32) (y0 : Int32) (y1 : Int32) (h0 : Heap) (n0 : Nat) (Z0 : n0 ≤ h0.size) (pF1 : Fld Z h0 a "java/lang/String" "value" "[B" .null) (pF2 : Fld Z h0 a "java/lang/String" "coder" "B" (.int (0 : Int32))) (EXa : Exa Z h0 a "java/lang/String") (la : n0 ≤ a) (pA1 : Ary Z h0 kx1 kc .char [(.int y0), (.int y1)]) (n1a : kx1 ≠ a) (SCs : Sta Z Z.heap "java/lang/String" "COMPACT_STRINGS" "Z" (.int ic)) (hic : ¬ ic = (0 : Int32)) (O0 : Old Z n0 h0) (hy0 : ¬ (255 : Int32) < y0) (hy1 : ¬ (255 : Int32) < y1) :
    Con l Z (⟨"java/lang/String", "<init>", "([CIILjava/lang/Void;)V"⟩ : MethodName) jdk_42_method_149_code 6 none ws ({ frames := 2, cells := 1, slots := 2, locals := 36 } : Room) #[(.ref a), (.ref kx1), (.int (0 : Int32)), (.int (2 : Int32)), (.null)] h0 (({ frames := 2, cells := 1, slots := 2, locals := 36 } : Room).cells) (({ frames := 2, cells := 1, slots := 2, locals := 36 } : Room).slots) (Q_rmI4B Z a kx1 kc ic y0 y1 h0 n0) := by
  refine Con.of (plainFor_of_name pn1) ?_
  intro p e s m below meth c s₁ hx hby hml hown hnm hret hlk hZ X0 e0
  have N0 := Fr.nil n0
  refine goE (L := #[.val (.ref a), .val (.ref kx1), .val (.int (0 : Int32)), .val (.int (2 : Int32)), .val (.null), .unset]) (ef8 m a kx1 (0 : Int32) (2 : Int32)) ?_
  refine gAloadN X0 hx (hb hby d3_0) (q := 1) rfl rfl rfl ?_
  refine gInitO X0 hx hZ hown (hw _ (List.mem_of_getElem? (i := 15) rfl)) (hw _ (List.mem_of_getElem? (i := 16) rfl)) (hw _ (List.mem_of_getElem? (i := 17) rfl)) e0 (by rw [hml]; rfl) (hb hby d3_1) (q := 4) rfl (by decide) (W := 0) (Nat.le_of_eq rfl) (by decide) (fun T1 X1 e1 => ?_)
  refine gIloadN X1 hx (hb hby d3_4) (q := 5) rfl rfl ?_
  refine gIfY X1 hx (hb hby d3_5) (q := 27) (by decide) (by decide) (XT.i0_ne_t (by decide)) ?_
  refine gGetS X1 hx hZ hown (hw _ (List.mem_of_getElem? (i := 93) rfl)) Via.refl e1 (Sta.ext O0.2 SCs) (hb hby d3_27) (q := 30) rfl (fun T2 X2 e2 => ?_)
  refine gIfN X2 hx (hb hby d3_30) (q := 33) rfl (XT.i0_eq_f hic) ?_
  refine gAloadN X2 hx (hb hby d3_33) (q := 34) rfl rfl rfl ?_
  refine gIloadN X2 hx (hb hby d3_34) (q := 35) rfl rfl ?_
  refine gIloadN X2 hx (hb hby d3_35) (q := 36) rfl rfl ?_
  refine gCallS X2 hx hZ hown (hw _ (List.mem_of_getElem? (i := 94) rfl)) (hw _ (List.mem_of_getElem? (i := 95) rfl)) (hw _ (List.mem_of_getElem? (i := 96) rfl)) (hw _ (List.mem_of_getElem? (i := 97) rfl)) (by decide) (rmC1B l Z a0 hw [] kx1 kc y0 y1 h0 n0 Z0 pA1 hy0 hy1) (W := 0) (by decide) (by decide) e2 (by rw [hml]; rfl) [(.ref kx1), (.int (0 : Int32)), (.int (2 : Int32))] (lenOf pd1 rfl) rfl (S := []) rfl (Nat.le_of_eq rfl) (hb hby d3_36) (q := 39) rfl (by decide) (by decide) (fun r3 T3 M3 X3 q3 => ?_)
  obtain ⟨rb, kb, rfl, M3n, K3, Arb, grb⟩ := q3
  have N4 := Fr.app N0 M3n
  have lrb : n0 ≤ rb := Nat.le_trans Z0 grb
  have ne_a_rb : a ≠ rb := Nat.ne_of_lt (Nat.lt_of_lt_of_le EXa.lt grb)
  have ne_kx1_rb : kx1 ≠ rb := Nat.ne_of_lt (Nat.lt_of_lt_of_le pA1.lt grb)
  have g0rb : h0.size ≤ rb := Nat.le_trans (Keep.refl h0 [a]).1 grb
  have F5 := Fld.keep pF1 K3 nin0
  have F6 := Fld.keep pF2 K3 nin0
  have E7 := Exa.keep EXa K3
  have A8 := Ary.keep pA1 K3 nin0
  have O9 := O0.keep K3 all0
  have Z10 := Nat.le_trans Z0 K3.1
  have KK11 := (Keep.refl h0 [a]).trans K3 all0
  dsimp only [Option.toList, List.cons_append, List.nil_append]
  refine gAstore X3 hx (hb hby d3_39) (q := 41) rfl rfl (L' := #[.val (.ref a), .val (.ref kx1), .val (.int (0 : Int32)), .val (.int (2 : Int32)), .val (.null), .val (.ref rb)]) rfl ?_
  refine gAloadN X3 hx (hb hby d3_41) (q := 42) rfl rfl rfl ?_
  refine gAload X3 hx (hb hby d3_42) (q := 44) rfl rfl rfl ?_
  refine gIloadN X3 hx (hb hby d3_44) (q := 45) rfl rfl ?_
  refine gCallS X3 hx hZ hown (hw _ (List.mem_of_getElem? (i := 101) rfl)) (hw _ (List.mem_of_getElem? (i := 102) rfl)) (hw _ (List.mem_of_getElem? (i := 96) rfl)) (hw _ (List.mem_of_getElem? (i := 103) rfl)) (by decide) (rmCdB l Z a0 hw [] rb kb y0 y1 T3.heap n0 Z10 Arb) (W := 1) (by decide) (by decide) rfl (by rw [hml]; rfl) [(.ref rb), (.int (2 : Int32))] (lenOf pd2 rfl) rfl (S := [(.ref a)]) rfl (Nat.le_of_eq rfl) (hb hby d3_45) (q := 48) rfl (by decide) (by decide) (fun r12 T12 M12 X12 q12 => ?_)
  obtain ⟨rfl, M12n, e12⟩ := q12
  have N13 := Fr.app N4 M12n
  dsimp only [Option.toList, List.cons_append, List.nil_append]
  refine gPutF X12 hx hZ (host := "") hown (Or.inl (hw _ (List.mem_of_getElem? (i := 25) rfl))) Via.refl e12 F6 E7 (Or.inr ⟨(hw _ (List.mem_of_getElem? (i := 21) rfl)), rfl, hnm⟩) (hw _ (List.mem_of_getElem? (i := 5) rfl)) (ty := .byte) (by decide) rfl rfl (hb hby d3_48) (q := 51) rfl (fun T14 h14 X14 e14 W14 => ?_)
  have N15 := Fr.snoc X14 N13 la
  have K16 := KK11.wr W14 (Or.inl (List.mem_of_getElem? (i := 0) rfl))
  have F17 := Fld.other W14 F5 (Or.inr (slot_ne (Or.inr (hw _ (List.mem_of_getElem? (i := 20) rfl))) (Or.inr (hw _ (List.mem_of_getElem? (i := 21) rfl))) (by decide) (t := .array (.byte)) (by decide) (t' := .byte) (by decide)))
  have F18 := Fld.same W14 F6
  have E19 := Exa.wr W14 E7
  have A20 := Ary.other W14 A8 n1a
  have A21 := Ary.other W14 Arb ne_a_rb.symm
  have O22 := O9.wr W14 la
  have Z23 : n0 ≤ h14.size := by rw [W14.size]; exact Z10
  refine gAloadN X14 hx (hb hby d3_51) (q := 52) rfl rfl rfl ?_
  refine gAload X14 hx (hb hby d3_52) (q := 54) rfl rfl rfl ?_
  refine gPutF X14 hx hZ (host := "") hown (Or.inl (hw _ (List.mem_of_getElem? (i := 24) rfl))) Via.refl e14 F17 E19 (Or.inr ⟨(hw _ (List.mem_of_getElem? (i := 20) rfl)), rfl, hnm⟩) (hw _ (List.mem_of_getElem? (i := 5) rfl)) (ty := .array (.byte)) (by decide) rfl rfl (hb hby d3_54) (q := 57) rfl (fun T24 h24 X24 e24 W24 => ?_)
  have N25 := Fr.snoc X24 N15 la
  have K26 := K16.wr W24 (Or.inl (List.mem_of_getElem? (i := 0) rfl))
  have F27 := Fld.same W24 F17
  have F28 := Fld.other W24 F18 (Or.inr (slot_ne (Or.inr (hw _ (List.mem_of_getElem? (i := 21) rfl))) (Or.inr (hw _ (List.mem_of_getElem? (i := 20) rfl))) (by decide) (t := .byte) (by decide) (t' := .array (.byte)) (by decide)))
  have E29 := Exa.wr W24 E19
  have A30 := Ary.other W24 A20 n1a
  have A31 := Ary.other W24 A21 ne_a_rb.symm
  have O32 := O22.wr W24 la
  have Z33 : n0 ≤ h24.size := by rw [W24.size]; exact Z23
  exact gRetV X24 hx hlk hret (hb hby d3_57) (by decide) (by decide) (by rw [e24]; exact ⟨rfl, N25, K26, E29, F28, _, _, F27, A31, g0rb⟩)
theorem ef9 (m : MethodId) (x0 : Addr) (x1 : Addr) : entryFrame m #[(.ref x0), (.ref x1)] 2 = mkF m 0 #[.val (.ref x0), .val (.ref x1)] [] := by first | (simp [entryFrame, mkF, argsToLocals, Value.category]; done) | rfl
def Q_rmI1B (Z : State) (a : Addr) (kx1 : Addr) (kc : ClassId) (ic : Int32) (y0 : Int32) (y1 : Int32) (h0 : Heap) (n0 : Nat) (v : Option Value) (h : Heap) (L : List Loc) : Prop := v = none ∧ Fr n0 L ∧ Keep h0 h [a] ∧ Exa Z h a "java/lang/String" ∧ Fld Z h a "java/lang/String" "coder" "B" (.int (0 : Int32)) ∧ ∃ rb kb, Fld Z h a "java/lang/String" "value" "[B" (.ref rb) ∧ Ary Z h rb kb .byte [(.int (y0.toInt8.toInt32)), (.int (y1.toInt8.toInt32))] ∧ h0.size ≤ rb
set_option maxRecDepth 65536 in
set_option maxHeartbeats 40000000 in
theorem rmI1B (l : Launch) (Z : State) (a0 : Array Value) (hw : ∀ d ∈ tables_1, d.before a0 Z = true) (ws : List Jvm.Cond) (a : Addr) (kx1 : Addr) (kc : ClassId) (ic : Int32) (y0 : Int32) (y1 : Int32) (h0 : Heap) (n0 : Nat) (Z0 : n0 ≤ h0.size) (pF1 : Fld Z h0 a "java/lang/String" "value" "[B" .null) (pF2 : Fld Z h0 a "java/lang/String" "coder" "B" (.int (0 : Int32))) (EXa : Exa Z h0 a "java/lang/String") (la : n0 ≤ a) (pA1 : Ary Z h0 kx1 kc .char [(.int y0), (.int y1)]) (n1a : kx1 ≠ a) (SCs : Sta Z Z.heap "java/lang/String" "COMPACT_STRINGS" "Z" (.int ic)) (hic : ¬ ic = (0 : Int32)) (O0 : Old Z n0 h0) (hy0 : ¬ (255 : Int32) < y0) (hy1 : ¬ (255 : Int32) < y1) :
    Con l Z (⟨"java/lang/String", "<init>", "([C)V"⟩ : MethodName) jdk_42_method_3_code 2 none ws ({ frames := 3, cells := 1, slots := 2, locals := 53 } : Room) #[(.ref a), (.ref kx1)] h0 (({ frames := 3, cells := 1, slots := 2, locals := 53 } : Room).cells) (({ frames := 3, cells := 1, slots := 2, locals := 53 } : Room).slots) (Q_rmI1B Z a kx1 kc ic y0 y1 h0 n0) := by
  refine Con.of (plainFor_of_name pn1) ?_
  intro p e s m below meth c s₁ hx hby hml hown hnm hret hlk hZ X0 e0
  have N0 := Fr.nil n0
  refine goE (L := #[.val (.ref a), .val (.ref kx1)]) (ef9 m a kx1) ?_
  refine gAloadN X0 hx (hb hby d2_0) (q := 1) rfl rfl rfl ?_
  refine gAloadN X0 hx (hb hby d2_1) (q := 2) rfl rfl rfl ?_
  refine gIconst X0 hx (0 : Int32) (hb hby d2_2) (q := 3) rfl (by decide) ?_
  refine gAloadN X0 hx (hb hby d2_3) (q := 4) rfl rfl rfl ?_
  refine gLen X0 hx hZ e0 pA1 (n := (2 : Int32)) rfl (hb hby d2_4) (q := 5) rfl ?_
  refine gNull X0 hx (hb hby d2_5) (q := 6) rfl ?_
  refine gCallN X0 hx hZ rfl hown (hw _ (List.mem_of_getElem? (i := 11) rfl)) (hw _ (List.mem_of_getElem? (i := 12) rfl)) (hw _ (List.mem_of_getElem? (i := 6) rfl)) (hw _ (List.mem_of_getElem? (i := 14) rfl)) (by decide) (rmI4B l Z a0 hw [] a kx1 kc ic y0 y1 h0 n0 Z0 pF1 pF2 EXa la pA1 n1a SCs hic O0 hy0 hy1) (W := 0) (by decide) (by decide) e0 (by rw [hml]; rfl) [(.ref kx1), (.int (0 : Int32)), (.int (2 : Int32)), (.null)] (lenOf pd3 rfl) rfl (S := []) rfl (Nat.le_of_eq rfl) (hb hby d2_6) (q := 9) rfl (by decide) (by decide) (fun r1 T1 M1 X1 q1 => ?_)
  obtain ⟨rfl, M1n, K1, P1e, P1c, rb, kb, P1v, P1a, grb⟩ := q1
  have N2 := Fr.app N0 M1n
  dsimp only [Option.toList, List.cons_append, List.nil_append]
  exact gRetV X1 hx hlk hret (hb hby d2_9) (by decide) (by decide) ⟨rfl, N2, K1, P1e, P1c, _, _, P1v, P1a, grb⟩
theorem ef10 (m : MethodId) (x0 : Addr) (x1 : Addr) (x2 : Int32) (x3 : Int32) : entryFrame m #[(.ref x0), (.ref x1), (.int x2), (.int x3), (.null)] 6 = mkF m 0 #[.val (.ref x0), .val (.ref x1), .val (.int x2), .val (.int x3), .val (.null), .unset] [] := by first | (simp [entryFrame, mkF, argsToLocals, Value.category]; done) | rfl
def Q_rmI4E (Z : State) (a : Addr) (kx1 : Addr) (h0 : Heap) (n0 : Nat) (v : Option Value) (h : Heap) (L : List Loc) : Prop := v = none ∧ Fr n0 L ∧ Keep h0 h [a] ∧ Exa Z h a "java/lang/String"
set_option maxRecDepth 65536 in
set_option maxHeartbeats 40000000 in
theorem rmI4E (l : Launch) (Z : State) (a0 : Array Value) (hw : ∀ d ∈ tables_1, d.before a0 Z = true) (ws : List Jvm.Cond) (hEL : EW Z a0 consts_1) (a : Addr) (kx1 : Addr) (h0 : Heap) (n0 : Nat) (Z0 : n0 ≤ h0.size) (pF1 : Fld Z h0 a "java/lang/String" "value" "[B" .null) (pF2 : Fld Z h0 a "java/lang/String" "coder" "B" (.int (0 : Int32))) (EXa : Exa Z h0 a "java/lang/String") (la : n0 ≤ a) :
    ConS l Z consts_1 (⟨"java/lang/String", "<init>", "([CIILjava/lang/Void;)V"⟩ : MethodName) jdk_42_method_149_code 6 none ws ({ frames := 2, cells := 4, slots := 8, locals := 36 } : Room) #[(.ref a), (.ref kx1), (.int (0 : Int32)), (.int (0 : Int32)), (.null)] h0 (({ frames := 2, cells := 4, slots := 8, locals := 36 } : Room).cells) (({ frames := 2, cells := 4, slots := 8, locals := 36 } : Room).slots) (Q_rmI4E Z a kx1 h0 n0) := by
  refine ConS.of (plainFor_of_name pn1) ?_
  intro p e s m below meth c s₁ vm0 k0 hx hby hml hown hnm hret hlk hZ hS hkk hC X0 e0
  have N0 := Fr.nil n0
  refine goE (L := #[.val (.ref a), .val (.ref kx1), .val (.int (0 : Int32)), .val (.int (0 : Int32)), .val (.null), .unset]) (ef10 m a kx1 (0 : Int32) (0 : Int32)) ?_
  have sfa : Safe Z consts_1 vm0 h0 a := own_safeS hZ.alike EXa pF1
  refine gAloadN X0 hx (hb hby d3_0) (q := 1) rfl rfl rfl ?_
  refine gInitO X0 hx hZ hown (hw _ (List.mem_of_getElem? (i := 15) rfl)) (hw _ (List.mem_of_getElem? (i := 16) rfl)) (hw _ (List.mem_of_getElem? (i := 17) rfl)) e0 (by rw [hml]; rfl) (hb hby d3_1) (q := 4) rfl (by decide) (W := 0) (Nat.le_of_eq rfl) (by decide) (fun T1 X1 e1 => ?_)
  refine gIloadN X1 hx (hb hby d3_4) (q := 5) rfl rfl ?_
  refine gIfN X1 hx (hb hby d3_5) (q := 8) rfl (XT.i0_ne_f (by decide)) ?_
  refine gAloadN X1 hx (hb hby d3_8) (q := 9) rfl rfl rfl ?_
  refine gLdcE X1 hx hZ hS hEL hown (hw _ (List.mem_of_getElem? (i := 18) rfl)) (own_wS hw) (own_EL_3_7) e1 hkk hC (vs := []) (z := 0) ⟨by simp, by simp⟩ (by decide) (by decide) (hb hby d3_9) (q := 11) rfl (n := 0) (by simp) (by decide) (by decide) (by decide) (fun T2 h2 k2n a2 b2 k2 X2 e2 E2 hS hkk2 hZ hown Ex2 Fc2 Fv2 Av2 C2c SF2c => ?_)
  obtain ⟨Y2_a, ne_a_a2, ne_a_b2⟩ := SF2c a EXa.lt sfa
  have F3 := Fld.ext E2 pF1
  have F4 := Fld.ext E2 pF2
  have E5 := Exa.ext E2 EXa
  have K6 := (Keep.refl h0 [a]).ext E2
  have Z7 := Nat.le_trans Z0 E2.1
  have AE2 := own_ary0 Av2
  refine gGetF X2 hx hZ (host := "") hown (Or.inl (hw _ (List.mem_of_getElem? (i := 24) rfl))) Via.refl e2 Fv2 (hb hby d3_11) (q := 14) rfl (fun T8 X8 e8 => ?_)
  refine gPutF X8 hx hZ (host := "") hown (Or.inl (hw _ (List.mem_of_getElem? (i := 24) rfl))) Via.refl e8 F3 E5 (Or.inr ⟨(hw _ (List.mem_of_getElem? (i := 20) rfl)), rfl, hnm⟩) (hw _ (List.mem_of_getElem? (i := 5) rfl)) (ty := .array (.byte)) (by decide) rfl rfl (hb hby d3_14) (q := 17) rfl (fun T9 h9 X9 e9 W9 => ?_)
  have N10 := Fr.snoc X9 N0 la
  have K11 := K6.wr W9 (Or.inl (List.mem_of_getElem? (i := 0) rfl))
  have SF12 : Safe Z consts_1 T2.vm h2 a := Y2_a
  have Y13 := Safe.wr W9 SF12 C2c.1 Y2_a
  have C14h := C2c.trans (CHr.wr W9 SF12 C2c.1)
  have kk15 := (by rw [W9.size]; exact hkk2 : _ ≤ Array.size h9)
  have F16 := Fld.same W9 F3
  have F17 := Fld.other W9 F4 (Or.inr (slot_ne (Or.inr (hw _ (List.mem_of_getElem? (i := 21) rfl))) (Or.inr (hw _ (List.mem_of_getElem? (i := 20) rfl))) (by decide) (t := .byte) (by decide) (t' := .array (.byte)) (by decide)))
  have E18 := Exa.wr W9 E5
  have E19 := Exa.wr W9 Ex2
  have F20 := Fld.other W9 Fc2 (Or.inl ne_a_a2.symm)
  have F21 := Fld.other W9 Fv2 (Or.inl ne_a_a2.symm)
  have A22 := Ary.other W9 AE2 ne_a_b2.symm
  have Z23 : n0 ≤ h9.size := by rw [W9.size]; exact Z7
  refine gAloadN X9 hx (hb hby d3_17) (q := 18) rfl rfl rfl ?_
  refine gLdcE X9 hx hZ hS hEL hown (hw _ (List.mem_of_getElem? (i := 18) rfl)) (own_wS hw) (own_EL_3_7) e9 kk15 C14h (vs := []) (z := 0) ⟨by simp, by simp⟩ (by decide) (by decide) (hb hby d3_18) (q := 20) rfl (n := 0) (by simp) (by decide) (by decide) (by decide) (fun T24 h24 k24n a24 b24 k24 X24 e24 E24 hS hkk24 hZ hown Ex24 Fc24 Fv24 Av24 C24c SF24c => ?_)
  obtain ⟨Y24_a, ne_a_a24, ne_a_b24⟩ := SF24c a E18.lt Y13
  have F25 := Fld.ext E24 F16
  have F26 := Fld.ext E24 F17
  have E27 := Exa.ext E24 E18
  have E28 := Exa.ext E24 E19
  have F29 := Fld.ext E24 F20
  have F30 := Fld.ext E24 F21
  have A31 := Ary.ext E24 A22
  have K32 := K11.ext E24
  have Z33 := Nat.le_trans Z23 E24.1
  have AE24 := own_ary0 Av24
  refine gGetF X24 hx hZ (host := "") hown (Or.inl (hw _ (List.mem_of_getElem? (i := 25) rfl))) Via.refl e24 Fc24 (hb hby d3_20) (q := 23) rfl (fun T34 X34 e34 => ?_)
  refine gPutF X34 hx hZ (host := "") hown (Or.inl (hw _ (List.mem_of_getElem? (i := 25) rfl))) Via.refl e34 F26 E27 (Or.inr ⟨(hw _ (List.mem_of_getElem? (i := 21) rfl)), rfl, hnm⟩) (hw _ (List.mem_of_getElem? (i := 5) rfl)) (ty := .byte) (by decide) rfl rfl (hb hby d3_23) (q := 26) rfl (fun T35 h35 X35 e35 W35 => ?_)
  have N36 := Fr.snoc X35 N10 la
  have K37 := K32.wr W35 (Or.inl (List.mem_of_getElem? (i := 0) rfl))
  have SF38 : Safe Z consts_1 T24.vm h24 a := Y24_a
  have Y39 := Safe.wr W35 SF38 C24c.1 Y24_a
  have C40h := C24c.trans (CHr.wr W35 SF38 C24c.1)
  have kk41 := (by rw [W35.size]; exact hkk24 : _ ≤ Array.size h35)
  have F42 := Fld.other W35 F25 (Or.inr (slot_ne (Or.inr (hw _ (List.mem_of_getElem? (i := 20) rfl))) (Or.inr (hw _ (List.mem_of_getElem? (i := 21) rfl))) (by decide) (t := .array (.byte)) (by decide) (t' := .byte) (by decide)))
  have F43 := Fld.same W35 F26
  have E44 := Exa.wr W35 E27
  have E45 := Exa.wr W35 E28
  have F46 := Fld.other W35 F29 (Or.inl ne_a_a2.symm)
  have F47 := Fld.other W35 F30 (Or.inl ne_a_a2.symm)
  have A48 := Ary.other W35 A31 ne_a_b2.symm
  have E49 := Exa.wr W35 Ex24
  have F50 := Fld.other W35 Fc24 (Or.inl ne_a_a24.symm)
  have F51 := Fld.other W35 Fv24 (Or.inl ne_a_a24.symm)
  have A52 := Ary.other W35 AE24 ne_a_b24.symm
  have Z53 : n0 ≤ h35.size := by rw [W35.size]; exact Z33
  exact gRetSV X35 hx hZ hS hEL hlk hret (hb hby d3_26) (by decide) (by decide) e35 kk41 C40h (by rw [e35]; exact ⟨rfl, N36, K37, E44⟩)
theorem ef11 (m : MethodId) (x0 : Addr) (x1 : Addr) : entryFrame m #[(.ref x0), (.ref x1)] 2 = mkF m 0 #[.val (.ref x0), .val (.ref x1)] [] := by first | (simp [entryFrame, mkF, argsToLocals, Value.category]; done) | rfl
def Q_rmI1E (Z : State) (a : Addr) (kx1 : Addr) (kc : ClassId) (h0 : Heap) (n0 : Nat) (v : Option Value) (h : Heap) (L : List Loc) : Prop := v = none ∧ Fr n0 L ∧ Keep h0 h [a] ∧ Exa Z h a "java/lang/String"
set_option maxRecDepth 65536 in
set_option maxHeartbeats 40000000 in
theorem rmI1E (l : Launch) (Z : State) (a0 : Array Value) (hw : ∀ d ∈ tables_1, d.before a0 Z = true) (ws : List Jvm.Cond) (hEL : EW Z a0 consts_1) (a : Addr) (kx1 : Addr) (kc : ClassId) (h0 : Heap) (n0 : Nat) (Z0 : n0 ≤ h0.size) (pF1 : Fld Z h0 a "java/lang/String" "value" "[B" .null) (pF2 : Fld Z h0 a "java/lang/String" "coder" "B" (.int (0 : Int32))) (EXa : Exa Z h0 a "java/lang/String") (la : n0 ≤ a) (pA1 : Ary Z h0 kx1 kc .char []) :
    ConS l Z consts_1 (⟨"java/lang/String", "<init>", "([C)V"⟩ : MethodName) jdk_42_method_3_code 2 none ws ({ frames := 3, cells := 4, slots := 8, locals := 60 } : Room) #[(.ref a), (.ref kx1)] h0 (({ frames := 3, cells := 4, slots := 8, locals := 60 } : Room).cells) (({ frames := 3, cells := 4, slots := 8, locals := 60 } : Room).slots) (Q_rmI1E Z a kx1 kc h0 n0) := by
  refine ConS.of (plainFor_of_name pn1) ?_
  intro p e s m below meth c s₁ vm0 k0 hx hby hml hown hnm hret hlk hZ hS hkk hC X0 e0
  have N0 := Fr.nil n0
  refine goE (L := #[.val (.ref a), .val (.ref kx1)]) (ef11 m a kx1) ?_
  have sfa : Safe Z consts_1 vm0 h0 a := own_safeS hZ.alike EXa pF1
  refine gAloadN X0 hx (hb hby d2_0) (q := 1) rfl rfl rfl ?_
  refine gAloadN X0 hx (hb hby d2_1) (q := 2) rfl rfl rfl ?_
  refine gIconst X0 hx (0 : Int32) (hb hby d2_2) (q := 3) rfl (by decide) ?_
  refine gAloadN X0 hx (hb hby d2_3) (q := 4) rfl rfl rfl ?_
  refine gLen X0 hx hZ e0 pA1 (n := (0 : Int32)) rfl (hb hby d2_4) (q := 5) rfl ?_
  refine gNull X0 hx (hb hby d2_5) (q := 6) rfl ?_
  refine gCallNS X0 hx hZ hS hEL rfl hown (hw _ (List.mem_of_getElem? (i := 11) rfl)) (hw _ (List.mem_of_getElem? (i := 12) rfl)) (hw _ (List.mem_of_getElem? (i := 6) rfl)) (hw _ (List.mem_of_getElem? (i := 14) rfl)) (by decide) (rmI4E l Z a0 hw [] hEL a kx1 h0 n0 Z0 pF1 pF2 EXa la) (W := 0) (by decide) (by decide) e0 hkk hC (by rw [hml]; rfl) [(.ref kx1), (.int (0 : Int32)), (.int (0 : Int32)), (.null)] (lenOf pd3 rfl) rfl (S := []) rfl (Nat.le_of_eq rfl) (hb hby d2_6) (q := 9) rfl (by decide) (by decide) (fun r1 T1 M1 X1 q1 hS hZ hown C1c SF1c => ?_)
  have Y1_a := SF1c a EXa.lt sfa
  obtain ⟨rfl, M1n, K1, P1e⟩ := q1
  have N2 := Fr.app N0 M1n
  dsimp only [Option.toList, List.cons_append, List.nil_append]
  exact gRetSV X1 hx hZ hS hEL hlk hret (hb hby d2_9) (by decide) (by decide) rfl (Nat.le_refl _) C1c (by exact ⟨rfl, N2, K1, P1e⟩)
theorem d1_0 : decode method_2_code 0 = .ok (.iload_n 0, 1) := by decide +kernel
theorem d1_1 : decode method_2_code 1 = .ok (.bipush 16, 2) := by decide +kernel
theorem d1_3 : decode method_2_code 3 = .ok (.iushr, 1) := by decide +kernel
theorem d1_4 : decode method_2_code 4 = .ok (.iconst 3, 1) := by decide +kernel
theorem d1_5 : decode method_2_code 5 = .ok (.iand, 1) := by decide +kernel
theorem d1_6 : decode method_2_code 6 = .ok (.istore_n 1, 1) := by decide +kernel
theorem d1_7 : decode method_2_code 7 = .ok (.iload_n 0, 1) := by decide +kernel
theorem d1_8 : decode method_2_code 8 = .ok (.sipush 255, 3) := by decide +kernel
theorem d1_11 : decode method_2_code 11 = .ok (.iand, 1) := by decide +kernel
theorem d1_12 : decode method_2_code 12 = .ok (.i2c, 1) := by decide +kernel
theorem d1_13 : decode method_2_code 13 = .ok (.istore_n 2, 1) := by decide +kernel
theorem d1_14 : decode method_2_code 14 = .ok (.iload_n 0, 1) := by decide +kernel
theorem d1_15 : decode method_2_code 15 = .ok (.bipush 8, 2) := by decide +kernel
theorem d1_17 : decode method_2_code 17 = .ok (.iushr, 1) := by decide +kernel
theorem d1_18 : decode method_2_code 18 = .ok (.sipush 255, 3) := by decide +kernel
theorem d1_21 : decode method_2_code 21 = .ok (.iand, 1) := by decide +kernel
theorem d1_22 : decode method_2_code 22 = .ok (.i2c, 1) := by decide +kernel
theorem d1_23 : decode method_2_code 23 = .ok (.istore_n 3, 1) := by decide +kernel
theorem d1_24 : decode method_2_code 24 = .ok (.iload_n 1, 1) := by decide +kernel
theorem d1_25 : decode method_2_code 25 = .ok (.iconst 3, 1) := by decide +kernel
theorem d1_26 : decode method_2_code 26 = .ok (.if_icmp .ne 5, 3) := by decide +kernel
theorem d1_29 : decode method_2_code 29 = .ok (.aconst_null, 1) := by decide +kernel
theorem d1_30 : decode method_2_code 30 = .ok (.areturn, 1) := by decide +kernel
theorem d1_31 : decode method_2_code 31 = .ok (.iload_n 1, 1) := by decide +kernel
theorem d1_32 : decode method_2_code 32 = .ok (.ifCond .ne 14, 3) := by decide +kernel
theorem d1_35 : decode method_2_code 35 = .ok (.new 7, 3) := by decide +kernel
theorem d1_38 : decode method_2_code 38 = .ok (.dup, 1) := by decide +kernel
theorem d1_39 : decode method_2_code 39 = .ok (.iconst 0, 1) := by decide +kernel
theorem d1_40 : decode method_2_code 40 = .ok (.newarray .char, 2) := by decide +kernel
theorem d1_42 : decode method_2_code 42 = .ok (.invokespecial 9, 3) := by decide +kernel
theorem d1_45 : decode method_2_code 45 = .ok (.areturn, 1) := by decide +kernel
theorem d1_46 : decode method_2_code 46 = .ok (.iload_n 1, 1) := by decide +kernel
theorem d1_47 : decode method_2_code 47 = .ok (.iconst 1, 1) := by decide +kernel
theorem d1_48 : decode method_2_code 48 = .ok (.if_icmp .ne 18, 3) := by decide +kernel
theorem d1_51 : decode method_2_code 51 = .ok (.new 7, 3) := by decide +kernel
theorem d1_54 : decode method_2_code 54 = .ok (.dup, 1) := by decide +kernel
theorem d1_55 : decode method_2_code 55 = .ok (.iconst 1, 1) := by decide +kernel
theorem d1_56 : decode method_2_code 56 = .ok (.newarray .char, 2) := by decide +kernel
theorem d1_58 : decode method_2_code 58 = .ok (.dup, 1) := by decide +kernel
theorem d1_59 : decode method_2_code 59 = .ok (.iconst 0, 1) := by decide +kernel
theorem d1_60 : decode method_2_code 60 = .ok (.iload_n 2, 1) := by decide +kernel
theorem d1_61 : decode method_2_code 61 = .ok (.castore, 1) := by decide +kernel
theorem d1_62 : decode method_2_code 62 = .ok (.invokespecial 9, 3) := by decide +kernel
theorem d1_65 : decode method_2_code 65 = .ok (.areturn, 1) := by decide +kernel
theorem d1_66 : decode method_2_code 66 = .ok (.new 7, 3) := by decide +kernel
theorem d1_69 : decode method_2_code 69 = .ok (.dup, 1) := by decide +kernel
theorem d1_70 : decode method_2_code 70 = .ok (.iconst 2, 1) := by decide +kernel
theorem d1_71 : decode method_2_code 71 = .ok (.newarray .char, 2) := by decide +kernel
theorem d1_73 : decode method_2_code 73 = .ok (.dup, 1) := by decide +kernel
theorem d1_74 : decode method_2_code 74 = .ok (.iconst 0, 1) := by decide +kernel
theorem d1_75 : decode method_2_code 75 = .ok (.iload_n 2, 1) := by decide +kernel
theorem d1_76 : decode method_2_code 76 = .ok (.castore, 1) := by decide +kernel
theorem d1_77 : decode method_2_code 77 = .ok (.dup, 1) := by decide +kernel
theorem d1_78 : decode method_2_code 78 = .ok (.iconst 1, 1) := by decide +kernel
theorem d1_79 : decode method_2_code 79 = .ok (.iload_n 3, 1) := by decide +kernel
theorem d1_80 : decode method_2_code 80 = .ok (.castore, 1) := by decide +kernel
theorem d1_81 : decode method_2_code 81 = .ok (.invokespecial 9, 3) := by decide +kernel
theorem d1_84 : decode method_2_code 84 = .ok (.areturn, 1) := by decide +kernel
theorem pn2 : plainName "com/example/oridune/oridune/core/SymbolNamedPinLaw" = true := by first | (simp [plainName, overriddenIn]; done) | decide +kernel
theorem ef12 (m : MethodId) (x0 : Int32) : entryFrame m #[(.int x0)] 4 = mkF m 0 #[.val (.int x0), .unset, .unset, .unset] [] := by first | (simp [entryFrame, mkF, argsToLocals, Value.category]; done) | rfl
def Q_rmStr (Z : State) (ic : Int32) (x0 : Int32) (h0 : Heap) (n0 : Nat) (v : Option Value) (h : Heap) (L : List Loc) : Prop := ∃ w, v = some w ∧ w.isRef = true ∧ Fr n0 L ∧ Keep h0 h []
theorem pd4 : parseMethodDescriptor "([C)V" = some ⟨[.array (.char)], none⟩ := by decide +kernel
set_option maxRecDepth 65536 in
set_option maxHeartbeats 40000000 in
theorem rmStr (l : Launch) (Z : State) (a0 : Array Value) (hw : ∀ d ∈ tables_1, d.before a0 Z = true) (ws : List Jvm.Cond) (hEL : EW Z a0 consts_1) (ic : Int32) (x0 : Int32) (h0 : Heap) (n0 : Nat) (Z0 : n0 ≤ h0.size) (SCs : Sta Z Z.heap "java/lang/String" "COMPACT_STRINGS" "Z" (.int ic)) (hic : ¬ ic = (0 : Int32)) (O0 : Old Z n0 h0) :
    ConS l Z consts_1 (⟨"com/example/oridune/oridune/core/SymbolNamedPinLaw", "str", "(I)Ljava/lang/String;"⟩ : MethodName) method_2_code 4 (some (.object "java/lang/String")) ws ({ frames := 4, cells := 6, slots := 14, locals := 90 } : Room) #[(.int x0)] h0 (({ frames := 4, cells := 6, slots := 14, locals := 90 } : Room).cells) (({ frames := 4, cells := 6, slots := 14, locals := 90 } : Room).slots) (Q_rmStr Z ic x0 h0 n0) := by
  refine ConS.of (plainFor_of_name pn2) ?_
  intro p e s m below meth c s₁ vm0 k0 hx hby hml hown hnm hret hlk hZ hS hkk hC X0 e0
  have N0 := Fr.nil n0
  refine goE (L := #[.val (.int x0), .unset, .unset, .unset]) (ef12 m x0) ?_
  refine gIloadN X0 hx (hb hby d1_0) (q := 1) rfl rfl ?_
  refine gBipush X0 hx (16 : Int32) (hb hby d1_1) (q := 3) rfl (by decide) ?_
  refine gIushr X0 hx (hb hby d1_3) (q := 4) rfl ?_
  refine gIconst X0 hx (3 : Int32) (hb hby d1_4) (q := 5) rfl (by decide) ?_
  refine gIand X0 hx (hb hby d1_5) (q := 6) rfl ?_
  refine gIstoreN X0 hx (hb hby d1_6) (q := 7) rfl (L' := #[.val (.int x0), .val (.int ((XT.ushr x0 (16 : Int32)) &&& (3 : Int32))), .unset, .unset]) rfl ?_
  refine gIloadN X0 hx (hb hby d1_7) (q := 8) rfl rfl ?_
  refine gSipush X0 hx (255 : Int32) (hb hby d1_8) (q := 11) rfl (by decide) ?_
  refine gIand X0 hx (hb hby d1_11) (q := 12) rfl ?_
  refine gI2c X0 hx (hb hby d1_12) (q := 13) rfl ?_
  refine gIstoreN X0 hx (hb hby d1_13) (q := 14) rfl (L' := #[.val (.int x0), .val (.int ((XT.ushr x0 (16 : Int32)) &&& (3 : Int32))), .val (.int ((x0 &&& (255 : Int32)).toUInt32.toUInt16.toUInt32.toInt32)), .unset]) rfl ?_
  refine gIloadN X0 hx (hb hby d1_14) (q := 15) rfl rfl ?_
  refine gBipush X0 hx (8 : Int32) (hb hby d1_15) (q := 17) rfl (by decide) ?_
  refine gIushr X0 hx (hb hby d1_17) (q := 18) rfl ?_
  refine gSipush X0 hx (255 : Int32) (hb hby d1_18) (q := 21) rfl (by decide) ?_
  refine gIand X0 hx (hb hby d1_21) (q := 22) rfl ?_
  refine gI2c X0 hx (hb hby d1_22) (q := 23) rfl ?_
  refine gIstoreN X0 hx (hb hby d1_23) (q := 24) rfl (L' := #[.val (.int x0), .val (.int ((XT.ushr x0 (16 : Int32)) &&& (3 : Int32))), .val (.int ((x0 &&& (255 : Int32)).toUInt32.toUInt16.toUInt32.toInt32)), .val (.int (((XT.ushr x0 (8 : Int32)) &&& (255 : Int32)).toUInt32.toUInt16.toUInt32.toInt32))]) rfl ?_
  have hy0 : ¬ (255 : Int32) < ((x0 &&& (255 : Int32)).toUInt32.toUInt16.toUInt32.toInt32) := own_ch _
  have ny0 : nar .char ((x0 &&& (255 : Int32)).toUInt32.toUInt16.toUInt32.toInt32) = ((x0 &&& (255 : Int32)).toUInt32.toUInt16.toUInt32.toInt32) := own_chn _
  generalize ((x0 &&& (255 : Int32)).toUInt32.toUInt16.toUInt32.toInt32) = y0 at hy0 ny0 ⊢
  have hy1 : ¬ (255 : Int32) < (((XT.ushr x0 (8 : Int32)) &&& (255 : Int32)).toUInt32.toUInt16.toUInt32.toInt32) := own_ch _
  have ny1 : nar .char (((XT.ushr x0 (8 : Int32)) &&& (255 : Int32)).toUInt32.toUInt16.toUInt32.toInt32) = (((XT.ushr x0 (8 : Int32)) &&& (255 : Int32)).toUInt32.toUInt16.toUInt32.toInt32) := own_chn _
  generalize (((XT.ushr x0 (8 : Int32)) &&& (255 : Int32)).toUInt32.toUInt16.toUInt32.toInt32) = y1 at hy1 ny1 ⊢
  refine gIloadN X0 hx (hb hby d1_24) (q := 25) rfl rfl ?_
  refine gIconst X0 hx (3 : Int32) (hb hby d1_25) (q := 26) rfl (by decide) ?_
  by_cases c1 : ((XT.ushr x0 (16 : Int32)) &&& (3 : Int32)) = (3 : Int32)
  · refine gIcmpN X0 hx (hb hby d1_26) (q := 29) rfl (XT.ii_ne_f c1) ?_
    refine gNull X0 hx (hb hby d1_29) (q := 30) rfl ?_
    exact gRetSA X0 hx hZ hS hEL hlk hret rfl rfl (hb hby d1_30) (by decide) (by decide) e0 hkk hC (by rw [e0]; exact ⟨_, rfl, rfl, N0, (Keep.refl h0 [])⟩)
  · refine gIcmpY X0 hx (hb hby d1_26) (q := 31) (by decide) (by decide) (XT.ii_ne_t c1) ?_
    refine gIloadN X0 hx (hb hby d1_31) (q := 32) rfl rfl ?_
    by_cases c2 : ((XT.ushr x0 (16 : Int32)) &&& (3 : Int32)) = (0 : Int32)
    · refine gIfN X0 hx (hb hby d1_32) (q := 35) rfl (XT.i0_ne_f c2) ?_
      refine gNewO X0 hx hZ hown (hw _ (List.mem_of_getElem? (i := 4) rfl)) (hw _ (List.mem_of_getElem? (i := 5) rfl)) (hw _ (List.mem_of_getElem? (i := 6) rfl)) e0 (hb hby d1_35) (q := 38) rfl (by decide) (by decide) (fun T3 h3 a3 X3 e3 g3 E3 A3 D3 => ?_)
      have C4h := hC.trans (CHr.ext E3 hC.1)
      have kk5 := Nat.le_trans hkk E3.1
      have O6 := O0.ext E3
      have ge_a3 : h0.size ≤ a3 := by rw [g3]; exact (Keep.refl h0 []).1
      have K7 := (Keep.refl h0 []).ext E3
      have le_a3 : n0 ≤ a3 := by rw [g3]; exact Z0
      have Z8 := Nat.le_trans Z0 E3.1
      have F9 : Fld Z h3 a3 "java/lang/String" "value" "[B" (.null) := D3 (Or.inr (hw _ (List.mem_of_getElem? (i := 20) rfl))) (ty := .array (.byte)) (by decide)
      have F10 : Fld Z h3 a3 "java/lang/String" "coder" "B" (.int (0 : Int32)) := D3 (Or.inr (hw _ (List.mem_of_getElem? (i := 21) rfl))) (ty := .byte) (by decide)
      clear D3
      have sf11 : Safe Z consts_1 vm0 h3 a3 := own_safeS hZ.alike A3 F9
      refine gDup X3 hx (hb hby d1_38) (q := 39) rfl rfl ?_
      refine gIconst X3 hx (0 : Int32) (hb hby d1_39) (q := 40) rfl (by decide) ?_
      refine gNewP X3 hx hZ (hw _ (List.mem_of_getElem? (i := 7) rfl)) e3 (hb hby d1_40) (q := 42) rfl (by decide) (cap := 0) (by decide) (by decide) (by decide) (by decide) (fun T12 h12 a12 k12 X12 e12 g12 E12 A12 => ?_)
      have Y13 := Safe.ext E12 C4h.1 sf11
      have C14h := C4h.trans (CHr.ext E12 C4h.1)
      have kk15 := Nat.le_trans kk5 E12.1
      have E16 := Exa.ext E12 A3
      have F17 := Fld.ext E12 F9
      have F18 := Fld.ext E12 F10
      have O19 := O6.ext E12
      have ge_a12 : h0.size ≤ a12 := by rw [g12]; exact K7.1
      have K20 := K7.ext E12
      have le_a12 : n0 ≤ a12 := by rw [g12]; exact Z8
      have ne_a3_a12 : a3 ≠ a12 := by rw [g12]; exact Nat.ne_of_lt A3.lt
      have Z21 := Nat.le_trans Z8 E12.1
      have B12 : Ary Z h12 a12 k12 (.char) [] := A12
      refine gCallNS X12 hx hZ hS hEL rfl hown (hw _ (List.mem_of_getElem? (i := 8) rfl)) (hw _ (List.mem_of_getElem? (i := 9) rfl)) (hw _ (List.mem_of_getElem? (i := 6) rfl)) (hw _ (List.mem_of_getElem? (i := 10) rfl)) (by decide) (rmI1E l Z a0 hw [] hEL a3 a12 k12 h12 n0 Z21 F17 F18 E16 le_a3 B12) (W := 1) (by decide) (by decide) e12 kk15 C14h (by rw [hml]; rfl) [(.ref a12)] (lenOf pd4 rfl) rfl (S := [(.ref a3)]) rfl (Nat.le_of_eq rfl) (hb hby d1_42) (q := 45) rfl (by decide) (by decide) (fun r22 T22 M22 X22 q22 hS hZ hown C22c SF22c => ?_)
      have Y22_a3 := SF22c a3 E16.lt Y13
      obtain ⟨rfl, M22n, K22, P22e⟩ := q22
      have N23 := Fr.app N0 M22n
      have A26 := Ary.keep B12 K22 (ninS ne_a3_a12.symm nin0)
      have O27 := O19.keep K22 (allS le_a3 all0)
      have Z28 := Nat.le_trans Z21 K22.1
      have KK29 := K20.trans K22 (allS (Or.inr ge_a3) all0)
      dsimp only [Option.toList, List.cons_append, List.nil_append]
      exact gRetSA X22 hx hZ hS hEL hlk hret rfl rfl (hb hby d1_45) (by decide) (by decide) rfl (Nat.le_refl _) C22c (by exact ⟨_, rfl, rfl, N23, KK29⟩)
    · refine gIfY X0 hx (hb hby d1_32) (q := 46) (by decide) (by decide) (XT.i0_ne_t c2) ?_
      refine gIloadN X0 hx (hb hby d1_46) (q := 47) rfl rfl ?_
      refine gIconst X0 hx (1 : Int32) (hb hby d1_47) (q := 48) rfl (by decide) ?_
      by_cases c30 : ((XT.ushr x0 (16 : Int32)) &&& (3 : Int32)) = (1 : Int32)
      · refine gIcmpN X0 hx (hb hby d1_48) (q := 51) rfl (XT.ii_ne_f c30) ?_
        refine gNewO X0 hx hZ hown (hw _ (List.mem_of_getElem? (i := 4) rfl)) (hw _ (List.mem_of_getElem? (i := 5) rfl)) (hw _ (List.mem_of_getElem? (i := 6) rfl)) e0 (hb hby d1_51) (q := 54) rfl (by decide) (by decide) (fun T31 h31 a31 X31 e31 g31 E31 A31 D31 => ?_)
        have C32h := hC.trans (CHr.ext E31 hC.1)
        have kk33 := Nat.le_trans hkk E31.1
        have O34 := O0.ext E31
        have ge_a31 : h0.size ≤ a31 := by rw [g31]; exact (Keep.refl h0 []).1
        have K35 := (Keep.refl h0 []).ext E31
        have le_a31 : n0 ≤ a31 := by rw [g31]; exact Z0
        have Z36 := Nat.le_trans Z0 E31.1
        have F37 : Fld Z h31 a31 "java/lang/String" "value" "[B" (.null) := D31 (Or.inr (hw _ (List.mem_of_getElem? (i := 20) rfl))) (ty := .array (.byte)) (by decide)
        have F38 : Fld Z h31 a31 "java/lang/String" "coder" "B" (.int (0 : Int32)) := D31 (Or.inr (hw _ (List.mem_of_getElem? (i := 21) rfl))) (ty := .byte) (by decide)
        clear D31
        have sf39 : Safe Z consts_1 vm0 h31 a31 := own_safeS hZ.alike A31 F37
        refine gDup X31 hx (hb hby d1_54) (q := 55) rfl rfl ?_
        refine gIconst X31 hx (1 : Int32) (hb hby d1_55) (q := 56) rfl (by decide) ?_
        refine gNewP X31 hx hZ (hw _ (List.mem_of_getElem? (i := 7) rfl)) e31 (hb hby d1_56) (q := 58) rfl (by decide) (cap := 1) (by decide) (by decide) (by decide) (by decide) (fun T40 h40 a40 k40 X40 e40 g40 E40 A40 => ?_)
        have Y41 := Safe.ext E40 C32h.1 sf39
        have C42h := C32h.trans (CHr.ext E40 C32h.1)
        have kk43 := Nat.le_trans kk33 E40.1
        have E44 := Exa.ext E40 A31
        have F45 := Fld.ext E40 F37
        have F46 := Fld.ext E40 F38
        have O47 := O34.ext E40
        have ge_a40 : h0.size ≤ a40 := by rw [g40]; exact K35.1
        have K48 := K35.ext E40
        have le_a40 : n0 ≤ a40 := by rw [g40]; exact Z36
        have ne_a31_a40 : a31 ≠ a40 := by rw [g40]; exact Nat.ne_of_lt A31.lt
        have Z49 := Nat.le_trans Z36 E40.1
        have B40 : Ary Z h40 a40 k40 (.char) [(.int (0 : Int32))] := A40
        refine gDup X40 hx (hb hby d1_58) (q := 59) rfl rfl ?_
        refine gIconst X40 hx (0 : Int32) (hb hby d1_59) (q := 60) rfl (by decide) ?_
        refine gIloadN X40 hx (hb hby d1_60) (q := 61) rfl rfl ?_
        refine gCastore X40 hx hZ e40 B40 (hb hby d1_61) (q := 62) rfl (show ¬ (((0 : Int32) : Int32) < 0 ∨ 1 ≤ ((0 : Int32) : Int32).toNatClampNeg) by decide) (fun T50 h50 X50 e50 W50 A50 => ?_)
        have B50 : Ary Z h50 a40 k40 (.char) [(.int y0)] := (by have zA := A50; rw [show nar .char y0 = y0 from ny0] at zA; exact zA)
        have N51 := Fr.snoc X50 N0 le_a40
        have K52 := K48.wr W50 (Or.inr ge_a40)
        have SF53 : Safe Z consts_1 vm0 h40 a40 := (own_safeA (vm := vm0) hZ.alike B40 (by decide))
        have Y54 := Safe.wr W50 SF53 C42h.1 Y41
        have C55h := C42h.trans (CHr.wr W50 SF53 C42h.1)
        have kk56 := (by rw [W50.size]; exact kk43 : _ ≤ Array.size h50)
        have E57 := Exa.wr W50 E44
        have F58 := Fld.other W50 F45 (Or.inl ne_a31_a40)
        have F59 := Fld.other W50 F46 (Or.inl ne_a31_a40)
        have O61 := O47.wr W50 le_a40
        have Z62 : n0 ≤ h50.size := by rw [W50.size]; exact Z49
        refine gCallN X50 hx hZ rfl hown (hw _ (List.mem_of_getElem? (i := 8) rfl)) (hw _ (List.mem_of_getElem? (i := 9) rfl)) (hw _ (List.mem_of_getElem? (i := 6) rfl)) (hw _ (List.mem_of_getElem? (i := 10) rfl)) (by decide) (rmI1A l Z a0 hw [] a31 a40 k40 ic y0 h50 n0 Z62 F58 F59 E57 le_a31 B50 ne_a31_a40.symm SCs hic O61 hy0) (W := 1) (by decide) (by decide) e50 (by rw [hml]; rfl) [(.ref a40)] (lenOf pd4 rfl) rfl (S := [(.ref a31)]) rfl (Nat.le_of_eq rfl) (hb hby d1_62) (q := 65) rfl (by decide) (by decide) (fun r64 T64 M64 X64 q64 => ?_)
        obtain ⟨rfl, M64n, K64, P64e, P64c, sb63, kb63, P64v, P64a, gsb63⟩ := q64
        have N65 := Fr.app N51 M64n
        have lsb63 : n0 ≤ sb63 := Nat.le_trans Z62 gsb63
        have ne_a31_sb63 : a31 ≠ sb63 := Nat.ne_of_lt (Nat.lt_of_lt_of_le E57.lt gsb63)
        have ne_a40_sb63 : a40 ≠ sb63 := Nat.ne_of_lt (Nat.lt_of_lt_of_le B50.lt gsb63)
        have g0sb63 : h0.size ≤ sb63 := Nat.le_trans K52.1 gsb63
        have hs66 : ∀ x ∈ [a31], Safe Z consts_1 vm0 h50 x := (sfS Y54 sf0)
        have Y67 := Safe.keep K64 hs66 C55h.1 Y54
        have C68h := C55h.trans (CHr.keep K64 hs66 C55h.1)
        have kk69 := Nat.le_trans kk56 K64.1
        have A70 := Ary.keep B50 K64 (ninS ne_a31_a40.symm nin0)
        have O71 := O61.keep K64 (allS le_a31 all0)
        have Z72 := Nat.le_trans Z62 K64.1
        have KK73 := K52.trans K64 (allS (Or.inr ge_a31) all0)
        dsimp only [Option.toList, List.cons_append, List.nil_append]
        exact gRetSA X64 hx hZ hS hEL hlk hret rfl rfl (hb hby d1_65) (by decide) (by decide) rfl kk69 C68h (by exact ⟨_, rfl, rfl, N65, KK73⟩)
      · refine gIcmpY X0 hx (hb hby d1_48) (q := 66) (by decide) (by decide) (XT.ii_ne_t c30) ?_
        refine gNewO X0 hx hZ hown (hw _ (List.mem_of_getElem? (i := 4) rfl)) (hw _ (List.mem_of_getElem? (i := 5) rfl)) (hw _ (List.mem_of_getElem? (i := 6) rfl)) e0 (hb hby d1_66) (q := 69) rfl (by decide) (by decide) (fun T74 h74 a74 X74 e74 g74 E74 A74 D74 => ?_)
        have C75h := hC.trans (CHr.ext E74 hC.1)
        have kk76 := Nat.le_trans hkk E74.1
        have O77 := O0.ext E74
        have ge_a74 : h0.size ≤ a74 := by rw [g74]; exact (Keep.refl h0 []).1
        have K78 := (Keep.refl h0 []).ext E74
        have le_a74 : n0 ≤ a74 := by rw [g74]; exact Z0
        have Z79 := Nat.le_trans Z0 E74.1
        have F80 : Fld Z h74 a74 "java/lang/String" "value" "[B" (.null) := D74 (Or.inr (hw _ (List.mem_of_getElem? (i := 20) rfl))) (ty := .array (.byte)) (by decide)
        have F81 : Fld Z h74 a74 "java/lang/String" "coder" "B" (.int (0 : Int32)) := D74 (Or.inr (hw _ (List.mem_of_getElem? (i := 21) rfl))) (ty := .byte) (by decide)
        clear D74
        have sf82 : Safe Z consts_1 vm0 h74 a74 := own_safeS hZ.alike A74 F80
        refine gDup X74 hx (hb hby d1_69) (q := 70) rfl rfl ?_
        refine gIconst X74 hx (2 : Int32) (hb hby d1_70) (q := 71) rfl (by decide) ?_
        refine gNewP X74 hx hZ (hw _ (List.mem_of_getElem? (i := 7) rfl)) e74 (hb hby d1_71) (q := 73) rfl (by decide) (cap := 2) (by decide) (by decide) (by decide) (by decide) (fun T83 h83 a83 k83 X83 e83 g83 E83 A83 => ?_)
        have Y84 := Safe.ext E83 C75h.1 sf82
        have C85h := C75h.trans (CHr.ext E83 C75h.1)
        have kk86 := Nat.le_trans kk76 E83.1
        have E87 := Exa.ext E83 A74
        have F88 := Fld.ext E83 F80
        have F89 := Fld.ext E83 F81
        have O90 := O77.ext E83
        have ge_a83 : h0.size ≤ a83 := by rw [g83]; exact K78.1
        have K91 := K78.ext E83
        have le_a83 : n0 ≤ a83 := by rw [g83]; exact Z79
        have ne_a74_a83 : a74 ≠ a83 := by rw [g83]; exact Nat.ne_of_lt A74.lt
        have Z92 := Nat.le_trans Z79 E83.1
        have B83 : Ary Z h83 a83 k83 (.char) [(.int (0 : Int32)), (.int (0 : Int32))] := A83
        refine gDup X83 hx (hb hby d1_73) (q := 74) rfl rfl ?_
        refine gIconst X83 hx (0 : Int32) (hb hby d1_74) (q := 75) rfl (by decide) ?_
        refine gIloadN X83 hx (hb hby d1_75) (q := 76) rfl rfl ?_
        refine gCastore X83 hx hZ e83 B83 (hb hby d1_76) (q := 77) rfl (show ¬ (((0 : Int32) : Int32) < 0 ∨ 2 ≤ ((0 : Int32) : Int32).toNatClampNeg) by decide) (fun T93 h93 X93 e93 W93 A93 => ?_)
        have B93 : Ary Z h93 a83 k83 (.char) [(.int y0), (.int (0 : Int32))] := (by have zA := A93; rw [show nar .char y0 = y0 from ny0] at zA; exact zA)
        have N94 := Fr.snoc X93 N0 le_a83
        have K95 := K91.wr W93 (Or.inr ge_a83)
        have SF96 : Safe Z consts_1 vm0 h83 a83 := (own_safeA (vm := vm0) hZ.alike B83 (by decide))
        have Y97 := Safe.wr W93 SF96 C85h.1 Y84
        have C98h := C85h.trans (CHr.wr W93 SF96 C85h.1)
        have kk99 := (by rw [W93.size]; exact kk86 : _ ≤ Array.size h93)
        have E100 := Exa.wr W93 E87
        have F101 := Fld.other W93 F88 (Or.inl ne_a74_a83)
        have F102 := Fld.other W93 F89 (Or.inl ne_a74_a83)
        have O104 := O90.wr W93 le_a83
        have Z105 : n0 ≤ h93.size := by rw [W93.size]; exact Z92
        refine gDup X93 hx (hb hby d1_77) (q := 78) rfl rfl ?_
        refine gIconst X93 hx (1 : Int32) (hb hby d1_78) (q := 79) rfl (by decide) ?_
        refine gIloadN X93 hx (hb hby d1_79) (q := 80) rfl rfl ?_
        refine gCastore X93 hx hZ e93 B93 (hb hby d1_80) (q := 81) rfl (show ¬ (((1 : Int32) : Int32) < 0 ∨ 2 ≤ ((1 : Int32) : Int32).toNatClampNeg) by decide) (fun T106 h106 X106 e106 W106 A106 => ?_)
        have B106 : Ary Z h106 a83 k83 (.char) [(.int y0), (.int y1)] := (by have zA := A106; rw [show nar .char y1 = y1 from ny1] at zA; exact zA)
        have N107 := Fr.snoc X106 N94 le_a83
        have K108 := K95.wr W106 (Or.inr ge_a83)
        have SF109 : Safe Z consts_1 vm0 h93 a83 := (own_safeA (vm := vm0) hZ.alike B93 (by decide))
        have Y110 := Safe.wr W106 SF109 C98h.1 Y97
        have C111h := C98h.trans (CHr.wr W106 SF109 C98h.1)
        have kk112 := (by rw [W106.size]; exact kk99 : _ ≤ Array.size h106)
        have E113 := Exa.wr W106 E100
        have F114 := Fld.other W106 F101 (Or.inl ne_a74_a83)
        have F115 := Fld.other W106 F102 (Or.inl ne_a74_a83)
        have O117 := O104.wr W106 le_a83
        have Z118 : n0 ≤ h106.size := by rw [W106.size]; exact Z105
        refine gCallN X106 hx hZ rfl hown (hw _ (List.mem_of_getElem? (i := 8) rfl)) (hw _ (List.mem_of_getElem? (i := 9) rfl)) (hw _ (List.mem_of_getElem? (i := 6) rfl)) (hw _ (List.mem_of_getElem? (i := 10) rfl)) (by decide) (rmI1B l Z a0 hw [] a74 a83 k83 ic y0 y1 h106 n0 Z118 F114 F115 E113 le_a74 B106 ne_a74_a83.symm SCs hic O117 hy0 hy1) (W := 1) (by decide) (by decide) e106 (by rw [hml]; rfl) [(.ref a83)] (lenOf pd4 rfl) rfl (S := [(.ref a74)]) rfl (Nat.le_of_eq rfl) (hb hby d1_81) (q := 84) rfl (by decide) (by decide) (fun r120 T120 M120 X120 q120 => ?_)
        obtain ⟨rfl, M120n, K120, P120e, P120c, sb119, kb119, P120v, P120a, gsb119⟩ := q120
        have N121 := Fr.app N107 M120n
        have lsb119 : n0 ≤ sb119 := Nat.le_trans Z118 gsb119
        have ne_a74_sb119 : a74 ≠ sb119 := Nat.ne_of_lt (Nat.lt_of_lt_of_le E113.lt gsb119)
        have ne_a83_sb119 : a83 ≠ sb119 := Nat.ne_of_lt (Nat.lt_of_lt_of_le B106.lt gsb119)
        have g0sb119 : h0.size ≤ sb119 := Nat.le_trans K108.1 gsb119
        have hs122 : ∀ x ∈ [a74], Safe Z consts_1 vm0 h106 x := (sfS Y110 sf0)
        have Y123 := Safe.keep K120 hs122 C111h.1 Y110
        have C124h := C111h.trans (CHr.keep K120 hs122 C111h.1)
        have kk125 := Nat.le_trans kk112 K120.1
        have A126 := Ary.keep B106 K120 (ninS ne_a74_a83.symm nin0)
        have O127 := O117.keep K120 (allS le_a74 all0)
        have Z128 := Nat.le_trans Z118 K120.1
        have KK129 := K108.trans K120 (allS (Or.inr ge_a74) all0)
        dsimp only [Option.toList, List.cons_append, List.nil_append]
        exact gRetSA X120 hx hZ hS hEL hlk hret rfl rfl (hb hby d1_84) (by decide) (by decide) rfl kk125 C124h (by exact ⟨_, rfl, rfl, N121, KK129⟩)
theorem d5_0 : decode method_3_code 0 = .ok (.iload_n 0, 1) := by decide +kernel
theorem d5_1 : decode method_3_code 1 = .ok (.iconst 3, 1) := by decide +kernel
theorem d5_2 : decode method_3_code 2 = .ok (.iand, 1) := by decide +kernel
theorem d5_3 : decode method_3_code 3 = .ok (.istore_n 1, 1) := by decide +kernel
theorem d5_4 : decode method_3_code 4 = .ok (.iload_n 1, 1) := by decide +kernel
theorem d5_5 : decode method_3_code 5 = .ok (.ifCond .ne 7, 3) := by decide +kernel
theorem d5_8 : decode method_3_code 8 = .ok (.getstatic 12, 3) := by decide +kernel
theorem d5_11 : decode method_3_code 11 = .ok (.areturn, 1) := by decide +kernel
theorem d5_12 : decode method_3_code 12 = .ok (.iload_n 1, 1) := by decide +kernel
theorem d5_13 : decode method_3_code 13 = .ok (.iconst 1, 1) := by decide +kernel
theorem d5_14 : decode method_3_code 14 = .ok (.if_icmp .ne 7, 3) := by decide +kernel
theorem d5_17 : decode method_3_code 17 = .ok (.getstatic 18, 3) := by decide +kernel
theorem d5_20 : decode method_3_code 20 = .ok (.areturn, 1) := by decide +kernel
theorem d5_21 : decode method_3_code 21 = .ok (.iload_n 1, 1) := by decide +kernel
theorem d5_22 : decode method_3_code 22 = .ok (.iconst 2, 1) := by decide +kernel
theorem d5_23 : decode method_3_code 23 = .ok (.if_icmp .ne 7, 3) := by decide +kernel
theorem d5_26 : decode method_3_code 26 = .ok (.getstatic 21, 3) := by decide +kernel
theorem d5_29 : decode method_3_code 29 = .ok (.areturn, 1) := by decide +kernel
theorem d5_30 : decode method_3_code 30 = .ok (.aconst_null, 1) := by decide +kernel
theorem d5_31 : decode method_3_code 31 = .ok (.areturn, 1) := by decide +kernel
theorem ef13 (m : MethodId) (x0 : Int32) : entryFrame m #[(.int x0)] 2 = mkF m 0 #[.val (.int x0), .unset] [] := by first | (simp [entryFrame, mkF, argsToLocals, Value.category]; done) | rfl
def Q_rmTy (Z : State) (r0 : Addr) (r1 : Addr) (r2 : Addr) (r3 : Addr) (r4 : Addr) (x0 : Int32) (h0 : Heap) (n0 : Nat) (v : Option Value) (h : Heap) (L : List Loc) : Prop := ∃ w, v = some w ∧ w.isRef = true ∧ Fr n0 L ∧ h = h0
set_option maxRecDepth 65536 in
set_option maxHeartbeats 40000000 in
theorem rmTy (l : Launch) (Z : State) (a0 : Array Value) (hw : ∀ d ∈ tables_1, d.before a0 Z = true) (ws : List Jvm.Cond) (r0 : Addr) (r1 : Addr) (r2 : Addr) (r3 : Addr) (r4 : Addr) (x0 : Int32) (h0 : Heap) (n0 : Nat) (Z0 : n0 ≤ h0.size) (O0 : Old Z n0 h0) (S_r0 : Sta Z Z.heap "com/example/oridune/oridune/core/Symbol$Type" "LABEL" "Lcom/example/oridune/oridune/core/Symbol$Type;" (.ref r0)) (E_r0 : Exa Z Z.heap r0 "com/example/oridune/oridune/core/Symbol$Type") (S_r1 : Sta Z Z.heap "com/example/oridune/oridune/core/CodeMode" "DEFAULT" "Lcom/example/oridune/oridune/core/CodeMode;" (.ref r1)) (E_r1 : Exa Z Z.heap r1 "com/example/oridune/oridune/core/CodeMode") (S_r2 : Sta Z Z.heap "com/example/oridune/oridune/core/Symbol$Type" "FUNCTION" "Lcom/example/oridune/oridune/core/Symbol$Type;" (.ref r2)) (E_r2 : Exa Z Z.heap r2 "com/example/oridune/oridune/core/Symbol$Type") (S_r3 : Sta Z Z.heap "com/example/oridune/oridune/core/CodeMode" "THUMB" "Lcom/example/oridune/oridune/core/CodeMode;" (.ref r3)) (E_r3 : Exa Z Z.heap r3 "com/example/oridune/oridune/core/CodeMode") (S_r4 : Sta Z Z.heap "com/example/oridune/oridune/core/Symbol$Type" "DATA" "Lcom/example/oridune/oridune/core/Symbol$Type;" (.ref r4)) (E_r4 : Exa Z Z.heap r4 "com/example/oridune/oridune/core/Symbol$Type") :
    Con l Z (⟨"com/example/oridune/oridune/core/SymbolNamedPinLaw", "type", "(I)Lcom/example/oridune/oridune/core/Symbol$Type;"⟩ : MethodName) method_3_code 2 (some (.object "com/example/oridune/oridune/core/Symbol$Type")) ws ({ frames := 0, cells := 0, slots := 0, locals := 0 } : Room) #[(.int x0)] h0 (({ frames := 0, cells := 0, slots := 0, locals := 0 } : Room).cells) (({ frames := 0, cells := 0, slots := 0, locals := 0 } : Room).slots) (Q_rmTy Z r0 r1 r2 r3 r4 x0 h0 n0) := by
  refine Con.of (plainFor_of_name pn2) ?_
  intro p e s m below meth c s₁ hx hby hml hown hnm hret hlk hZ X0 e0
  have N0 := Fr.nil n0
  refine goE (L := #[.val (.int x0), .unset]) (ef13 m x0) ?_
  refine gIloadN X0 hx (hb hby d5_0) (q := 1) rfl rfl ?_
  refine gIconst X0 hx (3 : Int32) (hb hby d5_1) (q := 2) rfl (by decide) ?_
  refine gIand X0 hx (hb hby d5_2) (q := 3) rfl ?_
  refine gIstoreN X0 hx (hb hby d5_3) (q := 4) rfl (L' := #[.val (.int x0), .val (.int (x0 &&& (3 : Int32)))]) rfl ?_
  refine gIloadN X0 hx (hb hby d5_4) (q := 5) rfl rfl ?_
  by_cases c1 : (x0 &&& (3 : Int32)) = (0 : Int32)
  · refine gIfN X0 hx (hb hby d5_5) (q := 8) rfl (XT.i0_ne_f c1) ?_
    refine gGetS X0 hx hZ hown (hw _ (List.mem_of_getElem? (i := 89) rfl)) Via.refl e0 (Sta.ext O0.2 S_r2) (hb hby d5_8) (q := 11) rfl (fun T2 X2 e2 => ?_)
    exact gRetA X2 hx hlk hret rfl rfl (hb hby d5_11) (by decide) (by decide) ⟨_, rfl, rfl, N0, e2⟩
  · refine gIfY X0 hx (hb hby d5_5) (q := 12) (by decide) (by decide) (XT.i0_ne_t c1) ?_
    refine gIloadN X0 hx (hb hby d5_12) (q := 13) rfl rfl ?_
    refine gIconst X0 hx (1 : Int32) (hb hby d5_13) (q := 14) rfl (by decide) ?_
    by_cases c3 : (x0 &&& (3 : Int32)) = (1 : Int32)
    · refine gIcmpN X0 hx (hb hby d5_14) (q := 17) rfl (XT.ii_ne_f c3) ?_
      refine gGetS X0 hx hZ hown (hw _ (List.mem_of_getElem? (i := 104) rfl)) Via.refl e0 (Sta.ext O0.2 S_r4) (hb hby d5_17) (q := 20) rfl (fun T4 X4 e4 => ?_)
      exact gRetA X4 hx hlk hret rfl rfl (hb hby d5_20) (by decide) (by decide) ⟨_, rfl, rfl, N0, e4⟩
    · refine gIcmpY X0 hx (hb hby d5_14) (q := 21) (by decide) (by decide) (XT.ii_ne_t c3) ?_
      refine gIloadN X0 hx (hb hby d5_21) (q := 22) rfl rfl ?_
      refine gIconst X0 hx (2 : Int32) (hb hby d5_22) (q := 23) rfl (by decide) ?_
      by_cases c5 : (x0 &&& (3 : Int32)) = (2 : Int32)
      · refine gIcmpN X0 hx (hb hby d5_23) (q := 26) rfl (XT.ii_ne_f c5) ?_
        refine gGetS X0 hx hZ hown (hw _ (List.mem_of_getElem? (i := 29) rfl)) Via.refl e0 (Sta.ext O0.2 S_r0) (hb hby d5_26) (q := 29) rfl (fun T6 X6 e6 => ?_)
        exact gRetA X6 hx hlk hret rfl rfl (hb hby d5_29) (by decide) (by decide) ⟨_, rfl, rfl, N0, e6⟩
      · refine gIcmpY X0 hx (hb hby d5_23) (q := 30) (by decide) (by decide) (XT.ii_ne_t c5) ?_
        refine gNull X0 hx (hb hby d5_30) (q := 31) rfl ?_
        exact gRetA X0 hx hlk hret rfl rfl (hb hby d5_31) (by decide) (by decide) ⟨_, rfl, rfl, N0, e0⟩
theorem d7_0 : decode jdk_30_method_1_code 0 = .ok (.aload_n 0, 1) := by decide +kernel
theorem d7_1 : decode jdk_30_method_1_code 1 = .ok (.invokespecial 1, 3) := by decide +kernel
theorem d7_4 : decode jdk_30_method_1_code 4 = .ok (.return_, 1) := by decide +kernel
theorem pn3 : plainName "java/lang/Record" = true := by first | (simp [plainName, overriddenIn]; done) | decide +kernel
theorem ef14 (m : MethodId) (x0 : Addr) : entryFrame m #[(.ref x0)] 1 = mkF m 0 #[.val (.ref x0)] [] := by first | (simp [entryFrame, mkF, argsToLocals, Value.category]; done) | rfl
def Q_rmRec (Z : State) (a : Addr) (h0 : Heap) (n0 : Nat) (v : Option Value) (h : Heap) (L : List Loc) : Prop := v = none ∧ Fr n0 L ∧ h = h0
set_option maxRecDepth 65536 in
set_option maxHeartbeats 40000000 in
theorem rmRec (l : Launch) (Z : State) (a0 : Array Value) (hw : ∀ d ∈ tables_1, d.before a0 Z = true) (ws : List Jvm.Cond) (a : Addr) (h0 : Heap) (n0 : Nat) (Z0 : n0 ≤ h0.size)  :
    Con l Z (⟨"java/lang/Record", "<init>", "()V"⟩ : MethodName) jdk_30_method_1_code 1 none ws ({ frames := 1, cells := 0, slots := 0, locals := 12 } : Room) #[(.ref a)] h0 (({ frames := 1, cells := 0, slots := 0, locals := 12 } : Room).cells) (({ frames := 1, cells := 0, slots := 0, locals := 12 } : Room).slots) (Q_rmRec Z a h0 n0) := by
  refine Con.of (plainFor_of_name pn3) ?_
  intro p e s m below meth c s₁ hx hby hml hown hnm hret hlk hZ X0 e0
  have N0 := Fr.nil n0
  refine goE (L := #[.val (.ref a)]) (ef14 m a) ?_
  refine gAloadN X0 hx (hb hby d7_0) (q := 1) rfl rfl rfl ?_
  refine gInitO X0 hx hZ hown (hw _ (List.mem_of_getElem? (i := 46) rfl)) (hw _ (List.mem_of_getElem? (i := 16) rfl)) (hw _ (List.mem_of_getElem? (i := 17) rfl)) e0 (by rw [hml]; rfl) (hb hby d7_1) (q := 4) rfl (by decide) (W := 0) (Nat.le_of_eq rfl) (by decide) (fun T1 X1 e1 => ?_)
  exact gRetV X1 hx hlk hret (hb hby d7_4) (by decide) (by decide) ⟨rfl, N0, e1⟩
theorem d6_0 : decode prog_43_method_2_code 0 = .ok (.aload_n 0, 1) := by decide +kernel
theorem d6_1 : decode prog_43_method_2_code 1 = .ok (.invokespecial 1, 3) := by decide +kernel
theorem d6_4 : decode prog_43_method_2_code 4 = .ok (.aload_n 0, 1) := by decide +kernel
theorem d6_5 : decode prog_43_method_2_code 5 = .ok (.aload_n 1, 1) := by decide +kernel
theorem d6_6 : decode prog_43_method_2_code 6 = .ok (.putfield 7, 3) := by decide +kernel
theorem d6_9 : decode prog_43_method_2_code 9 = .ok (.aload_n 0, 1) := by decide +kernel
theorem d6_10 : decode prog_43_method_2_code 10 = .ok (.lload_n 2, 1) := by decide +kernel
theorem d6_11 : decode prog_43_method_2_code 11 = .ok (.putfield 13, 3) := by decide +kernel
theorem d6_14 : decode prog_43_method_2_code 14 = .ok (.aload_n 0, 1) := by decide +kernel
theorem d6_15 : decode prog_43_method_2_code 15 = .ok (.lload 4, 2) := by decide +kernel
theorem d6_17 : decode prog_43_method_2_code 17 = .ok (.putfield 17, 3) := by decide +kernel
theorem d6_20 : decode prog_43_method_2_code 20 = .ok (.aload_n 0, 1) := by decide +kernel
theorem d6_21 : decode prog_43_method_2_code 21 = .ok (.aload 6, 2) := by decide +kernel
theorem d6_23 : decode prog_43_method_2_code 23 = .ok (.putfield 20, 3) := by decide +kernel
theorem d6_26 : decode prog_43_method_2_code 26 = .ok (.aload_n 0, 1) := by decide +kernel
theorem d6_27 : decode prog_43_method_2_code 27 = .ok (.aload 7, 2) := by decide +kernel
theorem d6_29 : decode prog_43_method_2_code 29 = .ok (.putfield 24, 3) := by decide +kernel
theorem d6_32 : decode prog_43_method_2_code 32 = .ok (.return_, 1) := by decide +kernel
theorem pn4 : plainName "com/example/oridune/oridune/core/Symbol" = true := by first | (simp [plainName, overriddenIn]; done) | decide +kernel
theorem ef15 (m : MethodId) (x0 : Addr) (x1 : Value) (r1 : x1.isRef = true) (x2 : Int64) (x3 : Int64) (x4 : Value) (r4 : x4.isRef = true) (x5 : Addr) : entryFrame m #[(.ref x0), (x1), (.long x2), (.long x3), (x4), (.ref x5)] 8 = mkF m 0 #[.val (.ref x0), .val x1, .val (.long x2), .second, .val (.long x3), .second, .val x4, .val (.ref x5)] [] := by (rcases ref_cases r1 with rfl | ⟨_, rfl⟩ <;> rcases ref_cases r4 with rfl | ⟨_, rfl⟩ <;> first | (simp [entryFrame, mkF, argsToLocals, Value.category]; done) | rfl)
def Q_rmSyI (Z : State) (a : Addr) (vn : Value) (x1 : Int64) (x2 : Int64) (vt : Value) (rm : Addr) (h0 : Heap) (n0 : Nat) (v : Option Value) (h : Heap) (L : List Loc) : Prop := v = none ∧ Fr n0 L ∧ Keep h0 h [a] ∧ Exa Z h a "com/example/oridune/oridune/core/Symbol" ∧ Fld Z h a "com/example/oridune/oridune/core/Symbol" "name" "Ljava/lang/String;" (vn) ∧ Fld Z h a "com/example/oridune/oridune/core/Symbol" "address" "J" (.long x1) ∧ Fld Z h a "com/example/oridune/oridune/core/Symbol" "size" "J" (.long x2) ∧ Fld Z h a "com/example/oridune/oridune/core/Symbol" "type" "Lcom/example/oridune/oridune/core/Symbol$Type;" (vt) ∧ Fld Z h a "com/example/oridune/oridune/core/Symbol" "mode" "Lcom/example/oridune/oridune/core/CodeMode;" (.ref rm)
theorem pd5 : parseMethodDescriptor "()V" = some ⟨[], none⟩ := by decide +kernel
set_option maxRecDepth 65536 in
set_option maxHeartbeats 40000000 in
theorem rmSyI (l : Launch) (Z : State) (a0 : Array Value) (hw : ∀ d ∈ tables_1, d.before a0 Z = true) (ws : List Jvm.Cond) (a : Addr) (vn : Value) (x1 : Int64) (x2 : Int64) (vt : Value) (rm : Addr) (h0 : Heap) (n0 : Nat) (Z0 : n0 ≤ h0.size) (I_name : Fld Z h0 a "com/example/oridune/oridune/core/Symbol" "name" "Ljava/lang/String;" (.null)) (I_address : Fld Z h0 a "com/example/oridune/oridune/core/Symbol" "address" "J" (.long (0 : Int64))) (I_size : Fld Z h0 a "com/example/oridune/oridune/core/Symbol" "size" "J" (.long (0 : Int64))) (I_type : Fld Z h0 a "com/example/oridune/oridune/core/Symbol" "type" "Lcom/example/oridune/oridune/core/Symbol$Type;" (.null)) (I_mode : Fld Z h0 a "com/example/oridune/oridune/core/Symbol" "mode" "Lcom/example/oridune/oridune/core/CodeMode;" (.null)) (E_a : Exa Z h0 a "com/example/oridune/oridune/core/Symbol") (la : n0 ≤ a) (hvn : vn.isRef = true) (hvt : vt.isRef = true) :
    Con l Z (⟨"com/example/oridune/oridune/core/Symbol", "<init>", "(Ljava/lang/String;JJLcom/example/oridune/oridune/core/Symbol$Type;Lcom/example/oridune/oridune/core/CodeMode;)V"⟩ : MethodName) prog_43_method_2_code 8 none ws ({ frames := 2, cells := 0, slots := 0, locals := 26 } : Room) #[(.ref a), (vn), (.long x1), (.long x2), (vt), (.ref rm)] h0 (({ frames := 2, cells := 0, slots := 0, locals := 26 } : Room).cells) (({ frames := 2, cells := 0, slots := 0, locals := 26 } : Room).slots) (Q_rmSyI Z a vn x1 x2 vt rm h0 n0) := by
  refine Con.of (plainFor_of_name pn4) ?_
  intro p e s m below meth c s₁ hx hby hml hown hnm hret hlk hZ X0 e0
  have N0 := Fr.nil n0
  refine goE (L := #[.val (.ref a), .val vn, .val (.long x1), .second, .val (.long x2), .second, .val vt, .val (.ref rm)]) (ef15 m a vn hvn x1 x2 vt hvt rm) ?_
  refine gAloadN X0 hx (hb hby d6_0) (q := 1) rfl rfl rfl ?_
  refine gCallN X0 hx hZ rfl hown (hw _ (List.mem_of_getElem? (i := 41) rfl)) (hw _ (List.mem_of_getElem? (i := 42) rfl)) (hw _ (List.mem_of_getElem? (i := 44) rfl)) (hw _ (List.mem_of_getElem? (i := 45) rfl)) (by decide) (rmRec l Z a0 hw [] a h0 n0 Z0) (W := 0) (by decide) (by decide) e0 (by rw [hml]; rfl) [] (lenOf pd5 rfl) rfl (S := []) rfl (Nat.le_of_eq rfl) (hb hby d6_1) (q := 4) rfl (by decide) (by decide) (fun r1 T1 M1 X1 q1 => ?_)
  obtain ⟨rfl, M1n, e1⟩ := q1
  have N2 := Fr.app N0 M1n
  dsimp only [Option.toList, List.cons_append, List.nil_append]
  refine gAloadN X1 hx (hb hby d6_4) (q := 5) rfl rfl rfl ?_
  refine gAloadN X1 hx (hb hby d6_5) (q := 6) rfl rfl hvn ?_
  refine gPutF X1 hx hZ (host := "") hown (Or.inl (hw _ (List.mem_of_getElem? (i := 47) rfl))) Via.refl e1 I_name E_a (Or.inr ⟨(hw _ (List.mem_of_getElem? (i := 48) rfl)), rfl, hnm⟩) (hw _ (List.mem_of_getElem? (i := 36) rfl)) (ty := .object "java/lang/String") (by decide) (own_narR rfl hvn) (own_fitR rfl hvn) (hb hby d6_6) (q := 9) rfl (fun T3 h3 X3 e3 W3 => ?_)
  have N4 := Fr.snoc X3 N2 la
  have K5 := (Keep.refl h0 [a]).wr W3 (Or.inl (List.mem_of_getElem? (i := 0) rfl))
  have F6 := Fld.same W3 I_name
  have F7 := Fld.other W3 I_address (Or.inr (slot_ne (Or.inr (hw _ (List.mem_of_getElem? (i := 50) rfl))) (Or.inr (hw _ (List.mem_of_getElem? (i := 48) rfl))) (by decide) (t := .long) (by decide) (t' := .object "java/lang/String") (by decide)))
  have F8 := Fld.other W3 I_size (Or.inr (slot_ne (Or.inr (hw _ (List.mem_of_getElem? (i := 52) rfl))) (Or.inr (hw _ (List.mem_of_getElem? (i := 48) rfl))) (by decide) (t := .long) (by decide) (t' := .object "java/lang/String") (by decide)))
  have F9 := Fld.other W3 I_type (Or.inr (slot_ne (Or.inr (hw _ (List.mem_of_getElem? (i := 54) rfl))) (Or.inr (hw _ (List.mem_of_getElem? (i := 48) rfl))) (by decide) (t := .object "com/example/oridune/oridune/core/Symbol$Type") (by decide) (t' := .object "java/lang/String") (by decide)))
  have F10 := Fld.other W3 I_mode (Or.inr (slot_ne (Or.inr (hw _ (List.mem_of_getElem? (i := 56) rfl))) (Or.inr (hw _ (List.mem_of_getElem? (i := 48) rfl))) (by decide) (t := .object "com/example/oridune/oridune/core/CodeMode") (by decide) (t' := .object "java/lang/String") (by decide)))
  have E11 := Exa.wr W3 E_a
  have Z12 : n0 ≤ h3.size := by rw [W3.size]; exact Z0
  refine gAloadN X3 hx (hb hby d6_9) (q := 10) rfl rfl rfl ?_
  refine gLloadN X3 hx (hb hby d6_10) (q := 11) rfl rfl ?_
  refine gPutF X3 hx hZ (host := "") hown (Or.inl (hw _ (List.mem_of_getElem? (i := 49) rfl))) Via.refl e3 F7 E11 (Or.inr ⟨(hw _ (List.mem_of_getElem? (i := 50) rfl)), rfl, hnm⟩) (hw _ (List.mem_of_getElem? (i := 36) rfl)) (ty := .long) (by decide) rfl rfl (hb hby d6_11) (q := 14) rfl (fun T13 h13 X13 e13 W13 => ?_)
  have N14 := Fr.snoc X13 N4 la
  have K15 := K5.wr W13 (Or.inl (List.mem_of_getElem? (i := 0) rfl))
  have F16 := Fld.other W13 F6 (Or.inr (slot_ne (Or.inr (hw _ (List.mem_of_getElem? (i := 48) rfl))) (Or.inr (hw _ (List.mem_of_getElem? (i := 50) rfl))) (by decide) (t := .object "java/lang/String") (by decide) (t' := .long) (by decide)))
  have F17 := Fld.same W13 F7
  have F18 := Fld.other W13 F8 (Or.inr (slot_ne (Or.inr (hw _ (List.mem_of_getElem? (i := 52) rfl))) (Or.inr (hw _ (List.mem_of_getElem? (i := 50) rfl))) (by decide) (t := .long) (by decide) (t' := .long) (by decide)))
  have F19 := Fld.other W13 F9 (Or.inr (slot_ne (Or.inr (hw _ (List.mem_of_getElem? (i := 54) rfl))) (Or.inr (hw _ (List.mem_of_getElem? (i := 50) rfl))) (by decide) (t := .object "com/example/oridune/oridune/core/Symbol$Type") (by decide) (t' := .long) (by decide)))
  have F20 := Fld.other W13 F10 (Or.inr (slot_ne (Or.inr (hw _ (List.mem_of_getElem? (i := 56) rfl))) (Or.inr (hw _ (List.mem_of_getElem? (i := 50) rfl))) (by decide) (t := .object "com/example/oridune/oridune/core/CodeMode") (by decide) (t' := .long) (by decide)))
  have E21 := Exa.wr W13 E11
  have Z22 : n0 ≤ h13.size := by rw [W13.size]; exact Z12
  refine gAloadN X13 hx (hb hby d6_14) (q := 15) rfl rfl rfl ?_
  refine gLload X13 hx (hb hby d6_15) (q := 17) rfl rfl ?_
  refine gPutF X13 hx hZ (host := "") hown (Or.inl (hw _ (List.mem_of_getElem? (i := 51) rfl))) Via.refl e13 F18 E21 (Or.inr ⟨(hw _ (List.mem_of_getElem? (i := 52) rfl)), rfl, hnm⟩) (hw _ (List.mem_of_getElem? (i := 36) rfl)) (ty := .long) (by decide) rfl rfl (hb hby d6_17) (q := 20) rfl (fun T23 h23 X23 e23 W23 => ?_)
  have N24 := Fr.snoc X23 N14 la
  have K25 := K15.wr W23 (Or.inl (List.mem_of_getElem? (i := 0) rfl))
  have F26 := Fld.other W23 F16 (Or.inr (slot_ne (Or.inr (hw _ (List.mem_of_getElem? (i := 48) rfl))) (Or.inr (hw _ (List.mem_of_getElem? (i := 52) rfl))) (by decide) (t := .object "java/lang/String") (by decide) (t' := .long) (by decide)))
  have F27 := Fld.other W23 F17 (Or.inr (slot_ne (Or.inr (hw _ (List.mem_of_getElem? (i := 50) rfl))) (Or.inr (hw _ (List.mem_of_getElem? (i := 52) rfl))) (by decide) (t := .long) (by decide) (t' := .long) (by decide)))
  have F28 := Fld.same W23 F18
  have F29 := Fld.other W23 F19 (Or.inr (slot_ne (Or.inr (hw _ (List.mem_of_getElem? (i := 54) rfl))) (Or.inr (hw _ (List.mem_of_getElem? (i := 52) rfl))) (by decide) (t := .object "com/example/oridune/oridune/core/Symbol$Type") (by decide) (t' := .long) (by decide)))
  have F30 := Fld.other W23 F20 (Or.inr (slot_ne (Or.inr (hw _ (List.mem_of_getElem? (i := 56) rfl))) (Or.inr (hw _ (List.mem_of_getElem? (i := 52) rfl))) (by decide) (t := .object "com/example/oridune/oridune/core/CodeMode") (by decide) (t' := .long) (by decide)))
  have E31 := Exa.wr W23 E21
  have Z32 : n0 ≤ h23.size := by rw [W23.size]; exact Z22
  refine gAloadN X23 hx (hb hby d6_20) (q := 21) rfl rfl rfl ?_
  refine gAload X23 hx (hb hby d6_21) (q := 23) rfl rfl hvt ?_
  refine gPutF X23 hx hZ (host := "") hown (Or.inl (hw _ (List.mem_of_getElem? (i := 53) rfl))) Via.refl e23 F29 E31 (Or.inr ⟨(hw _ (List.mem_of_getElem? (i := 54) rfl)), rfl, hnm⟩) (hw _ (List.mem_of_getElem? (i := 36) rfl)) (ty := .object "com/example/oridune/oridune/core/Symbol$Type") (by decide) (own_narR rfl hvt) (own_fitR rfl hvt) (hb hby d6_23) (q := 26) rfl (fun T33 h33 X33 e33 W33 => ?_)
  have N34 := Fr.snoc X33 N24 la
  have K35 := K25.wr W33 (Or.inl (List.mem_of_getElem? (i := 0) rfl))
  have F36 := Fld.other W33 F26 (Or.inr (slot_ne (Or.inr (hw _ (List.mem_of_getElem? (i := 48) rfl))) (Or.inr (hw _ (List.mem_of_getElem? (i := 54) rfl))) (by decide) (t := .object "java/lang/String") (by decide) (t' := .object "com/example/oridune/oridune/core/Symbol$Type") (by decide)))
  have F37 := Fld.other W33 F27 (Or.inr (slot_ne (Or.inr (hw _ (List.mem_of_getElem? (i := 50) rfl))) (Or.inr (hw _ (List.mem_of_getElem? (i := 54) rfl))) (by decide) (t := .long) (by decide) (t' := .object "com/example/oridune/oridune/core/Symbol$Type") (by decide)))
  have F38 := Fld.other W33 F28 (Or.inr (slot_ne (Or.inr (hw _ (List.mem_of_getElem? (i := 52) rfl))) (Or.inr (hw _ (List.mem_of_getElem? (i := 54) rfl))) (by decide) (t := .long) (by decide) (t' := .object "com/example/oridune/oridune/core/Symbol$Type") (by decide)))
  have F39 := Fld.same W33 F29
  have F40 := Fld.other W33 F30 (Or.inr (slot_ne (Or.inr (hw _ (List.mem_of_getElem? (i := 56) rfl))) (Or.inr (hw _ (List.mem_of_getElem? (i := 54) rfl))) (by decide) (t := .object "com/example/oridune/oridune/core/CodeMode") (by decide) (t' := .object "com/example/oridune/oridune/core/Symbol$Type") (by decide)))
  have E41 := Exa.wr W33 E31
  have Z42 : n0 ≤ h33.size := by rw [W33.size]; exact Z32
  refine gAloadN X33 hx (hb hby d6_26) (q := 27) rfl rfl rfl ?_
  refine gAload X33 hx (hb hby d6_27) (q := 29) rfl rfl rfl ?_
  refine gPutF X33 hx hZ (host := "") hown (Or.inl (hw _ (List.mem_of_getElem? (i := 55) rfl))) Via.refl e33 F40 E41 (Or.inr ⟨(hw _ (List.mem_of_getElem? (i := 56) rfl)), rfl, hnm⟩) (hw _ (List.mem_of_getElem? (i := 36) rfl)) (ty := .object "com/example/oridune/oridune/core/CodeMode") (by decide) rfl rfl (hb hby d6_29) (q := 32) rfl (fun T43 h43 X43 e43 W43 => ?_)
  have N44 := Fr.snoc X43 N34 la
  have K45 := K35.wr W43 (Or.inl (List.mem_of_getElem? (i := 0) rfl))
  have F46 := Fld.other W43 F36 (Or.inr (slot_ne (Or.inr (hw _ (List.mem_of_getElem? (i := 48) rfl))) (Or.inr (hw _ (List.mem_of_getElem? (i := 56) rfl))) (by decide) (t := .object "java/lang/String") (by decide) (t' := .object "com/example/oridune/oridune/core/CodeMode") (by decide)))
  have F47 := Fld.other W43 F37 (Or.inr (slot_ne (Or.inr (hw _ (List.mem_of_getElem? (i := 50) rfl))) (Or.inr (hw _ (List.mem_of_getElem? (i := 56) rfl))) (by decide) (t := .long) (by decide) (t' := .object "com/example/oridune/oridune/core/CodeMode") (by decide)))
  have F48 := Fld.other W43 F38 (Or.inr (slot_ne (Or.inr (hw _ (List.mem_of_getElem? (i := 52) rfl))) (Or.inr (hw _ (List.mem_of_getElem? (i := 56) rfl))) (by decide) (t := .long) (by decide) (t' := .object "com/example/oridune/oridune/core/CodeMode") (by decide)))
  have F49 := Fld.other W43 F39 (Or.inr (slot_ne (Or.inr (hw _ (List.mem_of_getElem? (i := 54) rfl))) (Or.inr (hw _ (List.mem_of_getElem? (i := 56) rfl))) (by decide) (t := .object "com/example/oridune/oridune/core/Symbol$Type") (by decide) (t' := .object "com/example/oridune/oridune/core/CodeMode") (by decide)))
  have F50 := Fld.same W43 F40
  have E51 := Exa.wr W43 E41
  have Z52 : n0 ≤ h43.size := by rw [W43.size]; exact Z42
  exact gRetV X43 hx hlk hret (hb hby d6_32) (by decide) (by decide) (by rw [e43]; exact ⟨rfl, N44, K45, E51, F46, F47, F48, F49, F50⟩)
theorem d8_0 : decode prog_43_method_3_code 0 = .ok (.new 8, 3) := by decide +kernel
theorem d8_3 : decode prog_43_method_3_code 3 = .ok (.dup, 1) := by decide +kernel
theorem d8_4 : decode prog_43_method_3_code 4 = .ok (.aload_n 1, 1) := by decide +kernel
theorem d8_5 : decode prog_43_method_3_code 5 = .ok (.aload_n 0, 1) := by decide +kernel
theorem d8_6 : decode prog_43_method_3_code 6 = .ok (.getfield 13, 3) := by decide +kernel
theorem d8_9 : decode prog_43_method_3_code 9 = .ok (.aload_n 0, 1) := by decide +kernel
theorem d8_10 : decode prog_43_method_3_code 10 = .ok (.getfield 17, 3) := by decide +kernel
theorem d8_13 : decode prog_43_method_3_code 13 = .ok (.aload_n 0, 1) := by decide +kernel
theorem d8_14 : decode prog_43_method_3_code 14 = .ok (.getfield 20, 3) := by decide +kernel
theorem d8_17 : decode prog_43_method_3_code 17 = .ok (.aload_n 0, 1) := by decide +kernel
theorem d8_18 : decode prog_43_method_3_code 18 = .ok (.getfield 24, 3) := by decide +kernel
theorem d8_21 : decode prog_43_method_3_code 21 = .ok (.invokespecial 33, 3) := by decide +kernel
theorem d8_24 : decode prog_43_method_3_code 24 = .ok (.areturn, 1) := by decide +kernel
theorem ef16 (m : MethodId) (x0 : Addr) (x1 : Value) (r1 : x1.isRef = true) : entryFrame m #[(.ref x0), (x1)] 2 = mkF m 0 #[.val (.ref x0), .val x1] [] := by (rcases ref_cases r1 with rfl | ⟨_, rfl⟩ <;> first | (simp [entryFrame, mkF, argsToLocals, Value.category]; done) | rfl)
def Q_rmNmd (Z : State) (b : Addr) (vm : Value) (vn : Value) (x1 : Int64) (x2 : Int64) (vt : Value) (rm : Addr) (h0 : Heap) (n0 : Nat) (v : Option Value) (h : Heap) (L : List Loc) : Prop := ∃ r, v = some (.ref r) ∧ Fr n0 L ∧ Keep h0 h [] ∧ Exa Z h r "com/example/oridune/oridune/core/Symbol" ∧ Fld Z h r "com/example/oridune/oridune/core/Symbol" "name" "Ljava/lang/String;" (vm) ∧ Fld Z h r "com/example/oridune/oridune/core/Symbol" "address" "J" (.long x1) ∧ Fld Z h r "com/example/oridune/oridune/core/Symbol" "size" "J" (.long x2) ∧ Fld Z h r "com/example/oridune/oridune/core/Symbol" "type" "Lcom/example/oridune/oridune/core/Symbol$Type;" (vt) ∧ Fld Z h r "com/example/oridune/oridune/core/Symbol" "mode" "Lcom/example/oridune/oridune/core/CodeMode;" (.ref rm) ∧ h0.size ≤ r
theorem pd6 : parseMethodDescriptor "(Ljava/lang/String;JJLcom/example/oridune/oridune/core/Symbol$Type;Lcom/example/oridune/oridune/core/CodeMode;)V" = some ⟨[.object "java/lang/String", .long, .long, .object "com/example/oridune/oridune/core/Symbol$Type", .object "com/example/oridune/oridune/core/CodeMode"], none⟩ := by decide +kernel
set_option maxRecDepth 65536 in
set_option maxHeartbeats 40000000 in
theorem rmNmd (l : Launch) (Z : State) (a0 : Array Value) (hw : ∀ d ∈ tables_1, d.before a0 Z = true) (ws : List Jvm.Cond) (b : Addr) (vm : Value) (vn : Value) (x1 : Int64) (x2 : Int64) (vt : Value) (rm : Addr) (h0 : Heap) (n0 : Nat) (Z0 : n0 ≤ h0.size) (G_name : Fld Z h0 b "com/example/oridune/oridune/core/Symbol" "name" "Ljava/lang/String;" (vn)) (G_address : Fld Z h0 b "com/example/oridune/oridune/core/Symbol" "address" "J" (.long x1)) (G_size : Fld Z h0 b "com/example/oridune/oridune/core/Symbol" "size" "J" (.long x2)) (G_type : Fld Z h0 b "com/example/oridune/oridune/core/Symbol" "type" "Lcom/example/oridune/oridune/core/Symbol$Type;" (vt)) (G_mode : Fld Z h0 b "com/example/oridune/oridune/core/Symbol" "mode" "Lcom/example/oridune/oridune/core/CodeMode;" (.ref rm)) (E_b : Exa Z h0 b "com/example/oridune/oridune/core/Symbol") (hvm : vm.isRef = true) (hvn : vn.isRef = true) (hvt : vt.isRef = true) :
    Con l Z (⟨"com/example/oridune/oridune/core/Symbol", "named", "(Ljava/lang/String;)Lcom/example/oridune/oridune/core/Symbol;"⟩ : MethodName) prog_43_method_3_code 2 (some (.object "com/example/oridune/oridune/core/Symbol")) ws ({ frames := 3, cells := 1, slots := 5, locals := 60 } : Room) #[(.ref b), (vm)] h0 (({ frames := 3, cells := 1, slots := 5, locals := 60 } : Room).cells) (({ frames := 3, cells := 1, slots := 5, locals := 60 } : Room).slots) (Q_rmNmd Z b vm vn x1 x2 vt rm h0 n0) := by
  refine Con.of (plainFor_of_name pn4) ?_
  intro p e s m below meth c s₁ hx hby hml hown hnm hret hlk hZ X0 e0
  have N0 := Fr.nil n0
  refine goE (L := #[.val (.ref b), .val vm]) (ef16 m b vm hvm) ?_
  refine gNewO X0 hx hZ hown (hw _ (List.mem_of_getElem? (i := 62) rfl)) (hw _ (List.mem_of_getElem? (i := 36) rfl)) (hw _ (List.mem_of_getElem? (i := 37) rfl)) e0 (hb hby d8_0) (q := 3) rfl (by decide) (by decide) (fun T1 h1 a1 X1 e1 g1 E1 A1 D1 => ?_)
  have F2 := Fld.ext E1 G_name
  have F3 := Fld.ext E1 G_address
  have F4 := Fld.ext E1 G_size
  have F5 := Fld.ext E1 G_type
  have F6 := Fld.ext E1 G_mode
  have E7 := Exa.ext E1 E_b
  have ge_a1 : h0.size ≤ a1 := by rw [g1]; exact (Keep.refl h0 []).1
  have K8 := (Keep.refl h0 []).ext E1
  have le_a1 : n0 ≤ a1 := by rw [g1]; exact Z0
  have ne_b_a1 : b ≠ a1 := by rw [g1]; exact Nat.ne_of_lt E_b.lt
  have Z9 := Nat.le_trans Z0 E1.1
  have F10 : Fld Z h1 a1 "com/example/oridune/oridune/core/Symbol" "name" "Ljava/lang/String;" (.null) := D1 (Or.inr (hw _ (List.mem_of_getElem? (i := 48) rfl))) (ty := .object "java/lang/String") (by decide)
  have F11 : Fld Z h1 a1 "com/example/oridune/oridune/core/Symbol" "address" "J" (.long (0 : Int64)) := D1 (Or.inr (hw _ (List.mem_of_getElem? (i := 50) rfl))) (ty := .long) (by decide)
  have F12 : Fld Z h1 a1 "com/example/oridune/oridune/core/Symbol" "size" "J" (.long (0 : Int64)) := D1 (Or.inr (hw _ (List.mem_of_getElem? (i := 52) rfl))) (ty := .long) (by decide)
  have F13 : Fld Z h1 a1 "com/example/oridune/oridune/core/Symbol" "type" "Lcom/example/oridune/oridune/core/Symbol$Type;" (.null) := D1 (Or.inr (hw _ (List.mem_of_getElem? (i := 54) rfl))) (ty := .object "com/example/oridune/oridune/core/Symbol$Type") (by decide)
  have F14 : Fld Z h1 a1 "com/example/oridune/oridune/core/Symbol" "mode" "Lcom/example/oridune/oridune/core/CodeMode;" (.null) := D1 (Or.inr (hw _ (List.mem_of_getElem? (i := 56) rfl))) (ty := .object "com/example/oridune/oridune/core/CodeMode") (by decide)
  clear D1
  refine gDup X1 hx (hb hby d8_3) (q := 4) rfl rfl ?_
  refine gAloadN X1 hx (hb hby d8_4) (q := 5) rfl rfl hvm ?_
  refine gAloadN X1 hx (hb hby d8_5) (q := 6) rfl rfl rfl ?_
  refine gGetF X1 hx hZ (host := "") hown (Or.inl (hw _ (List.mem_of_getElem? (i := 49) rfl))) Via.refl e1 F3 (hb hby d8_6) (q := 9) rfl (fun T15 X15 e15 => ?_)
  refine gAloadN X15 hx (hb hby d8_9) (q := 10) rfl rfl rfl ?_
  refine gGetF X15 hx hZ (host := "") hown (Or.inl (hw _ (List.mem_of_getElem? (i := 51) rfl))) Via.refl e15 F4 (hb hby d8_10) (q := 13) rfl (fun T16 X16 e16 => ?_)
  refine gAloadN X16 hx (hb hby d8_13) (q := 14) rfl rfl rfl ?_
  refine gGetF X16 hx hZ (host := "") hown (Or.inl (hw _ (List.mem_of_getElem? (i := 53) rfl))) Via.refl e16 F5 (hb hby d8_14) (q := 17) rfl (fun T17 X17 e17 => ?_)
  refine gAloadN X17 hx (hb hby d8_17) (q := 18) rfl rfl rfl ?_
  refine gGetF X17 hx hZ (host := "") hown (Or.inl (hw _ (List.mem_of_getElem? (i := 55) rfl))) Via.refl e17 F6 (hb hby d8_18) (q := 21) rfl (fun T18 X18 e18 => ?_)
  refine gCallN X18 hx hZ rfl hown (hw _ (List.mem_of_getElem? (i := 63) rfl)) (hw _ (List.mem_of_getElem? (i := 39) rfl)) (hw _ (List.mem_of_getElem? (i := 37) rfl)) (hw _ (List.mem_of_getElem? (i := 40) rfl)) (by decide) (rmSyI l Z a0 hw [] a1 vm x1 x2 vt rm h1 n0 Z9 F10 F11 F12 F13 F14 A1 le_a1 hvm hvt) (W := 1) (by decide) (by decide) e18 (by rw [hml]; rfl) [vm, (.long x1), (.long x2), vt, (.ref rm)] (lenOf pd6 rfl) rfl (S := [(.ref a1)]) rfl (Nat.le_of_eq rfl) (hb hby d8_21) (q := 24) rfl (by decide) (by decide) (fun r19 T19 M19 X19 q19 => ?_)
  obtain ⟨rfl, M19n, K19, P19e, P19name, P19address, P19size, P19type, P19mode⟩ := q19
  have N20 := Fr.app N0 M19n
  have F21 := Fld.keep F2 K19 (ninS ne_b_a1 nin0)
  have F22 := Fld.keep F3 K19 (ninS ne_b_a1 nin0)
  have F23 := Fld.keep F4 K19 (ninS ne_b_a1 nin0)
  have F24 := Fld.keep F5 K19 (ninS ne_b_a1 nin0)
  have F25 := Fld.keep F6 K19 (ninS ne_b_a1 nin0)
  have E26 := Exa.keep E7 K19
  have Z27 := Nat.le_trans Z9 K19.1
  have KK28 := K8.trans K19 (allS (Or.inr ge_a1) all0)
  dsimp only [Option.toList, List.cons_append, List.nil_append]
  exact gRetA X19 hx hlk hret rfl rfl (hb hby d8_24) (by decide) (by decide) (by exact ⟨_, rfl, N20, KK28, P19e, P19name, P19address, P19size, P19type, P19mode, ge_a1⟩)
theorem d9_0 : decode prog_43_method_7_code 0 = .ok (.aload_n 0, 1) := by decide +kernel
theorem d9_1 : decode prog_43_method_7_code 1 = .ok (.getfield 7, 3) := by decide +kernel
theorem d9_4 : decode prog_43_method_7_code 4 = .ok (.areturn, 1) := by decide +kernel
theorem ef17 (m : MethodId) (x0 : Addr) : entryFrame m #[(.ref x0)] 1 = mkF m 0 #[.val (.ref x0)] [] := by first | (simp [entryFrame, mkF, argsToLocals, Value.category]; done) | rfl
def Q_rmGt_name (Z : State) (a : Addr) (vn : Value) (h0 : Heap) (n0 : Nat) (v : Option Value) (h : Heap) (L : List Loc) : Prop := v = some (vn) ∧ Fr n0 L ∧ h = h0
set_option maxRecDepth 65536 in
set_option maxHeartbeats 40000000 in
theorem rmGt_name (l : Launch) (Z : State) (a0 : Array Value) (hw : ∀ d ∈ tables_1, d.before a0 Z = true) (ws : List Jvm.Cond) (a : Addr) (vn : Value) (h0 : Heap) (n0 : Nat) (Z0 : n0 ≤ h0.size) (F_v : Fld Z h0 a "com/example/oridune/oridune/core/Symbol" "name" "Ljava/lang/String;" (vn)) (hvn : vn.isRef = true) :
    Con l Z (⟨"com/example/oridune/oridune/core/Symbol", "name", "()Ljava/lang/String;"⟩ : MethodName) prog_43_method_7_code 1 (some (.object "java/lang/String")) ws ({ frames := 0, cells := 0, slots := 0, locals := 0 } : Room) #[(.ref a)] h0 (({ frames := 0, cells := 0, slots := 0, locals := 0 } : Room).cells) (({ frames := 0, cells := 0, slots := 0, locals := 0 } : Room).slots) (Q_rmGt_name Z a vn h0 n0) := by
  refine Con.of (plainFor_of_name pn4) ?_
  intro p e s m below meth c s₁ hx hby hml hown hnm hret hlk hZ X0 e0
  have N0 := Fr.nil n0
  refine goE (L := #[.val (.ref a)]) (ef17 m a) ?_
  refine gAloadN X0 hx (hb hby d9_0) (q := 1) rfl rfl rfl ?_
  refine gGetF X0 hx hZ (host := "") hown (Or.inl (hw _ (List.mem_of_getElem? (i := 47) rfl))) Via.refl e0 F_v (hb hby d9_1) (q := 4) rfl (fun T1 X1 e1 => ?_)
  exact gRetA X1 hx hlk hret rfl hvn (hb hby d9_4) (by decide) (by decide) ⟨rfl, N0, e1⟩
theorem d10_0 : decode prog_43_method_8_code 0 = .ok (.aload_n 0, 1) := by decide +kernel
theorem d10_1 : decode prog_43_method_8_code 1 = .ok (.getfield 13, 3) := by decide +kernel
theorem d10_4 : decode prog_43_method_8_code 4 = .ok (.lreturn, 1) := by decide +kernel
theorem ef18 (m : MethodId) (x0 : Addr) : entryFrame m #[(.ref x0)] 1 = mkF m 0 #[.val (.ref x0)] [] := by first | (simp [entryFrame, mkF, argsToLocals, Value.category]; done) | rfl
def Q_rmGt_address (Z : State) (a : Addr) (x1 : Int64) (h0 : Heap) (n0 : Nat) (v : Option Value) (h : Heap) (L : List Loc) : Prop := v = some (.long x1) ∧ Fr n0 L ∧ h = h0
set_option maxRecDepth 65536 in
set_option maxHeartbeats 40000000 in
theorem rmGt_address (l : Launch) (Z : State) (a0 : Array Value) (hw : ∀ d ∈ tables_1, d.before a0 Z = true) (ws : List Jvm.Cond) (a : Addr) (x1 : Int64) (h0 : Heap) (n0 : Nat) (Z0 : n0 ≤ h0.size) (F_v : Fld Z h0 a "com/example/oridune/oridune/core/Symbol" "address" "J" (.long x1)) :
    Con l Z (⟨"com/example/oridune/oridune/core/Symbol", "address", "()J"⟩ : MethodName) prog_43_method_8_code 1 (some (.long)) ws ({ frames := 0, cells := 0, slots := 0, locals := 0 } : Room) #[(.ref a)] h0 (({ frames := 0, cells := 0, slots := 0, locals := 0 } : Room).cells) (({ frames := 0, cells := 0, slots := 0, locals := 0 } : Room).slots) (Q_rmGt_address Z a x1 h0 n0) := by
  refine Con.of (plainFor_of_name pn4) ?_
  intro p e s m below meth c s₁ hx hby hml hown hnm hret hlk hZ X0 e0
  have N0 := Fr.nil n0
  refine goE (L := #[.val (.ref a)]) (ef18 m a) ?_
  refine gAloadN X0 hx (hb hby d10_0) (q := 1) rfl rfl rfl ?_
  refine gGetF X0 hx hZ (host := "") hown (Or.inl (hw _ (List.mem_of_getElem? (i := 49) rfl))) Via.refl e0 F_v (hb hby d10_1) (q := 4) rfl (fun T1 X1 e1 => ?_)
  exact gRetJ X1 hx hlk hret (hb hby d10_4) (by decide) (by decide) ⟨rfl, N0, e1⟩
theorem d11_0 : decode prog_43_method_9_code 0 = .ok (.aload_n 0, 1) := by decide +kernel
theorem d11_1 : decode prog_43_method_9_code 1 = .ok (.getfield 17, 3) := by decide +kernel
theorem d11_4 : decode prog_43_method_9_code 4 = .ok (.lreturn, 1) := by decide +kernel
theorem ef19 (m : MethodId) (x0 : Addr) : entryFrame m #[(.ref x0)] 1 = mkF m 0 #[.val (.ref x0)] [] := by first | (simp [entryFrame, mkF, argsToLocals, Value.category]; done) | rfl
def Q_rmGt_size (Z : State) (a : Addr) (x1 : Int64) (h0 : Heap) (n0 : Nat) (v : Option Value) (h : Heap) (L : List Loc) : Prop := v = some (.long x1) ∧ Fr n0 L ∧ h = h0
set_option maxRecDepth 65536 in
set_option maxHeartbeats 40000000 in
theorem rmGt_size (l : Launch) (Z : State) (a0 : Array Value) (hw : ∀ d ∈ tables_1, d.before a0 Z = true) (ws : List Jvm.Cond) (a : Addr) (x1 : Int64) (h0 : Heap) (n0 : Nat) (Z0 : n0 ≤ h0.size) (F_v : Fld Z h0 a "com/example/oridune/oridune/core/Symbol" "size" "J" (.long x1)) :
    Con l Z (⟨"com/example/oridune/oridune/core/Symbol", "size", "()J"⟩ : MethodName) prog_43_method_9_code 1 (some (.long)) ws ({ frames := 0, cells := 0, slots := 0, locals := 0 } : Room) #[(.ref a)] h0 (({ frames := 0, cells := 0, slots := 0, locals := 0 } : Room).cells) (({ frames := 0, cells := 0, slots := 0, locals := 0 } : Room).slots) (Q_rmGt_size Z a x1 h0 n0) := by
  refine Con.of (plainFor_of_name pn4) ?_
  intro p e s m below meth c s₁ hx hby hml hown hnm hret hlk hZ X0 e0
  have N0 := Fr.nil n0
  refine goE (L := #[.val (.ref a)]) (ef19 m a) ?_
  refine gAloadN X0 hx (hb hby d11_0) (q := 1) rfl rfl rfl ?_
  refine gGetF X0 hx hZ (host := "") hown (Or.inl (hw _ (List.mem_of_getElem? (i := 51) rfl))) Via.refl e0 F_v (hb hby d11_1) (q := 4) rfl (fun T1 X1 e1 => ?_)
  exact gRetJ X1 hx hlk hret (hb hby d11_4) (by decide) (by decide) ⟨rfl, N0, e1⟩
theorem d12_0 : decode prog_43_method_10_code 0 = .ok (.aload_n 0, 1) := by decide +kernel
theorem d12_1 : decode prog_43_method_10_code 1 = .ok (.getfield 20, 3) := by decide +kernel
theorem d12_4 : decode prog_43_method_10_code 4 = .ok (.areturn, 1) := by decide +kernel
theorem ef20 (m : MethodId) (x0 : Addr) : entryFrame m #[(.ref x0)] 1 = mkF m 0 #[.val (.ref x0)] [] := by first | (simp [entryFrame, mkF, argsToLocals, Value.category]; done) | rfl
def Q_rmGt_type (Z : State) (a : Addr) (vn : Value) (h0 : Heap) (n0 : Nat) (v : Option Value) (h : Heap) (L : List Loc) : Prop := v = some (vn) ∧ Fr n0 L ∧ h = h0
set_option maxRecDepth 65536 in
set_option maxHeartbeats 40000000 in
theorem rmGt_type (l : Launch) (Z : State) (a0 : Array Value) (hw : ∀ d ∈ tables_1, d.before a0 Z = true) (ws : List Jvm.Cond) (a : Addr) (vn : Value) (h0 : Heap) (n0 : Nat) (Z0 : n0 ≤ h0.size) (F_v : Fld Z h0 a "com/example/oridune/oridune/core/Symbol" "type" "Lcom/example/oridune/oridune/core/Symbol$Type;" (vn)) (hvn : vn.isRef = true) :
    Con l Z (⟨"com/example/oridune/oridune/core/Symbol", "type", "()Lcom/example/oridune/oridune/core/Symbol$Type;"⟩ : MethodName) prog_43_method_10_code 1 (some (.object "com/example/oridune/oridune/core/Symbol$Type")) ws ({ frames := 0, cells := 0, slots := 0, locals := 0 } : Room) #[(.ref a)] h0 (({ frames := 0, cells := 0, slots := 0, locals := 0 } : Room).cells) (({ frames := 0, cells := 0, slots := 0, locals := 0 } : Room).slots) (Q_rmGt_type Z a vn h0 n0) := by
  refine Con.of (plainFor_of_name pn4) ?_
  intro p e s m below meth c s₁ hx hby hml hown hnm hret hlk hZ X0 e0
  have N0 := Fr.nil n0
  refine goE (L := #[.val (.ref a)]) (ef20 m a) ?_
  refine gAloadN X0 hx (hb hby d12_0) (q := 1) rfl rfl rfl ?_
  refine gGetF X0 hx hZ (host := "") hown (Or.inl (hw _ (List.mem_of_getElem? (i := 53) rfl))) Via.refl e0 F_v (hb hby d12_1) (q := 4) rfl (fun T1 X1 e1 => ?_)
  exact gRetA X1 hx hlk hret rfl hvn (hb hby d12_4) (by decide) (by decide) ⟨rfl, N0, e1⟩
theorem d13_0 : decode prog_43_method_11_code 0 = .ok (.aload_n 0, 1) := by decide +kernel
theorem d13_1 : decode prog_43_method_11_code 1 = .ok (.getfield 24, 3) := by decide +kernel
theorem d13_4 : decode prog_43_method_11_code 4 = .ok (.areturn, 1) := by decide +kernel
theorem ef21 (m : MethodId) (x0 : Addr) : entryFrame m #[(.ref x0)] 1 = mkF m 0 #[.val (.ref x0)] [] := by first | (simp [entryFrame, mkF, argsToLocals, Value.category]; done) | rfl
def Q_rmGt_mode (Z : State) (a : Addr) (vn : Value) (h0 : Heap) (n0 : Nat) (v : Option Value) (h : Heap) (L : List Loc) : Prop := v = some (vn) ∧ Fr n0 L ∧ h = h0
set_option maxRecDepth 65536 in
set_option maxHeartbeats 40000000 in
theorem rmGt_mode (l : Launch) (Z : State) (a0 : Array Value) (hw : ∀ d ∈ tables_1, d.before a0 Z = true) (ws : List Jvm.Cond) (a : Addr) (vn : Value) (h0 : Heap) (n0 : Nat) (Z0 : n0 ≤ h0.size) (F_v : Fld Z h0 a "com/example/oridune/oridune/core/Symbol" "mode" "Lcom/example/oridune/oridune/core/CodeMode;" (vn)) (hvn : vn.isRef = true) :
    Con l Z (⟨"com/example/oridune/oridune/core/Symbol", "mode", "()Lcom/example/oridune/oridune/core/CodeMode;"⟩ : MethodName) prog_43_method_11_code 1 (some (.object "com/example/oridune/oridune/core/CodeMode")) ws ({ frames := 0, cells := 0, slots := 0, locals := 0 } : Room) #[(.ref a)] h0 (({ frames := 0, cells := 0, slots := 0, locals := 0 } : Room).cells) (({ frames := 0, cells := 0, slots := 0, locals := 0 } : Room).slots) (Q_rmGt_mode Z a vn h0 n0) := by
  refine Con.of (plainFor_of_name pn4) ?_
  intro p e s m below meth c s₁ hx hby hml hown hnm hret hlk hZ X0 e0
  have N0 := Fr.nil n0
  refine goE (L := #[.val (.ref a)]) (ef21 m a) ?_
  refine gAloadN X0 hx (hb hby d13_0) (q := 1) rfl rfl rfl ?_
  refine gGetF X0 hx hZ (host := "") hown (Or.inl (hw _ (List.mem_of_getElem? (i := 55) rfl))) Via.refl e0 F_v (hb hby d13_1) (q := 4) rfl (fun T1 X1 e1 => ?_)
  exact gRetA X1 hx hlk hret rfl hvn (hb hby d13_4) (by decide) (by decide) ⟨rfl, N0, e1⟩

theorem ef22 (m : MethodId) (x0 : Int32) (x1 : Int32) (x2 : Int64) (x3 : Int64) (x4 : Int32) : entryFrame m #[(.int x0), (.int x1), (.long x2), (.long x3), (.int x4)] maxLocals = mkF m 0 #[.val (.int x0), .val (.int x1), .val (.long x2), .second, .val (.long x3), .second, .val (.int x4), .unset, .unset, .unset, .unset, .unset, .unset] [] := by first | (simp [entryFrame, mkF, argsToLocals, Value.category, maxLocals]; done) | rfl
def Q_rm0 (Z : State) (x0 : Int32) (x1 : Int32) (x2 : Int64) (x3 : Int64) (x4 : Int32) (r0 : Addr) (r1 : Addr) (r2 : Addr) (r3 : Addr) (r4 : Addr) (ic : Int32) (h0 : Heap) (n0 : Nat) (v : Option Value) (h : Heap) (L : List Loc) : Prop := v = some (.int 1) ∧ Fr n0 L
theorem pd7 : parseMethodDescriptor "(I)Ljava/lang/String;" = some ⟨[.int], some (.object "java/lang/String")⟩ := by decide +kernel
theorem pd8 : parseMethodDescriptor "(I)Lcom/example/oridune/oridune/core/Symbol$Type;" = some ⟨[.int], some (.object "com/example/oridune/oridune/core/Symbol$Type")⟩ := by decide +kernel
theorem pd9 : parseMethodDescriptor "(Ljava/lang/String;)Lcom/example/oridune/oridune/core/Symbol;" = some ⟨[.object "java/lang/String"], some (.object "com/example/oridune/oridune/core/Symbol")⟩ := by decide +kernel
theorem pd10 : parseMethodDescriptor "()Ljava/lang/String;" = some ⟨[], some (.object "java/lang/String")⟩ := by decide +kernel
theorem pd11 : parseMethodDescriptor "()J" = some ⟨[], some (.long)⟩ := by decide +kernel
theorem pd12 : parseMethodDescriptor "()Lcom/example/oridune/oridune/core/Symbol$Type;" = some ⟨[], some (.object "com/example/oridune/oridune/core/Symbol$Type")⟩ := by decide +kernel
theorem pd13 : parseMethodDescriptor "()Lcom/example/oridune/oridune/core/CodeMode;" = some ⟨[], some (.object "com/example/oridune/oridune/core/CodeMode")⟩ := by decide +kernel
set_option maxRecDepth 65536 in
set_option maxHeartbeats 40000000 in
theorem rm0 (l : Launch) (Z : State) (a0 : Array Value) (hw : ∀ d ∈ tables_1, d.before a0 Z = true) (ws : List Jvm.Cond) (hEL : EW Z a0 consts_1) (x0 : Int32) (x1 : Int32) (x2 : Int64) (x3 : Int64) (x4 : Int32) (r0 : Addr) (r1 : Addr) (r2 : Addr) (r3 : Addr) (r4 : Addr) (ic : Int32) (h0 : Heap) (n0 : Nat) (Z0 : n0 ≤ h0.size) (S_r0 : Sta Z Z.heap "com/example/oridune/oridune/core/Symbol$Type" "LABEL" "Lcom/example/oridune/oridune/core/Symbol$Type;" (.ref r0)) (E_r0 : Exa Z Z.heap r0 "com/example/oridune/oridune/core/Symbol$Type") (S_r1 : Sta Z Z.heap "com/example/oridune/oridune/core/CodeMode" "DEFAULT" "Lcom/example/oridune/oridune/core/CodeMode;" (.ref r1)) (E_r1 : Exa Z Z.heap r1 "com/example/oridune/oridune/core/CodeMode") (S_r2 : Sta Z Z.heap "com/example/oridune/oridune/core/Symbol$Type" "FUNCTION" "Lcom/example/oridune/oridune/core/Symbol$Type;" (.ref r2)) (E_r2 : Exa Z Z.heap r2 "com/example/oridune/oridune/core/Symbol$Type") (S_r3 : Sta Z Z.heap "com/example/oridune/oridune/core/CodeMode" "THUMB" "Lcom/example/oridune/oridune/core/CodeMode;" (.ref r3)) (E_r3 : Exa Z Z.heap r3 "com/example/oridune/oridune/core/CodeMode") (S_r4 : Sta Z Z.heap "com/example/oridune/oridune/core/Symbol$Type" "DATA" "Lcom/example/oridune/oridune/core/Symbol$Type;" (.ref r4)) (E_r4 : Exa Z Z.heap r4 "com/example/oridune/oridune/core/Symbol$Type") (SCs : Sta Z Z.heap "java/lang/String" "COMPACT_STRINGS" "Z" (.int ic)) (hic : ¬ ic = (0 : Int32)) (O0 : Old Z n0 h0) :
    ConS l Z consts_1 x code maxLocals ret ws room_1 #[(.int x0), (.int x1), (.long x2), (.long x3), (.int x4)] h0 (room_1.cells) (room_1.slots) (Q_rm0 Z x0 x1 x2 x3 x4 r0 r1 r2 r3 r4 ic h0 n0) := by
  refine ConS.of (plainFor_of_name pn2) ?_
  intro p e s m below meth c s₁ vm0 k0 hx hby hml hown hnm hret hlk hZ hS hkk hC X0 e0
  have N0 := Fr.nil n0
  refine goE (L := #[.val (.int x0), .val (.int x1), .val (.long x2), .second, .val (.long x3), .second, .val (.int x4), .unset, .unset, .unset, .unset, .unset, .unset]) (ef22 m x0 x1 x2 x3 x4) ?_
  refine gIloadN X0 hx (hb hby at_0) (q := 1) rfl rfl ?_
  refine gCallSS X0 hx hZ hS hEL hown (hw _ (List.mem_of_getElem? (i := 0) rfl)) (hw _ (List.mem_of_getElem? (i := 1) rfl)) (hw _ (List.mem_of_getElem? (i := 2) rfl)) (hw _ (List.mem_of_getElem? (i := 3) rfl)) (by decide) (rmStr l Z a0 hw [] hEL ic x0 h0 n0 Z0 SCs hic O0) (W := 0) (by decide) (by decide) e0 hkk hC (by rw [hml]; rfl) [(.int x0)] (lenOf pd7 rfl) rfl (S := []) rfl (Nat.le_of_eq rfl) (hb hby at_1) (q := 4) rfl (by decide) (by decide) (fun r1 T1 M1 X1 q1 hS hZ hown C1c SF1c => ?_)
  obtain ⟨w1, rfl, hw1, M1n, K1⟩ := q1
  have N2 := Fr.app N0 M1n
  have O3 := O0.keep K1 all0
  have Z4 := Nat.le_trans Z0 K1.1
  dsimp only [Option.toList, List.cons_append, List.nil_append]
  refine gAstore X1 hx (hb hby at_4) (q := 6) rfl hw1 (L' := #[.val (.int x0), .val (.int x1), .val (.long x2), .second, .val (.long x3), .second, .val (.int x4), .val w1, .unset, .unset, .unset, .unset, .unset]) (by rcases ref_cases hw1 with rfl | ⟨_, rfl⟩ <;> rfl) ?_
  refine gIloadN X1 hx (hb hby at_6) (q := 7) rfl rfl ?_
  refine gCallSS X1 hx hZ hS hEL hown (hw _ (List.mem_of_getElem? (i := 0) rfl)) (hw _ (List.mem_of_getElem? (i := 1) rfl)) (hw _ (List.mem_of_getElem? (i := 2) rfl)) (hw _ (List.mem_of_getElem? (i := 3) rfl)) (by decide) (rmStr l Z a0 hw [] hEL ic x1 T1.heap n0 Z4 SCs hic O3) (W := 0) (by decide) (by decide) rfl (Nat.le_refl _) C1c (by rw [hml]; rfl) [(.int x1)] (lenOf pd7 rfl) rfl (S := []) rfl (Nat.le_of_eq rfl) (hb hby at_7) (q := 10) rfl (by decide) (by decide) (fun r5 T5 M5 X5 q5 hS hZ hown C5c SF5c => ?_)
  obtain ⟨w5, rfl, hw5, M5n, K5⟩ := q5
  have N6 := Fr.app N2 M5n
  have O7 := O3.keep K5 all0
  have Z8 := Nat.le_trans Z4 K5.1
  dsimp only [Option.toList, List.cons_append, List.nil_append]
  refine gAstore X5 hx (hb hby at_10) (q := 12) rfl hw5 (L' := #[.val (.int x0), .val (.int x1), .val (.long x2), .second, .val (.long x3), .second, .val (.int x4), .val w1, .val w5, .unset, .unset, .unset, .unset]) (by rcases ref_cases hw5 with rfl | ⟨_, rfl⟩ <;> rfl) ?_
  refine gIload X5 hx (hb hby at_12) (q := 14) rfl rfl ?_
  refine gCallS X5 hx hZ hown (hw _ (List.mem_of_getElem? (i := 26) rfl)) (hw _ (List.mem_of_getElem? (i := 27) rfl)) (hw _ (List.mem_of_getElem? (i := 2) rfl)) (hw _ (List.mem_of_getElem? (i := 28) rfl)) (by decide) (rmTy l Z a0 hw [] r0 r1 r2 r3 r4 x4 T5.heap n0 Z8 O7 S_r0 E_r0 S_r1 E_r1 S_r2 E_r2 S_r3 E_r3 S_r4 E_r4) (W := 0) (by decide) (by decide) rfl (by rw [hml]; rfl) [(.int x4)] (lenOf pd8 rfl) rfl (S := []) rfl (Nat.le_of_eq rfl) (hb hby at_14) (q := 17) rfl (by decide) (by decide) (fun r9 T9 M9 X9 q9 => ?_)
  obtain ⟨w9, rfl, hw9, M9n, e9⟩ := q9
  have N10 := Fr.app N6 M9n
  dsimp only [Option.toList, List.cons_append, List.nil_append]
  refine gAstore X9 hx (hb hby at_17) (q := 19) rfl hw9 (L' := #[.val (.int x0), .val (.int x1), .val (.long x2), .second, .val (.long x3), .second, .val (.int x4), .val w1, .val w5, .val w9, .unset, .unset, .unset]) (by rcases ref_cases hw9 with rfl | ⟨_, rfl⟩ <;> rfl) ?_
  refine gIload X9 hx (hb hby at_19) (q := 21) rfl rfl ?_
  refine gIconst X9 hx (2 : Int32) (hb hby at_21) (q := 22) rfl (by decide) ?_
  refine gIushr X9 hx (hb hby at_22) (q := 23) rfl ?_
  refine gIconst X9 hx (1 : Int32) (hb hby at_23) (q := 24) rfl (by decide) ?_
  refine gIand X9 hx (hb hby at_24) (q := 25) rfl ?_
  have J25_13 : ∀ (T14 : State) (L14 : List Loc), Stand p l e room_1 (s.setVm T5.vm) m #[(.int x0), (.int x1), (.long x2), (.long x3), (.int x4)] below meth c T14 L14 12 28 → T14.heap = T5.heap → Fr n0 L14 → ∀ v12 : Addr, v12 = (if ((XT.ushr x4 (2 : Int32)) &&& (1 : Int32)) = (0 : Int32) then r1 else r3) → Go p.tables e below (DoneS Z consts_1 s h0 (Q_rm0 Z x0 x1 x2 x3 x4 r0 r1 r2 r3 r4 ic h0 n0) (room_1.cells) (room_1.slots)) (T14.setTop (mkF m 37 #[.val (.int x0), .val (.int x1), .val (.long x2), .second, .val (.long x3), .second, .val (.int x4), .val w1, .val w5, .val w9, .unset, .unset, .unset] [(.ref v12)])) := by
    intro T14 L14 X14 e14 N14 v12 hv12
    refine gAstore X14 hx (hb hby at_37) (q := 39) rfl rfl (L' := #[.val (.int x0), .val (.int x1), .val (.long x2), .second, .val (.long x3), .second, .val (.int x4), .val w1, .val w5, .val w9, .val (.ref v12), .unset, .unset]) rfl ?_
    refine gNewO X14 hx hZ hown (hw _ (List.mem_of_getElem? (i := 35) rfl)) (hw _ (List.mem_of_getElem? (i := 36) rfl)) (hw _ (List.mem_of_getElem? (i := 37) rfl)) e14 (hb hby at_39) (q := 42) rfl (by decide) (by decide) (fun T15 h15 a15 X15 e15 g15 E15 A15 D15 => ?_)
    have C16h := C5c.trans (CHr.ext E15 C5c.1)
    have kk17 := Nat.le_trans (Nat.le_refl _) E15.1
    have O18 := O7.ext E15
    have le_a15 : n0 ≤ a15 := by rw [g15]; exact Z8
    have Z19 := Nat.le_trans Z8 E15.1
    have F20 : Fld Z h15 a15 "com/example/oridune/oridune/core/Symbol" "name" "Ljava/lang/String;" (.null) := D15 (Or.inr (hw _ (List.mem_of_getElem? (i := 48) rfl))) (ty := .object "java/lang/String") (by decide)
    have F21 : Fld Z h15 a15 "com/example/oridune/oridune/core/Symbol" "address" "J" (.long (0 : Int64)) := D15 (Or.inr (hw _ (List.mem_of_getElem? (i := 50) rfl))) (ty := .long) (by decide)
    have F22 : Fld Z h15 a15 "com/example/oridune/oridune/core/Symbol" "size" "J" (.long (0 : Int64)) := D15 (Or.inr (hw _ (List.mem_of_getElem? (i := 52) rfl))) (ty := .long) (by decide)
    have F23 : Fld Z h15 a15 "com/example/oridune/oridune/core/Symbol" "type" "Lcom/example/oridune/oridune/core/Symbol$Type;" (.null) := D15 (Or.inr (hw _ (List.mem_of_getElem? (i := 54) rfl))) (ty := .object "com/example/oridune/oridune/core/Symbol$Type") (by decide)
    have F24 : Fld Z h15 a15 "com/example/oridune/oridune/core/Symbol" "mode" "Lcom/example/oridune/oridune/core/CodeMode;" (.null) := D15 (Or.inr (hw _ (List.mem_of_getElem? (i := 56) rfl))) (ty := .object "com/example/oridune/oridune/core/CodeMode") (by decide)
    clear D15
    refine gDup X15 hx (hb hby at_42) (q := 43) rfl rfl ?_
    refine gAload X15 hx (hb hby at_43) (q := 45) rfl rfl hw1 ?_
    refine gLloadN X15 hx (hb hby at_45) (q := 46) rfl rfl ?_
    refine gLload X15 hx (hb hby at_46) (q := 48) rfl rfl ?_
    refine gAload X15 hx (hb hby at_48) (q := 50) rfl rfl hw9 ?_
    refine gAload X15 hx (hb hby at_50) (q := 52) rfl rfl rfl ?_
    refine gCallN X15 hx hZ rfl hown (hw _ (List.mem_of_getElem? (i := 38) rfl)) (hw _ (List.mem_of_getElem? (i := 39) rfl)) (hw _ (List.mem_of_getElem? (i := 37) rfl)) (hw _ (List.mem_of_getElem? (i := 40) rfl)) (by decide) (rmSyI l Z a0 hw [] a15 w1 x2 x3 w9 v12 h15 n0 Z19 F20 F21 F22 F23 F24 A15 le_a15 hw1 hw9) (W := 1) (by decide) (by decide) e15 (by rw [hml]; rfl) [w1, (.long x2), (.long x3), w9, (.ref v12)] (lenOf pd6 rfl) rfl (S := [(.ref a15)]) rfl (Nat.le_of_eq rfl) (hb hby at_52) (q := 55) rfl (by decide) (by decide) (fun r25 T25 M25 X25 q25 => ?_)
    obtain ⟨rfl, M25n, K25, P25e, P25name, P25address, P25size, P25type, P25mode⟩ := q25
    have N26 := Fr.app N14 M25n
    have hs27 : ∀ x ∈ [a15], Safe Z consts_1 T5.vm h15 x := (sfS (Safe.exa (vm := T5.vm) hZ.alike A15 (by decide) (by decide)) sf0)
    have C28h := C16h.trans (CHr.keep K25 hs27 C16h.1)
    have kk29 := Nat.le_trans kk17 K25.1
    have O30 := O18.keep K25 (allS le_a15 all0)
    have Z31 := Nat.le_trans Z19 K25.1
    dsimp only [Option.toList, List.cons_append, List.nil_append]
    refine gAstore X25 hx (hb hby at_55) (q := 57) rfl rfl (L' := #[.val (.int x0), .val (.int x1), .val (.long x2), .second, .val (.long x3), .second, .val (.int x4), .val w1, .val w5, .val w9, .val (.ref v12), .val (.ref a15), .unset]) rfl ?_
    refine gAload X25 hx (hb hby at_57) (q := 59) rfl rfl rfl ?_
    refine gAload X25 hx (hb hby at_59) (q := 61) rfl rfl hw5 ?_
    refine gCallV X25 hx hZ hown (hw _ (List.mem_of_getElem? (i := 57) rfl)) (hw _ (List.mem_of_getElem? (i := 58) rfl)) (hw _ (List.mem_of_getElem? (i := 60) rfl)) (hw _ (List.mem_of_getElem? (i := 59) rfl)) (hw _ (List.mem_of_getElem? (i := 37) rfl)) (hw _ (List.mem_of_getElem? (i := 61) rfl)) (notFace_of_selects (args := #[]) (mvT hZ (hw _ (List.mem_of_getElem? (i := 60) rfl)))) (by decide) (rmNmd l Z a0 hw [] a15 w5 w1 x2 x3 w9 v12 T25.heap n0 Z31 P25name P25address P25size P25type P25mode P25e hw5 hw1 hw9) (W := 0) (by decide) (by decide) rfl (by rw [hml]; rfl) P25e [w5] (lenOf pd9 rfl) rfl (S := []) rfl (Nat.le_of_eq rfl) (hb hby at_61) (q := 64) rfl (by decide) (by decide) (fun r32 T32 M32 X32 q32 => ?_)
    obtain ⟨r32s, rfl, M32n, K32, P32e, P32name, P32address, P32size, P32type, P32mode, g32⟩ := q32
    have N33 := Fr.app N26 M32n
    have hs34 : ∀ x ∈ [], Safe Z consts_1 T5.vm T25.heap x := sf0
    have C35h := C28h.trans (CHr.keep K32 hs34 C28h.1)
    have kk36 := Nat.le_trans kk29 K32.1
    have E37 := Exa.keep P25e K32
    have F38 := Fld.keep P25name K32 nin0
    have F39 := Fld.keep P25address K32 nin0
    have F40 := Fld.keep P25size K32 nin0
    have F41 := Fld.keep P25type K32 nin0
    have F42 := Fld.keep P25mode K32 nin0
    have O43 := O30.keep K32 all0
    have Z44 := Nat.le_trans Z31 K32.1
    dsimp only [Option.toList, List.cons_append, List.nil_append]
    refine gAstore X32 hx (hb hby at_64) (q := 66) rfl rfl (L' := #[.val (.int x0), .val (.int x1), .val (.long x2), .second, .val (.long x3), .second, .val (.int x4), .val w1, .val w5, .val w9, .val (.ref v12), .val (.ref a15), .val (.ref r32s)]) rfl ?_
    refine gAload X32 hx (hb hby at_66) (q := 68) rfl rfl rfl ?_
    refine gNonY X32 hx (hb hby at_68) (q := 73) (by decide) (by decide) rfl Value.noConfusion ?_
    refine gAload X32 hx (hb hby at_73) (q := 75) rfl rfl rfl ?_
    refine gCallV X32 hx hZ hown (hw _ (List.mem_of_getElem? (i := 64) rfl)) (hw _ (List.mem_of_getElem? (i := 65) rfl)) (hw _ (List.mem_of_getElem? (i := 67) rfl)) (hw _ (List.mem_of_getElem? (i := 66) rfl)) (hw _ (List.mem_of_getElem? (i := 37) rfl)) (hw _ (List.mem_of_getElem? (i := 68) rfl)) (notFace_of_selects (args := #[]) (mvT hZ (hw _ (List.mem_of_getElem? (i := 67) rfl)))) (by decide) (rmGt_name l Z a0 hw [] r32s w5 T32.heap n0 Z44 P32name hw5) (W := 0) (by decide) (by decide) rfl (by rw [hml]; rfl) P32e [] (lenOf pd10 rfl) rfl (S := []) rfl (Nat.le_of_eq rfl) (hb hby at_75) (q := 78) rfl (by decide) (by decide) (fun r45 T45 M45 X45 q45 => ?_)
    obtain ⟨rfl, M45n, e45⟩ := q45
    have N46 := Fr.app N33 M45n
    dsimp only [Option.toList, List.cons_append, List.nil_append]
    refine gAload X45 hx (hb hby at_78) (q := 80) rfl rfl hw5 ?_
    refine gAcmpN X45 hx (hb hby at_80) (q := 83) rfl hw5 hw5 (XT.aa_ne_f rfl) ?_
    refine gAload X45 hx (hb hby at_83) (q := 85) rfl rfl rfl ?_
    refine gCallV X45 hx hZ hown (hw _ (List.mem_of_getElem? (i := 69) rfl)) (hw _ (List.mem_of_getElem? (i := 70) rfl)) (hw _ (List.mem_of_getElem? (i := 72) rfl)) (hw _ (List.mem_of_getElem? (i := 71) rfl)) (hw _ (List.mem_of_getElem? (i := 37) rfl)) (hw _ (List.mem_of_getElem? (i := 73) rfl)) (notFace_of_selects (args := #[]) (mvT hZ (hw _ (List.mem_of_getElem? (i := 72) rfl)))) (by decide) (rmGt_address l Z a0 hw [] r32s x2 T32.heap n0 Z44 P32address ) (W := 0) (by decide) (by decide) e45 (by rw [hml]; rfl) P32e [] (lenOf pd11 rfl) rfl (S := []) rfl (Nat.le_of_eq rfl) (hb hby at_85) (q := 88) rfl (by decide) (by decide) (fun r47 T47 M47 X47 q47 => ?_)
    obtain ⟨rfl, M47n, e47⟩ := q47
    have N48 := Fr.app N46 M47n
    dsimp only [Option.toList, List.cons_append, List.nil_append]
    refine gLloadN X47 hx (hb hby at_88) (q := 89) rfl rfl ?_
    refine gLcmp X47 hx (hb hby at_89) (q := 90) rfl ?_
    refine gIfN X47 hx (hb hby at_90) (q := 93) rfl (XT.ll_ne_f rfl) ?_
    refine gAload X47 hx (hb hby at_93) (q := 95) rfl rfl rfl ?_
    refine gCallV X47 hx hZ hown (hw _ (List.mem_of_getElem? (i := 74) rfl)) (hw _ (List.mem_of_getElem? (i := 75) rfl)) (hw _ (List.mem_of_getElem? (i := 77) rfl)) (hw _ (List.mem_of_getElem? (i := 76) rfl)) (hw _ (List.mem_of_getElem? (i := 37) rfl)) (hw _ (List.mem_of_getElem? (i := 78) rfl)) (notFace_of_selects (args := #[]) (mvT hZ (hw _ (List.mem_of_getElem? (i := 77) rfl)))) (by decide) (rmGt_size l Z a0 hw [] r32s x3 T32.heap n0 Z44 P32size ) (W := 0) (by decide) (by decide) e47 (by rw [hml]; rfl) P32e [] (lenOf pd11 rfl) rfl (S := []) rfl (Nat.le_of_eq rfl) (hb hby at_95) (q := 98) rfl (by decide) (by decide) (fun r49 T49 M49 X49 q49 => ?_)
    obtain ⟨rfl, M49n, e49⟩ := q49
    have N50 := Fr.app N48 M49n
    dsimp only [Option.toList, List.cons_append, List.nil_append]
    refine gLload X49 hx (hb hby at_98) (q := 100) rfl rfl ?_
    refine gLcmp X49 hx (hb hby at_100) (q := 101) rfl ?_
    refine gIfN X49 hx (hb hby at_101) (q := 104) rfl (XT.ll_ne_f rfl) ?_
    refine gAload X49 hx (hb hby at_104) (q := 106) rfl rfl rfl ?_
    refine gCallV X49 hx hZ hown (hw _ (List.mem_of_getElem? (i := 79) rfl)) (hw _ (List.mem_of_getElem? (i := 80) rfl)) (hw _ (List.mem_of_getElem? (i := 82) rfl)) (hw _ (List.mem_of_getElem? (i := 81) rfl)) (hw _ (List.mem_of_getElem? (i := 37) rfl)) (hw _ (List.mem_of_getElem? (i := 83) rfl)) (notFace_of_selects (args := #[]) (mvT hZ (hw _ (List.mem_of_getElem? (i := 82) rfl)))) (by decide) (rmGt_type l Z a0 hw [] r32s w9 T32.heap n0 Z44 P32type hw9) (W := 0) (by decide) (by decide) e49 (by rw [hml]; rfl) P32e [] (lenOf pd12 rfl) rfl (S := []) rfl (Nat.le_of_eq rfl) (hb hby at_106) (q := 109) rfl (by decide) (by decide) (fun r51 T51 M51 X51 q51 => ?_)
    obtain ⟨rfl, M51n, e51⟩ := q51
    have N52 := Fr.app N50 M51n
    dsimp only [Option.toList, List.cons_append, List.nil_append]
    refine gAload X51 hx (hb hby at_109) (q := 111) rfl rfl hw9 ?_
    refine gAcmpN X51 hx (hb hby at_111) (q := 114) rfl hw9 hw9 (XT.aa_ne_f rfl) ?_
    refine gAload X51 hx (hb hby at_114) (q := 116) rfl rfl rfl ?_
    refine gCallV X51 hx hZ hown (hw _ (List.mem_of_getElem? (i := 84) rfl)) (hw _ (List.mem_of_getElem? (i := 85) rfl)) (hw _ (List.mem_of_getElem? (i := 87) rfl)) (hw _ (List.mem_of_getElem? (i := 86) rfl)) (hw _ (List.mem_of_getElem? (i := 37) rfl)) (hw _ (List.mem_of_getElem? (i := 88) rfl)) (notFace_of_selects (args := #[]) (mvT hZ (hw _ (List.mem_of_getElem? (i := 87) rfl)))) (by decide) (rmGt_mode l Z a0 hw [] r32s (.ref v12) T32.heap n0 Z44 P32mode rfl) (W := 0) (by decide) (by decide) e51 (by rw [hml]; rfl) P32e [] (lenOf pd13 rfl) rfl (S := []) rfl (Nat.le_of_eq rfl) (hb hby at_116) (q := 119) rfl (by decide) (by decide) (fun r53 T53 M53 X53 q53 => ?_)
    obtain ⟨rfl, M53n, e53⟩ := q53
    have N54 := Fr.app N52 M53n
    dsimp only [Option.toList, List.cons_append, List.nil_append]
    refine gAload X53 hx (hb hby at_119) (q := 121) rfl rfl rfl ?_
    refine gAcmpN X53 hx (hb hby at_121) (q := 124) rfl rfl rfl (XT.aa_ne_f rfl) ?_
    refine gAload X53 hx (hb hby at_124) (q := 126) rfl rfl rfl ?_
    refine gCallV X53 hx hZ hown (hw _ (List.mem_of_getElem? (i := 64) rfl)) (hw _ (List.mem_of_getElem? (i := 65) rfl)) (hw _ (List.mem_of_getElem? (i := 67) rfl)) (hw _ (List.mem_of_getElem? (i := 66) rfl)) (hw _ (List.mem_of_getElem? (i := 37) rfl)) (hw _ (List.mem_of_getElem? (i := 68) rfl)) (notFace_of_selects (args := #[]) (mvT hZ (hw _ (List.mem_of_getElem? (i := 67) rfl)))) (by decide) (rmGt_name l Z a0 hw [] a15 w1 T32.heap n0 Z44 F38 hw1) (W := 0) (by decide) (by decide) e53 (by rw [hml]; rfl) E37 [] (lenOf pd10 rfl) rfl (S := []) rfl (Nat.le_of_eq rfl) (hb hby at_126) (q := 129) rfl (by decide) (by decide) (fun r55 T55 M55 X55 q55 => ?_)
    obtain ⟨rfl, M55n, e55⟩ := q55
    have N56 := Fr.app N54 M55n
    dsimp only [Option.toList, List.cons_append, List.nil_append]
    refine gAload X55 hx (hb hby at_129) (q := 131) rfl rfl hw1 ?_
    refine gAcmpN X55 hx (hb hby at_131) (q := 134) rfl hw1 hw1 (XT.aa_ne_f rfl) ?_
    refine gIconst X55 hx (1 : Int32) (hb hby at_134) (q := 135) rfl (by decide) ?_
    refine gGoto X55 hx (hb hby at_135) (q := 139) (by decide) (by decide) ?_
    exact gRetSZ X55 hx hZ hS hEL hlk hret (hb hby at_139) (by decide) (by decide) e55 kk36 C35h (Or.inr rfl) ⟨rfl, N56⟩
  by_cases c11 : ((XT.ushr x4 (2 : Int32)) &&& (1 : Int32)) = (0 : Int32)
  · refine gIfY X9 hx (hb hby at_25) (q := 34) (by decide) (by decide) (XT.i0_eq_t c11) ?_
    refine gGetS X9 hx hZ hown (hw _ (List.mem_of_getElem? (i := 32) rfl)) Via.refl e9 (Sta.ext O7.2 S_r1) (hb hby at_34) (q := 37) rfl (fun T57 X57 e57 => ?_)
    exact J25_13 T57 _ X57 e57 N10 _ (by first | rfl | (rw [if_pos c11]; done) | (simp only [if_pos c11]; done) | (simp only [if_pos c11]; done) | (simp only [if_pos c11, if_true, if_false]; done) | (exfalso; simp at c11; done))
  · refine gIfN X9 hx (hb hby at_25) (q := 28) rfl (XT.i0_eq_f c11) ?_
    refine gGetS X9 hx hZ hown (hw _ (List.mem_of_getElem? (i := 91) rfl)) Via.refl e9 (Sta.ext O7.2 S_r3) (hb hby at_28) (q := 31) rfl (fun T58 X58 e58 => ?_)
    refine gGoto X58 hx (hb hby at_31) (q := 37) (by decide) (by decide) ?_
    exact J25_13 T58 _ X58 e58 N10 _ (by first | rfl | (rw [if_neg c11]; done) | (simp only [if_neg c11]; done) | (simp only [if_neg c11]; done) | (simp only [if_neg c11, if_true, if_false]; done) | (exfalso; simp at c11; done))
set_option maxRecDepth 65536 in
set_option maxHeartbeats 40000000 in
theorem comes_1 {Post : Tables → Env → Array Value → State → Outcome → State → Prop} (hpost : ∀ tb e args s v u, (limb_1_1.after args s (.returned v) u = true ∧ limb_1_2.after args s (.returned v) u = true ∧ True) → FramedW s (.returned v) u (Jvm.fieldLocs frame_1_writes args s ++ Jvm.arrayLocs frame_1_arrays args s ++ Jvm.staticLocs frame_1_statics s) 32 1152 → Post tb e args s (.returned v) u) :
    ArmFor flags0 classFile x code maxLocals ret World_1 tables_1 room_1 Calls_1 rest_1 Pre_1 Post := by
  intro l hfl _ _ p e ha hc hk s m args below hf hA hF happ hP
  obtain ⟨hcalls, hrest, hpre⟩ := hP
  obtain ⟨-, -, -, hnamed, -, -, -, hat⟩ := (Spec.applies_iff hf).mp happ
  obtain ⟨hg, hn⟩ := and_e (Cond.before_iff.mp (show (Jvm.Cond.and given_1 narrow_1).before args s = true from hpre))
  obtain ⟨hcount, hg⟩ := and_e hg
  obtain ⟨hk0, hg⟩ := and_e hg
  obtain ⟨hk1, hg⟩ := and_e hg
  obtain ⟨hk2, hg⟩ := and_e hg
  obtain ⟨hk3, hg⟩ := and_e hg
  have hk4 := hg
  obtain ⟨w0, w1, w2, w3, w4, rfl⟩ : ∃ w0 w1 w2 w3 w4 : Value, args = #[w0, w1, w2, w3, w4] := by
    have hs : args.size = 5 := by simpa [Cond.value, given_1] using hcount
    obtain ⟨L⟩ := args
    match L, hs with
    | [w0, w1, w2, w3, w4], _ => exact ⟨w0, w1, w2, w3, w4, rfl⟩
  have hw := fun d (hd : d ∈ tables_1) => atoms_spec (ws := Jvm.Cond.code x code maxLocals ret :: tables_1) hat d (List.mem_cons_of_mem _ hd)
  have hfit : Fit s := fun {y c} hc i hi => by
    obtain ⟨ha, rfl⟩ := Array.getElem?_eq_some_iff.mp hc
    have q := List.all_eq_true.mp ((Array.all_eq_true_iff_forall_mem.mp hF) _ (Array.getElem_mem ha)) i (List.mem_range.mpr hi)
    simpa [Array.getElem?_eq_getElem hi] using q
  obtain ⟨i0, hi0⟩ := is_v hk0
  obtain rfl : w0 = (.int i0) := Option.some.inj hi0
  obtain ⟨i1, hi1⟩ := is_v hk1
  obtain rfl : w1 = (.int i1) := Option.some.inj hi1
  obtain ⟨i2, hi2⟩ := isL_v hk2
  obtain rfl : w2 = (.long i2) := Option.some.inj hi2
  obtain ⟨i3, hi3⟩ := isL_v hk3
  obtain rfl : w3 = (.long i3) := Option.some.inj hi3
  obtain ⟨i4, hi4⟩ := is_v hk4
  obtain rfl : w4 = (.int i4) := Option.some.inj hi4
  obtain ⟨na0, hn⟩ := and_e hn
  obtain ⟨na1, hn⟩ := and_e hn
  obtain ⟨na2, hn⟩ := and_e hn
  obtain ⟨na3, hn⟩ := and_e hn
  have na4 := hn
  obtain ⟨r0, ev_r0⟩ := exa_v na0
  have E_r0 := Exa.start ev_r0 na0
  have S_r0 : Sta s s.heap "com/example/oridune/oridune/core/Symbol$Type" "LABEL" "Lcom/example/oridune/oridune/core/Symbol$Type;" (.ref r0) := Sta.start ev_r0 (Or.inr ⟨(hw _ (List.mem_of_getElem? (i := 30) rfl)), (hw _ (List.mem_of_getElem? (i := 31) rfl))⟩)
  obtain ⟨r1, ev_r1⟩ := exa_v na1
  have E_r1 := Exa.start ev_r1 na1
  have S_r1 : Sta s s.heap "com/example/oridune/oridune/core/CodeMode" "DEFAULT" "Lcom/example/oridune/oridune/core/CodeMode;" (.ref r1) := Sta.start ev_r1 (Or.inr ⟨(hw _ (List.mem_of_getElem? (i := 33) rfl)), (hw _ (List.mem_of_getElem? (i := 34) rfl))⟩)
  obtain ⟨r2, ev_r2⟩ := exa_v na2
  have E_r2 := Exa.start ev_r2 na2
  have S_r2 : Sta s s.heap "com/example/oridune/oridune/core/Symbol$Type" "FUNCTION" "Lcom/example/oridune/oridune/core/Symbol$Type;" (.ref r2) := Sta.start ev_r2 (Or.inr ⟨(hw _ (List.mem_of_getElem? (i := 30) rfl)), (hw _ (List.mem_of_getElem? (i := 90) rfl))⟩)
  obtain ⟨r3, ev_r3⟩ := exa_v na3
  have E_r3 := Exa.start ev_r3 na3
  have S_r3 : Sta s s.heap "com/example/oridune/oridune/core/CodeMode" "THUMB" "Lcom/example/oridune/oridune/core/CodeMode;" (.ref r3) := Sta.start ev_r3 (Or.inr ⟨(hw _ (List.mem_of_getElem? (i := 33) rfl)), (hw _ (List.mem_of_getElem? (i := 92) rfl))⟩)
  obtain ⟨r4, ev_r4⟩ := exa_v na4
  have E_r4 := Exa.start ev_r4 na4
  have S_r4 : Sta s s.heap "com/example/oridune/oridune/core/Symbol$Type" "DATA" "Lcom/example/oridune/oridune/core/Symbol$Type;" (.ref r4) := Sta.start ev_r4 (Or.inr ⟨(hw _ (List.mem_of_getElem? (i := 30) rfl)), (hw _ (List.mem_of_getElem? (i := 105) rfl))⟩)
  obtain ⟨hsets, hown0⟩ := atoms_of _ (rest_1_c_eq ▸ (show rest_1_c.before _ s = true from hrest))
  obtain ⟨ic, evc⟩ := is_v (Cond.before_iff.mp (hsets _ (List.mem_of_getElem? (i := 1) rfl)))
  have SCs := Sta.start evc (Or.inl (hsets _ (List.mem_of_getElem? (i := 0) rfl)))
  have hcompact := hsets _ (List.mem_of_getElem? (i := 2) rfl)
  have hic : ¬ ic = (0 : Int32) := gotF (Cond.eq_ints evc (Term.int_eval 0)) (not_v (Cond.before_iff.mp hcompact))
  obtain ⟨n, o, h1, h2, h3, _, L, rfl, ⟨rfl, N⟩, -, hq⟩ := rm0 l s _ hw tables_1 (own_EW hw) i0 i1 i2 i3 i4 r0 r1 r2 r3 r4 ic s.heap s.heap.size (Nat.le_refl _) S_r0 E_r0 S_r1 E_r1 S_r2 E_r2 S_r3 E_r3 S_r4 E_r4 SCs hic (Old.start s) p e ha hc hk s m _ below hf ((Spec.applies_iff_loose hf).mp happ).1 ⟨rfl, State.Warmed39.refl s, rfl, CHv.start (own_EW hw) (fun p hp => hcalls.1 p hp) hcompact (hw _ (List.mem_of_getElem? (i := 19) rfl)) (hw _ (List.mem_of_getElem? (i := 5) rfl))⟩ trivial
  refine ⟨n, _, h1, h2, h3, hpost _ _ _ _ _ _ ⟨Cond.after_iff.mpr rfl, Cond.after_iff.mpr (eq_i res_at (Term.int_eval (1)) rfl), trivial⟩ ⟨hq.1, hq.2.1, hq.2.2.1, (hq.2.2.2.sift fun y hy => Or.inr (N y hy)).mono (by decide) (by decide)⟩⟩
theorem main_1_1 : Claimed_1_1 := comes_1 fun _ _ _ _ _ _ h hF => ⟨h.1, hF⟩
theorem main_1_2 : Claimed_1_2 := comes_1 fun _ _ _ _ _ _ h hF => ⟨h.2.1, hF⟩
end Jvm.Pilot.@@N@@
namespace Jvm.Pilot.@@N@@
open Jvm Jvm.ClassFile Sem Op Lib Jvm.Free Jvm.Stand Jvm.Pilot.@@N@@.Jvm.D
/-! MADE BY PROGRAM (witnessworld.py) out of the Statement's table words and the real class files: 24 classes; the members and pool entries that the words name. The judged class is class 1, her method 3. -/
namespace start1
open Jvm.ClassFile
def u (s : String) : CpInfo := .utf8 (stringToUtf16 s)
/-- a pool by its gaps: so many unusable entries, then the entry; so many at the end -/
def gap : Nat → List CpInfo → List CpInfo
  | 0, r => r
  | n + 1, r => .unusable :: gap n r
def poolList (es : List (Nat × CpInfo)) (last : Nat) : List CpInfo := es.foldr (fun e r => gap e.1 (e.2 :: r)) (gap last [])
def pool (es : List (Nat × CpInfo)) (last : Nat) : Array CpInfo := ⟨poolList es last⟩
def fileOf (pool : Array CpInfo) (this : Nat) (attrs : Array Attribute := #[]) (ms : Array MethodInfo := #[]) (fl : Nat := 33) (sup : Nat := 0) (ifs : Array Nat := #[]) (fds : Array FieldInfo := #[]) : ClassFile where
  minorVersion := 0
  majorVersion := 65
  constantPool := pool
  accessFlags := fl
  thisClass := this
  superClass := sup
  interfaces := ifs
  fields := fds
  methods := ms
  attributes := attrs
def plain (name : String) (sup : Option ClassId) : Class where
  name := name
  kind := .ordinary
  loader := none
  accessFlags := 33
  super := sup
  interfaces := #[]
  cf := none
  fields := #[]
  methods := #[]
  instanceTypes := #[]
  staticTypes := #[]
  resolved := #[]
  callSites := []
  init := .initialized
  statics := none
  mirror := none

def pool0 : Array CpInfo := pool [(5, u "<init>"), (0, u "()V"), (1, .class_ 10), (1, u "java/lang/Object")] 113

def k0c0 : Code := { maxStack := 0, maxLocals := 1, code := object_method_1_code, exceptionTable := #[], attributes := #[] }
def k0m0 : Method := { name := "<init>", desc := "()V", sig := { parameters := [], returnType := none }, accessFlags := 1, code := some k0c0 }
/-- java/lang/Object -/
def k0 : Class := { plain "java/lang/Object" none with
  accessFlags := 33
  interfaces := #[]
  cf := some (fileOf pool0 8 #[] #[{ accessFlags := 1, nameIndex := 5, descriptorIndex := 6, attributes := #[] }] 33 0 #[] #[])
  fields := #[]
  methods := #[k0m0]
  instanceTypes := #[]
  staticTypes := #[]
  resolved := Array.replicate 124 none
  statics := none }

def pool1 : Array CpInfo := pool [(2, .class_ 4), (1, u "java/lang/Object"), (0, u "<init>"), (0, u "()V"), (0, .class_ 8), (0, u "java/lang/String"), (0, .methodref 7 10), (0, .nameAndType 5 11), (0, u "([C)V"), (0, .fieldref 13 14), (0, .class_ 15), (0, .nameAndType 16 17), (0, u "com/example/oridune/oridune/core/Symbol$Type"), (0, u "FUNCTION"), (0, u "Lcom/example/oridune/oridune/core/Symbol$Type;"), (0, .fieldref 13 19), (0, .nameAndType 20 17), (0, u "DATA"), (0, .fieldref 13 22), (0, .nameAndType 23 17), (0, u "LABEL"), (0, .methodref 25 26), (0, .class_ 27), (0, .nameAndType 28 29), (0, u "com/example/oridune/oridune/core/SymbolNamedPinLaw"), (0, u "str"), (0, u "(I)Ljava/lang/String;"), (0, .methodref 25 31), (0, .nameAndType 32 33), (0, u "type"), (0, u "(I)Lcom/example/oridune/oridune/core/Symbol$Type;"), (0, .fieldref 35 36), (0, .class_ 37), (0, .nameAndType 38 39), (0, u "com/example/oridune/oridune/core/CodeMode"), (0, u "THUMB"), (0, u "Lcom/example/oridune/oridune/core/CodeMode;"), (0, .fieldref 35 41), (0, .nameAndType 42 39), (0, u "DEFAULT"), (0, .class_ 44), (0, u "com/example/oridune/oridune/core/Symbol"), (0, .methodref 43 46), (0, .nameAndType 5 47), (0, u "(Ljava/lang/String;JJLcom/example/oridune/oridune/core/Symbol$Type;Lcom/example/oridune/oridune/core/CodeMode;)V"), (0, .methodref 43 49), (0, .nameAndType 50 51), (0, u "named"), (0, u "(Ljava/lang/String;)Lcom/example/oridune/oridune/core/Symbol;"), (0, .methodref 43 53), (0, .nameAndType 54 55), (0, u "name"), (0, u "()Ljava/lang/String;"), (0, .methodref 43 57), (0, .nameAndType 58 59), (0, u "address"), (0, u "()J"), (0, .methodref 43 61), (0, .nameAndType 62 59), (0, u "size"), (0, .methodref 43 64), (0, .nameAndType 32 65), (0, u "()Lcom/example/oridune/oridune/core/Symbol$Type;"), (0, .methodref 43 67), (0, .nameAndType 68 69), (0, u "mode"), (0, u "()Lcom/example/oridune/oridune/core/CodeMode;"), (3, u "law"), (0, u "(IIJJI)Z")] 4

def k1m0 : Method := { name := "<init>", desc := "()V", sig := { parameters := [], returnType := none }, accessFlags := 1, code := none }
def k1c1 : Code := { maxStack := 6, maxLocals := 4, code := method_2_code, exceptionTable := #[], attributes := #[] }
def k1m1 : Method := { name := "str", desc := "(I)Ljava/lang/String;", sig := { parameters := [.int], returnType := some (.object "java/lang/String") }, accessFlags := 10, code := some k1c1 }
def k1c2 : Code := { maxStack := 2, maxLocals := 2, code := method_3_code, exceptionTable := #[], attributes := #[] }
def k1m2 : Method := { name := "type", desc := "(I)Lcom/example/oridune/oridune/core/Symbol$Type;", sig := { parameters := [.int], returnType := some (.object "com/example/oridune/oridune/core/Symbol$Type") }, accessFlags := 10, code := some k1c2 }
def k1c3 : Code := { maxStack := 9, maxLocals := 13, code := code, exceptionTable := #[], attributes := #[] }
def k1m3 : Method := { name := "law", desc := "(IIJJI)Z", sig := { parameters := [.int, .int, .long, .long, .int], returnType := some .boolean }, accessFlags := 9, code := some k1c3 }
/-- com/example/oridune/oridune/core/SymbolNamedPinLaw -/
def k1 : Class := { plain "com/example/oridune/oridune/core/SymbolNamedPinLaw" (some 0) with
  accessFlags := 49
  interfaces := #[]
  cf := some (fileOf pool1 25 #[] #[{ accessFlags := 1, nameIndex := 5, descriptorIndex := 6, attributes := #[] }, { accessFlags := 10, nameIndex := 28, descriptorIndex := 29, attributes := #[] }, { accessFlags := 10, nameIndex := 32, descriptorIndex := 33, attributes := #[] }, { accessFlags := 9, nameIndex := 73, descriptorIndex := 74, attributes := #[] }] 49 2 #[] #[])
  fields := #[]
  methods := #[k1m0, k1m1, k1m2, k1m3]
  instanceTypes := #[]
  staticTypes := #[]
  resolved := Array.replicate 79 none
  statics := none }

def pool2 : Array CpInfo := pool [(1, .class_ 2), (0, u "java/io/Serializable"), (0, .class_ 4), (0, u "java/lang/Object")] 2

/-- java/io/Serializable -/
def k2 : Class := { plain "java/io/Serializable" (some 0) with
  accessFlags := 1537
  interfaces := #[]
  cf := some (fileOf pool2 1 #[] #[] 1537 3 #[] #[])
  fields := #[]
  methods := #[]
  instanceTypes := #[]
  staticTypes := #[]
  resolved := Array.replicate 7 none
  statics := none }

def pool3 : Array CpInfo := pool [(1, .class_ 2), (0, u "java/lang/Comparable"), (0, .class_ 4), (0, u "java/lang/Object")] 7

/-- java/lang/Comparable -/
def k3 : Class := { plain "java/lang/Comparable" (some 0) with
  accessFlags := 1537
  interfaces := #[]
  cf := some (fileOf pool3 1 #[] #[] 1537 3 #[] #[])
  fields := #[]
  methods := #[]
  instanceTypes := #[]
  staticTypes := #[]
  resolved := Array.replicate 12 none
  statics := none }

def pool4 : Array CpInfo := pool [(2, .class_ 4), (1, u "java/lang/CharSequence"), (42, .class_ 48), (0, u "java/lang/CharSequence$1CodePointIterator"), (10, .class_ 60), (0, u "java/lang/CharSequence$1CharIterator"), (5, .class_ 67), (0, u "java/lang/Object")] 63

/-- java/lang/CharSequence -/
def k4 : Class := { plain "java/lang/CharSequence" (some 0) with
  accessFlags := 1537
  interfaces := #[]
  cf := some (fileOf pool4 2 #[.nestMembers #[47, 59]] #[] 1537 66 #[] #[])
  fields := #[]
  methods := #[]
  instanceTypes := #[]
  staticTypes := #[]
  resolved := Array.replicate 131 none
  statics := none }

def pool5 : Array CpInfo := pool [(1, .class_ 2), (0, u "java/lang/constant/Constable"), (0, .class_ 4), (0, u "java/lang/Object")] 6

/-- java/lang/constant/Constable -/
def k5 : Class := { plain "java/lang/constant/Constable" (some 0) with
  accessFlags := 1537
  interfaces := #[]
  cf := some (fileOf pool5 1 #[] #[] 1537 3 #[] #[])
  fields := #[]
  methods := #[]
  instanceTypes := #[]
  staticTypes := #[]
  resolved := Array.replicate 11 none
  statics := none }

def pool6 : Array CpInfo := pool [(1, .class_ 2), (0, u "java/lang/constant/ConstantDesc"), (0, .class_ 4), (0, u "java/lang/Object")] 32

/-- java/lang/constant/ConstantDesc -/
def k6 : Class := { plain "java/lang/constant/ConstantDesc" (some 0) with
  accessFlags := 1537
  interfaces := #[]
  cf := some (fileOf pool6 1 #[] #[] 1537 3 #[] #[])
  fields := #[]
  methods := #[]
  instanceTypes := #[]
  staticTypes := #[]
  resolved := Array.replicate 37 none
  statics := none }

def pool7 : Array CpInfo := pool [(1, .methodref 2 3), (0, .class_ 4), (0, .nameAndType 5 6), (0, u "java/lang/Object"), (0, u "<init>"), (0, u "()V"), (0, .string 8), (0, u ""), (0, .fieldref 10 11), (0, .class_ 12), (0, .nameAndType 13 14), (0, u "java/lang/String"), (0, u "value"), (0, u "[B"), (0, .fieldref 10 16), (0, .nameAndType 17 18), (0, u "coder"), (0, u "B"), (2, u "hash"), (0, u "I"), (2, u "hashIsZero"), (0, u "Z"), (0, .methodref 10 28), (0, .nameAndType 5 29), (0, u "([CIILjava/lang/Void;)V"), (8, .fieldref 10 39), (0, .nameAndType 40 26), (0, u "COMPACT_STRINGS"), (1, .class_ 44), (1, u "java/lang/StringUTF16"), (0, u "compress"), (1, .methodref 42 48), (0, .nameAndType 49 50), (0, u "coderFromArrayLen"), (0, u "([BI)B"), (126, .methodref 42 178), (0, .nameAndType 45 179), (0, u "([CII)[B"), (395, .class_ 576), (0, u "java/lang/CharSequence"), (22, u "CASE_INSENSITIVE_ORDER"), (0, u "Ljava/util/Comparator;"), (409, u "([C)V"), (90, u "serialPersistentFields"), (0, u "[Ljava/io/ObjectStreamField;"), (0, .class_ 1104), (0, u "java/lang/String$CaseInsensitiveComparator"), (1, .class_ 1107), (0, u "java/io/Serializable"), (0, .class_ 1109), (0, u "java/lang/Comparable"), (0, .class_ 1111), (0, u "java/lang/constant/Constable"), (0, .class_ 1113), (0, u "java/lang/constant/ConstantDesc"), (2, u "serialVersionUID"), (0, u "J"), (3, u "REPL"), (0, u "C"), (2, u "LATIN1"), (1, u "UTF16")] 323

def k7m0 : Method := { name := "<init>", desc := "()V", sig := { parameters := [], returnType := none }, accessFlags := 1, code := none }
def k7c1 : Code := { maxStack := 5, maxLocals := 2, code := jdk_42_method_3_code, exceptionTable := #[], attributes := #[] }
def k7m1 : Method := { name := "<init>", desc := "([C)V", sig := { parameters := [(.array .char)], returnType := none }, accessFlags := 1, code := some k7c1 }
def k7c2 : Code := { maxStack := 4, maxLocals := 6, code := jdk_42_method_149_code, exceptionTable := #[], attributes := #[] }
def k7m2 : Method := { name := "<init>", desc := "([CIILjava/lang/Void;)V", sig := { parameters := [(.array .char), .int, .int, (.object "java/lang/Void")], returnType := none }, accessFlags := 2, code := some k7c2 }
/-- java/lang/String -/
def k7 : Class := { plain "java/lang/String" (some 0) with
  accessFlags := 49
  interfaces := #[2, 3, 4, 5, 6]
  cf := some (fileOf pool7 10 #[.nestMembers #[1103]] #[{ accessFlags := 1, nameIndex := 5, descriptorIndex := 6, attributes := #[] }, { accessFlags := 1, nameIndex := 5, descriptorIndex := 1010, attributes := #[] }, { accessFlags := 2, nameIndex := 5, descriptorIndex := 29, attributes := #[] }] 49 2 #[1106, 1108, 575, 1110, 1112] #[{ accessFlags := 18, nameIndex := 13, descriptorIndex := 14, attributes := #[] }, { accessFlags := 18, nameIndex := 17, descriptorIndex := 18, attributes := #[] }, { accessFlags := 2, nameIndex := 21, descriptorIndex := 22, attributes := #[] }, { accessFlags := 2, nameIndex := 25, descriptorIndex := 26, attributes := #[] }, { accessFlags := 26, nameIndex := 1116, descriptorIndex := 1117, attributes := #[] }, { accessFlags := 24, nameIndex := 40, descriptorIndex := 26, attributes := #[] }, { accessFlags := 26, nameIndex := 1101, descriptorIndex := 1102, attributes := #[] }, { accessFlags := 26, nameIndex := 1121, descriptorIndex := 1122, attributes := #[] }, { accessFlags := 25, nameIndex := 599, descriptorIndex := 600, attributes := #[] }, { accessFlags := 24, nameIndex := 1125, descriptorIndex := 18, attributes := #[] }, { accessFlags := 24, nameIndex := 1127, descriptorIndex := 18, attributes := #[] }])
  fields := #[{ name := "value", type := (.array .byte), accessFlags := 18, slot := 0, constantValue := 0 }, { name := "coder", type := .byte, accessFlags := 18, slot := 1, constantValue := 0 }, { name := "hash", type := .int, accessFlags := 2, slot := 2, constantValue := 0 }, { name := "hashIsZero", type := .boolean, accessFlags := 2, slot := 3, constantValue := 0 }, { name := "serialVersionUID", type := .long, accessFlags := 26, slot := 0, constantValue := 0 }, { name := "COMPACT_STRINGS", type := .boolean, accessFlags := 24, slot := 1, constantValue := 0 }, { name := "serialPersistentFields", type := (.array (.object "java/io/ObjectStreamField")), accessFlags := 26, slot := 2, constantValue := 0 }, { name := "REPL", type := .char, accessFlags := 26, slot := 3, constantValue := 0 }, { name := "CASE_INSENSITIVE_ORDER", type := (.object "java/util/Comparator"), accessFlags := 25, slot := 4, constantValue := 0 }, { name := "LATIN1", type := .byte, accessFlags := 24, slot := 5, constantValue := 0 }, { name := "UTF16", type := .byte, accessFlags := 24, slot := 6, constantValue := 0 }]
  methods := #[k7m0, k7m1, k7m2]
  instanceTypes := #[(.array .byte), .byte, .int, .boolean]
  staticTypes := #[.long, .boolean, (.array (.object "java/io/ObjectStreamField")), .char, (.object "java/util/Comparator"), .byte, .byte]
  resolved := Array.replicate 1451 none
  statics := some 0 }

def pool8 : Array CpInfo := pool [(2, .class_ 4), (1, u "java/lang/Enum"), (0, u "name"), (0, u "Ljava/lang/String;"), (2, u "ordinal"), (0, u "I"), (1, .class_ 14), (1, u "java/lang/Object"), (4, u "hash"), (86, .class_ 108), (1, u "java/lang/Enum$EnumDesc"), (2, .class_ 112), (0, u "java/lang/constant/Constable"), (0, .class_ 114), (0, u "java/lang/Comparable"), (0, .class_ 116), (0, u "java/io/Serializable")] 87

/-- java/lang/Enum -/
def k8 : Class := { plain "java/lang/Enum" (some 0) with
  accessFlags := 1057
  interfaces := #[5, 3, 2]
  cf := some (fileOf pool8 2 #[.nestMembers #[106]] #[] 1057 12 #[111, 113, 115] #[{ accessFlags := 18, nameIndex := 5, descriptorIndex := 6, attributes := #[] }, { accessFlags := 18, nameIndex := 9, descriptorIndex := 10, attributes := #[] }, { accessFlags := 2, nameIndex := 19, descriptorIndex := 10, attributes := #[] }])
  fields := #[{ name := "name", type := (.object "java/lang/String"), accessFlags := 18, slot := 0, constantValue := 0 }, { name := "ordinal", type := .int, accessFlags := 18, slot := 1, constantValue := 0 }, { name := "hash", type := .int, accessFlags := 2, slot := 2, constantValue := 0 }]
  methods := #[]
  instanceTypes := #[(.object "java/lang/String"), .int, .int]
  staticTypes := #[]
  resolved := Array.replicate 204 none
  statics := none }

def pool9 : Array CpInfo := pool [(1, .class_ 2), (0, u "com/example/oridune/oridune/core/Symbol$Type"), (2, u "FUNCTION"), (0, u "Lcom/example/oridune/oridune/core/Symbol$Type;"), (2, u "DATA"), (2, u "LABEL"), (2, u "$VALUES"), (0, u "[Lcom/example/oridune/oridune/core/Symbol$Type;"), (6, .class_ 25), (1, u "java/lang/Enum"), (43, .class_ 70), (0, u "com/example/oridune/oridune/core/Symbol")] 2

/-- com/example/oridune/oridune/core/Symbol$Type -/
def k9 : Class := { plain "com/example/oridune/oridune/core/Symbol$Type" (some 8) with
  accessFlags := 16433
  interfaces := #[]
  cf := some (fileOf pool9 1 #[.nestHost 69] #[] 16433 23 #[] #[{ accessFlags := 16409, nameIndex := 5, descriptorIndex := 6, attributes := #[] }, { accessFlags := 16409, nameIndex := 9, descriptorIndex := 6, attributes := #[] }, { accessFlags := 16409, nameIndex := 12, descriptorIndex := 6, attributes := #[] }, { accessFlags := 4122, nameIndex := 15, descriptorIndex := 16, attributes := #[] }])
  fields := #[{ name := "FUNCTION", type := (.object "com/example/oridune/oridune/core/Symbol$Type"), accessFlags := 16409, slot := 0, constantValue := 0 }, { name := "DATA", type := (.object "com/example/oridune/oridune/core/Symbol$Type"), accessFlags := 16409, slot := 1, constantValue := 0 }, { name := "LABEL", type := (.object "com/example/oridune/oridune/core/Symbol$Type"), accessFlags := 16409, slot := 2, constantValue := 0 }, { name := "$VALUES", type := (.array (.object "com/example/oridune/oridune/core/Symbol$Type")), accessFlags := 4122, slot := 3, constantValue := 0 }]
  methods := #[]
  instanceTypes := #[(.object "java/lang/String"), .int, .int]
  staticTypes := #[(.object "com/example/oridune/oridune/core/Symbol$Type"), (.object "com/example/oridune/oridune/core/Symbol$Type"), (.object "com/example/oridune/oridune/core/Symbol$Type"), (.array (.object "com/example/oridune/oridune/core/Symbol$Type"))]
  resolved := Array.replicate 73 none
  statics := some 1 }

def pool10 : Array CpInfo := pool [(1, .class_ 2), (0, u "com/example/oridune/oridune/core/CodeMode"), (2, u "DEFAULT"), (0, u "Lcom/example/oridune/oridune/core/CodeMode;"), (2, u "THUMB"), (2, u "$VALUES"), (0, u "[Lcom/example/oridune/oridune/core/CodeMode;"), (6, .class_ 22), (1, u "java/lang/Enum")] 24

/-- com/example/oridune/oridune/core/CodeMode -/
def k10 : Class := { plain "com/example/oridune/oridune/core/CodeMode" (some 8) with
  accessFlags := 16433
  interfaces := #[]
  cf := some (fileOf pool10 1 #[] #[] 16433 20 #[] #[{ accessFlags := 16409, nameIndex := 5, descriptorIndex := 6, attributes := #[] }, { accessFlags := 16409, nameIndex := 9, descriptorIndex := 6, attributes := #[] }, { accessFlags := 4122, nameIndex := 12, descriptorIndex := 13, attributes := #[] }])
  fields := #[{ name := "DEFAULT", type := (.object "com/example/oridune/oridune/core/CodeMode"), accessFlags := 16409, slot := 0, constantValue := 0 }, { name := "THUMB", type := (.object "com/example/oridune/oridune/core/CodeMode"), accessFlags := 16409, slot := 1, constantValue := 0 }, { name := "$VALUES", type := (.array (.object "com/example/oridune/oridune/core/CodeMode")), accessFlags := 4122, slot := 2, constantValue := 0 }]
  methods := #[]
  instanceTypes := #[(.object "java/lang/String"), .int, .int]
  staticTypes := #[(.object "com/example/oridune/oridune/core/CodeMode"), (.object "com/example/oridune/oridune/core/CodeMode"), (.array (.object "com/example/oridune/oridune/core/CodeMode"))]
  resolved := Array.replicate 47 none
  statics := some 2 }

def pool11 : Array CpInfo := pool [(1, .methodref 2 3), (0, .class_ 4), (0, .nameAndType 5 6), (0, u "java/lang/Object"), (0, u "<init>"), (0, u "()V"), (0, .class_ 8), (0, u "java/lang/Record")] 13

def k11c0 : Code := { maxStack := 1, maxLocals := 1, code := jdk_30_method_1_code, exceptionTable := #[], attributes := #[] }
def k11m0 : Method := { name := "<init>", desc := "()V", sig := { parameters := [], returnType := none }, accessFlags := 4, code := some k11c0 }
/-- java/lang/Record -/
def k11 : Class := { plain "java/lang/Record" (some 0) with
  accessFlags := 1057
  interfaces := #[]
  cf := some (fileOf pool11 7 #[] #[{ accessFlags := 4, nameIndex := 5, descriptorIndex := 6, attributes := #[] }] 1057 2 #[] #[])
  fields := #[]
  methods := #[k11m0]
  instanceTypes := #[]
  staticTypes := #[]
  resolved := Array.replicate 22 none
  statics := none }

def pool12 : Array CpInfo := pool [(1, .methodref 2 3), (0, .class_ 4), (0, .nameAndType 5 6), (0, u "java/lang/Record"), (0, u "<init>"), (0, u "()V"), (0, .fieldref 8 9), (0, .class_ 10), (0, .nameAndType 11 12), (0, u "com/example/oridune/oridune/core/Symbol"), (0, u "name"), (0, u "Ljava/lang/String;"), (0, .fieldref 8 14), (0, .nameAndType 15 16), (0, u "address"), (0, u "J"), (0, .fieldref 8 18), (0, .nameAndType 19 16), (0, u "size"), (0, .fieldref 8 21), (0, .nameAndType 22 23), (0, u "type"), (0, u "Lcom/example/oridune/oridune/core/Symbol$Type;"), (0, .fieldref 8 25), (0, .nameAndType 26 27), (0, u "mode"), (0, u "Lcom/example/oridune/oridune/core/CodeMode;"), (5, .methodref 8 34), (0, .nameAndType 5 35), (0, u "(Ljava/lang/String;JJLcom/example/oridune/oridune/core/Symbol$Type;Lcom/example/oridune/oridune/core/CodeMode;)V"), (28, u "BY_ADDRESS"), (0, u "Ljava/util/Comparator;"), (6, u "named"), (0, u "(Ljava/lang/String;)Lcom/example/oridune/oridune/core/Symbol;"), (0, u "()Ljava/lang/String;"), (2, u "()J"), (0, u "()Lcom/example/oridune/oridune/core/Symbol$Type;"), (0, u "()Lcom/example/oridune/oridune/core/CodeMode;"), (4, .class_ 85), (0, u "com/example/oridune/oridune/core/Symbol$Type")] 48

def k12c0 : Code := { maxStack := 3, maxLocals := 8, code := prog_43_method_2_code, exceptionTable := #[], attributes := #[] }
def k12m0 : Method := { name := "<init>", desc := "(Ljava/lang/String;JJLcom/example/oridune/oridune/core/Symbol$Type;Lcom/example/oridune/oridune/core/CodeMode;)V", sig := { parameters := [(.object "java/lang/String"), .long, .long, (.object "com/example/oridune/oridune/core/Symbol$Type"), (.object "com/example/oridune/oridune/core/CodeMode")], returnType := none }, accessFlags := 1, code := some k12c0 }
def k12c1 : Code := { maxStack := 9, maxLocals := 2, code := prog_43_method_3_code, exceptionTable := #[], attributes := #[] }
def k12m1 : Method := { name := "named", desc := "(Ljava/lang/String;)Lcom/example/oridune/oridune/core/Symbol;", sig := { parameters := [(.object "java/lang/String")], returnType := some (.object "com/example/oridune/oridune/core/Symbol") }, accessFlags := 1, code := some k12c1 }
def k12c2 : Code := { maxStack := 1, maxLocals := 1, code := prog_43_method_7_code, exceptionTable := #[], attributes := #[] }
def k12m2 : Method := { name := "name", desc := "()Ljava/lang/String;", sig := { parameters := [], returnType := some (.object "java/lang/String") }, accessFlags := 1, code := some k12c2 }
def k12c3 : Code := { maxStack := 2, maxLocals := 1, code := prog_43_method_8_code, exceptionTable := #[], attributes := #[] }
def k12m3 : Method := { name := "address", desc := "()J", sig := { parameters := [], returnType := some .long }, accessFlags := 1, code := some k12c3 }
def k12c4 : Code := { maxStack := 2, maxLocals := 1, code := prog_43_method_9_code, exceptionTable := #[], attributes := #[] }
def k12m4 : Method := { name := "size", desc := "()J", sig := { parameters := [], returnType := some .long }, accessFlags := 1, code := some k12c4 }
def k12c5 : Code := { maxStack := 1, maxLocals := 1, code := prog_43_method_10_code, exceptionTable := #[], attributes := #[] }
def k12m5 : Method := { name := "type", desc := "()Lcom/example/oridune/oridune/core/Symbol$Type;", sig := { parameters := [], returnType := some (.object "com/example/oridune/oridune/core/Symbol$Type") }, accessFlags := 1, code := some k12c5 }
def k12c6 : Code := { maxStack := 1, maxLocals := 1, code := prog_43_method_11_code, exceptionTable := #[], attributes := #[] }
def k12m6 : Method := { name := "mode", desc := "()Lcom/example/oridune/oridune/core/CodeMode;", sig := { parameters := [], returnType := some (.object "com/example/oridune/oridune/core/CodeMode") }, accessFlags := 1, code := some k12c6 }
/-- com/example/oridune/oridune/core/Symbol -/
def k12 : Class := { plain "com/example/oridune/oridune/core/Symbol" (some 11) with
  accessFlags := 49
  interfaces := #[]
  cf := some (fileOf pool12 8 #[.nestMembers #[84]] #[{ accessFlags := 1, nameIndex := 5, descriptorIndex := 35, attributes := #[] }, { accessFlags := 1, nameIndex := 72, descriptorIndex := 73, attributes := #[] }, { accessFlags := 1, nameIndex := 11, descriptorIndex := 74, attributes := #[] }, { accessFlags := 1, nameIndex := 15, descriptorIndex := 77, attributes := #[] }, { accessFlags := 1, nameIndex := 19, descriptorIndex := 77, attributes := #[] }, { accessFlags := 1, nameIndex := 22, descriptorIndex := 78, attributes := #[] }, { accessFlags := 1, nameIndex := 26, descriptorIndex := 79, attributes := #[] }] 49 2 #[] #[{ accessFlags := 18, nameIndex := 11, descriptorIndex := 12, attributes := #[] }, { accessFlags := 18, nameIndex := 15, descriptorIndex := 16, attributes := #[] }, { accessFlags := 18, nameIndex := 19, descriptorIndex := 16, attributes := #[] }, { accessFlags := 18, nameIndex := 22, descriptorIndex := 23, attributes := #[] }, { accessFlags := 18, nameIndex := 26, descriptorIndex := 27, attributes := #[] }, { accessFlags := 24, nameIndex := 64, descriptorIndex := 65, attributes := #[] }])
  fields := #[{ name := "name", type := (.object "java/lang/String"), accessFlags := 18, slot := 0, constantValue := 0 }, { name := "address", type := .long, accessFlags := 18, slot := 1, constantValue := 0 }, { name := "size", type := .long, accessFlags := 18, slot := 2, constantValue := 0 }, { name := "type", type := (.object "com/example/oridune/oridune/core/Symbol$Type"), accessFlags := 18, slot := 3, constantValue := 0 }, { name := "mode", type := (.object "com/example/oridune/oridune/core/CodeMode"), accessFlags := 18, slot := 4, constantValue := 0 }, { name := "BY_ADDRESS", type := (.object "java/util/Comparator"), accessFlags := 24, slot := 0, constantValue := 0 }]
  methods := #[k12m0, k12m1, k12m2, k12m3, k12m4, k12m5, k12m6]
  instanceTypes := #[(.object "java/lang/String"), .long, .long, (.object "com/example/oridune/oridune/core/Symbol$Type"), (.object "com/example/oridune/oridune/core/CodeMode")]
  staticTypes := #[(.object "java/util/Comparator")]
  resolved := Array.replicate 134 none
  statics := none }

def pool13 : Array CpInfo := pool [(6, .class_ 8), (1, u "java/lang/Object"), (0, u "<init>"), (0, u "()V"), (1, .class_ 14), (1, u "java/lang/StringUTF16"), (31, u "$assertionsDisabled"), (0, u "Z"), (13, u "HI_BYTE_SHIFT"), (0, u "I"), (2, u "LO_BYTE_SHIFT"), (49, .methodref 12 116), (0, .nameAndType 117 118), (0, u "compress"), (0, u "([CI[BII)I"), (3, u "([CII)[B"), (138, u "coderFromArrayLen"), (0, u "([BI)B"), (106, .class_ 371), (1, u "java/lang/StringUTF16$LinesSpliterator"), (58, u "MAX_LENGTH"), (196, .class_ 628), (0, u "java/lang/StringUTF16$CodePointsSpliterator"), (0, .class_ 630), (0, u "java/lang/StringUTF16$CharsSpliterator")] 4

def k13m0 : Method := { name := "<init>", desc := "()V", sig := { parameters := [], returnType := none }, accessFlags := 0, code := none }
def k13c1 : Code := { maxStack := 2, maxLocals := 2, code := jdk_52_method_15_code, exceptionTable := #[], attributes := #[] }
def k13m1 : Method := { name := "coderFromArrayLen", desc := "([BI)B", sig := { parameters := [(.array .byte), .int], returnType := some .byte }, accessFlags := 8, code := some k13c1 }
def k13c2 : Code := { maxStack := 5, maxLocals := 6, code := jdk_52_method_16_code, exceptionTable := #[], attributes := #[] }
def k13m2 : Method := { name := "compress", desc := "([CII)[B", sig := { parameters := [(.array .char), .int, .int], returnType := some (.array .byte) }, accessFlags := 9, code := some k13c2 }
def k13c3 : Code := { maxStack := 3, maxLocals := 7, code := jdk_52_method_21_code, exceptionTable := #[], attributes := #[] }
def k13m3 : Method := { name := "compress", desc := "([CI[BII)I", sig := { parameters := [(.array .char), .int, (.array .byte), .int, .int], returnType := some .int }, accessFlags := 9, code := some k13c3 }
/-- java/lang/StringUTF16 -/
def k13 : Class := { plain "java/lang/StringUTF16" (some 0) with
  accessFlags := 48
  interfaces := #[]
  cf := some (fileOf pool13 12 #[.nestMembers #[627, 629, 369]] #[{ accessFlags := 0, nameIndex := 9, descriptorIndex := 10, attributes := #[] }, { accessFlags := 8, nameIndex := 261, descriptorIndex := 262, attributes := #[] }, { accessFlags := 9, nameIndex := 117, descriptorIndex := 122, attributes := #[] }, { accessFlags := 9, nameIndex := 117, descriptorIndex := 118, attributes := #[] }] 48 6 #[] #[{ accessFlags := 26, nameIndex := 61, descriptorIndex := 62, attributes := #[] }, { accessFlags := 26, nameIndex := 65, descriptorIndex := 62, attributes := #[] }, { accessFlags := 24, nameIndex := 430, descriptorIndex := 62, attributes := #[] }, { accessFlags := 4120, nameIndex := 46, descriptorIndex := 47, attributes := #[] }])
  fields := #[{ name := "HI_BYTE_SHIFT", type := .int, accessFlags := 26, slot := 0, constantValue := 0 }, { name := "LO_BYTE_SHIFT", type := .int, accessFlags := 26, slot := 1, constantValue := 0 }, { name := "MAX_LENGTH", type := .int, accessFlags := 24, slot := 2, constantValue := 0 }, { name := "$assertionsDisabled", type := .boolean, accessFlags := 4120, slot := 3, constantValue := 0 }]
  methods := #[k13m0, k13m1, k13m2, k13m3]
  instanceTypes := #[]
  staticTypes := #[.int, .int, .int, .boolean]
  resolved := Array.replicate 635 none
  statics := none }

def pool14 : Array CpInfo := pool [(4, .class_ 6), (1, u "java/lang/Object"), (0, u "<init>"), (0, u "()V"), (5, .class_ 16), (1, u "java/lang/StringLatin1"), (104, u "$assertionsDisabled"), (0, u "Z"), (98, .class_ 223), (1, u "java/lang/StringLatin1$LinesSpliterator"), (166, .class_ 391), (0, u "java/lang/StringLatin1$CharsSpliterator")] 3

def k14m0 : Method := { name := "<init>", desc := "()V", sig := { parameters := [], returnType := none }, accessFlags := 0, code := none }
/-- java/lang/StringLatin1 -/
def k14 : Class := { plain "java/lang/StringLatin1" (some 0) with
  accessFlags := 48
  interfaces := #[]
  cf := some (fileOf pool14 14 #[.nestMembers #[390, 221]] #[{ accessFlags := 0, nameIndex := 7, descriptorIndex := 8, attributes := #[] }] 48 4 #[] #[{ accessFlags := 4120, nameIndex := 121, descriptorIndex := 122, attributes := #[] }])
  fields := #[{ name := "$assertionsDisabled", type := .boolean, accessFlags := 4120, slot := 0, constantValue := 0 }]
  methods := #[k14m0]
  instanceTypes := #[]
  staticTypes := #[.boolean]
  resolved := Array.replicate 395 none
  statics := none }

def pool15 : Array CpInfo := pool [(2, .class_ 4), (1, u "java/lang/Object"), (0, u "<init>"), (0, u "()V"), (17, .class_ 26), (1, u "jdk/internal/util/Preconditions"), (28, .class_ 56), (0, u "jdk/internal/util/Preconditions$4"), (57, .class_ 115), (0, u "jdk/internal/util/Preconditions$1"), (7, u "SIOOBE_FORMATTER"), (0, u "Ljava/util/function/BiFunction;"), (0, .class_ 126), (0, u "jdk/internal/util/Preconditions$2"), (3, u "AIOOBE_FORMATTER"), (0, .class_ 132), (0, u "jdk/internal/util/Preconditions$3"), (3, u "IOOBE_FORMATTER")] 57

def k15m0 : Method := { name := "<init>", desc := "()V", sig := { parameters := [], returnType := none }, accessFlags := 1, code := none }
/-- jdk/internal/util/Preconditions -/
def k15 : Class := { plain "jdk/internal/util/Preconditions" (some 0) with
  accessFlags := 33
  interfaces := #[]
  cf := some (fileOf pool15 24 #[.nestMembers #[55, 131, 125, 114]] #[{ accessFlags := 1, nameIndex := 5, descriptorIndex := 6, attributes := #[] }] 33 2 #[] #[{ accessFlags := 25, nameIndex := 123, descriptorIndex := 124, attributes := #[] }, { accessFlags := 25, nameIndex := 130, descriptorIndex := 124, attributes := #[] }, { accessFlags := 25, nameIndex := 136, descriptorIndex := 124, attributes := #[] }])
  fields := #[{ name := "SIOOBE_FORMATTER", type := (.object "java/util/function/BiFunction"), accessFlags := 25, slot := 0, constantValue := 0 }, { name := "AIOOBE_FORMATTER", type := (.object "java/util/function/BiFunction"), accessFlags := 25, slot := 1, constantValue := 0 }, { name := "IOOBE_FORMATTER", type := (.object "java/util/function/BiFunction"), accessFlags := 25, slot := 2, constantValue := 0 }]
  methods := #[k15m0]
  instanceTypes := #[]
  staticTypes := #[(.object "java/util/function/BiFunction"), (.object "java/util/function/BiFunction"), (.object "java/util/function/BiFunction")]
  resolved := Array.replicate 194 none
  statics := some 3 }

def pool16 : Array CpInfo := pool [(9, u "<init>"), (6, .class_ 18), (1, u "java/lang/Object"), (0, u "()V"), (1, .class_ 23), (1, u "jdk/internal/util/ArraysSupport"), (0, u "LOG2_ARRAY_LONG_INDEX_SCALE"), (0, u "I"), (2, u "U"), (0, u "Ljdk/internal/misc/Unsafe;"), (8, u "BIG_ENDIAN"), (0, u "Z"), (8, u "LOG2_BYTE_BIT_SIZE"), (4, u "LOG2_ARRAY_INT_INDEX_SCALE"), (54, u "JLA"), (0, u "Ljdk/internal/access/JavaLangAccess;"), (11, u "LOG2_ARRAY_BOOLEAN_INDEX_SCALE"), (9, u "LOG2_ARRAY_BYTE_INDEX_SCALE"), (5, u "LOG2_ARRAY_CHAR_INDEX_SCALE"), (5, u "LOG2_ARRAY_SHORT_INDEX_SCALE"), (18, u "LOG2_ARRAY_FLOAT_INDEX_SCALE"), (24, u "LOG2_ARRAY_DOUBLE_INDEX_SCALE"), (89, u "T_BOOLEAN"), (2, u "T_CHAR"), (1, u "T_FLOAT"), (1, u "T_DOUBLE"), (1, u "T_BYTE"), (1, u "T_SHORT"), (1, u "T_INT"), (1, u "T_LONG"), (1, u "SOFT_MAX_ARRAY_LENGTH")] 83

def k16m0 : Method := { name := "<init>", desc := "()V", sig := { parameters := [], returnType := none }, accessFlags := 2, code := none }
/-- jdk/internal/util/ArraysSupport -/
def k16 : Class := { plain "jdk/internal/util/ArraysSupport" (some 0) with
  accessFlags := 33
  interfaces := #[]
  cf := some (fileOf pool16 21 #[] #[{ accessFlags := 2, nameIndex := 9, descriptorIndex := 19, attributes := #[] }] 33 16 #[] #[{ accessFlags := 24, nameIndex := 28, descriptorIndex := 29, attributes := #[] }, { accessFlags := 26, nameIndex := 38, descriptorIndex := 39, attributes := #[] }, { accessFlags := 25, nameIndex := 121, descriptorIndex := 25, attributes := #[] }, { accessFlags := 25, nameIndex := 131, descriptorIndex := 25, attributes := #[] }, { accessFlags := 25, nameIndex := 137, descriptorIndex := 25, attributes := #[] }, { accessFlags := 25, nameIndex := 143, descriptorIndex := 25, attributes := #[] }, { accessFlags := 25, nameIndex := 53, descriptorIndex := 25, attributes := #[] }, { accessFlags := 25, nameIndex := 24, descriptorIndex := 25, attributes := #[] }, { accessFlags := 25, nameIndex := 162, descriptorIndex := 25, attributes := #[] }, { accessFlags := 25, nameIndex := 187, descriptorIndex := 25, attributes := #[] }, { accessFlags := 26, nameIndex := 48, descriptorIndex := 25, attributes := #[] }, { accessFlags := 25, nameIndex := 277, descriptorIndex := 25, attributes := #[] }, { accessFlags := 25, nameIndex := 280, descriptorIndex := 25, attributes := #[] }, { accessFlags := 25, nameIndex := 282, descriptorIndex := 25, attributes := #[] }, { accessFlags := 25, nameIndex := 284, descriptorIndex := 25, attributes := #[] }, { accessFlags := 25, nameIndex := 286, descriptorIndex := 25, attributes := #[] }, { accessFlags := 25, nameIndex := 288, descriptorIndex := 25, attributes := #[] }, { accessFlags := 25, nameIndex := 290, descriptorIndex := 25, attributes := #[] }, { accessFlags := 25, nameIndex := 292, descriptorIndex := 25, attributes := #[] }, { accessFlags := 26, nameIndex := 108, descriptorIndex := 109, attributes := #[] }, { accessFlags := 25, nameIndex := 294, descriptorIndex := 25, attributes := #[] }])
  fields := #[{ name := "U", type := (.object "jdk/internal/misc/Unsafe"), accessFlags := 24, slot := 0, constantValue := 0 }, { name := "BIG_ENDIAN", type := .boolean, accessFlags := 26, slot := 1, constantValue := 0 }, { name := "LOG2_ARRAY_BOOLEAN_INDEX_SCALE", type := .int, accessFlags := 25, slot := 2, constantValue := 0 }, { name := "LOG2_ARRAY_BYTE_INDEX_SCALE", type := .int, accessFlags := 25, slot := 3, constantValue := 0 }, { name := "LOG2_ARRAY_CHAR_INDEX_SCALE", type := .int, accessFlags := 25, slot := 4, constantValue := 0 }, { name := "LOG2_ARRAY_SHORT_INDEX_SCALE", type := .int, accessFlags := 25, slot := 5, constantValue := 0 }, { name := "LOG2_ARRAY_INT_INDEX_SCALE", type := .int, accessFlags := 25, slot := 6, constantValue := 0 }, { name := "LOG2_ARRAY_LONG_INDEX_SCALE", type := .int, accessFlags := 25, slot := 7, constantValue := 0 }, { name := "LOG2_ARRAY_FLOAT_INDEX_SCALE", type := .int, accessFlags := 25, slot := 8, constantValue := 0 }, { name := "LOG2_ARRAY_DOUBLE_INDEX_SCALE", type := .int, accessFlags := 25, slot := 9, constantValue := 0 }, { name := "LOG2_BYTE_BIT_SIZE", type := .int, accessFlags := 26, slot := 10, constantValue := 0 }, { name := "T_BOOLEAN", type := .int, accessFlags := 25, slot := 11, constantValue := 0 }, { name := "T_CHAR", type := .int, accessFlags := 25, slot := 12, constantValue := 0 }, { name := "T_FLOAT", type := .int, accessFlags := 25, slot := 13, constantValue := 0 }, { name := "T_DOUBLE", type := .int, accessFlags := 25, slot := 14, constantValue := 0 }, { name := "T_BYTE", type := .int, accessFlags := 25, slot := 15, constantValue := 0 }, { name := "T_SHORT", type := .int, accessFlags := 25, slot := 16, constantValue := 0 }, { name := "T_INT", type := .int, accessFlags := 25, slot := 17, constantValue := 0 }, { name := "T_LONG", type := .int, accessFlags := 25, slot := 18, constantValue := 0 }, { name := "JLA", type := (.object "jdk/internal/access/JavaLangAccess"), accessFlags := 26, slot := 19, constantValue := 0 }, { name := "SOFT_MAX_ARRAY_LENGTH", type := .int, accessFlags := 25, slot := 20, constantValue := 0 }]
  methods := #[k16m0]
  instanceTypes := #[]
  staticTypes := #[(.object "jdk/internal/misc/Unsafe"), .boolean, .int, .int, .int, .int, .int, .int, .int, .int, .int, .int, .int, .int, .int, .int, .int, .int, .int, (.object "jdk/internal/access/JavaLangAccess"), .int]
  resolved := Array.replicate 378 none
  statics := none }

def pool17 : Array CpInfo := pool [(1, u "java/lang/Cloneable"), (0, .class_ 1), (0, u "java/lang/Object"), (0, .class_ 3)] 3

/-- java/lang/Cloneable -/
def k17 : Class := { plain "java/lang/Cloneable" (some 0) with
  accessFlags := 1537
  interfaces := #[]
  cf := some (fileOf pool17 2 #[] #[] 1537 4 #[] #[])
  fields := #[]
  methods := #[]
  instanceTypes := #[]
  staticTypes := #[]
  resolved := Array.replicate 8 none
  statics := none }

/-- the primitive byte -/
def k18 : Class := { plain "byte" none with kind := .primitive 'B', accessFlags := 0x411 }
/-- [B -/
def k19 : Class := { plain "[B" (some 0) with kind := .array 18 .byte, interfaces := #[17, 2], accessFlags := 1041 }

/-- the primitive char -/
def k20 : Class := { plain "char" none with kind := .primitive 'C', accessFlags := 0x411 }
/-- [C -/
def k21 : Class := { plain "[C" (some 0) with kind := .array 20 .char, interfaces := #[17, 2], accessFlags := 1041 }

/-- the primitive int -/
def k22 : Class := { plain "int" none with kind := .primitive 'I', accessFlags := 0x411 }
/-- [I -/
def k23 : Class := { plain "[I" (some 0) with kind := .array 22 .int, interfaces := #[17, 2], accessFlags := 1041 }

def heap : Heap := #[{ cls := 7, slots := #[.long 0, .int 1, .null, .int 0, .null, .int 0, .int 0], vm := .statics 7 },
  { cls := 9, slots := #[.ref 6, .ref 8, .ref 4, .null], vm := .statics 9 },
  { cls := 10, slots := #[.ref 5, .ref 7, .null], vm := .statics 10 },
  { cls := 15, slots := #[.null, .null, .null], vm := .statics 15 },
  { cls := 9, slots := #[.null, .int 0, .int 0], vm := .none },
  { cls := 10, slots := #[.null, .int 0, .int 0], vm := .none },
  { cls := 9, slots := #[.null, .int 0, .int 0], vm := .none },
  { cls := 10, slots := #[.null, .int 0, .int 0], vm := .none },
  { cls := 9, slots := #[.null, .int 0, .int 0], vm := .none }]
def classes : Array Class := #[k0, k1, k2, k3, k4, k5, k6, k7, k8, k9, k10, k11, k12, k13, k14, k15, k16, k17, k18, k19, k20, k21, k22, k23]
def interned : List (Array UInt16 × Addr) := []
def slotsUsed : Nat := 32
def theMethod : MethodId := ⟨1, 3⟩
def args0 : Array Value := #[.int 5, .int 66000, .long 6, .long 7, .int 2]
def aboutOver (below : List Frame) : State where
  vm := { classes := classes, interned := interned.toArray }
  heap := heap
  slotsUsed := slotsUsed
  threads := #[{ frames := .invoking theMethod args0 :: below }]
def below0 : List Frame := [.native { method := ⟨0, 0⟩, args := #[] }]
def about1 : State := aboutOver below0
def p0 : Program := .bare "" "" ""
def e0 : Env := launch0.env 0 0 0
theorem w_frames : about1.frames = Frame.invoking theMethod args0 :: below0 := rfl
set_option maxRecDepth 65536 in
theorem w_args : argsFit about1.vm theMethod args0 = true := by decide +kernel
set_option maxRecDepth 65536 in
theorem w_heap : heapFits about1 = true := by decide +kernel
set_option maxRecDepth 65536 in
theorem w_runnable : about1.curStatus? = some .runnable := by decide +kernel
set_option maxRecDepth 65536 in
theorem w_alone : about1.alone = true := by decide +kernel
set_option maxRecDepth 65536 in
theorem w_named : about1.methodNamed? x = some theMethod := by decide +kernel
set_option maxRecDepth 65536 in
theorem w_hears : about1.hears theMethod below0 = true := by decide +kernel
set_option maxRecDepth 65536 in
theorem w_ripe : about1.ripe theMethod args0 below0 = true := by decide +kernel
theorem w_running : about1.status = .running := rfl
set_option maxRecDepth 65536 in
theorem w_room : about1.hasRoom e0.platform room_1 = true :=
  launch0.hasRoom_least _ room_1 (by decide +kernel) (by decide +kernel) (by decide +kernel) (by decide +kernel) (by decide +kernel) (by decide +kernel)
theorem allAtoms_all (ts : List Jvm.Cond) (a : Array Jvm.Value) (st : Jvm.State) : (allAtoms ts).before a st = ts.all (fun c => c.before a st) := by
  induction ts with
  | nil => rfl
  | cons c t ih =>
    show (Jvm.Cond.and c (allAtoms t)).before a st = _
    rw [Jvm.Cond.before_and, ih, List.all_cons]
def words1 : List Jvm.Cond := Jvm.Cond.code x code maxLocals ret :: tables_1
/-- a 'code' word, met by the world's own term for the bytes: nothing is compared byte by byte -/
theorem code_word {y : MethodName} {bytes : ByteArray} {mx : Nat} {rt : Option FieldType} {a : Array Value} {s : State} {m : MethodId} {meth : Method} {c : Code} (h1 : s.methodNamed? y = some m) (h2 : s.vm.method? m = some meth) (h3 : meth.code = some c) (h4 : c.code = bytes)
    (h5 : (c.maxLocals == mx && c.exceptionTable.isEmpty && decide (c.maxStack ≤ mostOperands) && decide (meth.sig.returnType = rt) && !meth.locks && decide (parseMethodDescriptor y.desc = some meth.sig)) = true) : (Jvm.Cond.code y bytes mx rt).before a s = true := by
  simp only [Bool.and_eq_true, beq_iff_eq, Bool.not_eq_true', decide_eq_true_eq] at h5
  obtain ⟨⟨⟨⟨⟨g1, g2⟩, g3⟩, g4⟩, g5⟩, g6⟩ := h5
  simp [Cond.before, Cond.holds, Cond.value, h1, h2, h3, h4, g1, g2, g3, g4, g5, g6]
def isCode : Jvm.Cond → Bool
  | .code _ _ _ _ => true
  | _ => false
theorem all_split {L : List Jvm.Cond} {P : Jvm.Cond → Bool} (h1 : L.all (fun c => isCode c || P c) = true) (h2 : ∀ c ∈ L.filter isCode, P c = true) : L.all P = true := by
  refine List.all_eq_true.mpr fun c hc => ?_
  have h := List.all_eq_true.mp h1 c hc
  rcases Bool.eq_false_or_eq_true (isCode c) with hi | hi
  · exact h2 c (List.mem_filter.mpr ⟨hc, hi⟩)
  · simpa [hi] using h
set_option maxRecDepth 65536 in
theorem w_c0 : (Jvm.Cond.code x code maxLocals ret).before args0 about1 = true := code_word (m := ⟨1, 3⟩) (meth := k1m3) (c := k1c3) (by decide +kernel) rfl rfl rfl (by decide +kernel)
set_option maxRecDepth 65536 in
theorem w_c1 : (Jvm.Cond.code ({ cls := "com/example/oridune/oridune/core/SymbolNamedPinLaw", name := "str", desc := "(I)Ljava/lang/String;" } : Jvm.MethodName) method_2_code (4 : Nat) (Option.some (Jvm.ClassFile.FieldType.object "java/lang/String"))).before args0 about1 = true := code_word (m := ⟨1, 1⟩) (meth := k1m1) (c := k1c1) (by decide +kernel) rfl rfl rfl (by decide +kernel)
set_option maxRecDepth 65536 in
theorem w_c2 : (Jvm.Cond.code ({ cls := "java/lang/String", name := "<init>", desc := "([C)V" } : Jvm.MethodName) jdk_42_method_3_code (2 : Nat) (Option.none : Option Jvm.ClassFile.FieldType)).before args0 about1 = true := code_word (m := ⟨7, 1⟩) (meth := k7m1) (c := k7c1) (by decide +kernel) rfl rfl rfl (by decide +kernel)
set_option maxRecDepth 65536 in
theorem w_c3 : (Jvm.Cond.code ({ cls := "java/lang/String", name := "<init>", desc := "([CIILjava/lang/Void;)V" } : Jvm.MethodName) jdk_42_method_149_code (6 : Nat) (Option.none : Option Jvm.ClassFile.FieldType)).before args0 about1 = true := code_word (m := ⟨7, 2⟩) (meth := k7m2) (c := k7c2) (by decide +kernel) rfl rfl rfl (by decide +kernel)
set_option maxRecDepth 65536 in
theorem w_c4 : (Jvm.Cond.code ({ cls := "java/lang/Object", name := "<init>", desc := "()V" } : Jvm.MethodName) object_method_1_code (1 : Nat) (Option.none : Option Jvm.ClassFile.FieldType)).before args0 about1 = true := code_word (m := ⟨0, 0⟩) (meth := k0m0) (c := k0c0) (by decide +kernel) rfl rfl rfl (by decide +kernel)
set_option maxRecDepth 65536 in
theorem w_c5 : (Jvm.Cond.code ({ cls := "com/example/oridune/oridune/core/SymbolNamedPinLaw", name := "type", desc := "(I)Lcom/example/oridune/oridune/core/Symbol$Type;" } : Jvm.MethodName) method_3_code (2 : Nat) (Option.some (Jvm.ClassFile.FieldType.object "com/example/oridune/oridune/core/Symbol$Type"))).before args0 about1 = true := code_word (m := ⟨1, 2⟩) (meth := k1m2) (c := k1c2) (by decide +kernel) rfl rfl rfl (by decide +kernel)
set_option maxRecDepth 65536 in
theorem w_c6 : (Jvm.Cond.code ({ cls := "com/example/oridune/oridune/core/Symbol", name := "<init>", desc := "(Ljava/lang/String;JJLcom/example/oridune/oridune/core/Symbol$Type;Lcom/example/oridune/oridune/core/CodeMode;)V" } : Jvm.MethodName) prog_43_method_2_code (8 : Nat) (Option.none : Option Jvm.ClassFile.FieldType)).before args0 about1 = true := code_word (m := ⟨12, 0⟩) (meth := k12m0) (c := k12c0) (by decide +kernel) rfl rfl rfl (by decide +kernel)
set_option maxRecDepth 65536 in
theorem w_c7 : (Jvm.Cond.code ({ cls := "java/lang/Record", name := "<init>", desc := "()V" } : Jvm.MethodName) jdk_30_method_1_code (1 : Nat) (Option.none : Option Jvm.ClassFile.FieldType)).before args0 about1 = true := code_word (m := ⟨11, 0⟩) (meth := k11m0) (c := k11c0) (by decide +kernel) rfl rfl rfl (by decide +kernel)
set_option maxRecDepth 65536 in
theorem w_c8 : (Jvm.Cond.code ({ cls := "com/example/oridune/oridune/core/Symbol", name := "named", desc := "(Ljava/lang/String;)Lcom/example/oridune/oridune/core/Symbol;" } : Jvm.MethodName) prog_43_method_3_code (2 : Nat) (Option.some (Jvm.ClassFile.FieldType.object "com/example/oridune/oridune/core/Symbol"))).before args0 about1 = true := code_word (m := ⟨12, 1⟩) (meth := k12m1) (c := k12c1) (by decide +kernel) rfl rfl rfl (by decide +kernel)
set_option maxRecDepth 65536 in
theorem w_c9 : (Jvm.Cond.code ({ cls := "com/example/oridune/oridune/core/Symbol", name := "name", desc := "()Ljava/lang/String;" } : Jvm.MethodName) prog_43_method_7_code (1 : Nat) (Option.some (Jvm.ClassFile.FieldType.object "java/lang/String"))).before args0 about1 = true := code_word (m := ⟨12, 2⟩) (meth := k12m2) (c := k12c2) (by decide +kernel) rfl rfl rfl (by decide +kernel)
set_option maxRecDepth 65536 in
theorem w_c10 : (Jvm.Cond.code ({ cls := "com/example/oridune/oridune/core/Symbol", name := "address", desc := "()J" } : Jvm.MethodName) prog_43_method_8_code (1 : Nat) (Option.some Jvm.ClassFile.FieldType.long)).before args0 about1 = true := code_word (m := ⟨12, 3⟩) (meth := k12m3) (c := k12c3) (by decide +kernel) rfl rfl rfl (by decide +kernel)
set_option maxRecDepth 65536 in
theorem w_c11 : (Jvm.Cond.code ({ cls := "com/example/oridune/oridune/core/Symbol", name := "size", desc := "()J" } : Jvm.MethodName) prog_43_method_9_code (1 : Nat) (Option.some Jvm.ClassFile.FieldType.long)).before args0 about1 = true := code_word (m := ⟨12, 4⟩) (meth := k12m4) (c := k12c4) (by decide +kernel) rfl rfl rfl (by decide +kernel)
set_option maxRecDepth 65536 in
theorem w_c12 : (Jvm.Cond.code ({ cls := "com/example/oridune/oridune/core/Symbol", name := "type", desc := "()Lcom/example/oridune/oridune/core/Symbol$Type;" } : Jvm.MethodName) prog_43_method_10_code (1 : Nat) (Option.some (Jvm.ClassFile.FieldType.object "com/example/oridune/oridune/core/Symbol$Type"))).before args0 about1 = true := code_word (m := ⟨12, 5⟩) (meth := k12m5) (c := k12c5) (by decide +kernel) rfl rfl rfl (by decide +kernel)
set_option maxRecDepth 65536 in
theorem w_c13 : (Jvm.Cond.code ({ cls := "com/example/oridune/oridune/core/Symbol", name := "mode", desc := "()Lcom/example/oridune/oridune/core/CodeMode;" } : Jvm.MethodName) prog_43_method_11_code (1 : Nat) (Option.some (Jvm.ClassFile.FieldType.object "com/example/oridune/oridune/core/CodeMode"))).before args0 about1 = true := code_word (m := ⟨12, 6⟩) (meth := k12m6) (c := k12c6) (by decide +kernel) rfl rfl rfl (by decide +kernel)
set_option maxRecDepth 65536 in
theorem w_c14 : (Jvm.Cond.code ({ cls := "java/lang/StringUTF16", name := "compress", desc := "([CII)[B" } : Jvm.MethodName) jdk_52_method_16_code (6 : Nat) (Option.some (Jvm.ClassFile.FieldType.array Jvm.ClassFile.FieldType.byte))).before args0 about1 = true := code_word (m := ⟨13, 2⟩) (meth := k13m2) (c := k13c2) (by decide +kernel) rfl rfl rfl (by decide +kernel)
set_option maxRecDepth 65536 in
theorem w_c15 : (Jvm.Cond.code ({ cls := "java/lang/StringUTF16", name := "compress", desc := "([CI[BII)I" } : Jvm.MethodName) jdk_52_method_21_code (7 : Nat) (Option.some Jvm.ClassFile.FieldType.int)).before args0 about1 = true := code_word (m := ⟨13, 3⟩) (meth := k13m3) (c := k13c3) (by decide +kernel) rfl rfl rfl (by decide +kernel)
set_option maxRecDepth 65536 in
theorem w_c16 : (Jvm.Cond.code ({ cls := "java/lang/StringUTF16", name := "coderFromArrayLen", desc := "([BI)B" } : Jvm.MethodName) jdk_52_method_15_code (2 : Nat) (Option.some Jvm.ClassFile.FieldType.byte)).before args0 about1 = true := code_word (m := ⟨13, 1⟩) (meth := k13m1) (c := k13c1) (by decide +kernel) rfl rfl rfl (by decide +kernel)
def codes1 : List Jvm.Cond := [Jvm.Cond.code x code maxLocals ret, Jvm.Cond.code ({ cls := "com/example/oridune/oridune/core/SymbolNamedPinLaw", name := "str", desc := "(I)Ljava/lang/String;" } : Jvm.MethodName) method_2_code (4 : Nat) (Option.some (Jvm.ClassFile.FieldType.object "java/lang/String")), Jvm.Cond.code ({ cls := "java/lang/String", name := "<init>", desc := "([C)V" } : Jvm.MethodName) jdk_42_method_3_code (2 : Nat) (Option.none : Option Jvm.ClassFile.FieldType), Jvm.Cond.code ({ cls := "java/lang/String", name := "<init>", desc := "([CIILjava/lang/Void;)V" } : Jvm.MethodName) jdk_42_method_149_code (6 : Nat) (Option.none : Option Jvm.ClassFile.FieldType), Jvm.Cond.code ({ cls := "java/lang/Object", name := "<init>", desc := "()V" } : Jvm.MethodName) object_method_1_code (1 : Nat) (Option.none : Option Jvm.ClassFile.FieldType), Jvm.Cond.code ({ cls := "com/example/oridune/oridune/core/SymbolNamedPinLaw", name := "type", desc := "(I)Lcom/example/oridune/oridune/core/Symbol$Type;" } : Jvm.MethodName) method_3_code (2 : Nat) (Option.some (Jvm.ClassFile.FieldType.object "com/example/oridune/oridune/core/Symbol$Type")), Jvm.Cond.code ({ cls := "com/example/oridune/oridune/core/Symbol", name := "<init>", desc := "(Ljava/lang/String;JJLcom/example/oridune/oridune/core/Symbol$Type;Lcom/example/oridune/oridune/core/CodeMode;)V" } : Jvm.MethodName) prog_43_method_2_code (8 : Nat) (Option.none : Option Jvm.ClassFile.FieldType), Jvm.Cond.code ({ cls := "java/lang/Record", name := "<init>", desc := "()V" } : Jvm.MethodName) jdk_30_method_1_code (1 : Nat) (Option.none : Option Jvm.ClassFile.FieldType), Jvm.Cond.code ({ cls := "com/example/oridune/oridune/core/Symbol", name := "named", desc := "(Ljava/lang/String;)Lcom/example/oridune/oridune/core/Symbol;" } : Jvm.MethodName) prog_43_method_3_code (2 : Nat) (Option.some (Jvm.ClassFile.FieldType.object "com/example/oridune/oridune/core/Symbol")), Jvm.Cond.code ({ cls := "com/example/oridune/oridune/core/Symbol", name := "name", desc := "()Ljava/lang/String;" } : Jvm.MethodName) prog_43_method_7_code (1 : Nat) (Option.some (Jvm.ClassFile.FieldType.object "java/lang/String")), Jvm.Cond.code ({ cls := "com/example/oridune/oridune/core/Symbol", name := "address", desc := "()J" } : Jvm.MethodName) prog_43_method_8_code (1 : Nat) (Option.some Jvm.ClassFile.FieldType.long), Jvm.Cond.code ({ cls := "com/example/oridune/oridune/core/Symbol", name := "size", desc := "()J" } : Jvm.MethodName) prog_43_method_9_code (1 : Nat) (Option.some Jvm.ClassFile.FieldType.long), Jvm.Cond.code ({ cls := "com/example/oridune/oridune/core/Symbol", name := "type", desc := "()Lcom/example/oridune/oridune/core/Symbol$Type;" } : Jvm.MethodName) prog_43_method_10_code (1 : Nat) (Option.some (Jvm.ClassFile.FieldType.object "com/example/oridune/oridune/core/Symbol$Type")), Jvm.Cond.code ({ cls := "com/example/oridune/oridune/core/Symbol", name := "mode", desc := "()Lcom/example/oridune/oridune/core/CodeMode;" } : Jvm.MethodName) prog_43_method_11_code (1 : Nat) (Option.some (Jvm.ClassFile.FieldType.object "com/example/oridune/oridune/core/CodeMode")), Jvm.Cond.code ({ cls := "java/lang/StringUTF16", name := "compress", desc := "([CII)[B" } : Jvm.MethodName) jdk_52_method_16_code (6 : Nat) (Option.some (Jvm.ClassFile.FieldType.array Jvm.ClassFile.FieldType.byte)), Jvm.Cond.code ({ cls := "java/lang/StringUTF16", name := "compress", desc := "([CI[BII)I" } : Jvm.MethodName) jdk_52_method_21_code (7 : Nat) (Option.some Jvm.ClassFile.FieldType.int), Jvm.Cond.code ({ cls := "java/lang/StringUTF16", name := "coderFromArrayLen", desc := "([BI)B" } : Jvm.MethodName) jdk_52_method_15_code (2 : Nat) (Option.some Jvm.ClassFile.FieldType.byte)]
set_option maxRecDepth 65536 in
theorem codes_eq : words1.filter isCode = codes1 := rfl
theorem w_codes : ∀ c ∈ words1.filter isCode, c.before args0 about1 = true := by
  rw [codes_eq]
  intro c hc
  simp only [codes1, List.mem_cons, List.not_mem_nil, or_false] at hc
  rcases hc with rfl | rfl | rfl | rfl | rfl | rfl | rfl | rfl | rfl | rfl | rfl | rfl | rfl | rfl | rfl | rfl | rfl
  · exact w_c0
  · exact w_c1
  · exact w_c2
  · exact w_c3
  · exact w_c4
  · exact w_c5
  · exact w_c6
  · exact w_c7
  · exact w_c8
  · exact w_c9
  · exact w_c10
  · exact w_c11
  · exact w_c12
  · exact w_c13
  · exact w_c14
  · exact w_c15
  · exact w_c16
set_option maxRecDepth 65536 in
theorem w_t1 : (words1.take 24).all (fun c => isCode c || c.before args0 about1) = true := by decide +kernel
set_option maxRecDepth 65536 in
theorem w_t2 : ((words1.drop 24).take 24).all (fun c => isCode c || c.before args0 about1) = true := by decide +kernel
set_option maxRecDepth 65536 in
theorem w_t3 : (((words1.drop 24).drop 24).take 24).all (fun c => isCode c || c.before args0 about1) = true := by decide +kernel
set_option maxRecDepth 65536 in
theorem w_t4 : ((((words1.drop 24).drop 24).drop 24).take 24).all (fun c => isCode c || c.before args0 about1) = true := by decide +kernel
set_option maxRecDepth 65536 in
theorem w_t5 : ((((words1.drop 24).drop 24).drop 24).drop 24).all (fun c => isCode c || c.before args0 about1) = true := by decide +kernel
theorem w_tables : (allAtoms (Jvm.Cond.code x code maxLocals ret :: tables_1)).before args0 about1 = true := by
  rw [allAtoms_all]
  show words1.all (fun c => c.before args0 about1) = true
  refine all_split ?_ w_codes
  rw [← List.take_append_drop 24 words1, List.all_append, w_t1, ← List.take_append_drop 24 (words1.drop 24), List.all_append, w_t2, ← List.take_append_drop 24 ((words1.drop 24).drop 24), List.all_append, w_t3, ← List.take_append_drop 24 (((words1.drop 24).drop 24).drop 24), List.all_append, w_t4, w_t5]
  rfl
set_option maxRecDepth 65536 in
theorem w_rest : rest_1_c.before args0 about1 = true := by decide +kernel
set_option maxRecDepth 65536 in
theorem w_case : (Jvm.Cond.and given_1 narrow_1).before args0 about1 = true := by decide +kernel
set_option maxRecDepth 65536 in
theorem w_consts : constsHeld consts_1 about1 := Jvm.Lit.constsHeldB_iff.mp (by decide +kernel)
theorem w_applies : (headSpec (Jvm.Cond.code x code maxLocals ret :: tables_1) room_1).applies x e0.platform about1 = true :=
  (Spec.applies_iff w_frames).mpr ⟨w_running, w_runnable, w_alone, w_named, w_hears, w_ripe, w_room, w_tables⟩
theorem atStart : AtStart classFile x code maxLocals ret World_1 tables_1 room_1 Calls_1 rest_1 Pre_1 launch0 p0 e0 about1 theMethod args0 below0 :=
  ⟨lists_1, trivial, launch0.admits_env _ _ _, launch0.least_env, fairChoices_fair.cas, fairChoices_fair.clock, w_frames, w_args, w_heap, w_applies, ⟨w_consts, trivial⟩, w_rest, w_case⟩
end start1
theorem witness_1 : WitnessClaimed_1 := ⟨start1.p0, start1.e0, start1.about1, start1.theMethod, start1.args0, start1.below0, start1.atStart⟩
end Jvm.Pilot.@@N@@
