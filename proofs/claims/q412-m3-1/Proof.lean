import JvmDerived
import JvmDerived.Pilot.@@N@@Statement
import JvmDerived.Pilot.@@N@@Code
set_option linter.unusedVariables false
set_option linter.unusedSimpArgs false
namespace Jvm.OwnKit
open Sem ClassFile Op Lib Jvm.Stand Jvm.Free Jvm.LawKit Jvm.RoadKit
def Go (tb : Tables) (e : Env) (below : List Frame) (P : State → Outcome → Prop) (S : State) : Prop :=
  ∃ s₂ o, Steps tb e below S s₂ ∧ s₂.status = .running ∧ Ended s₂ below o ∧ P s₂ o
theorem go {tb : Tables} {e : Env} {below : List Frame} {P : State → Outcome → Prop} {S S' : State} (h : ∀ t, Steps tb e below S' t → Steps tb e below S t) (k : Go tb e below P S') : Go tb e below P S := by
  obtain ⟨s₂, o, h1, h2⟩ := k
  exact ⟨s₂, o, h _ h1, h2⟩
theorem goT {tb : Tables} {e : Env} {below : List Frame} {P : State → Outcome → Prop} {S S' : State} (h : Steps tb e below S S') (k : Go tb e below P S') : Go tb e below P S := go (fun _ q => h.trans q) k
def Done (s : State) (Q : Option Value → Heap → List Loc → Prop) (k n : Nat) (t : State) (o : Outcome) : Prop := ∃ v L, o = .returned v ∧ Q v t.heap L ∧ FrameEnd s o t L k n
/-- a body's contract: called with just these arguments, over this heap -/
def Con (l : Launch) (Z : State) (y : MethodName) (bytes : ByteArray) (maxL : Nat) (rt : Option FieldType) (ws : List Jvm.Cond) (rm : Room) (as' : Array Value) (h : Heap) (k n : Nat) (Q : Option Value → Heap → List Loc → Prop) : Prop :=
  MetFree l y (head1 (Jvm.Cond.code y bytes maxL rt :: ws) rm) (fun a U => a = as' ∧ Z.Warmed39 U.vm ∧ U.heap = h) (fun _ _ _ _ _ => True) (fun _ U o U' => ∃ v L, o = .returned v ∧ Q v U'.heap L ∧ FrameEnd U o U' L k n)
theorem Con.of {l : Launch} {Z : State} {y : MethodName} {bytes : ByteArray} {maxL : Nat} {rt : Option FieldType} {ws : List Jvm.Cond} {rm : Room} {as' : Array Value} {h : Heap} {k n : Nat} {Q : Option Value → Heap → List Loc → Prop} (hp : plainFor y = true)
    (body : ∀ (p : Program) (e : Env) (s : State) (m : MethodId) (below : List Frame) (meth : Method) (c : Code) (s₁ : State), p.tables.exec = Jvm.exec → c.code = bytes → c.maxLocals = maxL → s.vm.findClass y.cls = some m.cls → meth.name = y.name → meth.sig.returnType = rt → meth.locks = false → Z.Warmed39 s.vm →
      Stand p l e rm s m as' below meth c s₁ [] 0 0 → s₁.heap = h → Go p.tables e below (Done s Q k n) (s₁.setTop (entryFrame m as' maxL))) : Con l Z y bytes maxL rt ws rm as' h k n Q := by
  refine MetFree.of_bodySF hp hisR ?_
  intro p e s m args below meth c s₁ Bd hml0 hP hK
  obtain ⟨rfl, hZ, hh⟩ := hP
  exact body p e s m below meth c s₁ Bd.exec Bd.bytes hml0 (findClass_of_methodNamed Bd.named) (name_of_methodNamed Bd.named Bd.method).1 Bd.returns Bd.notSynchronized hZ (Stand.of_body Bd) (by rw [← hh, Bd.state]; rfl)
section Steps1
variable {p : Program} {l : Launch} {e : Env} {R : Room} {s : State} {m : MethodId} {args : Array Value} {below : List Frame} {meth : Method} {c : Code} {T : State} {locs : List Loc} {cells slots : Nat} {P : State → Outcome → Prop} {pc q : Nat} {L L' : Array Slot} {S : List Value}
theorem goE {args' : Array Value} {n : Nat} (hq : entryFrame m args' n = mkF m 0 L []) (K : Go p.tables e below P (T.setTop (mkF m 0 L []))) : Go p.tables e below P (T.setTop (entryFrame m args' n)) := go (fun _ k => castTop hq k) K
theorem gIloadN (X : Stand p l e R s m args below meth c T locs cells slots) (hx : p.tables.exec = Jvm.exec) {k : Fin 4} {v : Int32} (hd : decode c.code pc = .ok (.iload_n k, 1)) (hq : pc + 1 = q) (hl : L[k.val]? = some (.val (.int v))) (K : Go p.tables e below P (T.setTop (mkF m q L (.int v :: S)))) : Go p.tables e below P (T.setTop (mkF m pc L (S))) := by subst hq; exact go (fun t k => XS.iloadN X.here hx rfl hd hl k) K
theorem gIload (X : Stand p l e R s m args below meth c T locs cells slots) (hx : p.tables.exec = Jvm.exec) {k : Nat} {v : Int32} (hd : decode c.code pc = .ok (.iload k, 2)) (hq : pc + 2 = q) (hl : L[k]? = some (.val (.int v))) (K : Go p.tables e below P (T.setTop (mkF m q L (.int v :: S)))) : Go p.tables e below P (T.setTop (mkF m pc L (S))) := by subst hq; exact go (fun t k => XS.iload X.here hx rfl hd hl k) K
theorem gLloadN (X : Stand p l e R s m args below meth c T locs cells slots) (hx : p.tables.exec = Jvm.exec) {k : Fin 4} {v : Int64} (hd : decode c.code pc = .ok (.lload_n k, 1)) (hq : pc + 1 = q) (hl : L[k.val]? = some (.val (.long v))) (K : Go p.tables e below P (T.setTop (mkF m q L (.long v :: S)))) : Go p.tables e below P (T.setTop (mkF m pc L (S))) := by subst hq; exact go (fun t k => XT.lloadN X.here hx rfl hd hl k) K
theorem gLload (X : Stand p l e R s m args below meth c T locs cells slots) (hx : p.tables.exec = Jvm.exec) {k : Nat} {v : Int64} (hd : decode c.code pc = .ok (.lload k, 2)) (hq : pc + 2 = q) (hl : L[k]? = some (.val (.long v))) (K : Go p.tables e below P (T.setTop (mkF m q L (.long v :: S)))) : Go p.tables e below P (T.setTop (mkF m pc L (S))) := by subst hq; exact go (fun t k => XT.lload X.here hx rfl hd hl k) K
theorem gAloadN (X : Stand p l e R s m args below meth c T locs cells slots) (hx : p.tables.exec = Jvm.exec) {k : Fin 4} {v : Value} (hd : decode c.code pc = .ok (.aload_n k, 1)) (hq : pc + 1 = q) (hl : L[k.val]? = some (.val v)) (hv : v.isRef = true) (K : Go p.tables e below P (T.setTop (mkF m q L (v :: S)))) : Go p.tables e below P (T.setTop (mkF m pc L (S))) := by subst hq; exact go (fun t k => XS.aloadN X.here hx rfl hd hl hv k) K
theorem gAload (X : Stand p l e R s m args below meth c T locs cells slots) (hx : p.tables.exec = Jvm.exec) {k : Nat} {v : Value} (hd : decode c.code pc = .ok (.aload k, 2)) (hq : pc + 2 = q) (hl : L[k]? = some (.val v)) (hv : v.isRef = true) (K : Go p.tables e below P (T.setTop (mkF m q L (v :: S)))) : Go p.tables e below P (T.setTop (mkF m pc L (S))) := by subst hq; exact go (fun t k => XS.aload X.here hx rfl hd hl hv k) K
theorem gIconst (X : Stand p l e R s m args below meth c T locs cells slots) (hx : p.tables.exec = Jvm.exec) {i : Int} (v : Int32) (hd : decode c.code pc = .ok (.iconst i, 1)) (hq : pc + 1 = q) (hv : Int32.ofInt i = v) (K : Go p.tables e below P (T.setTop (mkF m q L (.int v :: S)))) : Go p.tables e below P (T.setTop (mkF m pc L (S))) := by subst hq; exact go (fun t k => XT.iconstV X.here hx rfl v hd hv k) K
theorem gBipush (X : Stand p l e R s m args below meth c T locs cells slots) (hx : p.tables.exec = Jvm.exec) {i : Int} (v : Int32) (hd : decode c.code pc = .ok (.bipush i, 2)) (hq : pc + 2 = q) (hv : (Int8.ofInt i).toInt32 = v) (K : Go p.tables e below P (T.setTop (mkF m q L (.int v :: S)))) : Go p.tables e below P (T.setTop (mkF m pc L (S))) := by subst hq; exact go (fun t k => XT.bipushV X.here hx rfl v hd hv k) K
theorem gSipush (X : Stand p l e R s m args below meth c T locs cells slots) (hx : p.tables.exec = Jvm.exec) {i : Int} (v : Int32) (hd : decode c.code pc = .ok (.sipush i, 3)) (hq : pc + 3 = q) (hv : (Int16.ofInt i).toInt32 = v) (K : Go p.tables e below P (T.setTop (mkF m q L (.int v :: S)))) : Go p.tables e below P (T.setTop (mkF m pc L (S))) := by subst hq; exact go (fun t k => XT.sipushV X.here hx rfl v hd hv k) K
theorem gLconst (X : Stand p l e R s m args below meth c T locs cells slots) (hx : p.tables.exec = Jvm.exec) {k : Fin 2} (v : Int64) (hd : decode c.code pc = .ok (.lconst k, 1)) (hq : pc + 1 = q) (hv : Int64.ofNat k = v) (K : Go p.tables e below P (T.setTop (mkF m q L (.long v :: S)))) : Go p.tables e below P (T.setTop (mkF m pc L (S))) := by subst hq; exact go (fun t k => XT.lconstV X.here hx rfl v hd hv k) K
theorem gNull (X : Stand p l e R s m args below meth c T locs cells slots) (hx : p.tables.exec = Jvm.exec)  (hd : decode c.code pc = .ok (.aconst_null, 1)) (hq : pc + 1 = q)  (K : Go p.tables e below P (T.setTop (mkF m q L (.null :: S)))) : Go p.tables e below P (T.setTop (mkF m pc L (S))) := by subst hq; exact go (fun t k => XS.aconstNull X.here hx rfl hd  k) K
theorem gLdc (X : Stand p l e R s m args below meth c T locs cells slots) (hx : p.tables.exec = Jvm.exec) {Z : State} {a0 : Array Value} (hZ : Z.Warmed39 s.vm) {own : String} {i : Nat} {v : Int32} (hown : s.vm.findClass own = some m.cls) (w : (Jvm.Cond.constant own i v).before a0 Z = true) (hd : decode c.code pc = .ok (.ldc i, 2)) (hq : pc + 2 = q) (K : Go p.tables e below P (T.setTop (mkF m q L (.int v :: S)))) : Go p.tables e below P (T.setTop (mkF m pc L (S))) := by subst hq; exact go (fun t k => Stand.ldcI X hx hown (mvT hZ w) rfl hd k) K
theorem gLdcW (X : Stand p l e R s m args below meth c T locs cells slots) (hx : p.tables.exec = Jvm.exec) {Z : State} {a0 : Array Value} (hZ : Z.Warmed39 s.vm) {own : String} {i : Nat} {v : Int32} (hown : s.vm.findClass own = some m.cls) (w : (Jvm.Cond.constant own i v).before a0 Z = true) (hd : decode c.code pc = .ok (.ldc_w i, 3)) (hq : pc + 3 = q) (K : Go p.tables e below P (T.setTop (mkF m q L (.int v :: S)))) : Go p.tables e below P (T.setTop (mkF m pc L (S))) := by subst hq; exact go (fun t k => Stand.ldcWI X hx hown (mvT hZ w) rfl hd k) K
theorem gLdc2 (X : Stand p l e R s m args below meth c T locs cells slots) (hx : p.tables.exec = Jvm.exec) {Z : State} {a0 : Array Value} (hZ : Z.Warmed39 s.vm) {own : String} {i : Nat} {v : Int64} (hown : s.vm.findClass own = some m.cls) (w : (Jvm.Cond.constantLong own i v).before a0 Z = true) (hd : decode c.code pc = .ok (.ldc2_w i, 3)) (hq : pc + 3 = q) (K : Go p.tables e below P (T.setTop (mkF m q L (.long v :: S)))) : Go p.tables e below P (T.setTop (mkF m pc L (S))) := by subst hq; exact go (fun t k => Stand.ldc2J X hx hown (mvT hZ w) rfl hd k) K
theorem gIadd (X : Stand p l e R s m args below meth c T locs cells slots) (hx : p.tables.exec = Jvm.exec) {x y : Int32} (hd : decode c.code pc = .ok (.iadd, 1)) (hq : pc + 1 = q)  (K : Go p.tables e below P (T.setTop (mkF m q L (.int (x + y) :: S)))) : Go p.tables e below P (T.setTop (mkF m pc L (.int y :: .int x :: S))) := by subst hq; exact go (fun t k => XS.iadd X.here hx rfl hd rfl  k) K
theorem gIsub (X : Stand p l e R s m args below meth c T locs cells slots) (hx : p.tables.exec = Jvm.exec) {x y : Int32} (hd : decode c.code pc = .ok (.isub, 1)) (hq : pc + 1 = q)  (K : Go p.tables e below P (T.setTop (mkF m q L (.int (x - y) :: S)))) : Go p.tables e below P (T.setTop (mkF m pc L (.int y :: .int x :: S))) := by subst hq; exact go (fun t k => XS.isub X.here hx rfl hd rfl  k) K
theorem gIand (X : Stand p l e R s m args below meth c T locs cells slots) (hx : p.tables.exec = Jvm.exec) {x y : Int32} (hd : decode c.code pc = .ok (.iand, 1)) (hq : pc + 1 = q)  (K : Go p.tables e below P (T.setTop (mkF m q L (.int (x &&& y) :: S)))) : Go p.tables e below P (T.setTop (mkF m pc L (.int y :: .int x :: S))) := by subst hq; exact go (fun t k => XS.iand X.here hx rfl hd rfl  k) K
theorem gImul (X : Stand p l e R s m args below meth c T locs cells slots) (hx : p.tables.exec = Jvm.exec) {x y : Int32} (hd : decode c.code pc = .ok (.imul, 1)) (hq : pc + 1 = q)  (K : Go p.tables e below P (T.setTop (mkF m q L (.int (x * y) :: S)))) : Go p.tables e below P (T.setTop (mkF m pc L (.int y :: .int x :: S))) := by subst hq; exact go (fun t k => XS.imul X.here hx rfl hd rfl  k) K
theorem gIxor (X : Stand p l e R s m args below meth c T locs cells slots) (hx : p.tables.exec = Jvm.exec) {x y : Int32} (hd : decode c.code pc = .ok (.ixor, 1)) (hq : pc + 1 = q)  (K : Go p.tables e below P (T.setTop (mkF m q L (.int (x ^^^ y) :: S)))) : Go p.tables e below P (T.setTop (mkF m pc L (.int y :: .int x :: S))) := by subst hq; exact go (fun t k => XT.ixor X.here hx rfl hd rfl  k) K
theorem gIor (X : Stand p l e R s m args below meth c T locs cells slots) (hx : p.tables.exec = Jvm.exec) {x y : Int32} (hd : decode c.code pc = .ok (.ior, 1)) (hq : pc + 1 = q)  (K : Go p.tables e below P (T.setTop (mkF m q L (.int (x ||| y) :: S)))) : Go p.tables e below P (T.setTop (mkF m pc L (.int y :: .int x :: S))) := by subst hq; exact go (fun t k => XT.ior X.here hx rfl hd rfl  k) K
theorem gIshl (X : Stand p l e R s m args below meth c T locs cells slots) (hx : p.tables.exec = Jvm.exec) {x y : Int32} (hd : decode c.code pc = .ok (.ishl, 1)) (hq : pc + 1 = q)  (K : Go p.tables e below P (T.setTop (mkF m q L (.int (x <<< (y &&& 31)) :: S)))) : Go p.tables e below P (T.setTop (mkF m pc L (.int y :: .int x :: S))) := by subst hq; exact go (fun t k => XT.ishl X.here hx rfl hd rfl  k) K
theorem gIshr (X : Stand p l e R s m args below meth c T locs cells slots) (hx : p.tables.exec = Jvm.exec) {x y : Int32} (hd : decode c.code pc = .ok (.ishr, 1)) (hq : pc + 1 = q)  (K : Go p.tables e below P (T.setTop (mkF m q L (.int (x >>> (y &&& 31)) :: S)))) : Go p.tables e below P (T.setTop (mkF m pc L (.int y :: .int x :: S))) := by subst hq; exact go (fun t k => XT.ishr X.here hx rfl hd rfl  k) K
theorem gIushr (X : Stand p l e R s m args below meth c T locs cells slots) (hx : p.tables.exec = Jvm.exec) {x y : Int32} (hd : decode c.code pc = .ok (.iushr, 1)) (hq : pc + 1 = q)  (K : Go p.tables e below P (T.setTop (mkF m q L (.int (XT.ushr x y) :: S)))) : Go p.tables e below P (T.setTop (mkF m pc L (.int y :: .int x :: S))) := by subst hq; exact go (fun t k => XT.iushr X.here hx rfl hd rfl  k) K
theorem gIdiv (X : Stand p l e R s m args below meth c T locs cells slots) (hx : p.tables.exec = Jvm.exec) {x y : Int32} (hd : decode c.code pc = .ok (.idiv, 1)) (hq : pc + 1 = q) (hy : y ≠ 0) (K : Go p.tables e below P (T.setTop (mkF m q L (.int (x / y) :: S)))) : Go p.tables e below P (T.setTop (mkF m pc L (.int y :: .int x :: S))) := by subst hq; exact go (fun t k => XS.idiv X.here hx rfl hd rfl hy k) K
theorem gIrem (X : Stand p l e R s m args below meth c T locs cells slots) (hx : p.tables.exec = Jvm.exec) {x y : Int32} (hd : decode c.code pc = .ok (.irem, 1)) (hq : pc + 1 = q) (hy : y ≠ 0) (K : Go p.tables e below P (T.setTop (mkF m q L (.int (x % y) :: S)))) : Go p.tables e below P (T.setTop (mkF m pc L (.int y :: .int x :: S))) := by subst hq; exact go (fun t k => iremM X hx rfl hd rfl hy k) K
theorem gIneg (X : Stand p l e R s m args below meth c T locs cells slots) (hx : p.tables.exec = Jvm.exec) {x : Int32} (hd : decode c.code pc = .ok (.ineg, 1)) (hq : pc + 1 = q)  (K : Go p.tables e below P (T.setTop (mkF m q L (.int (-x) :: S)))) : Go p.tables e below P (T.setTop (mkF m pc L (.int x :: S))) := by subst hq; exact go (fun t k => XS.ineg X.here hx rfl hd rfl  k) K
theorem gLadd (X : Stand p l e R s m args below meth c T locs cells slots) (hx : p.tables.exec = Jvm.exec) {x y : Int64} (hd : decode c.code pc = .ok (.ladd, 1)) (hq : pc + 1 = q)  (K : Go p.tables e below P (T.setTop (mkF m q L (.long (x + y) :: S)))) : Go p.tables e below P (T.setTop (mkF m pc L (.long y :: .long x :: S))) := by subst hq; exact go (fun t k => XT.ladd X.here hx rfl hd rfl  k) K
theorem gLsub (X : Stand p l e R s m args below meth c T locs cells slots) (hx : p.tables.exec = Jvm.exec) {x y : Int64} (hd : decode c.code pc = .ok (.lsub, 1)) (hq : pc + 1 = q)  (K : Go p.tables e below P (T.setTop (mkF m q L (.long (x - y) :: S)))) : Go p.tables e below P (T.setTop (mkF m pc L (.long y :: .long x :: S))) := by subst hq; exact go (fun t k => XT.lsub X.here hx rfl hd rfl  k) K
theorem gLmul (X : Stand p l e R s m args below meth c T locs cells slots) (hx : p.tables.exec = Jvm.exec) {x y : Int64} (hd : decode c.code pc = .ok (.lmul, 1)) (hq : pc + 1 = q)  (K : Go p.tables e below P (T.setTop (mkF m q L (.long (x * y) :: S)))) : Go p.tables e below P (T.setTop (mkF m pc L (.long y :: .long x :: S))) := by subst hq; exact go (fun t k => XT.lmul X.here hx rfl hd rfl  k) K
theorem gLand (X : Stand p l e R s m args below meth c T locs cells slots) (hx : p.tables.exec = Jvm.exec) {x y : Int64} (hd : decode c.code pc = .ok (.land, 1)) (hq : pc + 1 = q)  (K : Go p.tables e below P (T.setTop (mkF m q L (.long (x &&& y) :: S)))) : Go p.tables e below P (T.setTop (mkF m pc L (.long y :: .long x :: S))) := by subst hq; exact go (fun t k => XT.land X.here hx rfl hd rfl  k) K
theorem gLor (X : Stand p l e R s m args below meth c T locs cells slots) (hx : p.tables.exec = Jvm.exec) {x y : Int64} (hd : decode c.code pc = .ok (.lor, 1)) (hq : pc + 1 = q)  (K : Go p.tables e below P (T.setTop (mkF m q L (.long (x ||| y) :: S)))) : Go p.tables e below P (T.setTop (mkF m pc L (.long y :: .long x :: S))) := by subst hq; exact go (fun t k => XT.lor X.here hx rfl hd rfl  k) K
theorem gLxor (X : Stand p l e R s m args below meth c T locs cells slots) (hx : p.tables.exec = Jvm.exec) {x y : Int64} (hd : decode c.code pc = .ok (.lxor, 1)) (hq : pc + 1 = q)  (K : Go p.tables e below P (T.setTop (mkF m q L (.long (x ^^^ y) :: S)))) : Go p.tables e below P (T.setTop (mkF m pc L (.long y :: .long x :: S))) := by subst hq; exact go (fun t k => XT.lxor X.here hx rfl hd rfl  k) K
theorem gLcmp (X : Stand p l e R s m args below meth c T locs cells slots) (hx : p.tables.exec = Jvm.exec) {x y : Int64} (hd : decode c.code pc = .ok (.lcmp, 1)) (hq : pc + 1 = q)  (K : Go p.tables e below P (T.setTop (mkF m q L (.int (XT.cmpL x y) :: S)))) : Go p.tables e below P (T.setTop (mkF m pc L (.long y :: .long x :: S))) := by subst hq; exact go (fun t k => XT.lcmp X.here hx rfl hd rfl  k) K
theorem gLneg (X : Stand p l e R s m args below meth c T locs cells slots) (hx : p.tables.exec = Jvm.exec) {x : Int64} (hd : decode c.code pc = .ok (.lneg, 1)) (hq : pc + 1 = q)  (K : Go p.tables e below P (T.setTop (mkF m q L (.long (-x) :: S)))) : Go p.tables e below P (T.setTop (mkF m pc L (.long x :: S))) := by subst hq; exact go (fun t k => XT.lneg X.here hx rfl hd rfl  k) K
theorem gI2l (X : Stand p l e R s m args below meth c T locs cells slots) (hx : p.tables.exec = Jvm.exec) {x : Int32} (hd : decode c.code pc = .ok (.i2l, 1)) (hq : pc + 1 = q)  (K : Go p.tables e below P (T.setTop (mkF m q L (.long x.toInt64 :: S)))) : Go p.tables e below P (T.setTop (mkF m pc L (.int x :: S))) := by subst hq; exact go (fun t k => XT.i2l X.here hx rfl hd rfl  k) K
theorem gL2i (X : Stand p l e R s m args below meth c T locs cells slots) (hx : p.tables.exec = Jvm.exec) {x : Int64} (hd : decode c.code pc = .ok (.l2i, 1)) (hq : pc + 1 = q)  (K : Go p.tables e below P (T.setTop (mkF m q L (.int x.toInt32 :: S)))) : Go p.tables e below P (T.setTop (mkF m pc L (.long x :: S))) := by subst hq; exact go (fun t k => XT.l2i X.here hx rfl hd rfl  k) K
theorem gI2c (X : Stand p l e R s m args below meth c T locs cells slots) (hx : p.tables.exec = Jvm.exec) {x : Int32} (hd : decode c.code pc = .ok (.i2c, 1)) (hq : pc + 1 = q)  (K : Go p.tables e below P (T.setTop (mkF m q L (.int x.toUInt32.toUInt16.toUInt32.toInt32 :: S)))) : Go p.tables e below P (T.setTop (mkF m pc L (.int x :: S))) := by subst hq; exact go (fun t k => XT.i2c X.here hx rfl hd rfl  k) K
theorem gI2b (X : Stand p l e R s m args below meth c T locs cells slots) (hx : p.tables.exec = Jvm.exec) {x : Int32} (hd : decode c.code pc = .ok (.i2b, 1)) (hq : pc + 1 = q)  (K : Go p.tables e below P (T.setTop (mkF m q L (.int x.toInt8.toInt32 :: S)))) : Go p.tables e below P (T.setTop (mkF m pc L (.int x :: S))) := by subst hq; exact go (fun t k => XT.i2b X.here hx rfl hd rfl  k) K
theorem gLdiv (X : Stand p l e R s m args below meth c T locs cells slots) (hx : p.tables.exec = Jvm.exec) {x y : Int64} (hd : decode c.code pc = .ok (.ldiv, 1)) (hq : pc + 1 = q) (hy : y ≠ 0) (K : Go p.tables e below P (T.setTop (mkF m q L (.long (x / y) :: S)))) : Go p.tables e below P (T.setTop (mkF m pc L (.long y :: .long x :: S))) := by subst hq; exact go (fun t k => XT.ldiv X.here hx rfl hd rfl hy k) K
theorem gLshl (X : Stand p l e R s m args below meth c T locs cells slots) (hx : p.tables.exec = Jvm.exec) {x : Int64} {y : Int32} (hd : decode c.code pc = .ok (.lshl, 1)) (hq : pc + 1 = q)  (K : Go p.tables e below P (T.setTop (mkF m q L (.long (x <<< (y.toInt64 &&& 63)) :: S)))) : Go p.tables e below P (T.setTop (mkF m pc L (.int y :: .long x :: S))) := by subst hq; exact go (fun t k => XT.lshl X.here hx rfl hd rfl  k) K
theorem gLshr (X : Stand p l e R s m args below meth c T locs cells slots) (hx : p.tables.exec = Jvm.exec) {x : Int64} {y : Int32} (hd : decode c.code pc = .ok (.lshr, 1)) (hq : pc + 1 = q)  (K : Go p.tables e below P (T.setTop (mkF m q L (.long (x >>> (y.toInt64 &&& 63)) :: S)))) : Go p.tables e below P (T.setTop (mkF m pc L (.int y :: .long x :: S))) := by subst hq; exact go (fun t k => XT.lshr X.here hx rfl hd rfl  k) K
theorem gLushr (X : Stand p l e R s m args below meth c T locs cells slots) (hx : p.tables.exec = Jvm.exec) {x : Int64} {y : Int32} (hd : decode c.code pc = .ok (.lushr, 1)) (hq : pc + 1 = q)  (K : Go p.tables e below P (T.setTop (mkF m q L (.long (XT.ushrL x y) :: S)))) : Go p.tables e below P (T.setTop (mkF m pc L (.int y :: .long x :: S))) := by subst hq; exact go (fun t k => XT.lushr X.here hx rfl hd rfl  k) K
theorem gLrem (X : Stand p l e R s m args below meth c T locs cells slots) (hx : p.tables.exec = Jvm.exec) {x y : Int64} (hd : decode c.code pc = .ok (.lrem, 1)) (hq : pc + 1 = q) (hy : y ≠ 0) (K : Go p.tables e below P (T.setTop (mkF m q L (.long (x - (x / y) * y) :: S)))) : Go p.tables e below P (T.setTop (mkF m pc L (.long y :: .long x :: S))) := by subst hq; exact go (fun t k => XT.lrem X.here hx rfl hd rfl hy k) K
theorem gIstoreN (X : Stand p l e R s m args below meth c T locs cells slots) (hx : p.tables.exec = Jvm.exec) {k : Fin 4} {x : Int32} (hd : decode c.code pc = .ok (.istore_n k, 1)) (hq : pc + 1 = q) (hl : storeLocals L k.val (.int x) = some L') (K : Go p.tables e below P (T.setTop (mkF m q L' (S)))) : Go p.tables e below P (T.setTop (mkF m pc L (.int x :: S))) := by subst hq; exact go (fun t k => XS.istoreN X.here hx rfl hd rfl hl k) K
theorem gIstore (X : Stand p l e R s m args below meth c T locs cells slots) (hx : p.tables.exec = Jvm.exec) {k : Nat} {x : Int32} (hd : decode c.code pc = .ok (.istore k, 2)) (hq : pc + 2 = q) (hl : storeLocals L k (.int x) = some L') (K : Go p.tables e below P (T.setTop (mkF m q L' (S)))) : Go p.tables e below P (T.setTop (mkF m pc L (.int x :: S))) := by subst hq; exact go (fun t k => XS.istore X.here hx rfl hd rfl hl k) K
theorem gLstoreN (X : Stand p l e R s m args below meth c T locs cells slots) (hx : p.tables.exec = Jvm.exec) {k : Fin 4} {x : Int64} (hd : decode c.code pc = .ok (.lstore_n k, 1)) (hq : pc + 1 = q) (hl : storeLocals L k.val (.long x) = some L') (K : Go p.tables e below P (T.setTop (mkF m q L' (S)))) : Go p.tables e below P (T.setTop (mkF m pc L (.long x :: S))) := by subst hq; exact go (fun t k => XT.lstoreN X.here hx rfl hd rfl hl k) K
theorem gLstore (X : Stand p l e R s m args below meth c T locs cells slots) (hx : p.tables.exec = Jvm.exec) {k : Nat} {x : Int64} (hd : decode c.code pc = .ok (.lstore k, 2)) (hq : pc + 2 = q) (hl : storeLocals L k (.long x) = some L') (K : Go p.tables e below P (T.setTop (mkF m q L' (S)))) : Go p.tables e below P (T.setTop (mkF m pc L (.long x :: S))) := by subst hq; exact go (fun t k => XT.lstore X.here hx rfl hd rfl hl k) K
theorem gAstoreN (X : Stand p l e R s m args below meth c T locs cells slots) (hx : p.tables.exec = Jvm.exec) {k : Fin 4} {x : Value} (hd : decode c.code pc = .ok (.astore_n k, 1)) (hq : pc + 1 = q) (hv : x.isRef = true) (hl : storeLocals L k.val x = some L') (K : Go p.tables e below P (T.setTop (mkF m q L' (S)))) : Go p.tables e below P (T.setTop (mkF m pc L (x :: S))) := by subst hq; exact go (fun t k => XS.astoreN X.here hx rfl hd rfl hv hl k) K
theorem gAstore (X : Stand p l e R s m args below meth c T locs cells slots) (hx : p.tables.exec = Jvm.exec) {k : Nat} {x : Value} (hd : decode c.code pc = .ok (.astore k, 2)) (hq : pc + 2 = q) (hv : x.isRef = true) (hl : storeLocals L k x = some L') (K : Go p.tables e below P (T.setTop (mkF m q L' (S)))) : Go p.tables e below P (T.setTop (mkF m pc L (x :: S))) := by subst hq; exact go (fun t k => XS.astore X.here hx rfl hd rfl hv hl k) K
theorem gIinc (X : Stand p l e R s m args below meth c T locs cells slots) (hx : p.tables.exec = Jvm.exec) {k : Nat} {cst : Int} {x : Int32} (v : Int32) (hd : decode c.code pc = .ok (.iinc k cst, 3)) (hq : pc + 3 = q) (hv : Int32.ofInt cst = v) (hl : L[k]? = some (.val (.int x))) (hl' : storeLocals L k (.int (x + v)) = some L') (K : Go p.tables e below P (T.setTop (mkF m q L' (S)))) : Go p.tables e below P (T.setTop (mkF m pc L (S))) := by subst hq; exact go (fun t k => XT.iincV X.here hx rfl v hd hv hl hl' k) K
theorem gDup (X : Stand p l e R s m args below meth c T locs cells slots) (hx : p.tables.exec = Jvm.exec) {x : Value} (hd : decode c.code pc = .ok (.dup, 1)) (hq : pc + 1 = q) (hc : x.category = 1) (K : Go p.tables e below P (T.setTop (mkF m q L (x :: x :: S)))) : Go p.tables e below P (T.setTop (mkF m pc L (x :: S))) := by subst hq; exact go (fun t k => XS.dup X.here hx rfl hd rfl hc k) K
theorem gPop (X : Stand p l e R s m args below meth c T locs cells slots) (hx : p.tables.exec = Jvm.exec) {x : Value} (hd : decode c.code pc = .ok (.pop, 1)) (hq : pc + 1 = q) (hc : x.category = 1) (K : Go p.tables e below P (T.setTop (mkF m q L (S)))) : Go p.tables e below P (T.setTop (mkF m pc L (x :: S))) := by subst hq; exact go (fun t k => XT.pop X.here hx rfl hd rfl hc k) K
theorem gDupX1 (X : Stand p l e R s m args below meth c T locs cells slots) (hx : p.tables.exec = Jvm.exec) {x y : Value} (hd : decode c.code pc = .ok (.dup_x1, 1)) (hq : pc + 1 = q) (hc : x.category = 1) (hc' : y.category = 1) (K : Go p.tables e below P (T.setTop (mkF m q L (x :: y :: x :: S)))) : Go p.tables e below P (T.setTop (mkF m pc L (x :: y :: S))) := by subst hq; exact go (fun t k => XT.dupX1 X.here hx rfl hd rfl hc hc' k) K
theorem gDup2 (X : Stand p l e R s m args below meth c T locs cells slots) (hx : p.tables.exec = Jvm.exec) {x y : Value} (hd : decode c.code pc = .ok (.dup2, 1)) (hq : pc + 1 = q) (hc : x.category = 1) (hc' : y.category = 1) (K : Go p.tables e below P (T.setTop (mkF m q L (x :: y :: x :: y :: S)))) : Go p.tables e below P (T.setTop (mkF m pc L (x :: y :: S))) := by subst hq; exact go (fun t k => XT.dup2 X.here hx rfl hd rfl hc hc' k) K
theorem gDup2L (X : Stand p l e R s m args below meth c T locs cells slots) (hx : p.tables.exec = Jvm.exec) {x : Int64} (hd : decode c.code pc = .ok (.dup2, 1)) (hq : pc + 1 = q)  (K : Go p.tables e below P (T.setTop (mkF m q L (.long x :: .long x :: S)))) : Go p.tables e below P (T.setTop (mkF m pc L (.long x :: S))) := by subst hq; exact go (fun t k => XT.dup2L X.here hx rfl hd rfl  k) K
theorem gGoto (X : Stand p l e R s m args below meth c T locs cells slots) (hx : p.tables.exec = Jvm.exec) {o : Int} (hd : decode c.code pc = .ok (.goto o, 3)) (ho : 0 ≤ (pc : Int) + o) (hq : ((pc : Int) + o).toNat = q) (K : Go p.tables e below P (T.setTop (mkF m q L (S)))) : Go p.tables e below P (T.setTop (mkF m pc L (S))) := go (fun t k => XS.goto X.here hx rfl rfl hd ho hq k) K
theorem gIfY (X : Stand p l e R s m args below meth c T locs cells slots) (hx : p.tables.exec = Jvm.exec) {cd : ClassFile.Cond} {x : Int32} {o : Int} (hd : decode c.code pc = .ok (.ifCond cd o, 3)) (ho : 0 ≤ (pc : Int) + o) (hq : ((pc : Int) + o).toNat = q) (hc : ifCond.holds cd x = true) (K : Go p.tables e below P (T.setTop (mkF m q L (S)))) : Go p.tables e below P (T.setTop (mkF m pc L (.int x :: S))) := go (fun t k => XS.ifYes X.here hx rfl rfl hd rfl hc ho hq k) K
theorem gIfN (X : Stand p l e R s m args below meth c T locs cells slots) (hx : p.tables.exec = Jvm.exec) {cd : ClassFile.Cond} {x : Int32} {o : Int} (hd : decode c.code pc = .ok (.ifCond cd o, 3)) (hq : pc + 3 = q) (hc : ifCond.holds cd x = false) (K : Go p.tables e below P (T.setTop (mkF m q L (S)))) : Go p.tables e below P (T.setTop (mkF m pc L (.int x :: S))) := by subst hq; exact go (fun t k => XS.ifNo X.here hx rfl hd rfl hc k) K
theorem gIcmpY (X : Stand p l e R s m args below meth c T locs cells slots) (hx : p.tables.exec = Jvm.exec) {cd : ClassFile.Cond} {x y : Int32} {o : Int} (hd : decode c.code pc = .ok (.if_icmp cd o, 3)) (ho : 0 ≤ (pc : Int) + o) (hq : ((pc : Int) + o).toNat = q) (hc : if_icmp.holds cd x y = true) (K : Go p.tables e below P (T.setTop (mkF m q L (S)))) : Go p.tables e below P (T.setTop (mkF m pc L (.int y :: .int x :: S))) := go (fun t k => XS.icmpYes X.here hx rfl rfl hd rfl hc ho hq k) K
theorem gIcmpN (X : Stand p l e R s m args below meth c T locs cells slots) (hx : p.tables.exec = Jvm.exec) {cd : ClassFile.Cond} {x y : Int32} {o : Int} (hd : decode c.code pc = .ok (.if_icmp cd o, 3)) (hq : pc + 3 = q) (hc : if_icmp.holds cd x y = false) (K : Go p.tables e below P (T.setTop (mkF m q L (S)))) : Go p.tables e below P (T.setTop (mkF m pc L (.int y :: .int x :: S))) := by subst hq; exact go (fun t k => XS.icmpNo X.here hx rfl hd rfl hc k) K
theorem gAcmpY (X : Stand p l e R s m args below meth c T locs cells slots) (hx : p.tables.exec = Jvm.exec) {cd : ClassFile.ACond} {x y : Value} {o : Int} (hd : decode c.code pc = .ok (.if_acmp cd o, 3)) (ho : 0 ≤ (pc : Int) + o) (hq : ((pc : Int) + o).toNat = q) (h1 : x.isRef = true) (h2 : y.isRef = true) (hc : XT.acmp cd x y = true) (K : Go p.tables e below P (T.setTop (mkF m q L (S)))) : Go p.tables e below P (T.setTop (mkF m pc L (y :: x :: S))) := go (fun t k => XT.acmpYes X.here hx rfl rfl hd rfl h1 h2 hc ho hq k) K
theorem gAcmpN (X : Stand p l e R s m args below meth c T locs cells slots) (hx : p.tables.exec = Jvm.exec) {cd : ClassFile.ACond} {x y : Value} {o : Int} (hd : decode c.code pc = .ok (.if_acmp cd o, 3)) (hq : pc + 3 = q) (h1 : x.isRef = true) (h2 : y.isRef = true) (hc : XT.acmp cd x y = false) (K : Go p.tables e below P (T.setTop (mkF m q L (S)))) : Go p.tables e below P (T.setTop (mkF m pc L (y :: x :: S))) := by subst hq; exact go (fun t k => XT.acmpNo X.here hx rfl hd rfl h1 h2 hc k) K
theorem gNullY (X : Stand p l e R s m args below meth c T locs cells slots) (hx : p.tables.exec = Jvm.exec) {v : Value} {o : Int} (hd : decode c.code pc = .ok (.ifnull o, 3)) (ho : 0 ≤ (pc : Int) + o) (hq : ((pc : Int) + o).toNat = q) (hv : v = .null) (K : Go p.tables e below P (T.setTop (mkF m q L (S)))) : Go p.tables e below P (T.setTop (mkF m pc L (v :: S))) := go (fun t k => XT.nullYes X.here hx rfl rfl hd rfl hv ho hq k) K
theorem gNullN (X : Stand p l e R s m args below meth c T locs cells slots) (hx : p.tables.exec = Jvm.exec) {v : Value} {o : Int} (hd : decode c.code pc = .ok (.ifnull o, 3)) (hq : pc + 3 = q) (hr : v.isRef = true) (hv : ¬ v = .null) (K : Go p.tables e below P (T.setTop (mkF m q L (S)))) : Go p.tables e below P (T.setTop (mkF m pc L (v :: S))) := by subst hq; exact go (fun t k => XT.nullNo X.here hx rfl hd rfl hr hv k) K
theorem gNonY (X : Stand p l e R s m args below meth c T locs cells slots) (hx : p.tables.exec = Jvm.exec) {v : Value} {o : Int} (hd : decode c.code pc = .ok (.ifnonnull o, 3)) (ho : 0 ≤ (pc : Int) + o) (hq : ((pc : Int) + o).toNat = q) (hr : v.isRef = true) (hv : ¬ v = .null) (K : Go p.tables e below P (T.setTop (mkF m q L (S)))) : Go p.tables e below P (T.setTop (mkF m pc L (v :: S))) := go (fun t k => XT.nonnullYes X.here hx rfl rfl hd rfl hr hv ho hq k) K
theorem gNonN (X : Stand p l e R s m args below meth c T locs cells slots) (hx : p.tables.exec = Jvm.exec) {v : Value} {o : Int} (hd : decode c.code pc = .ok (.ifnonnull o, 3)) (hq : pc + 3 = q) (hv : v = .null) (K : Go p.tables e below P (T.setTop (mkF m q L (S)))) : Go p.tables e below P (T.setTop (mkF m pc L (v :: S))) := by subst hq; exact go (fun t k => XT.nonnullNo X.here hx rfl hd rfl hv k) K
theorem gRet (X : Stand p l e R s m args below meth c T locs cells slots) (hx : p.tables.exec = Jvm.exec) {Q : Option Value → Heap → List Loc → Prop} {k n : Nat} {w : Value} {t : FieldType} {i : Instr} (hlk : meth.locks = false) (hret : meth.sig.returnType = some t) (hn : narrow t w = w)
    (hi : (i = .ireturn ∧ (t = .int ∨ t = .boolean ∨ t = .byte ∨ t = .char ∨ t = .short) ∧ ∃ z, w = .int z) ∨ (i = .lreturn ∧ t = .long ∧ ∃ z, w = .long z) ∨ (i = .dreturn ∧ t = .double ∧ ∃ z, w = .double z) ∨ (i = .freturn ∧ t = .float ∧ ∃ z, w = .float z) ∨ (i = .areturn ∧ t.isReference = true ∧ w.isRef = true))
    (hd : decode c.code pc = .ok (i, 1)) (hk : cells ≤ k) (hs : slots ≤ n) (hQ : Q (some w) T.heap locs) : Go p.tables e below (Done s Q k n) (T.setTop (mkF m pc L (w :: S))) := by
  obtain ⟨fs, hr, hrun, hended, hW, hsame⟩ := X.leave (v := some w) (fun h => by rw [hret] at h; cases h) hlk
  exact ⟨_, _, retOut X hx hret hn hi hd hr, hrun, hended, _, _, rfl, hQ, ⟨_, rfl⟩, hW, hsame.mono hk hs⟩
theorem gRetI (X : Stand p l e R s m args below meth c T locs cells slots) (hx : p.tables.exec = Jvm.exec) {Q : Option Value → Heap → List Loc → Prop} {k n : Nat} {z : Int32} (hlk : meth.locks = false) (hret : meth.sig.returnType = some .int) (hd : decode c.code pc = .ok (.ireturn, 1)) (hk : cells ≤ k) (hs : slots ≤ n) (hQ : Q (some (.int z)) T.heap locs) : Go p.tables e below (Done s Q k n) (T.setTop (mkF m pc L (.int z :: S))) :=
  gRet X hx hlk hret rfl (Or.inl ⟨rfl, Or.inl rfl, _, rfl⟩) hd hk hs hQ
theorem gRetZ (X : Stand p l e R s m args below meth c T locs cells slots) (hx : p.tables.exec = Jvm.exec) {Q : Option Value → Heap → List Loc → Prop} {k n : Nat} {z : Int32} (hlk : meth.locks = false) (hret : meth.sig.returnType = some .boolean) (hd : decode c.code pc = .ok (.ireturn, 1)) (hk : cells ≤ k) (hs : slots ≤ n) (hz : z = 0 ∨ z = 1) (hQ : Q (some (.int z)) T.heap locs) : Go p.tables e below (Done s Q k n) (T.setTop (mkF m pc L (.int z :: S))) :=
  gRet X hx hlk hret (by rcases hz with rfl | rfl <;> rfl) (Or.inl ⟨rfl, Or.inr (Or.inl rfl), _, rfl⟩) hd hk hs hQ
theorem gRetJ (X : Stand p l e R s m args below meth c T locs cells slots) (hx : p.tables.exec = Jvm.exec) {Q : Option Value → Heap → List Loc → Prop} {k n : Nat} {z : Int64} (hlk : meth.locks = false) (hret : meth.sig.returnType = some .long) (hd : decode c.code pc = .ok (.lreturn, 1)) (hk : cells ≤ k) (hs : slots ≤ n) (hQ : Q (some (.long z)) T.heap locs) : Go p.tables e below (Done s Q k n) (T.setTop (mkF m pc L (.long z :: S))) :=
  gRet X hx hlk hret rfl (Or.inr (Or.inl ⟨rfl, rfl, _, rfl⟩)) hd hk hs hQ
theorem gRetA (X : Stand p l e R s m args below meth c T locs cells slots) (hx : p.tables.exec = Jvm.exec) {Q : Option Value → Heap → List Loc → Prop} {k n : Nat} {w : Value} {t : FieldType} (hlk : meth.locks = false) (hret : meth.sig.returnType = some t) (ht : t.isReference = true) (hw : w.isRef = true) (hd : decode c.code pc = .ok (.areturn, 1)) (hk : cells ≤ k) (hs : slots ≤ n) (hQ : Q (some w) T.heap locs) : Go p.tables e below (Done s Q k n) (T.setTop (mkF m pc L (w :: S))) :=
  gRet X hx hlk hret (by cases t <;> simp [FieldType.isReference] at ht <;> cases w <;> simp [Value.isRef] at hw <;> rfl) (Or.inr (Or.inr (Or.inr (Or.inr ⟨rfl, ht, hw⟩)))) hd hk hs hQ
theorem gRetV (X : Stand p l e R s m args below meth c T locs cells slots) (hx : p.tables.exec = Jvm.exec) {Q : Option Value → Heap → List Loc → Prop} {k n : Nat} (hlk : meth.locks = false) (hret : meth.sig.returnType = none) (hd : decode c.code pc = .ok (.return_, 1)) (hk : cells ≤ k) (hs : slots ≤ n) (hQ : Q none T.heap locs) : Go p.tables e below (Done s Q k n) (T.setTop (mkF m pc L [])) := by
  obtain ⟨fs, hr, hrun, hended, hW, hsame⟩ := X.leave (v := none) (fun _ => rfl) hlk
  exact ⟨_, _, X.returnOut hx hret hd hr, hrun, hended, _, _, rfl, hQ, ⟨_, rfl⟩, hW, hsame.mono hk hs⟩
end Steps1
section Steps2
variable {p : Program} {l : Launch} {e : Env} {R : Room} {s : State} {m : MethodId} {args : Array Value} {below : List Frame} {meth : Method} {c : Code} {T : State} {locs : List Loc} {cells slots : Nat} {P : State → Outcome → Prop} {pc q : Nat} {L L' : Array Slot} {S : List Value} {Z : State} {a0 : Array Value} {h : Heap}
theorem gGetF (X : Stand p l e R s m args below meth c T locs cells slots) (hx : p.tables.exec = Jvm.exec) (hZ : Z.Warmed39 s.vm) {own R0 O n d host : String} {i : Nat} (hown : s.vm.findClass own = some m.cls) (w : (Jvm.Cond.fieldLink own i R0 n d).before a0 Z = true ∨ (Jvm.Cond.fieldLinkNest own i R0 n d host).before a0 Z = true) (via : Via Z R0 O n d)
    (eT : T.heap = h) {a : Addr} {v : Value} (F : Fld Z h a O n d v) (hd : decode c.code pc = .ok (.getfield i, 3)) (hq : pc + 3 = q)
    (K : ∀ T', Stand p l e R s m args below meth c T' locs cells slots → T'.heap = h → Go p.tables e below P (T'.setTop (mkF m q L (v :: S)))) : Go p.tables e below P (T.setTop (mkF m pc L (.ref a :: S))) := by
  subst hq
  obtain ⟨T', X', e', st⟩ := getF X hx hZ hown w via eT F (g := mkF m pc L (.ref a :: S)) rfl rfl hd
  exact go st (K T' X' e')
theorem gGetS (X : Stand p l e R s m args below meth c T locs cells slots) (hx : p.tables.exec = Jvm.exec) (hZ : Z.Warmed39 s.vm) {own R0 O n d : String} {i : Nat} (hown : s.vm.findClass own = some m.cls) (w : (Jvm.Cond.fieldLink own i R0 n d).before a0 Z = true) (via : Via Z R0 O n d)
    (eT : T.heap = h) {v : Value} (F : Sta Z h O n d v) (hd : decode c.code pc = .ok (.getstatic i, 3)) (hq : pc + 3 = q)
    (K : ∀ T', Stand p l e R s m args below meth c T' locs cells slots → T'.heap = h → Go p.tables e below P (T'.setTop (mkF m q L (v :: S)))) : Go p.tables e below P (T.setTop (mkF m pc L S)) := by
  subst hq
  obtain ⟨T', X', e', st⟩ := getS X hx hZ (host := "") hown w via eT F (g := mkF m pc L S) rfl hd
  exact go st (K T' X' e')
theorem gPutF (X : Stand p l e R s m args below meth c T locs cells slots) (hx : p.tables.exec = Jvm.exec) (hZ : Z.Warmed39 s.vm) {own R0 O n d host C : String} {i kk : Nat} {ty : FieldType} (hown : s.vm.findClass own = some m.cls) (w : (Jvm.Cond.fieldLink own i R0 n d).before a0 Z = true ∨ (Jvm.Cond.fieldLinkNest own i R0 n d host).before a0 Z = true) (via : Via Z R0 O n d)
    (eT : T.heap = h) {a : Addr} {v old : Value} (F : Fld Z h a O n d old) (E : Exa Z h a C) (Ly : (Jvm.Cond.lays C O n d).before a0 Z = true ∨ ((Jvm.Cond.laysFinal C O n d).before a0 Z = true ∧ own = O ∧ meth.name = "<init>")) (wi : (Jvm.Cond.instantiable C kk).before a0 Z = true)
    (hty : parseFieldDescriptor d = some ty) (hn : narrow ty v = v) (hf : fits ty v = true) (hd : decode c.code pc = .ok (.putfield i, 3)) (hq : pc + 3 = q)
    (K : ∀ T' h', Stand p l e R s m args below meth c T' (locs ++ [⟨a, Jvm.RoadKit.slotOf Z O n d⟩]) cells slots → T'.heap = h' → Wr h h' a (Jvm.RoadKit.slotOf Z O n d) v → Go p.tables e below P (T'.setTop (mkF m q L S))) : Go p.tables e below P (T.setTop (mkF m pc L (v :: .ref a :: S))) := by
  subst hq
  obtain ⟨T', h', X', e', W', st⟩ := putF X hx hZ hown w via eT F E Ly wi hty hn hf (g := mkF m pc L (v :: .ref a :: S)) rfl rfl hd
  exact go st (K T' h' X' e' W')
theorem gNewO (X : Stand p l e R s m args below meth c T locs cells slots) (hx : p.tables.exec = Jvm.exec) (hZ : Z.Warmed39 s.vm) {own C : String} {i n : Nat} (hown : s.vm.findClass own = some m.cls) (w : (Jvm.Cond.classLink own i C).before a0 Z = true) (wi : (Jvm.Cond.instantiable C n).before a0 Z = true) (wz : (Jvm.Cond.initialized C).before a0 Z = true) (eT : T.heap = h)
    (hd : decode c.code pc = .ok (.new i, 3)) (hq : pc + 3 = q) (hc : cells + 1 ≤ R.cells) (hl : slots + n ≤ R.slots)
    (K : ∀ T' h' a, Stand p l e R s m args below meth c T' locs (cells + 1) (slots + n) → T'.heap = h' → a = h.size → Ext h h' → Exa Z h' a C → (∀ {O nm d : String} {ty : FieldType}, Laid Z a0 C O nm d → parseFieldDescriptor d = some ty → Fld Z h' a O nm d (defaultValue ty)) → Go p.tables e below P (T'.setTop (mkF m q L (.ref a :: S)))) : Go p.tables e below P (T.setTop (mkF m pc L S)) := by
  subst hq
  obtain ⟨T', h', X', e', E', A', D', -, st⟩ := newO X hx hZ hown w wi wz eT (g := mkF m pc L S) rfl hd hc hl
  exact go st (K T' h' _ X' e' rfl E' A' D')
theorem gInitO (X : Stand p l e R s m args below meth c T locs cells slots) (hx : p.tables.exec = Jvm.exec) (hZ : Z.Warmed39 s.vm) {own : String} {i : Nat} (hown : s.vm.findClass own = some m.cls) (w1 : (Jvm.Cond.methodLink own i Lib.objectInit).before a0 Z = true) (w2 : (Jvm.Cond.instanceMethod Lib.objectInit).before a0 Z = true) (w3 : (Jvm.Cond.code Lib.objectInit ⟨#[0xb1]⟩ 1 none).before a0 Z = true) (eT : T.heap = h)
    (hsize : L.size = c.maxLocals) {a : Addr} (hd : decode c.code pc = .ok (.invokespecial i, 3)) (hq : pc + 3 = q) (hf : 1 ≤ R.frames) {W : Nat} (hW : (S.map fun v => v.category).sum ≤ W) (hl : W + 12 ≤ R.locals)
    (K : ∀ T', Stand p l e R s m args below meth c T' locs cells slots → T'.heap = h → Go p.tables e below P (T'.setTop (mkF m q L S))) : Go p.tables e below P (T.setTop (mkF m pc L (.ref a :: S))) := by
  subst hq
  obtain ⟨T', X', e', st⟩ := initO X hx hZ hown w1 w2 w3 eT (g := mkF m pc L (.ref a :: S)) rfl hsize rfl hd hf (W := W) (by show 2 * 0 + _ ≤ _; rw [Nat.mul_zero, Nat.zero_add]; exact hW) hl
  exact go st (K T' X' e')
/-! calls by a contract -/
theorem gCallS (X : Stand p l e R s m args below meth c T locs cells slots) (hx : p.tables.exec = Jvm.exec) (hZ : Z.Warmed39 s.vm) {own : String} {i : Nat} {y : MethodName} {bytes : ByteArray} {maxL : Nat} {rt : Option FieldType} {rm : Room} {as' : Array Value} {Q : Option Value → Heap → List Loc → Prop} (hown : s.vm.findClass own = some m.cls)
    (w1 : (Jvm.Cond.methodLink own i y).before a0 Z = true) (w2 : (Jvm.Cond.static y).before a0 Z = true) (w3 : (Jvm.Cond.initialized y.cls).before a0 Z = true) (w4 : (Jvm.Cond.code y bytes maxL rt).before a0 Z = true) (hy : y.cls ≠ "java/lang/invoke/MethodHandle" ∧ y.cls ≠ "java/lang/invoke/VarHandle")
    (hM : Con l Z y bytes maxL rt [] rm as' h rm.cells rm.slots Q) {W : Nat} (hf : rm.frames + 1 ≤ R.frames) (hlo : W + (maxL + 11) + rm.locals ≤ R.locals) (eT : T.heap = h) (hsize : L.size = c.maxLocals)
    {S0 : List Value} (argsL : List Value) (hlen : ∀ sig, parseMethodDescriptor y.desc = some sig → argsL.length = sig.parameters.length) (has : argsL.toArray = as') (hst : S0 = argsL.reverse ++ S) (hW : (S.map fun v => v.category).sum ≤ W) (hd : decode c.code pc = .ok (.invokestatic i, 3)) (hq : pc + 3 = q)
    (hc : cells + rm.cells ≤ R.cells) (hs : slots + rm.slots ≤ R.slots)
    (K : ∀ v T' Lc, Stand p l e R s m args below meth c T' (locs ++ Lc) (cells + rm.cells) (slots + rm.slots) → Q v T'.heap Lc → Go p.tables e below P (T'.setTop (mkF m q L (v.toList ++ S)))) : Go p.tables e below P (T.setTop (mkF m pc L S0)) := by
  subst hq has hst
  obtain ⟨v, _, ⟨T', L1, k1, n1⟩, -, X', ⟨Lc, hQ, h1, h2, h3⟩, st⟩ := Jvm.LawKit.callS X hx hown (mvT hZ w1) (mvT hZ w2) (mvT hZ w3) (mvT hZ w4) hy (backOf (W := W) hM hZ w4 w3 hf hlo) (g := mkF m pc L (argsL.reverse ++ S)) rfl hsize (argsL := argsL) (rest := S) hlen rfl (by show 2 * 0 + _ ≤ _; rw [Nat.mul_zero, Nat.zero_add]; exact hW) hd (fun _ _ => ⟨rfl, eT, hc, hs⟩)
  dsimp only [Pt.U, Pt.locs, Pt.cells, Pt.slots] at X' h1 h2 h3 st hQ
  subst h1 h2 h3
  exact go st (K v T' Lc X' hQ)
theorem gCallSN (X : Stand p l e R s m args below meth c T locs cells slots) (hx : p.tables.exec = Jvm.exec) (hZ : Z.Warmed39 s.vm) {own host : String} {i : Nat} {y : MethodName} {bytes : ByteArray} {maxL : Nat} {rt : Option FieldType} {rm : Room} {as' : Array Value} {Q : Option Value → Heap → List Loc → Prop} (hown : s.vm.findClass own = some m.cls)
    (w1 : (Jvm.Cond.methodLinkNest own i y host).before a0 Z = true) (w2 : (Jvm.Cond.static y).before a0 Z = true) (w3 : (Jvm.Cond.initialized y.cls).before a0 Z = true) (w4 : (Jvm.Cond.code y bytes maxL rt).before a0 Z = true) (hy : y.cls ≠ "java/lang/invoke/MethodHandle" ∧ y.cls ≠ "java/lang/invoke/VarHandle")
    (hM : Con l Z y bytes maxL rt [] rm as' h rm.cells rm.slots Q) {W : Nat} (hf : rm.frames + 1 ≤ R.frames) (hlo : W + (maxL + 11) + rm.locals ≤ R.locals) (eT : T.heap = h) (hsize : L.size = c.maxLocals)
    {S0 : List Value} (argsL : List Value) (hlen : ∀ sig, parseMethodDescriptor y.desc = some sig → argsL.length = sig.parameters.length) (has : argsL.toArray = as') (hst : S0 = argsL.reverse ++ S) (hW : (S.map fun v => v.category).sum ≤ W) (hd : decode c.code pc = .ok (.invokestatic i, 3)) (hq : pc + 3 = q)
    (hc : cells + rm.cells ≤ R.cells) (hs : slots + rm.slots ≤ R.slots)
    (K : ∀ v T' Lc, Stand p l e R s m args below meth c T' (locs ++ Lc) (cells + rm.cells) (slots + rm.slots) → Q v T'.heap Lc → Go p.tables e below P (T'.setTop (mkF m q L (v.toList ++ S)))) : Go p.tables e below P (T.setTop (mkF m pc L S0)) := by
  subst hq has hst
  obtain ⟨v, _, ⟨T', L1, k1, n1⟩, -, X', ⟨Lc, hQ, h1, h2, h3⟩, st⟩ := callSN X hx hown (Cond.methodLinkNest_wide hZ w1 :) (mvT hZ w2) (mvT hZ w3) (mvT hZ w4) hy (backOf (W := W) hM hZ w4 w3 hf hlo) (g := mkF m pc L (argsL.reverse ++ S)) rfl hsize (argsL := argsL) (rest := S) hlen rfl (by show 2 * 0 + _ ≤ _; rw [Nat.mul_zero, Nat.zero_add]; exact hW) hd (fun _ _ => ⟨rfl, eT, hc, hs⟩)
  dsimp only [Pt.U, Pt.locs, Pt.cells, Pt.slots] at X' h1 h2 h3 st hQ
  subst h1 h2 h3
  exact goT st (K v T' Lc X' hQ)
theorem gCallN (X : Stand p l e R s m args below meth c T locs cells slots) (hx : p.tables.exec = Jvm.exec) (hZ : Z.Warmed39 s.vm) {own : String} {i : Nat} {y : MethodName} {bytes : ByteArray} {maxL : Nat} {rm : Room} {as' : Array Value} {Q : Option Value → Heap → List Loc → Prop} (hy1 : y.name = "<init>") (hown : s.vm.findClass own = some m.cls)
    (w1 : (Jvm.Cond.methodLink own i y).before a0 Z = true) (w2 : (Jvm.Cond.instanceMethod y).before a0 Z = true) (w3 : (Jvm.Cond.initialized y.cls).before a0 Z = true) (w4 : (Jvm.Cond.code y bytes maxL none).before a0 Z = true) (hy : y.cls ≠ "java/lang/invoke/MethodHandle" ∧ y.cls ≠ "java/lang/invoke/VarHandle")
    (hM : Con l Z y bytes maxL none [] rm as' h rm.cells rm.slots Q) {W : Nat} (hf : rm.frames + 1 ≤ R.frames) (hlo : W + (maxL + 11) + rm.locals ≤ R.locals) (eT : T.heap = h) (hsize : L.size = c.maxLocals)
    {S0 : List Value} {a : Addr} (argsL : List Value) (hlen : ∀ sig, parseMethodDescriptor y.desc = some sig → argsL.length = sig.parameters.length) (has : (.ref a :: argsL).toArray = as') (hst : S0 = argsL.reverse ++ .ref a :: S) (hW : (S.map fun v => v.category).sum ≤ W) (hd : decode c.code pc = .ok (.invokespecial i, 3)) (hq : pc + 3 = q)
    (hc : cells + rm.cells ≤ R.cells) (hs : slots + rm.slots ≤ R.slots)
    (K : ∀ v T' Lc, Stand p l e R s m args below meth c T' (locs ++ Lc) (cells + rm.cells) (slots + rm.slots) → Q v T'.heap Lc → Go p.tables e below P (T'.setTop (mkF m q L (v.toList ++ S)))) : Go p.tables e below P (T.setTop (mkF m pc L S0)) := by
  subst hq has hst
  obtain ⟨v, _, ⟨T', L1, k1, n1⟩, -, X', ⟨Lc, hQ, h1, h2, h3⟩, st⟩ := X.specialBack hx hy1 hown (mvT hZ w1) (mvT hZ w2) (mvT hZ w4) hy (backOf (W := W) hM hZ w4 w3 hf hlo) (g := mkF m pc L (argsL.reverse ++ .ref a :: S)) rfl hsize (Steps.refl _) (a := a) (argsL := argsL) (rest := S) hlen rfl (by show 2 * 0 + _ ≤ _; rw [Nat.mul_zero, Nat.zero_add]; exact hW) hd (fun _ _ => ⟨rfl, eT, hc, hs⟩)
  dsimp only [Pt.U, Pt.locs, Pt.cells, Pt.slots] at X' h1 h2 h3 st hQ
  subst h1 h2 h3
  exact goT st (K v T' Lc X' hQ)
theorem gCallV (X : Stand p l e R s m args below meth c T locs cells slots) (hx : p.tables.exec = Jvm.exec) (hZ : Z.Warmed39 s.vm) {own C : String} {i : Nat} {y z : MethodName} {bytes : ByteArray} {maxL : Nat} {rt : Option FieldType} {rm : Room} {as' : Array Value} {Q : Option Value → Heap → List Loc → Prop} (hown : s.vm.findClass own = some m.cls)
    (w1 : (Jvm.Cond.methodLink own i y).before a0 Z = true) (w2 : (Jvm.Cond.declares y).before a0 Z = true) (w5 : (Jvm.Cond.selects C y z).before a0 Z = true) (w6 : (Jvm.Cond.instanceMethod z).before a0 Z = true) (w3 : (Jvm.Cond.initialized z.cls).before a0 Z = true) (w4 : (Jvm.Cond.code z bytes maxL rt).before a0 Z = true) (hnf : NotFace s y) (hy : y.cls ≠ "java/lang/invoke/MethodHandle" ∧ y.cls ≠ "java/lang/invoke/VarHandle")
    (hM : Con l Z z bytes maxL rt [] rm as' h rm.cells rm.slots Q) {W : Nat} (hf : rm.frames + 1 ≤ R.frames) (hlo : W + (maxL + 11) + rm.locals ≤ R.locals) (eT : T.heap = h) (hsize : L.size = c.maxLocals)
    {S0 : List Value} {a : Addr} (E : Exa Z h a C) (argsL : List Value) (hlen : ∀ sig, parseMethodDescriptor y.desc = some sig → argsL.length = sig.parameters.length) (has : (.ref a :: argsL).toArray = as') (hst : S0 = argsL.reverse ++ .ref a :: S) (hW : (S.map fun v => v.category).sum ≤ W) (hd : decode c.code pc = .ok (.invokevirtual i, 3)) (hq : pc + 3 = q)
    (hc : cells + rm.cells ≤ R.cells) (hs : slots + rm.slots ≤ R.slots)
    (K : ∀ v T' Lc, Stand p l e R s m args below meth c T' (locs ++ Lc) (cells + rm.cells) (slots + rm.slots) → Q v T'.heap Lc → Go p.tables e below P (T'.setTop (mkF m q L (v.toList ++ S)))) : Go p.tables e below P (T.setTop (mkF m pc L S0)) := by
  subst hq has hst
  obtain ⟨cq, kq, q1, q2, q3⟩ := isOf hZ eT E
  obtain ⟨v, _, ⟨T', L1, k1, n1⟩, -, X', ⟨Lc, hQ, h1, h2, h3⟩, st⟩ := X.virtualBack hx hown (mvT hZ w1) (mvT hZ w2) hnf (mvT hZ w5) (mvT hZ w6) hy (backOf (W := W) hM hZ w4 w3 hf hlo) q1 q3 (g := mkF m pc L (argsL.reverse ++ .ref a :: S)) rfl hsize (Steps.refl _) (argsL := argsL) (rest := S) hlen rfl (by show 2 * 0 + _ ≤ _; rw [Nat.mul_zero, Nat.zero_add]; exact hW) hd (fun _ _ => ⟨rfl, eT, hc, hs⟩)
  dsimp only [Pt.U, Pt.locs, Pt.cells, Pt.slots] at X' h1 h2 h3 st hQ
  subst h1 h2 h3
  exact goT st (K v T' Lc X' hQ)
end Steps2
end Jvm.OwnKit
namespace Jvm.OwnKit
open Sem ClassFile Op Lib Jvm.Stand Jvm.Free Jvm.LawKit Jvm.RoadKit
theorem own_fldI {args : Array Value} {Z : State} {t : Term} {C n d : String} {x : Addr} {k : Int32} (ev : t.eval args Z none [] Z = some (.ref x)) (h : (Jvm.Cond.eq (Term.field t C n d) (Term.int k)).value args Z none Z [] = some true) : Fld Z Z.heap x C n d (.int k) := by
  obtain ⟨u, w, h1, h2, h3, h4⟩ := cmp_v (Or.inl h)
  obtain rfl : w = .int k := Option.some.inj (h2.symm.trans (Term.int_eval k))
  obtain ⟨z, rfl⟩ := h4
  have hz : z = k := gotT (Cond.eq_ints h1 h2) h
  subst hz
  exact Fld.start ((fld_at ev).symm.trans h1)
end Jvm.OwnKit
namespace Jvm.OwnKit
open Sem ClassFile Op Lib Jvm.Stand Jvm.Free Jvm.LawKit Jvm.RoadKit
/-- the array at a: its class, its element type, its values -/
def Ary (Z : State) (h : Heap) (a : Addr) (k : ClassId) (ty : FieldType) (vs : List Value) : Prop := ∃ c : Cell, Arr Z h a c ty ∧ c.cls = k ∧ c.slots.toList = vs
section Ary
variable {Z : State} {h h' : Heap} {a b : Addr} {k : ClassId} {ty : FieldType} {vs : List Value} {sl : Nat} {v : Value} {ws : List Addr}
theorem Ary.ext (E : Ext h h') (F : Ary Z h a k ty vs) : Ary Z h' a k ty vs := by obtain ⟨c, A, r⟩ := F; exact ⟨c, A.ext E, r⟩
theorem Ary.other (W : Wr h h' a sl v) (F : Ary Z h b k ty vs) (q : b ≠ a) : Ary Z h' b k ty vs := by obtain ⟨c, A, r⟩ := F; exact ⟨c, A.other W q, r⟩
theorem Ary.keep (F : Ary Z h a k ty vs) (K : Keep h h' ws) (q : a ∉ ws) : Ary Z h' a k ty vs := by obtain ⟨c, A, r⟩ := F; exact ⟨c, ⟨K.2.1 a c A.1 q, A.2⟩, r⟩
theorem Ary.lt (F : Ary Z h a k ty vs) : a < h.size := by obtain ⟨c, A, -⟩ := F; exact A.lt
theorem Ary.same (W : Wr h h' a sl v) (F : Ary Z h a k ty vs) : Ary Z h' a k ty (vs.set sl v) := by
  obtain ⟨c, A, r1, r2⟩ := F
  exact ⟨_, A.same W, r1, by subst r2; simp [Cell.setSlot]⟩
theorem Ary.new {n : Int32} (A : Arr Z h a (newA k ty n) ty) : Ary Z h a k ty (List.replicate n.toNatClampNeg (defaultValue ty)) := ⟨_, A, rfl, by simp [newA]⟩
theorem Ary.ne_exa {a0 : Array Value} {C : String} {n : Nat} (F : Ary Z h a k ty vs) (E : Exa Z h b C) (wi : (Jvm.Cond.instantiable C n).before a0 Z = true) : a ≠ b := by obtain ⟨c, A, -⟩ := F; exact (ne_arr E wi A).symm
end Ary
section Steps3
variable {p : Program} {l : Launch} {e : Env} {R : Room} {s : State} {m : MethodId} {args : Array Value} {below : List Frame} {meth : Method} {c : Code} {T : State} {locs : List Loc} {cells slots : Nat} {P : State → Outcome → Prop} {pc q : Nat} {L L' : Array Slot} {S : List Value} {Z : State} {a0 : Array Value} {h : Heap} {a : Addr} {k : ClassId} {vs : List Value}
theorem gIaload (X : Stand p l e R s m args below meth c T locs cells slots) (hx : p.tables.exec = Jvm.exec) (hZ : Z.Warmed39 s.vm) (eT : T.heap = h) (A : Ary Z h a k .int vs) {j : Int32} {v : Value} (hd : decode c.code pc = .ok (.iaload, 1)) (hq : pc + 1 = q) (hj : ¬ (j < 0 ∨ vs.length ≤ j.toNatClampNeg)) (hv : vs[j.toNatClampNeg]? = some v) (K : Go p.tables e below P (T.setTop (mkF m q L (v :: S)))) : Go p.tables e below P (T.setTop (mkF m pc L (.int j :: .ref a :: S))) := by
  subst hq eT
  obtain ⟨cl, A, -, rfl⟩ := A
  exact go (fun t k => X.iaload hx (j := j) (v := v) A.1 (State.isArrayOf_alike hZ.alike A.2.1) A.2.2 (by simpa using hj) (by simpa using hv) (g := mkF m pc L (.int j :: .ref a :: S)) rfl rfl hd _ k) K
theorem gLaload (X : Stand p l e R s m args below meth c T locs cells slots) (hx : p.tables.exec = Jvm.exec) (hZ : Z.Warmed39 s.vm) (eT : T.heap = h) (A : Ary Z h a k .long vs) {j : Int32} {v : Value} (hd : decode c.code pc = .ok (.laload, 1)) (hq : pc + 1 = q) (hj : ¬ (j < 0 ∨ vs.length ≤ j.toNatClampNeg)) (hv : vs[j.toNatClampNeg]? = some v) (K : Go p.tables e below P (T.setTop (mkF m q L (v :: S)))) : Go p.tables e below P (T.setTop (mkF m pc L (.int j :: .ref a :: S))) := by
  subst hq eT
  obtain ⟨cl, A, -, rfl⟩ := A
  exact go (fun t k => X.laload hx (j := j) (v := v) A.1 (State.isArrayOf_alike hZ.alike A.2.1) A.2.2 (by simpa using hj) (by simpa using hv) (g := mkF m pc L (.int j :: .ref a :: S)) rfl rfl hd _ k) K
theorem gCaload (X : Stand p l e R s m args below meth c T locs cells slots) (hx : p.tables.exec = Jvm.exec) (hZ : Z.Warmed39 s.vm) (eT : T.heap = h) (A : Ary Z h a k .char vs) {j : Int32} {v : Value} (hd : decode c.code pc = .ok (.caload, 1)) (hq : pc + 1 = q) (hj : ¬ (j < 0 ∨ vs.length ≤ j.toNatClampNeg)) (hv : vs[j.toNatClampNeg]? = some v) (K : Go p.tables e below P (T.setTop (mkF m q L (v :: S)))) : Go p.tables e below P (T.setTop (mkF m pc L (.int j :: .ref a :: S))) := by
  subst hq eT
  obtain ⟨cl, A, -, rfl⟩ := A
  exact go (fun t k => X.caload hx (j := j) (v := v) A.1 (State.isArrayOf_alike hZ.alike A.2.1) A.2.2 (by simpa using hj) (by simpa using hv) (g := mkF m pc L (.int j :: .ref a :: S)) rfl rfl hd _ k) K
theorem gAaload (X : Stand p l e R s m args below meth c T locs cells slots) (hx : p.tables.exec = Jvm.exec) (hZ : Z.Warmed39 s.vm) (eT : T.heap = h) {ty : FieldType} (A : Ary Z h a k ty vs) (ht : ty.isReference = true) {j : Int32} {v : Value} (hd : decode c.code pc = .ok (.aaload, 1)) (hq : pc + 1 = q) (hj : ¬ (j < 0 ∨ vs.length ≤ j.toNatClampNeg)) (hv : vs[j.toNatClampNeg]? = some v) (K : Go p.tables e below P (T.setTop (mkF m q L (v :: S)))) : Go p.tables e below P (T.setTop (mkF m pc L (.int j :: .ref a :: S))) := by
  subst hq eT
  obtain ⟨cl, A, -, rfl⟩ := A
  exact go (fun t k => X.aaload hx (j := j) (v := v) A.1 (State.isArrayOf_alike hZ.alike A.2.1) ht A.2.2 (by simpa using hj) (by simpa using hv) (g := mkF m pc L (.int j :: .ref a :: S)) rfl rfl hd _ k) K
theorem gLen (X : Stand p l e R s m args below meth c T locs cells slots) (hx : p.tables.exec = Jvm.exec) (hZ : Z.Warmed39 s.vm) (eT : T.heap = h) {ty : FieldType} (A : Ary Z h a k ty vs) {n : Int32} (hn : vs.length.toInt32 = n) (hd : decode c.code pc = .ok (.arraylength, 1)) (hq : pc + 1 = q) (K : Go p.tables e below P (T.setTop (mkF m q L (.int n :: S)))) : Go p.tables e below P (T.setTop (mkF m pc L (.ref a :: S))) := by
  subst hq eT hn
  obtain ⟨cl, A, -, rfl⟩ := A
  exact go (fun t k => X.arraylength hx A.1 (State.isArrayOf_alike hZ.alike A.2.1) (g := mkF m pc L (.ref a :: S)) rfl rfl hd _ (by simpa using k)) K
theorem gIastore (X : Stand p l e R s m args below meth c T locs cells slots) (hx : p.tables.exec = Jvm.exec) (hZ : Z.Warmed39 s.vm) (eT : T.heap = h) (A : Ary Z h a k .int vs) {j : Int32} {x : Int32} (hd : decode c.code pc = .ok (.iastore, 1)) (hq : pc + 1 = q) (hj : ¬ (j < 0 ∨ vs.length ≤ j.toNatClampNeg))
    (K : ∀ T' h', Stand p l e R s m args below meth c T' (locs ++ [⟨a, j.toNatClampNeg⟩]) cells slots → T'.heap = h' → Wr h h' a j.toNatClampNeg (.int x) → Ary Z h' a k .int (vs.set j.toNatClampNeg (.int x)) → Go p.tables e below P (T'.setTop (mkF m q L (S)))) : Go p.tables e below P (T.setTop (mkF m pc L (.int x :: .int j :: .ref a :: S))) := by
  subst hq
  have A' := A
  obtain ⟨cl, Ac, r1, r2⟩ := A'
  obtain ⟨T', h', X', e', W', st⟩ := stI X hx hZ eT Ac (j := j) (x := x) (by subst r2; simpa using hj) (g := mkF m pc L (.int x :: .int j :: .ref a :: S)) rfl rfl hd
  exact go st (K T' h' X' e' W' (Ary.same W' A))
theorem gLastore (X : Stand p l e R s m args below meth c T locs cells slots) (hx : p.tables.exec = Jvm.exec) (hZ : Z.Warmed39 s.vm) (eT : T.heap = h) (A : Ary Z h a k .long vs) {j : Int32} {x : Int64} (hd : decode c.code pc = .ok (.lastore, 1)) (hq : pc + 1 = q) (hj : ¬ (j < 0 ∨ vs.length ≤ j.toNatClampNeg))
    (K : ∀ T' h', Stand p l e R s m args below meth c T' (locs ++ [⟨a, j.toNatClampNeg⟩]) cells slots → T'.heap = h' → Wr h h' a j.toNatClampNeg (.long x) → Ary Z h' a k .long (vs.set j.toNatClampNeg (.long x)) → Go p.tables e below P (T'.setTop (mkF m q L (S)))) : Go p.tables e below P (T.setTop (mkF m pc L (.long x :: .int j :: .ref a :: S))) := by
  subst hq
  have A' := A
  obtain ⟨cl, Ac, r1, r2⟩ := A'
  obtain ⟨T', h', X', e', W', st⟩ := stJ X hx hZ eT Ac (j := j) (x := x) (by subst r2; simpa using hj) (g := mkF m pc L (.long x :: .int j :: .ref a :: S)) rfl rfl hd
  exact go st (K T' h' X' e' W' (Ary.same W' A))
theorem gCastore (X : Stand p l e R s m args below meth c T locs cells slots) (hx : p.tables.exec = Jvm.exec) (hZ : Z.Warmed39 s.vm) (eT : T.heap = h) (A : Ary Z h a k .char vs) {j x : Int32} (hd : decode c.code pc = .ok (.castore, 1)) (hq : pc + 1 = q) (hj : ¬ (j < 0 ∨ vs.length ≤ j.toNatClampNeg))
    (K : ∀ T' h', Stand p l e R s m args below meth c T' (locs ++ [⟨a, j.toNatClampNeg⟩]) cells slots → T'.heap = h' → Wr h h' a j.toNatClampNeg (.int (nar .char x)) → Ary Z h' a k .char (vs.set j.toNatClampNeg (.int (nar .char x))) → Go p.tables e below P (T'.setTop (mkF m q L (S)))) : Go p.tables e below P (T.setTop (mkF m pc L (.int x :: .int j :: .ref a :: S))) := by
  subst hq
  have A' := A
  obtain ⟨cl, Ac, r1, r2⟩ := A'
  obtain ⟨T', h', X', e', W', st⟩ := stC X hx hZ eT Ac (j := j) (x := x) (by subst r2; simpa using hj) (g := mkF m pc L (.int x :: .int j :: .ref a :: S)) rfl rfl hd
  exact go st (K T' h' X' e' W' (Ary.same W' A))
theorem gAastore (X : Stand p l e R s m args below meth c T locs cells slots) (hx : p.tables.exec = Jvm.exec) (hZ : Z.Warmed39 s.vm) (eT : T.heap = h) {ty : FieldType} (A : Ary Z h a k ty vs) (ht : ty.isReference = true) {j : Int32} {v : Value} (F : Sto Z h a v) (hd : decode c.code pc = .ok (.aastore, 1)) (hq : pc + 1 = q) (hj : ¬ (j < 0 ∨ vs.length ≤ j.toNatClampNeg))
    (K : ∀ T' h', Stand p l e R s m args below meth c T' (locs ++ [⟨a, j.toNatClampNeg⟩]) cells slots → T'.heap = h' → Wr h h' a j.toNatClampNeg v → Ary Z h' a k ty (vs.set j.toNatClampNeg v) → Go p.tables e below P (T'.setTop (mkF m q L (S)))) : Go p.tables e below P (T.setTop (mkF m pc L (v :: .int j :: .ref a :: S))) := by
  subst hq
  have A' := A
  obtain ⟨cl, Ac, r1, r2⟩ := A'
  obtain ⟨T', h', X', e', W', st⟩ := stR X hx hZ eT Ac (j := j) (by subst r2; simpa using hj) ht F (g := mkF m pc L (v :: .int j :: .ref a :: S)) rfl rfl hd
  exact go st (K T' h' X' e' W' (Ary.same W' A))
theorem Sto.ofA {Z : State} {h : Heap} {a y : Addr} {k : ClassId} {ty : FieldType} {vs : List Value} {C : String} (A : Ary Z h a k ty vs) (O : Ovr Z k C) (I : Ins Z h y C true) : Sto Z h a (.ref y) := by obtain ⟨c, Ac, r, -⟩ := A; exact Sto.ofV Ac r O I
theorem gNewP (X : Stand p l e R s m args below meth c T locs cells slots) (hx : p.tables.exec = Jvm.exec) (hZ : Z.Warmed39 s.vm) {aty : ArrayType} (w : (Jvm.Cond.arrayClass (newarray.typeOf aty)).before a0 Z = true) (eT : T.heap = h) (hd : decode c.code pc = .ok (.newarray aty, 2)) (hq : pc + 2 = q) {n : Int32} (hn : ¬ n < 0) {cap : Nat} (hcap : n.toNatClampNeg ≤ cap) (hb : cap * 8 ≤ 536870912) (hc : cells + 1 ≤ R.cells) (hl : slots + cap ≤ R.slots)
    (K : ∀ T' h' a cA, Stand p l e R s m args below meth c T' locs (cells + 1) (slots + cap) → T'.heap = h' → a = h.size → Ext h h' → Ary Z h' a cA (newarray.typeOf aty) (List.replicate n.toNatClampNeg (defaultValue (newarray.typeOf aty))) → Go p.tables e below P (T'.setTop (mkF m q L (.ref a :: S)))) : Go p.tables e below P (T.setTop (mkF m pc L (.int n :: S))) := by
  subst hq
  obtain ⟨T', h', cA, X', e', E', A', st⟩ := newP X hx hZ w eT (g := mkF m pc L (.int n :: S)) rfl hd rfl hn hcap hb hc hl
  exact go st (K T' h' _ cA X' e' rfl E' (Ary.new A'))
theorem gNewR (X : Stand p l e R s m args below meth c T locs cells slots) (hx : p.tables.exec = Jvm.exec) (hZ : Z.Warmed39 s.vm) {own C : String} {i : Nat} (hown : s.vm.findClass own = some m.cls) (w1 : (Jvm.Cond.classLink own i C).before a0 Z = true) (w2 : (Jvm.Cond.arrayOver (.object C)).before a0 Z = true) (eT : T.heap = h) (hd : decode c.code pc = .ok (.anewarray i, 3)) (hq : pc + 3 = q) {n : Int32} (hn : ¬ n < 0) {cap : Nat} (hcap : n.toNatClampNeg ≤ cap) (hb : cap * 8 ≤ 536870912) (hc : cells + 1 ≤ R.cells) (hl : slots + cap ≤ R.slots)
    (K : ∀ T' h' a cA, Stand p l e R s m args below meth c T' locs (cells + 1) (slots + cap) → T'.heap = h' → a = h.size → Ext h h' → Ary Z h' a cA (.object C) (List.replicate n.toNatClampNeg .null) → Ovr Z cA C → Go p.tables e below P (T'.setTop (mkF m q L (.ref a :: S)))) : Go p.tables e below P (T.setTop (mkF m pc L (.int n :: S))) := by
  subst hq
  obtain ⟨T', h', cA, X', e', E', A', O', st⟩ := newR X hx hZ hown w1 w2 eT (g := mkF m pc L (.int n :: S)) rfl hd rfl hn hcap hb hc hl
  exact go st (K T' h' _ cA X' e' rfl E' (Ary.new A') O')
end Steps3
end Jvm.OwnKit
namespace Jvm.OwnKit
open Sem ClassFile Op Lib Jvm.Stand Jvm.Free Jvm.LawKit Jvm.RoadKit
theorem own_inst {Z : State} {a0 : Array Value} {K : String} {n : Nat} (w : (Jvm.Cond.instantiable K n).before a0 Z = true) : ∃ t k, Z.vm.findClass K = some t ∧ Z.vm.classes[t]? = some k ∧ k.kind = .ordinary ∧ k.isInterface = false := by
  obtain ⟨t, k, h1, h2, h3, h4, -⟩ := Cond.instantiable_spec w
  exact ⟨t, k, h1, h2, h3, by simp only [Bool.or_eq_false_iff] at h4; exact h4.1⟩
theorem own_nsRoot {Z : State} {a0 : Array Value} {O K : String} {n : Nat} (w : (Jvm.Cond.noSuperclass O).before a0 Z = true) (wk : (Jvm.Cond.instantiable K n).before a0 Z = true) (hn : O ≠ K) : NS Z O K := by
  obtain ⟨c, k, h1, h2, h3, -, -⟩ := Cond.noSuperclass_spec w
  obtain ⟨t, k', g1, -⟩ := own_inst wk
  have ne := ids_ne h1 g1 hn
  refine ⟨c, t, h1, g1, fun fuel => ?_⟩
  cases fuel with
  | zero => rfl
  | succ f => simp [Vm.isSubclassAux, ne, h2, h3]
theorem own_nsNo {Z : State} {a0 : Array Value} {C S K : String} {n : Nat} (w : (Jvm.Cond.superclass C S).before a0 Z = true) (wk : (Jvm.Cond.instantiable K n).before a0 Z = true) (m : NS Z C K) (hn : C ≠ K) : ∃ c t, Z.vm.findClass C = some c ∧ Z.vm.findClass K = some t ∧ Z.vm.assignable c t = false := by
  obtain ⟨c, t, h0, g0, n3⟩ := m
  obtain ⟨p, k, kp, h1, h2, h3, h4, h5, -, h7⟩ := Cond.superclass_spec h0 w
  obtain ⟨t', k', g1, g2, g3, g4⟩ := own_inst wk
  cases g0.symm.trans g1
  have ne := ids_ne h0 g0 hn
  refine ⟨c, t, h0, g0, ?_⟩
  show Z.vm.assignableAux (255 + 1) c t = false
  simp [Vm.assignableAux, ne, h2, g2, h5, g3, g4, Vm.isSubclass, n3]
section Steps4
variable {p : Program} {l : Launch} {e : Env} {R : Room} {s : State} {m : MethodId} {args : Array Value} {below : List Frame} {meth : Method} {c : Code} {T : State} {locs : List Loc} {cells slots : Nat} {P : State → Outcome → Prop} {pc q : Nat} {L L' : Array Slot} {S : List Value} {Z : State} {a0 : Array Value} {h : Heap} {a : Addr}
theorem gInstY (X : Stand p l e R s m args below meth c T locs cells slots) (hx : p.tables.exec = Jvm.exec) (hZ : Z.Warmed39 s.vm) {own K : String} {i : Nat} (hown : s.vm.findClass own = some m.cls) (w : (Jvm.Cond.classLink own i K).before a0 Z = true) (eT : T.heap = h) (F : Ins Z h a K true) (hd : decode c.code pc = .ok (.instanceof i, 3)) (hq : pc + 3 = q)
    (K1 : ∀ T', Stand p l e R s m args below meth c T' locs cells slots → T'.heap = h → Go p.tables e below P (T'.setTop (mkF m q L (.int 1 :: S)))) : Go p.tables e below P (T.setTop (mkF m pc L (.ref a :: S))) := by
  subst hq
  obtain ⟨T', X', e', st⟩ := instY X hx hZ hown w eT F (g := mkF m pc L (.ref a :: S)) rfl rfl hd
  exact go st (K1 T' X' e')
theorem gInstNo (X : Stand p l e R s m args below meth c T locs cells slots) (hx : p.tables.exec = Jvm.exec) (hZ : Z.Warmed39 s.vm) {own K C : String} {i : Nat} (hown : s.vm.findClass own = some m.cls) (w : (Jvm.Cond.classLink own i K).before a0 Z = true) (eT : T.heap = h) (E : Exa Z h a C) (F : ∃ c t, Z.vm.findClass C = some c ∧ Z.vm.findClass K = some t ∧ Z.vm.assignable c t = false) (hd : decode c.code pc = .ok (.instanceof i, 3)) (hq : pc + 3 = q)
    (K1 : ∀ T', Stand p l e R s m args below meth c T' locs cells slots → T'.heap = h → Go p.tables e below P (T'.setTop (mkF m q L (.int 0 :: S)))) : Go p.tables e below P (T.setTop (mkF m pc L (.ref a :: S))) := by
  subst hq
  obtain ⟨T', X', e', st⟩ := instNo X hx hZ hown w eT E F (g := mkF m pc L (.ref a :: S)) rfl rfl hd
  exact go st (K1 T' X' e')
theorem gInstNull (X : Stand p l e R s m args below meth c T locs cells slots) (hx : p.tables.exec = Jvm.exec) {i : Nat} (hd : decode c.code pc = .ok (.instanceof i, 3)) (hq : pc + 3 = q) (K1 : Go p.tables e below P (T.setTop (mkF m q L (.int 0 :: S)))) : Go p.tables e below P (T.setTop (mkF m pc L (.null :: S))) := by
  subst hq
  exact go (fun t k => X.instanceofNull hx (g := mkF m pc L (.null :: S)) rfl rfl hd _ k) K1
theorem gCastY (X : Stand p l e R s m args below meth c T locs cells slots) (hx : p.tables.exec = Jvm.exec) (hZ : Z.Warmed39 s.vm) {own K : String} {i : Nat} (hown : s.vm.findClass own = some m.cls) (w : (Jvm.Cond.classLink own i K).before a0 Z = true) (eT : T.heap = h) (F : Ins Z h a K true) (hd : decode c.code pc = .ok (.checkcast i, 3)) (hq : pc + 3 = q)
    (K1 : ∀ T', Stand p l e R s m args below meth c T' locs cells slots → T'.heap = h → Go p.tables e below P (T'.setTop (mkF m q L (.ref a :: S)))) : Go p.tables e below P (T.setTop (mkF m pc L (.ref a :: S))) := by
  subst hq
  obtain ⟨T', X', e', st⟩ := castY X hx hZ hown w eT F (g := mkF m pc L (.ref a :: S)) rfl rfl hd
  exact go st (K1 T' X' e')
theorem gLdcF (X : Stand p l e R s m args below meth c T locs cells slots) (hx : p.tables.exec = Jvm.exec) (hZ : Z.Warmed39 s.vm) {own : String} {i : Nat} {b : UInt32} (hown : s.vm.findClass own = some m.cls) (w : (Jvm.Cond.constantFloat own i b).before a0 Z = true) (hd : decode c.code pc = .ok (.ldc i, 2)) (hq : pc + 2 = q) (K1 : Go p.tables e below P (T.setTop (mkF m q L (.float b :: S)))) : Go p.tables e below P (T.setTop (mkF m pc L (S))) := by
  subst hq; exact go (X.ldcFloatC hx hown (mvT hZ w) (g := mkF m pc L S) rfl hd) K1
end Steps4
end Jvm.OwnKit
namespace Jvm.OwnKit
open Sem ClassFile Op Lib Jvm.Stand Jvm.Free Jvm.LawKit Jvm.RoadKit
section Steps6
variable {p : Program} {l : Launch} {e : Env} {R : Room} {s : State} {m : MethodId} {args : Array Value} {below : List Frame} {meth : Method} {c : Code} {T : State} {locs : List Loc} {cells slots : Nat} {P : State → Outcome → Prop} {pc q : Nat} {L L' : Array Slot} {S : List Value} {Z : State} {a0 : Array Value} {h : Heap} {a : Addr} {k : ClassId} {vs : List Value}
theorem gBaload (X : Stand p l e R s m args below meth c T locs cells slots) (hx : p.tables.exec = Jvm.exec) (hZ : Z.Warmed39 s.vm) (eT : T.heap = h) (A : Ary Z h a k .byte vs) {j : Int32} {v : Value} (hd : decode c.code pc = .ok (.baload, 1)) (hq : pc + 1 = q) (hj : ¬ (j < 0 ∨ vs.length ≤ j.toNatClampNeg)) (hv : vs[j.toNatClampNeg]? = some v) (K : Go p.tables e below P (T.setTop (mkF m q L (v :: S)))) : Go p.tables e below P (T.setTop (mkF m pc L (.int j :: .ref a :: S))) := by
  subst hq eT
  obtain ⟨cl, A, -, rfl⟩ := A
  exact go (fun t k => X.baloadBytes hx (j := j) (v := v) A.1 (State.isArrayOf_alike hZ.alike A.2.1) A.2.2 (by simpa using hj) (by simpa using hv) (g := mkF m pc L (.int j :: .ref a :: S)) rfl rfl hd _ k) K
theorem gBastore (X : Stand p l e R s m args below meth c T locs cells slots) (hx : p.tables.exec = Jvm.exec) (hZ : Z.Warmed39 s.vm) (eT : T.heap = h) (A : Ary Z h a k .byte vs) {j x : Int32} (hd : decode c.code pc = .ok (.bastore, 1)) (hq : pc + 1 = q) (hj : ¬ (j < 0 ∨ vs.length ≤ j.toNatClampNeg))
    (K : ∀ T' h', Stand p l e R s m args below meth c T' (locs ++ [⟨a, j.toNatClampNeg⟩]) cells slots → T'.heap = h' → Wr h h' a j.toNatClampNeg (.int (nar .byte x)) → Ary Z h' a k .byte (vs.set j.toNatClampNeg (.int (nar .byte x))) → Go p.tables e below P (T'.setTop (mkF m q L (S)))) : Go p.tables e below P (T.setTop (mkF m pc L (.int x :: .int j :: .ref a :: S))) := by
  subst hq
  have A' := A
  obtain ⟨cl, Ac, r1, r2⟩ := A'
  obtain ⟨T', h', X', e', W', st⟩ := stB X hx hZ eT Ac (j := j) (x := x) (by subst r2; simpa using hj) (g := mkF m pc L (.int x :: .int j :: .ref a :: S)) rfl rfl hd
  exact go st (K T' h' X' e' W' (Ary.same W' A))
theorem gClone (X : Stand p l e R s m args below meth c T locs cells slots) (hx : p.tables.exec = Jvm.exec) (hZ : Z.Warmed39 s.vm) {own ad : String} {i : Nat} {ty : FieldType} (hown : s.vm.findClass own = some m.cls) (w1 : (Jvm.Cond.methodLink own i ⟨ad, "clone", "()Ljava/lang/Object;"⟩).before a0 Z = true) (w2 : (Jvm.Cond.sameMethod ad "java/lang/Object" "clone" "()Ljava/lang/Object;").before a0 Z = true) (w3 : (Jvm.Cond.native ⟨"java/lang/Object", "clone", "()Ljava/lang/Object;"⟩).before a0 Z = true) (w4 : (Jvm.Cond.instanceMethod ⟨"java/lang/Object", "clone", "()Ljava/lang/Object;"⟩).before a0 Z = true) (w5 : (Jvm.Cond.selects ad ⟨ad, "clone", "()Ljava/lang/Object;"⟩ ⟨"java/lang/Object", "clone", "()Ljava/lang/Object;"⟩).before a0 Z = true) (w6 : (Jvm.Cond.castable ad "java/lang/Cloneable").before a0 Z = true)
    (eT : T.heap = h) (A : Ary Z h a k ty vs) (E : Exa Z h a ad) (hfit : ∀ v ∈ vs, fits ty v = true) (hsize : L.size = c.maxLocals) (hd : decode c.code pc = .ok (.invokevirtual i, 3)) (hq : pc + 3 = q) (hf : 1 ≤ R.frames) {W cap : Nat} (hW : (S.map fun v => v.category).sum ≤ W) (hl : W + 14 ≤ R.locals) (hcap : vs.length ≤ cap) (hc : cells + 1 ≤ R.cells) (hsl : slots + cap ≤ R.slots)
    (K : ∀ T' h' b, Stand p l e R s m args below meth c T' locs (cells + 1) (slots + cap) → T'.heap = h' → b = h.size → Ext h h' → Ary Z h' b k ty vs → Exa Z h' b ad → Go p.tables e below P (T'.setTop (mkF m q L (.ref b :: S)))) : Go p.tables e below P (T.setTop (mkF m pc L (.ref a :: S))) := by
  subst hq
  obtain ⟨cl, Ac, r1, r2⟩ := A
  have FC : FitC Z cl := fitC_of Ac fun i hi v hv => hfit v (by rw [← r2]; rw [← Array.getElem?_toList] at hv; exact List.mem_of_getElem? hv)
  obtain ⟨T', h', X', e', ex, A', E', st⟩ := cloneA X hx hZ hown w1 w2 w3 w4 w5 w6 eT Ac E FC (g := mkF m pc L (.ref a :: S)) rfl hsize rfl hd hf (W := W) (cap := cap) (by show 2 * 0 + _ ≤ _; rw [Nat.mul_zero, Nat.zero_add]; exact hW) hl (by rw [← r2] at hcap; simpa using hcap) hc hsl
  exact go st (K T' h' _ X' e' rfl ex ⟨_, A', r1, r2⟩ E')
end Steps6
theorem gRetB {p : Program} {l : Launch} {e : Env} {R : Room} {s : State} {m : MethodId} {args : Array Value} {below : List Frame} {meth : Method} {c : Code} {T : State} {locs : List Loc} {cells slots : Nat} {pc : Nat} {L : Array Slot} {S : List Value} (X : Stand p l e R s m args below meth c T locs cells slots) (hx : p.tables.exec = Jvm.exec) {Q : Option Value → Heap → List Loc → Prop} {k n : Nat} {z : Int32} (hlk : meth.locks = false) (hret : meth.sig.returnType = some .byte) (hd : decode c.code pc = .ok (.ireturn, 1)) (hk : cells ≤ k) (hs : slots ≤ n) (hz : narrow .byte (.int z) = .int z) (hQ : Q (some (.int z)) T.heap locs) : Go p.tables e below (Done s Q k n) (T.setTop (mkF m pc L (.int z :: S))) :=
  gRet X hx hlk hret hz (Or.inl ⟨rfl, Or.inr (Or.inr (Or.inl rfl)), _, rfl⟩) hd hk hs hQ
section Start
variable {s : State} {args : Array Value} {t : Term} {a x y : Addr} {C n d : String}
theorem own_fldR (ev : t.eval args s none [] s = some (.ref x)) (ev2 : (Term.field t C n d).eval args s none [] s = some (.ref y)) : Fld s s.heap x C n d (.ref y) := Fld.start ((fld_at ev).symm.trans ev2)
theorem own_lenlt' {cl : Cell} {v : Value} (ev : t.eval args s none [] s = some (.ref a)) (hat : s.arrayAt? a = some cl) (h : (Term.length t).eval args s none [] s = some v) : cl.slots.size < 2 ^ 31 := by
  simp [Term.eval, ev, hat] at h
  exact h.1
theorem own_arr {ty : FieldType} {N : Int32} {M : Nat} (ev : t.eval args s none [] s = some (.ref a)) (w5 : (Jvm.Cond.arrayOf t ty).value args s none s [] = some true) (w6 : (Jvm.Cond.eq (Term.length t) (Term.int N)).value args s none s [] = some true) (hN : N.toInt = M) : ∃ cl, Arr s s.heap a cl ty ∧ cl.slots.toList.length = M := by
  obtain ⟨cl, A⟩ := Arr.start ev w5
  have hat := Arr.fin (Vm.Alike.refl _) A
  obtain ⟨u, w, g1, g2, g3, g4⟩ := cmp_v (Or.inl w6)
  obtain rfl : w = .int N := Option.some.inj (g2.symm.trans (Term.int_eval N))
  obtain ⟨z, rfl⟩ := g4
  have hz : z = N := gotT (Cond.eq_ints g1 g2) w6
  subst hz
  obtain ⟨b, cell, e1, e2, e3⟩ := Term.length_spec g1
  obtain rfl : a = b := Value.ref.inj (Option.some.inj (ev.symm.trans e1))
  obtain rfl : cl = cell := Option.some.inj (hat.symm.trans e2)
  have hlt := own_lenlt' ev hat g1
  refine ⟨cl, A, ?_⟩
  have e4 := congrArg Int32.toInt (Value.int.inj e3)
  rw [len_toInt hlt] at e4
  simp only [Array.length_toList]
  omega
theorem own_el {cl : Cell} {j b : Int32} {ty : FieldType} (ev : t.eval args s none [] s = some (.ref a)) (A : Arr s s.heap a cl ty) (h : (Jvm.Cond.eq (Term.elem t (Term.int j)) (Term.int b)).value args s none s [] = some true) : cl.slots.toList[j.toNatClampNeg]? = some (.int b) := by
  obtain ⟨u, w, g1, g2, g3, g4⟩ := cmp_v (Or.inl h)
  obtain rfl : w = .int b := Option.some.inj (g2.symm.trans (Term.int_eval b))
  obtain ⟨z, rfl⟩ := g4
  have hz : z = b := gotT (Cond.eq_ints g1 g2) h
  subst hz
  rw [Array.getElem?_toList]
  exact (elem_in g1 ev (Term.int_eval j) A.1).2
theorem own_elR {cl : Cell} {j : Int32} {ty : FieldType} {t2 : Term} {r : Addr} (ev : t.eval args s none [] s = some (.ref a)) (A : Arr s s.heap a cl ty) (ev2 : t2.eval args s none [] s = some (.ref r)) (h : (Jvm.Cond.eq (Term.elem t (Term.int j)) t2).value args s none s [] = some true) : cl.slots.toList[j.toNatClampNeg]? = some (.ref r) := by
  obtain ⟨u, w, g1, g2, g3, g4⟩ := cmp_v (Or.inl h)
  obtain rfl : w = .ref r := Option.some.inj (g2.symm.trans ev2)
  have hu : u.isRef = true := g4.2
  have hz : u = .ref r := gotT (eq_R g1 g2 hu rfl) h
  subst hz
  rw [Array.getElem?_toList]
  exact (elem_in g1 ev (Term.int_eval j) A.1).2
end Start
end Jvm.OwnKit
namespace Jvm.Pilot.@@N@@
open Jvm Jvm.ClassFile Sem Op Lib Jvm.Free Jvm.Stand Jvm.LawKit Jvm.RoadKit Bundle Jvm.OwnKit Jvm.Pilot.@@N@@.Jvm.D
theorem d5_0 : decode jdk_52_method_21_code 0 = .ok (.iconst 0, 1) := by decide +kernel
theorem d5_1 : decode jdk_52_method_21_code 1 = .ok (.istore 5, 2) := by decide +kernel
theorem d5_3 : decode jdk_52_method_21_code 3 = .ok (.iload 5, 2) := by decide +kernel
theorem d5_5 : decode jdk_52_method_21_code 5 = .ok (.iload 4, 2) := by decide +kernel
theorem d5_7 : decode jdk_52_method_21_code 7 = .ok (.if_icmp .ge 37, 3) := by decide +kernel
theorem d5_10 : decode jdk_52_method_21_code 10 = .ok (.aload_n 0, 1) := by decide +kernel
theorem d5_11 : decode jdk_52_method_21_code 11 = .ok (.iload_n 1, 1) := by decide +kernel
theorem d5_12 : decode jdk_52_method_21_code 12 = .ok (.caload, 1) := by decide +kernel
theorem d5_13 : decode jdk_52_method_21_code 13 = .ok (.istore 6, 2) := by decide +kernel
theorem d5_15 : decode jdk_52_method_21_code 15 = .ok (.iload 6, 2) := by decide +kernel
theorem d5_17 : decode jdk_52_method_21_code 17 = .ok (.sipush 255, 3) := by decide +kernel
theorem d5_20 : decode jdk_52_method_21_code 20 = .ok (.if_icmp .le 6, 3) := by decide +kernel
theorem d5_23 : decode jdk_52_method_21_code 23 = .ok (.iload 5, 2) := by decide +kernel
theorem d5_25 : decode jdk_52_method_21_code 25 = .ok (.ireturn, 1) := by decide +kernel
theorem d5_26 : decode jdk_52_method_21_code 26 = .ok (.aload_n 2, 1) := by decide +kernel
theorem d5_27 : decode jdk_52_method_21_code 27 = .ok (.iload_n 3, 1) := by decide +kernel
theorem d5_28 : decode jdk_52_method_21_code 28 = .ok (.iload 6, 2) := by decide +kernel
theorem d5_30 : decode jdk_52_method_21_code 30 = .ok (.i2b, 1) := by decide +kernel
theorem d5_31 : decode jdk_52_method_21_code 31 = .ok (.bastore, 1) := by decide +kernel
theorem d5_32 : decode jdk_52_method_21_code 32 = .ok (.iinc 1 1, 3) := by decide +kernel
theorem d5_35 : decode jdk_52_method_21_code 35 = .ok (.iinc 3 1, 3) := by decide +kernel
theorem d5_38 : decode jdk_52_method_21_code 38 = .ok (.iinc 5 1, 3) := by decide +kernel
theorem d5_41 : decode jdk_52_method_21_code 41 = .ok (.goto (-38), 3) := by decide +kernel
theorem d5_44 : decode jdk_52_method_21_code 44 = .ok (.iload 4, 2) := by decide +kernel
theorem d5_46 : decode jdk_52_method_21_code 46 = .ok (.ireturn, 1) := by decide +kernel
theorem pn0 : plainName "java/lang/StringUTF16" = true := by first | (simp [plainName, overriddenIn]; done) | decide +kernel
theorem ef0 (m : MethodId) (x0 : Addr) (x1 : Int32) (x2 : Addr) (x3 : Int32) (x4 : Int32) : entryFrame m #[(.ref x0), (.int x1), (.ref x2), (.int x3), (.int x4)] 7 = mkF m 0 #[.val (.ref x0), .val (.int x1), .val (.ref x2), .val (.int x3), .val (.int x4), .unset, .unset] [] := by first | (simp [entryFrame, mkF, argsToLocals, Value.category]; done) | rfl
def Q_rmC2B (Z : State) (kx1 : Addr) (kx2 : Addr) (kc : ClassId) (kd : ClassId) (h0 : Heap) (n0 : Nat) (v : Option Value) (h : Heap) (L : List Loc) : Prop := v = some (.int (3 : Int32)) ∧ Fr n0 L ∧ Keep h0 h [kx2] ∧ Ary Z h kx2 kd .byte [(.int (98 : Int32)), (.int (105 : Int32)), (.int (103 : Int32))]
set_option maxRecDepth 65536 in
set_option maxHeartbeats 40000000 in
theorem rmC2B (l : Launch) (Z : State) (a0 : Array Value) (hw : ∀ d ∈ tables_1, d.before a0 Z = true) (ws : List Jvm.Cond) (kx1 : Addr) (kx2 : Addr) (kc : ClassId) (kd : ClassId) (h0 : Heap) (n0 : Nat) (Z0 : n0 ≤ h0.size) (pA1 : Ary Z h0 kx1 kc .char [(.int (98 : Int32)), (.int (105 : Int32)), (.int (103 : Int32))]) (pA2 : Ary Z h0 kx2 kd .byte [(.int (0 : Int32)), (.int (0 : Int32)), (.int (0 : Int32))]) (n12 : kx1 ≠ kx2) (lkx2 : n0 ≤ kx2)  :
    Con l Z (⟨"java/lang/StringUTF16", "compress", "([CI[BII)I"⟩ : MethodName) jdk_52_method_21_code 7 (some (.int)) ws ({ frames := 0, cells := 0, slots := 0, locals := 0 } : Room) #[(.ref kx1), (.int (0 : Int32)), (.ref kx2), (.int (0 : Int32)), (.int (3 : Int32))] h0 (({ frames := 0, cells := 0, slots := 0, locals := 0 } : Room).cells) (({ frames := 0, cells := 0, slots := 0, locals := 0 } : Room).slots) (Q_rmC2B Z kx1 kx2 kc kd h0 n0) := by
  refine Con.of (plainFor_of_name pn0) ?_
  intro p e s m below meth c s₁ hx hby hml hown hnm hret hlk hZ X0 e0
  have N0 := Fr.nil n0
  refine goE (L := #[.val (.ref kx1), .val (.int (0 : Int32)), .val (.ref kx2), .val (.int (0 : Int32)), .val (.int (3 : Int32)), .unset, .unset]) (ef0 m kx1 (0 : Int32) kx2 (0 : Int32) (3 : Int32)) ?_
  refine gIconst X0 hx (0 : Int32) (hb hby d5_0) (q := 1) rfl (by decide) ?_
  refine gIstore X0 hx (hb hby d5_1) (q := 3) rfl (L' := #[.val (.ref kx1), .val (.int (0 : Int32)), .val (.ref kx2), .val (.int (0 : Int32)), .val (.int (3 : Int32)), .val (.int (0 : Int32)), .unset]) rfl ?_
  refine gIload X0 hx (hb hby d5_3) (q := 5) rfl rfl ?_
  refine gIload X0 hx (hb hby d5_5) (q := 7) rfl rfl ?_
  refine gIcmpN X0 hx (hb hby d5_7) (q := 10) rfl (XT.ii_ge_f (by decide)) ?_
  refine gAloadN X0 hx (hb hby d5_10) (q := 11) rfl rfl rfl ?_
  refine gIloadN X0 hx (hb hby d5_11) (q := 12) rfl rfl ?_
  refine gCaload X0 hx hZ e0 pA1 (hb hby d5_12) (q := 13) rfl (show ¬ (((0 : Int32) : Int32) < 0 ∨ 3 ≤ ((0 : Int32) : Int32).toNatClampNeg) by decide) (v := .int (98 : Int32)) rfl ?_
  refine gIstore X0 hx (hb hby d5_13) (q := 15) rfl (L' := #[.val (.ref kx1), .val (.int (0 : Int32)), .val (.ref kx2), .val (.int (0 : Int32)), .val (.int (3 : Int32)), .val (.int (0 : Int32)), .val (.int (98 : Int32))]) rfl ?_
  refine gIload X0 hx (hb hby d5_15) (q := 17) rfl rfl ?_
  refine gSipush X0 hx (255 : Int32) (hb hby d5_17) (q := 20) rfl (by decide) ?_
  refine gIcmpY X0 hx (hb hby d5_20) (q := 26) (by decide) (by decide) (XT.ii_le_t (by decide)) ?_
  refine gAloadN X0 hx (hb hby d5_26) (q := 27) rfl rfl rfl ?_
  refine gIloadN X0 hx (hb hby d5_27) (q := 28) rfl rfl ?_
  refine gIload X0 hx (hb hby d5_28) (q := 30) rfl rfl ?_
  refine gI2b X0 hx (hb hby d5_30) (q := 31) rfl ?_
  rw [show ((98 : Int32).toInt8.toInt32) = (98 : Int32) from by decide]
  refine gBastore X0 hx hZ e0 pA2 (hb hby d5_31) (q := 32) rfl (show ¬ (((0 : Int32) : Int32) < 0 ∨ 3 ≤ ((0 : Int32) : Int32).toNatClampNeg) by decide) (fun T1 h1 X1 e1 W1 A1 => ?_)
  have B1 : Ary Z h1 kx2 kd (.byte) [(.int (98 : Int32)), (.int (0 : Int32)), (.int (0 : Int32))] := (by have zA := A1; rw [show nar .byte (98 : Int32) = (98 : Int32) from by decide] at zA; exact zA)
  have N2 := Fr.snoc X1 N0 lkx2
  have K3 := (Keep.refl h0 [kx2]).wr W1 (Or.inl (List.mem_of_getElem? (i := 0) rfl))
  have A4 := Ary.other W1 pA1 n12
  have Z6 : n0 ≤ h1.size := by rw [W1.size]; exact Z0
  refine gIinc X1 hx (1 : Int32) (hb hby d5_32) (q := 35) rfl (by decide) rfl (L' := #[.val (.ref kx1), .val (.int (1 : Int32)), .val (.ref kx2), .val (.int (0 : Int32)), .val (.int (3 : Int32)), .val (.int (0 : Int32)), .val (.int (98 : Int32))]) rfl ?_
  refine gIinc X1 hx (1 : Int32) (hb hby d5_35) (q := 38) rfl (by decide) rfl (L' := #[.val (.ref kx1), .val (.int (1 : Int32)), .val (.ref kx2), .val (.int (1 : Int32)), .val (.int (3 : Int32)), .val (.int (0 : Int32)), .val (.int (98 : Int32))]) rfl ?_
  refine gIinc X1 hx (1 : Int32) (hb hby d5_38) (q := 41) rfl (by decide) rfl (L' := #[.val (.ref kx1), .val (.int (1 : Int32)), .val (.ref kx2), .val (.int (1 : Int32)), .val (.int (3 : Int32)), .val (.int (1 : Int32)), .val (.int (98 : Int32))]) rfl ?_
  refine gGoto X1 hx (hb hby d5_41) (q := 3) (by decide) (by decide) ?_
  refine gIload X1 hx (hb hby d5_3) (q := 5) rfl rfl ?_
  refine gIload X1 hx (hb hby d5_5) (q := 7) rfl rfl ?_
  refine gIcmpN X1 hx (hb hby d5_7) (q := 10) rfl (XT.ii_ge_f (by decide)) ?_
  refine gAloadN X1 hx (hb hby d5_10) (q := 11) rfl rfl rfl ?_
  refine gIloadN X1 hx (hb hby d5_11) (q := 12) rfl rfl ?_
  refine gCaload X1 hx hZ e1 A4 (hb hby d5_12) (q := 13) rfl (show ¬ (((1 : Int32) : Int32) < 0 ∨ 3 ≤ ((1 : Int32) : Int32).toNatClampNeg) by decide) (v := .int (105 : Int32)) rfl ?_
  refine gIstore X1 hx (hb hby d5_13) (q := 15) rfl (L' := #[.val (.ref kx1), .val (.int (1 : Int32)), .val (.ref kx2), .val (.int (1 : Int32)), .val (.int (3 : Int32)), .val (.int (1 : Int32)), .val (.int (105 : Int32))]) rfl ?_
  refine gIload X1 hx (hb hby d5_15) (q := 17) rfl rfl ?_
  refine gSipush X1 hx (255 : Int32) (hb hby d5_17) (q := 20) rfl (by decide) ?_
  refine gIcmpY X1 hx (hb hby d5_20) (q := 26) (by decide) (by decide) (XT.ii_le_t (by decide)) ?_
  refine gAloadN X1 hx (hb hby d5_26) (q := 27) rfl rfl rfl ?_
  refine gIloadN X1 hx (hb hby d5_27) (q := 28) rfl rfl ?_
  refine gIload X1 hx (hb hby d5_28) (q := 30) rfl rfl ?_
  refine gI2b X1 hx (hb hby d5_30) (q := 31) rfl ?_
  rw [show ((105 : Int32).toInt8.toInt32) = (105 : Int32) from by decide]
  refine gBastore X1 hx hZ e1 B1 (hb hby d5_31) (q := 32) rfl (show ¬ (((1 : Int32) : Int32) < 0 ∨ 3 ≤ ((1 : Int32) : Int32).toNatClampNeg) by decide) (fun T7 h7 X7 e7 W7 A7 => ?_)
  have B7 : Ary Z h7 kx2 kd (.byte) [(.int (98 : Int32)), (.int (105 : Int32)), (.int (0 : Int32))] := (by have zA := A7; rw [show nar .byte (105 : Int32) = (105 : Int32) from by decide] at zA; exact zA)
  have N8 := Fr.snoc X7 N2 lkx2
  have K9 := K3.wr W7 (Or.inl (List.mem_of_getElem? (i := 0) rfl))
  have A10 := Ary.other W7 A4 n12
  have Z12 : n0 ≤ h7.size := by rw [W7.size]; exact Z6
  refine gIinc X7 hx (1 : Int32) (hb hby d5_32) (q := 35) rfl (by decide) rfl (L' := #[.val (.ref kx1), .val (.int (2 : Int32)), .val (.ref kx2), .val (.int (1 : Int32)), .val (.int (3 : Int32)), .val (.int (1 : Int32)), .val (.int (105 : Int32))]) rfl ?_
  refine gIinc X7 hx (1 : Int32) (hb hby d5_35) (q := 38) rfl (by decide) rfl (L' := #[.val (.ref kx1), .val (.int (2 : Int32)), .val (.ref kx2), .val (.int (2 : Int32)), .val (.int (3 : Int32)), .val (.int (1 : Int32)), .val (.int (105 : Int32))]) rfl ?_
  refine gIinc X7 hx (1 : Int32) (hb hby d5_38) (q := 41) rfl (by decide) rfl (L' := #[.val (.ref kx1), .val (.int (2 : Int32)), .val (.ref kx2), .val (.int (2 : Int32)), .val (.int (3 : Int32)), .val (.int (2 : Int32)), .val (.int (105 : Int32))]) rfl ?_
  refine gGoto X7 hx (hb hby d5_41) (q := 3) (by decide) (by decide) ?_
  refine gIload X7 hx (hb hby d5_3) (q := 5) rfl rfl ?_
  refine gIload X7 hx (hb hby d5_5) (q := 7) rfl rfl ?_
  refine gIcmpN X7 hx (hb hby d5_7) (q := 10) rfl (XT.ii_ge_f (by decide)) ?_
  refine gAloadN X7 hx (hb hby d5_10) (q := 11) rfl rfl rfl ?_
  refine gIloadN X7 hx (hb hby d5_11) (q := 12) rfl rfl ?_
  refine gCaload X7 hx hZ e7 A10 (hb hby d5_12) (q := 13) rfl (show ¬ (((2 : Int32) : Int32) < 0 ∨ 3 ≤ ((2 : Int32) : Int32).toNatClampNeg) by decide) (v := .int (103 : Int32)) rfl ?_
  refine gIstore X7 hx (hb hby d5_13) (q := 15) rfl (L' := #[.val (.ref kx1), .val (.int (2 : Int32)), .val (.ref kx2), .val (.int (2 : Int32)), .val (.int (3 : Int32)), .val (.int (2 : Int32)), .val (.int (103 : Int32))]) rfl ?_
  refine gIload X7 hx (hb hby d5_15) (q := 17) rfl rfl ?_
  refine gSipush X7 hx (255 : Int32) (hb hby d5_17) (q := 20) rfl (by decide) ?_
  refine gIcmpY X7 hx (hb hby d5_20) (q := 26) (by decide) (by decide) (XT.ii_le_t (by decide)) ?_
  refine gAloadN X7 hx (hb hby d5_26) (q := 27) rfl rfl rfl ?_
  refine gIloadN X7 hx (hb hby d5_27) (q := 28) rfl rfl ?_
  refine gIload X7 hx (hb hby d5_28) (q := 30) rfl rfl ?_
  refine gI2b X7 hx (hb hby d5_30) (q := 31) rfl ?_
  rw [show ((103 : Int32).toInt8.toInt32) = (103 : Int32) from by decide]
  refine gBastore X7 hx hZ e7 B7 (hb hby d5_31) (q := 32) rfl (show ¬ (((2 : Int32) : Int32) < 0 ∨ 3 ≤ ((2 : Int32) : Int32).toNatClampNeg) by decide) (fun T13 h13 X13 e13 W13 A13 => ?_)
  have B13 : Ary Z h13 kx2 kd (.byte) [(.int (98 : Int32)), (.int (105 : Int32)), (.int (103 : Int32))] := (by have zA := A13; rw [show nar .byte (103 : Int32) = (103 : Int32) from by decide] at zA; exact zA)
  have N14 := Fr.snoc X13 N8 lkx2
  have K15 := K9.wr W13 (Or.inl (List.mem_of_getElem? (i := 0) rfl))
  have A16 := Ary.other W13 A10 n12
  have Z18 : n0 ≤ h13.size := by rw [W13.size]; exact Z12
  refine gIinc X13 hx (1 : Int32) (hb hby d5_32) (q := 35) rfl (by decide) rfl (L' := #[.val (.ref kx1), .val (.int (3 : Int32)), .val (.ref kx2), .val (.int (2 : Int32)), .val (.int (3 : Int32)), .val (.int (2 : Int32)), .val (.int (103 : Int32))]) rfl ?_
  refine gIinc X13 hx (1 : Int32) (hb hby d5_35) (q := 38) rfl (by decide) rfl (L' := #[.val (.ref kx1), .val (.int (3 : Int32)), .val (.ref kx2), .val (.int (3 : Int32)), .val (.int (3 : Int32)), .val (.int (2 : Int32)), .val (.int (103 : Int32))]) rfl ?_
  refine gIinc X13 hx (1 : Int32) (hb hby d5_38) (q := 41) rfl (by decide) rfl (L' := #[.val (.ref kx1), .val (.int (3 : Int32)), .val (.ref kx2), .val (.int (3 : Int32)), .val (.int (3 : Int32)), .val (.int (3 : Int32)), .val (.int (103 : Int32))]) rfl ?_
  refine gGoto X13 hx (hb hby d5_41) (q := 3) (by decide) (by decide) ?_
  refine gIload X13 hx (hb hby d5_3) (q := 5) rfl rfl ?_
  refine gIload X13 hx (hb hby d5_5) (q := 7) rfl rfl ?_
  refine gIcmpY X13 hx (hb hby d5_7) (q := 44) (by decide) (by decide) (XT.ii_ge_t (by decide)) ?_
  refine gIload X13 hx (hb hby d5_44) (q := 46) rfl rfl ?_
  exact gRetI X13 hx hlk hret (hb hby d5_46) (by decide) (by decide) (by rw [e13]; exact ⟨rfl, N14, K15, B13⟩)
theorem d4_0 : decode jdk_52_method_16_code 0 = .ok (.iload_n 2, 1) := by decide +kernel
theorem d4_1 : decode jdk_52_method_16_code 1 = .ok (.newarray .byte, 2) := by decide +kernel
theorem d4_3 : decode jdk_52_method_16_code 3 = .ok (.astore_n 3, 1) := by decide +kernel
theorem d4_4 : decode jdk_52_method_16_code 4 = .ok (.aload_n 0, 1) := by decide +kernel
theorem d4_5 : decode jdk_52_method_16_code 5 = .ok (.iload_n 1, 1) := by decide +kernel
theorem d4_6 : decode jdk_52_method_16_code 6 = .ok (.aload_n 3, 1) := by decide +kernel
theorem d4_7 : decode jdk_52_method_16_code 7 = .ok (.iconst 0, 1) := by decide +kernel
theorem d4_8 : decode jdk_52_method_16_code 8 = .ok (.iload_n 2, 1) := by decide +kernel
theorem d4_9 : decode jdk_52_method_16_code 9 = .ok (.invokestatic 115, 3) := by decide +kernel
theorem d4_12 : decode jdk_52_method_16_code 12 = .ok (.istore 4, 2) := by decide +kernel
theorem d4_14 : decode jdk_52_method_16_code 14 = .ok (.iload 4, 2) := by decide +kernel
theorem d4_16 : decode jdk_52_method_16_code 16 = .ok (.iload_n 2, 1) := by decide +kernel
theorem d4_17 : decode jdk_52_method_16_code 17 = .ok (.if_icmp .eq 40, 3) := by decide +kernel
theorem d4_20 : decode jdk_52_method_16_code 20 = .ok (.aload_n 0, 1) := by decide +kernel
theorem d4_21 : decode jdk_52_method_16_code 21 = .ok (.iload_n 1, 1) := by decide +kernel
theorem d4_22 : decode jdk_52_method_16_code 22 = .ok (.iload_n 2, 1) := by decide +kernel
theorem d4_23 : decode jdk_52_method_16_code 23 = .ok (.invokestatic 119, 3) := by decide +kernel
theorem d4_26 : decode jdk_52_method_16_code 26 = .ok (.astore 5, 2) := by decide +kernel
theorem d4_28 : decode jdk_52_method_16_code 28 = .ok (.aload 5, 2) := by decide +kernel
theorem d4_30 : decode jdk_52_method_16_code 30 = .ok (.iload 4, 2) := by decide +kernel
theorem d4_32 : decode jdk_52_method_16_code 32 = .ok (.invokestatic 71, 3) := by decide +kernel
theorem d4_35 : decode jdk_52_method_16_code 35 = .ok (.sipush 255, 3) := by decide +kernel
theorem d4_38 : decode jdk_52_method_16_code 38 = .ok (.if_icmp .gt 16, 3) := by decide +kernel
theorem d4_41 : decode jdk_52_method_16_code 41 = .ok (.aload 5, 2) := by decide +kernel
theorem d4_43 : decode jdk_52_method_16_code 43 = .ok (.iconst 0, 1) := by decide +kernel
theorem d4_44 : decode jdk_52_method_16_code 44 = .ok (.aload_n 3, 1) := by decide +kernel
theorem d4_45 : decode jdk_52_method_16_code 45 = .ok (.iconst 0, 1) := by decide +kernel
theorem d4_46 : decode jdk_52_method_16_code 46 = .ok (.iload_n 2, 1) := by decide +kernel
theorem d4_47 : decode jdk_52_method_16_code 47 = .ok (.invokestatic 123, 3) := by decide +kernel
theorem d4_50 : decode jdk_52_method_16_code 50 = .ok (.iload_n 2, 1) := by decide +kernel
theorem d4_51 : decode jdk_52_method_16_code 51 = .ok (.if_icmp .eq 6, 3) := by decide +kernel
theorem d4_54 : decode jdk_52_method_16_code 54 = .ok (.aload 5, 2) := by decide +kernel
theorem d4_56 : decode jdk_52_method_16_code 56 = .ok (.areturn, 1) := by decide +kernel
theorem d4_57 : decode jdk_52_method_16_code 57 = .ok (.aload_n 3, 1) := by decide +kernel
theorem d4_58 : decode jdk_52_method_16_code 58 = .ok (.areturn, 1) := by decide +kernel
theorem ef1 (m : MethodId) (x0 : Addr) (x1 : Int32) (x2 : Int32) : entryFrame m #[(.ref x0), (.int x1), (.int x2)] 6 = mkF m 0 #[.val (.ref x0), .val (.int x1), .val (.int x2), .unset, .unset, .unset] [] := by first | (simp [entryFrame, mkF, argsToLocals, Value.category]; done) | rfl
def Q_rmC1B (Z : State) (kx1 : Addr) (kc : ClassId) (h0 : Heap) (n0 : Nat) (v : Option Value) (h : Heap) (L : List Loc) : Prop := ∃ r kd, v = some (.ref r) ∧ Fr n0 L ∧ Keep h0 h [] ∧ Ary Z h r kd .byte [(.int (98 : Int32)), (.int (105 : Int32)), (.int (103 : Int32))] ∧ h0.size ≤ r
theorem pd0 : parseMethodDescriptor "([CI[BII)I" = some ⟨[.array (.char), .int, .array (.byte), .int, .int], some (.int)⟩ := by decide +kernel
set_option maxRecDepth 65536 in
set_option maxHeartbeats 40000000 in
theorem rmC1B (l : Launch) (Z : State) (a0 : Array Value) (hw : ∀ d ∈ tables_1, d.before a0 Z = true) (ws : List Jvm.Cond) (kx1 : Addr) (kc : ClassId) (h0 : Heap) (n0 : Nat) (Z0 : n0 ≤ h0.size) (pA1 : Ary Z h0 kx1 kc .char [(.int (98 : Int32)), (.int (105 : Int32)), (.int (103 : Int32))])  :
    Con l Z (⟨"java/lang/StringUTF16", "compress", "([CII)[B"⟩ : MethodName) jdk_52_method_16_code 6 (some (.array (.byte))) ws ({ frames := 1, cells := 1, slots := 3, locals := 18 } : Room) #[(.ref kx1), (.int (0 : Int32)), (.int (3 : Int32))] h0 (({ frames := 1, cells := 1, slots := 3, locals := 18 } : Room).cells) (({ frames := 1, cells := 1, slots := 3, locals := 18 } : Room).slots) (Q_rmC1B Z kx1 kc h0 n0) := by
  refine Con.of (plainFor_of_name pn0) ?_
  intro p e s m below meth c s₁ hx hby hml hown hnm hret hlk hZ X0 e0
  have N0 := Fr.nil n0
  refine goE (L := #[.val (.ref kx1), .val (.int (0 : Int32)), .val (.int (3 : Int32)), .unset, .unset, .unset]) (ef1 m kx1 (0 : Int32) (3 : Int32)) ?_
  refine gIloadN X0 hx (hb hby d4_0) (q := 1) rfl rfl ?_
  refine gNewP X0 hx hZ (hw _ (List.mem_of_getElem? (i := 19) rfl)) e0 (hb hby d4_1) (q := 3) rfl (by decide) (cap := 3) (by decide) (by decide) (by decide) (by decide) (fun T1 h1 a1 k1 X1 e1 g1 E1 A1 => ?_)
  have A2 := Ary.ext E1 pA1
  have ge_a1 : h0.size ≤ a1 := by rw [g1]; exact (Keep.refl h0 []).1
  have K3 := (Keep.refl h0 []).ext E1
  have le_a1 : n0 ≤ a1 := by rw [g1]; exact Z0
  have ne_kx1_a1 : kx1 ≠ a1 := by rw [g1]; exact Nat.ne_of_lt pA1.lt
  have Z4 := Nat.le_trans Z0 E1.1
  have B1 : Ary Z h1 a1 k1 (.byte) [(.int (0 : Int32)), (.int (0 : Int32)), (.int (0 : Int32))] := A1
  refine gAstoreN X1 hx (hb hby d4_3) (q := 4) rfl rfl (L' := #[.val (.ref kx1), .val (.int (0 : Int32)), .val (.int (3 : Int32)), .val (.ref a1), .unset, .unset]) rfl ?_
  refine gAloadN X1 hx (hb hby d4_4) (q := 5) rfl rfl rfl ?_
  refine gIloadN X1 hx (hb hby d4_5) (q := 6) rfl rfl ?_
  refine gAloadN X1 hx (hb hby d4_6) (q := 7) rfl rfl rfl ?_
  refine gIconst X1 hx (0 : Int32) (hb hby d4_7) (q := 8) rfl (by decide) ?_
  refine gIloadN X1 hx (hb hby d4_8) (q := 9) rfl rfl ?_
  refine gCallS X1 hx hZ hown (hw _ (List.mem_of_getElem? (i := 20) rfl)) (hw _ (List.mem_of_getElem? (i := 21) rfl)) (hw _ (List.mem_of_getElem? (i := 17) rfl)) (hw _ (List.mem_of_getElem? (i := 22) rfl)) (by decide) (rmC2B l Z a0 hw [] kx1 a1 kc k1  h1 n0 Z4 A2 B1 ne_kx1_a1 le_a1 ) (W := 0) (by decide) (by decide) e1 (by rw [hml]; rfl) [(.ref kx1), (.int (0 : Int32)), (.ref a1), (.int (0 : Int32)), (.int (3 : Int32))] (lenOf pd0 rfl) rfl (S := []) rfl (Nat.le_of_eq rfl) (hb hby d4_9) (q := 12) rfl (by decide) (by decide) (fun r5 T5 M5 X5 q5 => ?_)
  obtain ⟨rfl, M5n, K5, P5a⟩ := q5
  have N6 := Fr.app N0 M5n
  have A7 := Ary.keep A2 K5 (ninS ne_kx1_a1 nin0)
  have Z8 := Nat.le_trans Z4 K5.1
  have KK9 := K3.trans K5 (allS (Or.inr ge_a1) all0)
  dsimp only [Option.toList, List.cons_append, List.nil_append]
  refine gIstore X5 hx (hb hby d4_12) (q := 14) rfl (L' := #[.val (.ref kx1), .val (.int (0 : Int32)), .val (.int (3 : Int32)), .val (.ref a1), .val (.int (3 : Int32)), .unset]) rfl ?_
  refine gIload X5 hx (hb hby d4_14) (q := 16) rfl rfl ?_
  refine gIloadN X5 hx (hb hby d4_16) (q := 17) rfl rfl ?_
  refine gIcmpY X5 hx (hb hby d4_17) (q := 57) (by decide) (by decide) (XT.ii_eq_t (by decide)) ?_
  refine gAloadN X5 hx (hb hby d4_57) (q := 58) rfl rfl rfl ?_
  exact gRetA X5 hx hlk hret rfl rfl (hb hby d4_58) (by decide) (by decide) (by exact ⟨_, _, rfl, N6, KK9, P5a, ge_a1⟩)
theorem d6_0 : decode jdk_52_method_15_code 0 = .ok (.iload_n 1, 1) := by decide +kernel
theorem d6_1 : decode jdk_52_method_15_code 1 = .ok (.aload_n 0, 1) := by decide +kernel
theorem d6_2 : decode jdk_52_method_15_code 2 = .ok (.arraylength, 1) := by decide +kernel
theorem d6_3 : decode jdk_52_method_15_code 3 = .ok (.isub, 1) := by decide +kernel
theorem d6_4 : decode jdk_52_method_15_code 4 = .ok (.bipush 31, 2) := by decide +kernel
theorem d6_6 : decode jdk_52_method_15_code 6 = .ok (.iushr, 1) := by decide +kernel
theorem d6_7 : decode jdk_52_method_15_code 7 = .ok (.i2b, 1) := by decide +kernel
theorem d6_8 : decode jdk_52_method_15_code 8 = .ok (.ireturn, 1) := by decide +kernel
theorem ef2 (m : MethodId) (x0 : Addr) (x1 : Int32) : entryFrame m #[(.ref x0), (.int x1)] 2 = mkF m 0 #[.val (.ref x0), .val (.int x1)] [] := by first | (simp [entryFrame, mkF, argsToLocals, Value.category]; done) | rfl
def Q_rmCdB (Z : State) (kx1 : Addr) (kd : ClassId) (h0 : Heap) (n0 : Nat) (v : Option Value) (h : Heap) (L : List Loc) : Prop := v = some (.int (0 : Int32)) ∧ Fr n0 L ∧ h = h0
set_option maxRecDepth 65536 in
set_option maxHeartbeats 40000000 in
theorem rmCdB (l : Launch) (Z : State) (a0 : Array Value) (hw : ∀ d ∈ tables_1, d.before a0 Z = true) (ws : List Jvm.Cond) (kx1 : Addr) (kd : ClassId) (h0 : Heap) (n0 : Nat) (Z0 : n0 ≤ h0.size) (pA1 : Ary Z h0 kx1 kd .byte [(.int (98 : Int32)), (.int (105 : Int32)), (.int (103 : Int32))]) :
    Con l Z (⟨"java/lang/StringUTF16", "coderFromArrayLen", "([BI)B"⟩ : MethodName) jdk_52_method_15_code 2 (some (.byte)) ws ({ frames := 0, cells := 0, slots := 0, locals := 0 } : Room) #[(.ref kx1), (.int (3 : Int32))] h0 (({ frames := 0, cells := 0, slots := 0, locals := 0 } : Room).cells) (({ frames := 0, cells := 0, slots := 0, locals := 0 } : Room).slots) (Q_rmCdB Z kx1 kd h0 n0) := by
  refine Con.of (plainFor_of_name pn0) ?_
  intro p e s m below meth c s₁ hx hby hml hown hnm hret hlk hZ X0 e0
  have N0 := Fr.nil n0
  refine goE (L := #[.val (.ref kx1), .val (.int (3 : Int32))]) (ef2 m kx1 (3 : Int32)) ?_
  refine gIloadN X0 hx (hb hby d6_0) (q := 1) rfl rfl ?_
  refine gAloadN X0 hx (hb hby d6_1) (q := 2) rfl rfl rfl ?_
  refine gLen X0 hx hZ e0 pA1 (n := (3 : Int32)) rfl (hb hby d6_2) (q := 3) rfl ?_
  refine gIsub X0 hx (hb hby d6_3) (q := 4) rfl ?_
  rw [show ((3 : Int32) - (3 : Int32)) = (0 : Int32) from by decide]
  refine gBipush X0 hx (31 : Int32) (hb hby d6_4) (q := 6) rfl (by decide) ?_
  refine gIushr X0 hx (hb hby d6_6) (q := 7) rfl ?_
  rw [show (XT.ushr (0 : Int32) (31 : Int32)) = (0 : Int32) from by decide]
  refine gI2b X0 hx (hb hby d6_7) (q := 8) rfl ?_
  rw [show ((0 : Int32).toInt8.toInt32) = (0 : Int32) from by decide]
  exact gRetB X0 hx hlk hret (hb hby d6_8) (by decide) (by decide) rfl ⟨rfl, N0, e0⟩
theorem d2_0 : decode jdk_42_method_149_code 0 = .ok (.aload_n 0, 1) := by decide +kernel
theorem d2_1 : decode jdk_42_method_149_code 1 = .ok (.invokespecial 1, 3) := by decide +kernel
theorem d2_4 : decode jdk_42_method_149_code 4 = .ok (.iload_n 3, 1) := by decide +kernel
theorem d2_5 : decode jdk_42_method_149_code 5 = .ok (.ifCond .ne 22, 3) := by decide +kernel
theorem d2_8 : decode jdk_42_method_149_code 8 = .ok (.aload_n 0, 1) := by decide +kernel
theorem d2_9 : decode jdk_42_method_149_code 9 = .ok (.ldc 7, 2) := by decide +kernel
theorem d2_11 : decode jdk_42_method_149_code 11 = .ok (.getfield 9, 3) := by decide +kernel
theorem d2_14 : decode jdk_42_method_149_code 14 = .ok (.putfield 9, 3) := by decide +kernel
theorem d2_17 : decode jdk_42_method_149_code 17 = .ok (.aload_n 0, 1) := by decide +kernel
theorem d2_18 : decode jdk_42_method_149_code 18 = .ok (.ldc 7, 2) := by decide +kernel
theorem d2_20 : decode jdk_42_method_149_code 20 = .ok (.getfield 15, 3) := by decide +kernel
theorem d2_23 : decode jdk_42_method_149_code 23 = .ok (.putfield 15, 3) := by decide +kernel
theorem d2_26 : decode jdk_42_method_149_code 26 = .ok (.return_, 1) := by decide +kernel
theorem d2_27 : decode jdk_42_method_149_code 27 = .ok (.getstatic 38, 3) := by decide +kernel
theorem d2_30 : decode jdk_42_method_149_code 30 = .ok (.ifCond .eq 28, 3) := by decide +kernel
theorem d2_33 : decode jdk_42_method_149_code 33 = .ok (.aload_n 1, 1) := by decide +kernel
theorem d2_34 : decode jdk_42_method_149_code 34 = .ok (.iload_n 2, 1) := by decide +kernel
theorem d2_35 : decode jdk_42_method_149_code 35 = .ok (.iload_n 3, 1) := by decide +kernel
theorem d2_36 : decode jdk_42_method_149_code 36 = .ok (.invokestatic 177, 3) := by decide +kernel
theorem d2_39 : decode jdk_42_method_149_code 39 = .ok (.astore 5, 2) := by decide +kernel
theorem d2_41 : decode jdk_42_method_149_code 41 = .ok (.aload_n 0, 1) := by decide +kernel
theorem d2_42 : decode jdk_42_method_149_code 42 = .ok (.aload 5, 2) := by decide +kernel
theorem d2_44 : decode jdk_42_method_149_code 44 = .ok (.iload_n 3, 1) := by decide +kernel
theorem d2_45 : decode jdk_42_method_149_code 45 = .ok (.invokestatic 47, 3) := by decide +kernel
theorem d2_48 : decode jdk_42_method_149_code 48 = .ok (.putfield 15, 3) := by decide +kernel
theorem d2_51 : decode jdk_42_method_149_code 51 = .ok (.aload_n 0, 1) := by decide +kernel
theorem d2_52 : decode jdk_42_method_149_code 52 = .ok (.aload 5, 2) := by decide +kernel
theorem d2_54 : decode jdk_42_method_149_code 54 = .ok (.putfield 9, 3) := by decide +kernel
theorem d2_57 : decode jdk_42_method_149_code 57 = .ok (.return_, 1) := by decide +kernel
theorem d2_58 : decode jdk_42_method_149_code 58 = .ok (.aload_n 0, 1) := by decide +kernel
theorem d2_59 : decode jdk_42_method_149_code 59 = .ok (.iconst 1, 1) := by decide +kernel
theorem d2_60 : decode jdk_42_method_149_code 60 = .ok (.putfield 15, 3) := by decide +kernel
theorem d2_63 : decode jdk_42_method_149_code 63 = .ok (.aload_n 0, 1) := by decide +kernel
theorem d2_64 : decode jdk_42_method_149_code 64 = .ok (.aload_n 1, 1) := by decide +kernel
theorem d2_65 : decode jdk_42_method_149_code 65 = .ok (.iload_n 2, 1) := by decide +kernel
theorem d2_66 : decode jdk_42_method_149_code 66 = .ok (.iload_n 3, 1) := by decide +kernel
theorem d2_67 : decode jdk_42_method_149_code 67 = .ok (.invokestatic 180, 3) := by decide +kernel
theorem d2_70 : decode jdk_42_method_149_code 70 = .ok (.putfield 9, 3) := by decide +kernel
theorem d2_73 : decode jdk_42_method_149_code 73 = .ok (.return_, 1) := by decide +kernel
theorem pn1 : plainName "java/lang/String" = true := by first | (simp [plainName, overriddenIn]; done) | decide +kernel
theorem ef3 (m : MethodId) (x0 : Addr) (x1 : Addr) (x2 : Int32) (x3 : Int32) : entryFrame m #[(.ref x0), (.ref x1), (.int x2), (.int x3), (.null)] 6 = mkF m 0 #[.val (.ref x0), .val (.ref x1), .val (.int x2), .val (.int x3), .val (.null), .unset] [] := by first | (simp [entryFrame, mkF, argsToLocals, Value.category]; done) | rfl
def Q_rmI4B (Z : State) (a : Addr) (kx1 : Addr) (kc : ClassId) (ic : Int32) (h0 : Heap) (n0 : Nat) (v : Option Value) (h : Heap) (L : List Loc) : Prop := v = none ∧ Fr n0 L ∧ Keep h0 h [a] ∧ Exa Z h a "java/lang/String" ∧ Fld Z h a "java/lang/String" "coder" "B" (.int (0 : Int32)) ∧ ∃ rb kb, Fld Z h a "java/lang/String" "value" "[B" (.ref rb) ∧ Ary Z h rb kb .byte [(.int (98 : Int32)), (.int (105 : Int32)), (.int (103 : Int32))] ∧ h0.size ≤ rb
theorem pd1 : parseMethodDescriptor "([CII)[B" = some ⟨[.array (.char), .int, .int], some (.array (.byte))⟩ := by decide +kernel
theorem pd2 : parseMethodDescriptor "([BI)B" = some ⟨[.array (.byte), .int], some (.byte)⟩ := by decide +kernel
set_option maxRecDepth 65536 in
set_option maxHeartbeats 40000000 in
theorem rmI4B (l : Launch) (Z : State) (a0 : Array Value) (hw : ∀ d ∈ tables_1, d.before a0 Z = true) (ws : List Jvm.Cond) (a : Addr) (kx1 : Addr) (kc : ClassId) (ic : Int32) (h0 : Heap) (n0 : Nat) (Z0 : n0 ≤ h0.size) (pF1 : Fld Z h0 a "java/lang/String" "value" "[B" .null) (pF2 : Fld Z h0 a "java/lang/String" "coder" "B" (.int (0 : Int32))) (EXa : Exa Z h0 a "java/lang/String") (la : n0 ≤ a) (pA1 : Ary Z h0 kx1 kc .char [(.int (98 : Int32)), (.int (105 : Int32)), (.int (103 : Int32))]) (n1a : kx1 ≠ a) (SCs : Sta Z Z.heap "java/lang/String" "COMPACT_STRINGS" "Z" (.int ic)) (hic : ¬ ic = (0 : Int32)) (O0 : Old Z n0 h0)  :
    Con l Z (⟨"java/lang/String", "<init>", "([CIILjava/lang/Void;)V"⟩ : MethodName) jdk_42_method_149_code 6 none ws ({ frames := 2, cells := 1, slots := 3, locals := 36 } : Room) #[(.ref a), (.ref kx1), (.int (0 : Int32)), (.int (3 : Int32)), (.null)] h0 (({ frames := 2, cells := 1, slots := 3, locals := 36 } : Room).cells) (({ frames := 2, cells := 1, slots := 3, locals := 36 } : Room).slots) (Q_rmI4B Z a kx1 kc ic h0 n0) := by
  refine Con.of (plainFor_of_name pn1) ?_
  intro p e s m below meth c s₁ hx hby hml hown hnm hret hlk hZ X0 e0
  have N0 := Fr.nil n0
  refine goE (L := #[.val (.ref a), .val (.ref kx1), .val (.int (0 : Int32)), .val (.int (3 : Int32)), .val (.null), .unset]) (ef3 m a kx1 (0 : Int32) (3 : Int32)) ?_
  refine gAloadN X0 hx (hb hby d2_0) (q := 1) rfl rfl rfl ?_
  refine gInitO X0 hx hZ hown (hw _ (List.mem_of_getElem? (i := 11) rfl)) (hw _ (List.mem_of_getElem? (i := 12) rfl)) (hw _ (List.mem_of_getElem? (i := 13) rfl)) e0 (by rw [hml]; rfl) (hb hby d2_1) (q := 4) rfl (by decide) (W := 0) (Nat.le_of_eq rfl) (by decide) (fun T1 X1 e1 => ?_)
  refine gIloadN X1 hx (hb hby d2_4) (q := 5) rfl rfl ?_
  refine gIfY X1 hx (hb hby d2_5) (q := 27) (by decide) (by decide) (XT.i0_ne_t (by decide)) ?_
  refine gGetS X1 hx hZ hown (hw _ (List.mem_of_getElem? (i := 14) rfl)) Via.refl e1 (Sta.ext O0.2 SCs) (hb hby d2_27) (q := 30) rfl (fun T2 X2 e2 => ?_)
  refine gIfN X2 hx (hb hby d2_30) (q := 33) rfl (XT.i0_eq_f hic) ?_
  refine gAloadN X2 hx (hb hby d2_33) (q := 34) rfl rfl rfl ?_
  refine gIloadN X2 hx (hb hby d2_34) (q := 35) rfl rfl ?_
  refine gIloadN X2 hx (hb hby d2_35) (q := 36) rfl rfl ?_
  refine gCallS X2 hx hZ hown (hw _ (List.mem_of_getElem? (i := 15) rfl)) (hw _ (List.mem_of_getElem? (i := 16) rfl)) (hw _ (List.mem_of_getElem? (i := 17) rfl)) (hw _ (List.mem_of_getElem? (i := 18) rfl)) (by decide) (rmC1B l Z a0 hw [] kx1 kc  h0 n0 Z0 pA1 ) (W := 0) (by decide) (by decide) e2 (by rw [hml]; rfl) [(.ref kx1), (.int (0 : Int32)), (.int (3 : Int32))] (lenOf pd1 rfl) rfl (S := []) rfl (Nat.le_of_eq rfl) (hb hby d2_36) (q := 39) rfl (by decide) (by decide) (fun r3 T3 M3 X3 q3 => ?_)
  obtain ⟨rb, kb, rfl, M3n, K3, Arb, grb⟩ := q3
  have N4 := Fr.app N0 M3n
  have lrb : n0 ≤ rb := Nat.le_trans Z0 grb
  have ne_a_rb : a ≠ rb := Nat.ne_of_lt (Nat.lt_of_lt_of_le EXa.lt grb)
  have ne_kx1_rb : kx1 ≠ rb := Nat.ne_of_lt (Nat.lt_of_lt_of_le pA1.lt grb)
  have g0rb : h0.size ≤ rb := Nat.le_trans (Keep.refl h0 [a]).1 grb
  have F5 := Fld.keep pF1 K3 nin0
  have F6 := Fld.keep pF2 K3 nin0
  have E7 := Exa.keep EXa K3
  have A8 := Ary.keep pA1 K3 nin0
  have O9 := O0.keep K3 all0
  have Z10 := Nat.le_trans Z0 K3.1
  have KK11 := (Keep.refl h0 [a]).trans K3 all0
  dsimp only [Option.toList, List.cons_append, List.nil_append]
  refine gAstore X3 hx (hb hby d2_39) (q := 41) rfl rfl (L' := #[.val (.ref a), .val (.ref kx1), .val (.int (0 : Int32)), .val (.int (3 : Int32)), .val (.null), .val (.ref rb)]) rfl ?_
  refine gAloadN X3 hx (hb hby d2_41) (q := 42) rfl rfl rfl ?_
  refine gAload X3 hx (hb hby d2_42) (q := 44) rfl rfl rfl ?_
  refine gIloadN X3 hx (hb hby d2_44) (q := 45) rfl rfl ?_
  refine gCallS X3 hx hZ hown (hw _ (List.mem_of_getElem? (i := 23) rfl)) (hw _ (List.mem_of_getElem? (i := 24) rfl)) (hw _ (List.mem_of_getElem? (i := 17) rfl)) (hw _ (List.mem_of_getElem? (i := 25) rfl)) (by decide) (rmCdB l Z a0 hw [] rb kb  T3.heap n0 Z10 Arb) (W := 1) (by decide) (by decide) rfl (by rw [hml]; rfl) [(.ref rb), (.int (3 : Int32))] (lenOf pd2 rfl) rfl (S := [(.ref a)]) rfl (Nat.le_of_eq rfl) (hb hby d2_45) (q := 48) rfl (by decide) (by decide) (fun r12 T12 M12 X12 q12 => ?_)
  obtain ⟨rfl, M12n, e12⟩ := q12
  have N13 := Fr.app N4 M12n
  dsimp only [Option.toList, List.cons_append, List.nil_append]
  refine gPutF X12 hx hZ (host := "") hown (Or.inl (hw _ (List.mem_of_getElem? (i := 26) rfl))) Via.refl e12 F6 E7 (Or.inr ⟨(hw _ (List.mem_of_getElem? (i := 27) rfl)), rfl, hnm⟩) (hw _ (List.mem_of_getElem? (i := 2) rfl)) (ty := .byte) (by decide) rfl rfl (hb hby d2_48) (q := 51) rfl (fun T14 h14 X14 e14 W14 => ?_)
  have N15 := Fr.snoc X14 N13 la
  have K16 := KK11.wr W14 (Or.inl (List.mem_of_getElem? (i := 0) rfl))
  have F17 := Fld.other W14 F5 (Or.inr (slot_ne (Or.inr (hw _ (List.mem_of_getElem? (i := 29) rfl))) (Or.inr (hw _ (List.mem_of_getElem? (i := 27) rfl))) (by decide) (t := .array (.byte)) (by decide) (t' := .byte) (by decide)))
  have F18 := Fld.same W14 F6
  have E19 := Exa.wr W14 E7
  have A20 := Ary.other W14 A8 n1a
  have A21 := Ary.other W14 Arb ne_a_rb.symm
  have O22 := O9.wr W14 la
  have Z23 : n0 ≤ h14.size := by rw [W14.size]; exact Z10
  refine gAloadN X14 hx (hb hby d2_51) (q := 52) rfl rfl rfl ?_
  refine gAload X14 hx (hb hby d2_52) (q := 54) rfl rfl rfl ?_
  refine gPutF X14 hx hZ (host := "") hown (Or.inl (hw _ (List.mem_of_getElem? (i := 28) rfl))) Via.refl e14 F17 E19 (Or.inr ⟨(hw _ (List.mem_of_getElem? (i := 29) rfl)), rfl, hnm⟩) (hw _ (List.mem_of_getElem? (i := 2) rfl)) (ty := .array (.byte)) (by decide) rfl rfl (hb hby d2_54) (q := 57) rfl (fun T24 h24 X24 e24 W24 => ?_)
  have N25 := Fr.snoc X24 N15 la
  have K26 := K16.wr W24 (Or.inl (List.mem_of_getElem? (i := 0) rfl))
  have F27 := Fld.same W24 F17
  have F28 := Fld.other W24 F18 (Or.inr (slot_ne (Or.inr (hw _ (List.mem_of_getElem? (i := 27) rfl))) (Or.inr (hw _ (List.mem_of_getElem? (i := 29) rfl))) (by decide) (t := .byte) (by decide) (t' := .array (.byte)) (by decide)))
  have E29 := Exa.wr W24 E19
  have A30 := Ary.other W24 A20 n1a
  have A31 := Ary.other W24 A21 ne_a_rb.symm
  have O32 := O22.wr W24 la
  have Z33 : n0 ≤ h24.size := by rw [W24.size]; exact Z23
  exact gRetV X24 hx hlk hret (hb hby d2_57) (by decide) (by decide) (by rw [e24]; exact ⟨rfl, N25, K26, E29, F28, _, _, F27, A31, g0rb⟩)
theorem d1_0 : decode jdk_42_method_3_code 0 = .ok (.aload_n 0, 1) := by decide +kernel
theorem d1_1 : decode jdk_42_method_3_code 1 = .ok (.aload_n 1, 1) := by decide +kernel
theorem d1_2 : decode jdk_42_method_3_code 2 = .ok (.iconst 0, 1) := by decide +kernel
theorem d1_3 : decode jdk_42_method_3_code 3 = .ok (.aload_n 1, 1) := by decide +kernel
theorem d1_4 : decode jdk_42_method_3_code 4 = .ok (.arraylength, 1) := by decide +kernel
theorem d1_5 : decode jdk_42_method_3_code 5 = .ok (.aconst_null, 1) := by decide +kernel
theorem d1_6 : decode jdk_42_method_3_code 6 = .ok (.invokespecial 27, 3) := by decide +kernel
theorem d1_9 : decode jdk_42_method_3_code 9 = .ok (.return_, 1) := by decide +kernel
theorem ef4 (m : MethodId) (x0 : Addr) (x1 : Addr) : entryFrame m #[(.ref x0), (.ref x1)] 2 = mkF m 0 #[.val (.ref x0), .val (.ref x1)] [] := by first | (simp [entryFrame, mkF, argsToLocals, Value.category]; done) | rfl
def Q_rmI1B (Z : State) (a : Addr) (kx1 : Addr) (kc : ClassId) (ic : Int32) (h0 : Heap) (n0 : Nat) (v : Option Value) (h : Heap) (L : List Loc) : Prop := v = none ∧ Fr n0 L ∧ Keep h0 h [a] ∧ Exa Z h a "java/lang/String" ∧ Fld Z h a "java/lang/String" "coder" "B" (.int (0 : Int32)) ∧ ∃ rb kb, Fld Z h a "java/lang/String" "value" "[B" (.ref rb) ∧ Ary Z h rb kb .byte [(.int (98 : Int32)), (.int (105 : Int32)), (.int (103 : Int32))] ∧ h0.size ≤ rb
theorem pd3 : parseMethodDescriptor "([CIILjava/lang/Void;)V" = some ⟨[.array (.char), .int, .int, .object "java/lang/Void"], none⟩ := by decide +kernel
set_option maxRecDepth 65536 in
set_option maxHeartbeats 40000000 in
theorem rmI1B (l : Launch) (Z : State) (a0 : Array Value) (hw : ∀ d ∈ tables_1, d.before a0 Z = true) (ws : List Jvm.Cond) (a : Addr) (kx1 : Addr) (kc : ClassId) (ic : Int32) (h0 : Heap) (n0 : Nat) (Z0 : n0 ≤ h0.size) (pF1 : Fld Z h0 a "java/lang/String" "value" "[B" .null) (pF2 : Fld Z h0 a "java/lang/String" "coder" "B" (.int (0 : Int32))) (EXa : Exa Z h0 a "java/lang/String") (la : n0 ≤ a) (pA1 : Ary Z h0 kx1 kc .char [(.int (98 : Int32)), (.int (105 : Int32)), (.int (103 : Int32))]) (n1a : kx1 ≠ a) (SCs : Sta Z Z.heap "java/lang/String" "COMPACT_STRINGS" "Z" (.int ic)) (hic : ¬ ic = (0 : Int32)) (O0 : Old Z n0 h0)  :
    Con l Z (⟨"java/lang/String", "<init>", "([C)V"⟩ : MethodName) jdk_42_method_3_code 2 none ws ({ frames := 3, cells := 1, slots := 3, locals := 53 } : Room) #[(.ref a), (.ref kx1)] h0 (({ frames := 3, cells := 1, slots := 3, locals := 53 } : Room).cells) (({ frames := 3, cells := 1, slots := 3, locals := 53 } : Room).slots) (Q_rmI1B Z a kx1 kc ic h0 n0) := by
  refine Con.of (plainFor_of_name pn1) ?_
  intro p e s m below meth c s₁ hx hby hml hown hnm hret hlk hZ X0 e0
  have N0 := Fr.nil n0
  refine goE (L := #[.val (.ref a), .val (.ref kx1)]) (ef4 m a kx1) ?_
  refine gAloadN X0 hx (hb hby d1_0) (q := 1) rfl rfl rfl ?_
  refine gAloadN X0 hx (hb hby d1_1) (q := 2) rfl rfl rfl ?_
  refine gIconst X0 hx (0 : Int32) (hb hby d1_2) (q := 3) rfl (by decide) ?_
  refine gAloadN X0 hx (hb hby d1_3) (q := 4) rfl rfl rfl ?_
  refine gLen X0 hx hZ e0 pA1 (n := (3 : Int32)) rfl (hb hby d1_4) (q := 5) rfl ?_
  refine gNull X0 hx (hb hby d1_5) (q := 6) rfl ?_
  refine gCallN X0 hx hZ rfl hown (hw _ (List.mem_of_getElem? (i := 7) rfl)) (hw _ (List.mem_of_getElem? (i := 8) rfl)) (hw _ (List.mem_of_getElem? (i := 3) rfl)) (hw _ (List.mem_of_getElem? (i := 10) rfl)) (by decide) (rmI4B l Z a0 hw [] a kx1 kc ic  h0 n0 Z0 pF1 pF2 EXa la pA1 n1a SCs hic O0 ) (W := 0) (by decide) (by decide) e0 (by rw [hml]; rfl) [(.ref kx1), (.int (0 : Int32)), (.int (3 : Int32)), (.null)] (lenOf pd3 rfl) rfl (S := []) rfl (Nat.le_of_eq rfl) (hb hby d1_6) (q := 9) rfl (by decide) (by decide) (fun r1 T1 M1 X1 q1 => ?_)
  obtain ⟨rfl, M1n, K1, P1e, P1c, rb, kb, P1v, P1a, grb⟩ := q1
  have N2 := Fr.app N0 M1n
  dsimp only [Option.toList, List.cons_append, List.nil_append]
  exact gRetV X1 hx hlk hret (hb hby d1_9) (by decide) (by decide) ⟨rfl, N2, K1, P1e, P1c, _, _, P1v, P1a, grb⟩
theorem ef5 (m : MethodId) (x0 : Addr) (x1 : Int32) (x2 : Addr) (x3 : Int32) (x4 : Int32) : entryFrame m #[(.ref x0), (.int x1), (.ref x2), (.int x3), (.int x4)] 7 = mkF m 0 #[.val (.ref x0), .val (.int x1), .val (.ref x2), .val (.int x3), .val (.int x4), .unset, .unset] [] := by first | (simp [entryFrame, mkF, argsToLocals, Value.category]; done) | rfl
def Q_rmC2L (Z : State) (kx1 : Addr) (kx2 : Addr) (kc : ClassId) (kd : ClassId) (h0 : Heap) (n0 : Nat) (v : Option Value) (h : Heap) (L : List Loc) : Prop := v = some (.int (6 : Int32)) ∧ Fr n0 L ∧ Keep h0 h [kx2] ∧ Ary Z h kx2 kd .byte [(.int (108 : Int32)), (.int (105 : Int32)), (.int (116 : Int32)), (.int (116 : Int32)), (.int (108 : Int32)), (.int (101 : Int32))]
set_option maxRecDepth 65536 in
set_option maxHeartbeats 40000000 in
theorem rmC2L (l : Launch) (Z : State) (a0 : Array Value) (hw : ∀ d ∈ tables_1, d.before a0 Z = true) (ws : List Jvm.Cond) (kx1 : Addr) (kx2 : Addr) (kc : ClassId) (kd : ClassId) (h0 : Heap) (n0 : Nat) (Z0 : n0 ≤ h0.size) (pA1 : Ary Z h0 kx1 kc .char [(.int (108 : Int32)), (.int (105 : Int32)), (.int (116 : Int32)), (.int (116 : Int32)), (.int (108 : Int32)), (.int (101 : Int32))]) (pA2 : Ary Z h0 kx2 kd .byte [(.int (0 : Int32)), (.int (0 : Int32)), (.int (0 : Int32)), (.int (0 : Int32)), (.int (0 : Int32)), (.int (0 : Int32))]) (n12 : kx1 ≠ kx2) (lkx2 : n0 ≤ kx2)  :
    Con l Z (⟨"java/lang/StringUTF16", "compress", "([CI[BII)I"⟩ : MethodName) jdk_52_method_21_code 7 (some (.int)) ws ({ frames := 0, cells := 0, slots := 0, locals := 0 } : Room) #[(.ref kx1), (.int (0 : Int32)), (.ref kx2), (.int (0 : Int32)), (.int (6 : Int32))] h0 (({ frames := 0, cells := 0, slots := 0, locals := 0 } : Room).cells) (({ frames := 0, cells := 0, slots := 0, locals := 0 } : Room).slots) (Q_rmC2L Z kx1 kx2 kc kd h0 n0) := by
  refine Con.of (plainFor_of_name pn0) ?_
  intro p e s m below meth c s₁ hx hby hml hown hnm hret hlk hZ X0 e0
  have N0 := Fr.nil n0
  refine goE (L := #[.val (.ref kx1), .val (.int (0 : Int32)), .val (.ref kx2), .val (.int (0 : Int32)), .val (.int (6 : Int32)), .unset, .unset]) (ef5 m kx1 (0 : Int32) kx2 (0 : Int32) (6 : Int32)) ?_
  refine gIconst X0 hx (0 : Int32) (hb hby d5_0) (q := 1) rfl (by decide) ?_
  refine gIstore X0 hx (hb hby d5_1) (q := 3) rfl (L' := #[.val (.ref kx1), .val (.int (0 : Int32)), .val (.ref kx2), .val (.int (0 : Int32)), .val (.int (6 : Int32)), .val (.int (0 : Int32)), .unset]) rfl ?_
  refine gIload X0 hx (hb hby d5_3) (q := 5) rfl rfl ?_
  refine gIload X0 hx (hb hby d5_5) (q := 7) rfl rfl ?_
  refine gIcmpN X0 hx (hb hby d5_7) (q := 10) rfl (XT.ii_ge_f (by decide)) ?_
  refine gAloadN X0 hx (hb hby d5_10) (q := 11) rfl rfl rfl ?_
  refine gIloadN X0 hx (hb hby d5_11) (q := 12) rfl rfl ?_
  refine gCaload X0 hx hZ e0 pA1 (hb hby d5_12) (q := 13) rfl (show ¬ (((0 : Int32) : Int32) < 0 ∨ 6 ≤ ((0 : Int32) : Int32).toNatClampNeg) by decide) (v := .int (108 : Int32)) rfl ?_
  refine gIstore X0 hx (hb hby d5_13) (q := 15) rfl (L' := #[.val (.ref kx1), .val (.int (0 : Int32)), .val (.ref kx2), .val (.int (0 : Int32)), .val (.int (6 : Int32)), .val (.int (0 : Int32)), .val (.int (108 : Int32))]) rfl ?_
  refine gIload X0 hx (hb hby d5_15) (q := 17) rfl rfl ?_
  refine gSipush X0 hx (255 : Int32) (hb hby d5_17) (q := 20) rfl (by decide) ?_
  refine gIcmpY X0 hx (hb hby d5_20) (q := 26) (by decide) (by decide) (XT.ii_le_t (by decide)) ?_
  refine gAloadN X0 hx (hb hby d5_26) (q := 27) rfl rfl rfl ?_
  refine gIloadN X0 hx (hb hby d5_27) (q := 28) rfl rfl ?_
  refine gIload X0 hx (hb hby d5_28) (q := 30) rfl rfl ?_
  refine gI2b X0 hx (hb hby d5_30) (q := 31) rfl ?_
  rw [show ((108 : Int32).toInt8.toInt32) = (108 : Int32) from by decide]
  refine gBastore X0 hx hZ e0 pA2 (hb hby d5_31) (q := 32) rfl (show ¬ (((0 : Int32) : Int32) < 0 ∨ 6 ≤ ((0 : Int32) : Int32).toNatClampNeg) by decide) (fun T1 h1 X1 e1 W1 A1 => ?_)
  have B1 : Ary Z h1 kx2 kd (.byte) [(.int (108 : Int32)), (.int (0 : Int32)), (.int (0 : Int32)), (.int (0 : Int32)), (.int (0 : Int32)), (.int (0 : Int32))] := (by have zA := A1; rw [show nar .byte (108 : Int32) = (108 : Int32) from by decide] at zA; exact zA)
  have N2 := Fr.snoc X1 N0 lkx2
  have K3 := (Keep.refl h0 [kx2]).wr W1 (Or.inl (List.mem_of_getElem? (i := 0) rfl))
  have A4 := Ary.other W1 pA1 n12
  have Z6 : n0 ≤ h1.size := by rw [W1.size]; exact Z0
  refine gIinc X1 hx (1 : Int32) (hb hby d5_32) (q := 35) rfl (by decide) rfl (L' := #[.val (.ref kx1), .val (.int (1 : Int32)), .val (.ref kx2), .val (.int (0 : Int32)), .val (.int (6 : Int32)), .val (.int (0 : Int32)), .val (.int (108 : Int32))]) rfl ?_
  refine gIinc X1 hx (1 : Int32) (hb hby d5_35) (q := 38) rfl (by decide) rfl (L' := #[.val (.ref kx1), .val (.int (1 : Int32)), .val (.ref kx2), .val (.int (1 : Int32)), .val (.int (6 : Int32)), .val (.int (0 : Int32)), .val (.int (108 : Int32))]) rfl ?_
  refine gIinc X1 hx (1 : Int32) (hb hby d5_38) (q := 41) rfl (by decide) rfl (L' := #[.val (.ref kx1), .val (.int (1 : Int32)), .val (.ref kx2), .val (.int (1 : Int32)), .val (.int (6 : Int32)), .val (.int (1 : Int32)), .val (.int (108 : Int32))]) rfl ?_
  refine gGoto X1 hx (hb hby d5_41) (q := 3) (by decide) (by decide) ?_
  refine gIload X1 hx (hb hby d5_3) (q := 5) rfl rfl ?_
  refine gIload X1 hx (hb hby d5_5) (q := 7) rfl rfl ?_
  refine gIcmpN X1 hx (hb hby d5_7) (q := 10) rfl (XT.ii_ge_f (by decide)) ?_
  refine gAloadN X1 hx (hb hby d5_10) (q := 11) rfl rfl rfl ?_
  refine gIloadN X1 hx (hb hby d5_11) (q := 12) rfl rfl ?_
  refine gCaload X1 hx hZ e1 A4 (hb hby d5_12) (q := 13) rfl (show ¬ (((1 : Int32) : Int32) < 0 ∨ 6 ≤ ((1 : Int32) : Int32).toNatClampNeg) by decide) (v := .int (105 : Int32)) rfl ?_
  refine gIstore X1 hx (hb hby d5_13) (q := 15) rfl (L' := #[.val (.ref kx1), .val (.int (1 : Int32)), .val (.ref kx2), .val (.int (1 : Int32)), .val (.int (6 : Int32)), .val (.int (1 : Int32)), .val (.int (105 : Int32))]) rfl ?_
  refine gIload X1 hx (hb hby d5_15) (q := 17) rfl rfl ?_
  refine gSipush X1 hx (255 : Int32) (hb hby d5_17) (q := 20) rfl (by decide) ?_
  refine gIcmpY X1 hx (hb hby d5_20) (q := 26) (by decide) (by decide) (XT.ii_le_t (by decide)) ?_
  refine gAloadN X1 hx (hb hby d5_26) (q := 27) rfl rfl rfl ?_
  refine gIloadN X1 hx (hb hby d5_27) (q := 28) rfl rfl ?_
  refine gIload X1 hx (hb hby d5_28) (q := 30) rfl rfl ?_
  refine gI2b X1 hx (hb hby d5_30) (q := 31) rfl ?_
  rw [show ((105 : Int32).toInt8.toInt32) = (105 : Int32) from by decide]
  refine gBastore X1 hx hZ e1 B1 (hb hby d5_31) (q := 32) rfl (show ¬ (((1 : Int32) : Int32) < 0 ∨ 6 ≤ ((1 : Int32) : Int32).toNatClampNeg) by decide) (fun T7 h7 X7 e7 W7 A7 => ?_)
  have B7 : Ary Z h7 kx2 kd (.byte) [(.int (108 : Int32)), (.int (105 : Int32)), (.int (0 : Int32)), (.int (0 : Int32)), (.int (0 : Int32)), (.int (0 : Int32))] := (by have zA := A7; rw [show nar .byte (105 : Int32) = (105 : Int32) from by decide] at zA; exact zA)
  have N8 := Fr.snoc X7 N2 lkx2
  have K9 := K3.wr W7 (Or.inl (List.mem_of_getElem? (i := 0) rfl))
  have A10 := Ary.other W7 A4 n12
  have Z12 : n0 ≤ h7.size := by rw [W7.size]; exact Z6
  refine gIinc X7 hx (1 : Int32) (hb hby d5_32) (q := 35) rfl (by decide) rfl (L' := #[.val (.ref kx1), .val (.int (2 : Int32)), .val (.ref kx2), .val (.int (1 : Int32)), .val (.int (6 : Int32)), .val (.int (1 : Int32)), .val (.int (105 : Int32))]) rfl ?_
  refine gIinc X7 hx (1 : Int32) (hb hby d5_35) (q := 38) rfl (by decide) rfl (L' := #[.val (.ref kx1), .val (.int (2 : Int32)), .val (.ref kx2), .val (.int (2 : Int32)), .val (.int (6 : Int32)), .val (.int (1 : Int32)), .val (.int (105 : Int32))]) rfl ?_
  refine gIinc X7 hx (1 : Int32) (hb hby d5_38) (q := 41) rfl (by decide) rfl (L' := #[.val (.ref kx1), .val (.int (2 : Int32)), .val (.ref kx2), .val (.int (2 : Int32)), .val (.int (6 : Int32)), .val (.int (2 : Int32)), .val (.int (105 : Int32))]) rfl ?_
  refine gGoto X7 hx (hb hby d5_41) (q := 3) (by decide) (by decide) ?_
  refine gIload X7 hx (hb hby d5_3) (q := 5) rfl rfl ?_
  refine gIload X7 hx (hb hby d5_5) (q := 7) rfl rfl ?_
  refine gIcmpN X7 hx (hb hby d5_7) (q := 10) rfl (XT.ii_ge_f (by decide)) ?_
  refine gAloadN X7 hx (hb hby d5_10) (q := 11) rfl rfl rfl ?_
  refine gIloadN X7 hx (hb hby d5_11) (q := 12) rfl rfl ?_
  refine gCaload X7 hx hZ e7 A10 (hb hby d5_12) (q := 13) rfl (show ¬ (((2 : Int32) : Int32) < 0 ∨ 6 ≤ ((2 : Int32) : Int32).toNatClampNeg) by decide) (v := .int (116 : Int32)) rfl ?_
  refine gIstore X7 hx (hb hby d5_13) (q := 15) rfl (L' := #[.val (.ref kx1), .val (.int (2 : Int32)), .val (.ref kx2), .val (.int (2 : Int32)), .val (.int (6 : Int32)), .val (.int (2 : Int32)), .val (.int (116 : Int32))]) rfl ?_
  refine gIload X7 hx (hb hby d5_15) (q := 17) rfl rfl ?_
  refine gSipush X7 hx (255 : Int32) (hb hby d5_17) (q := 20) rfl (by decide) ?_
  refine gIcmpY X7 hx (hb hby d5_20) (q := 26) (by decide) (by decide) (XT.ii_le_t (by decide)) ?_
  refine gAloadN X7 hx (hb hby d5_26) (q := 27) rfl rfl rfl ?_
  refine gIloadN X7 hx (hb hby d5_27) (q := 28) rfl rfl ?_
  refine gIload X7 hx (hb hby d5_28) (q := 30) rfl rfl ?_
  refine gI2b X7 hx (hb hby d5_30) (q := 31) rfl ?_
  rw [show ((116 : Int32).toInt8.toInt32) = (116 : Int32) from by decide]
  refine gBastore X7 hx hZ e7 B7 (hb hby d5_31) (q := 32) rfl (show ¬ (((2 : Int32) : Int32) < 0 ∨ 6 ≤ ((2 : Int32) : Int32).toNatClampNeg) by decide) (fun T13 h13 X13 e13 W13 A13 => ?_)
  have B13 : Ary Z h13 kx2 kd (.byte) [(.int (108 : Int32)), (.int (105 : Int32)), (.int (116 : Int32)), (.int (0 : Int32)), (.int (0 : Int32)), (.int (0 : Int32))] := (by have zA := A13; rw [show nar .byte (116 : Int32) = (116 : Int32) from by decide] at zA; exact zA)
  have N14 := Fr.snoc X13 N8 lkx2
  have K15 := K9.wr W13 (Or.inl (List.mem_of_getElem? (i := 0) rfl))
  have A16 := Ary.other W13 A10 n12
  have Z18 : n0 ≤ h13.size := by rw [W13.size]; exact Z12
  refine gIinc X13 hx (1 : Int32) (hb hby d5_32) (q := 35) rfl (by decide) rfl (L' := #[.val (.ref kx1), .val (.int (3 : Int32)), .val (.ref kx2), .val (.int (2 : Int32)), .val (.int (6 : Int32)), .val (.int (2 : Int32)), .val (.int (116 : Int32))]) rfl ?_
  refine gIinc X13 hx (1 : Int32) (hb hby d5_35) (q := 38) rfl (by decide) rfl (L' := #[.val (.ref kx1), .val (.int (3 : Int32)), .val (.ref kx2), .val (.int (3 : Int32)), .val (.int (6 : Int32)), .val (.int (2 : Int32)), .val (.int (116 : Int32))]) rfl ?_
  refine gIinc X13 hx (1 : Int32) (hb hby d5_38) (q := 41) rfl (by decide) rfl (L' := #[.val (.ref kx1), .val (.int (3 : Int32)), .val (.ref kx2), .val (.int (3 : Int32)), .val (.int (6 : Int32)), .val (.int (3 : Int32)), .val (.int (116 : Int32))]) rfl ?_
  refine gGoto X13 hx (hb hby d5_41) (q := 3) (by decide) (by decide) ?_
  refine gIload X13 hx (hb hby d5_3) (q := 5) rfl rfl ?_
  refine gIload X13 hx (hb hby d5_5) (q := 7) rfl rfl ?_
  refine gIcmpN X13 hx (hb hby d5_7) (q := 10) rfl (XT.ii_ge_f (by decide)) ?_
  refine gAloadN X13 hx (hb hby d5_10) (q := 11) rfl rfl rfl ?_
  refine gIloadN X13 hx (hb hby d5_11) (q := 12) rfl rfl ?_
  refine gCaload X13 hx hZ e13 A16 (hb hby d5_12) (q := 13) rfl (show ¬ (((3 : Int32) : Int32) < 0 ∨ 6 ≤ ((3 : Int32) : Int32).toNatClampNeg) by decide) (v := .int (116 : Int32)) rfl ?_
  refine gIstore X13 hx (hb hby d5_13) (q := 15) rfl (L' := #[.val (.ref kx1), .val (.int (3 : Int32)), .val (.ref kx2), .val (.int (3 : Int32)), .val (.int (6 : Int32)), .val (.int (3 : Int32)), .val (.int (116 : Int32))]) rfl ?_
  refine gIload X13 hx (hb hby d5_15) (q := 17) rfl rfl ?_
  refine gSipush X13 hx (255 : Int32) (hb hby d5_17) (q := 20) rfl (by decide) ?_
  refine gIcmpY X13 hx (hb hby d5_20) (q := 26) (by decide) (by decide) (XT.ii_le_t (by decide)) ?_
  refine gAloadN X13 hx (hb hby d5_26) (q := 27) rfl rfl rfl ?_
  refine gIloadN X13 hx (hb hby d5_27) (q := 28) rfl rfl ?_
  refine gIload X13 hx (hb hby d5_28) (q := 30) rfl rfl ?_
  refine gI2b X13 hx (hb hby d5_30) (q := 31) rfl ?_
  rw [show ((116 : Int32).toInt8.toInt32) = (116 : Int32) from by decide]
  refine gBastore X13 hx hZ e13 B13 (hb hby d5_31) (q := 32) rfl (show ¬ (((3 : Int32) : Int32) < 0 ∨ 6 ≤ ((3 : Int32) : Int32).toNatClampNeg) by decide) (fun T19 h19 X19 e19 W19 A19 => ?_)
  have B19 : Ary Z h19 kx2 kd (.byte) [(.int (108 : Int32)), (.int (105 : Int32)), (.int (116 : Int32)), (.int (116 : Int32)), (.int (0 : Int32)), (.int (0 : Int32))] := (by have zA := A19; rw [show nar .byte (116 : Int32) = (116 : Int32) from by decide] at zA; exact zA)
  have N20 := Fr.snoc X19 N14 lkx2
  have K21 := K15.wr W19 (Or.inl (List.mem_of_getElem? (i := 0) rfl))
  have A22 := Ary.other W19 A16 n12
  have Z24 : n0 ≤ h19.size := by rw [W19.size]; exact Z18
  refine gIinc X19 hx (1 : Int32) (hb hby d5_32) (q := 35) rfl (by decide) rfl (L' := #[.val (.ref kx1), .val (.int (4 : Int32)), .val (.ref kx2), .val (.int (3 : Int32)), .val (.int (6 : Int32)), .val (.int (3 : Int32)), .val (.int (116 : Int32))]) rfl ?_
  refine gIinc X19 hx (1 : Int32) (hb hby d5_35) (q := 38) rfl (by decide) rfl (L' := #[.val (.ref kx1), .val (.int (4 : Int32)), .val (.ref kx2), .val (.int (4 : Int32)), .val (.int (6 : Int32)), .val (.int (3 : Int32)), .val (.int (116 : Int32))]) rfl ?_
  refine gIinc X19 hx (1 : Int32) (hb hby d5_38) (q := 41) rfl (by decide) rfl (L' := #[.val (.ref kx1), .val (.int (4 : Int32)), .val (.ref kx2), .val (.int (4 : Int32)), .val (.int (6 : Int32)), .val (.int (4 : Int32)), .val (.int (116 : Int32))]) rfl ?_
  refine gGoto X19 hx (hb hby d5_41) (q := 3) (by decide) (by decide) ?_
  refine gIload X19 hx (hb hby d5_3) (q := 5) rfl rfl ?_
  refine gIload X19 hx (hb hby d5_5) (q := 7) rfl rfl ?_
  refine gIcmpN X19 hx (hb hby d5_7) (q := 10) rfl (XT.ii_ge_f (by decide)) ?_
  refine gAloadN X19 hx (hb hby d5_10) (q := 11) rfl rfl rfl ?_
  refine gIloadN X19 hx (hb hby d5_11) (q := 12) rfl rfl ?_
  refine gCaload X19 hx hZ e19 A22 (hb hby d5_12) (q := 13) rfl (show ¬ (((4 : Int32) : Int32) < 0 ∨ 6 ≤ ((4 : Int32) : Int32).toNatClampNeg) by decide) (v := .int (108 : Int32)) rfl ?_
  refine gIstore X19 hx (hb hby d5_13) (q := 15) rfl (L' := #[.val (.ref kx1), .val (.int (4 : Int32)), .val (.ref kx2), .val (.int (4 : Int32)), .val (.int (6 : Int32)), .val (.int (4 : Int32)), .val (.int (108 : Int32))]) rfl ?_
  refine gIload X19 hx (hb hby d5_15) (q := 17) rfl rfl ?_
  refine gSipush X19 hx (255 : Int32) (hb hby d5_17) (q := 20) rfl (by decide) ?_
  refine gIcmpY X19 hx (hb hby d5_20) (q := 26) (by decide) (by decide) (XT.ii_le_t (by decide)) ?_
  refine gAloadN X19 hx (hb hby d5_26) (q := 27) rfl rfl rfl ?_
  refine gIloadN X19 hx (hb hby d5_27) (q := 28) rfl rfl ?_
  refine gIload X19 hx (hb hby d5_28) (q := 30) rfl rfl ?_
  refine gI2b X19 hx (hb hby d5_30) (q := 31) rfl ?_
  rw [show ((108 : Int32).toInt8.toInt32) = (108 : Int32) from by decide]
  refine gBastore X19 hx hZ e19 B19 (hb hby d5_31) (q := 32) rfl (show ¬ (((4 : Int32) : Int32) < 0 ∨ 6 ≤ ((4 : Int32) : Int32).toNatClampNeg) by decide) (fun T25 h25 X25 e25 W25 A25 => ?_)
  have B25 : Ary Z h25 kx2 kd (.byte) [(.int (108 : Int32)), (.int (105 : Int32)), (.int (116 : Int32)), (.int (116 : Int32)), (.int (108 : Int32)), (.int (0 : Int32))] := (by have zA := A25; rw [show nar .byte (108 : Int32) = (108 : Int32) from by decide] at zA; exact zA)
  have N26 := Fr.snoc X25 N20 lkx2
  have K27 := K21.wr W25 (Or.inl (List.mem_of_getElem? (i := 0) rfl))
  have A28 := Ary.other W25 A22 n12
  have Z30 : n0 ≤ h25.size := by rw [W25.size]; exact Z24
  refine gIinc X25 hx (1 : Int32) (hb hby d5_32) (q := 35) rfl (by decide) rfl (L' := #[.val (.ref kx1), .val (.int (5 : Int32)), .val (.ref kx2), .val (.int (4 : Int32)), .val (.int (6 : Int32)), .val (.int (4 : Int32)), .val (.int (108 : Int32))]) rfl ?_
  refine gIinc X25 hx (1 : Int32) (hb hby d5_35) (q := 38) rfl (by decide) rfl (L' := #[.val (.ref kx1), .val (.int (5 : Int32)), .val (.ref kx2), .val (.int (5 : Int32)), .val (.int (6 : Int32)), .val (.int (4 : Int32)), .val (.int (108 : Int32))]) rfl ?_
  refine gIinc X25 hx (1 : Int32) (hb hby d5_38) (q := 41) rfl (by decide) rfl (L' := #[.val (.ref kx1), .val (.int (5 : Int32)), .val (.ref kx2), .val (.int (5 : Int32)), .val (.int (6 : Int32)), .val (.int (5 : Int32)), .val (.int (108 : Int32))]) rfl ?_
  refine gGoto X25 hx (hb hby d5_41) (q := 3) (by decide) (by decide) ?_
  refine gIload X25 hx (hb hby d5_3) (q := 5) rfl rfl ?_
  refine gIload X25 hx (hb hby d5_5) (q := 7) rfl rfl ?_
  refine gIcmpN X25 hx (hb hby d5_7) (q := 10) rfl (XT.ii_ge_f (by decide)) ?_
  refine gAloadN X25 hx (hb hby d5_10) (q := 11) rfl rfl rfl ?_
  refine gIloadN X25 hx (hb hby d5_11) (q := 12) rfl rfl ?_
  refine gCaload X25 hx hZ e25 A28 (hb hby d5_12) (q := 13) rfl (show ¬ (((5 : Int32) : Int32) < 0 ∨ 6 ≤ ((5 : Int32) : Int32).toNatClampNeg) by decide) (v := .int (101 : Int32)) rfl ?_
  refine gIstore X25 hx (hb hby d5_13) (q := 15) rfl (L' := #[.val (.ref kx1), .val (.int (5 : Int32)), .val (.ref kx2), .val (.int (5 : Int32)), .val (.int (6 : Int32)), .val (.int (5 : Int32)), .val (.int (101 : Int32))]) rfl ?_
  refine gIload X25 hx (hb hby d5_15) (q := 17) rfl rfl ?_
  refine gSipush X25 hx (255 : Int32) (hb hby d5_17) (q := 20) rfl (by decide) ?_
  refine gIcmpY X25 hx (hb hby d5_20) (q := 26) (by decide) (by decide) (XT.ii_le_t (by decide)) ?_
  refine gAloadN X25 hx (hb hby d5_26) (q := 27) rfl rfl rfl ?_
  refine gIloadN X25 hx (hb hby d5_27) (q := 28) rfl rfl ?_
  refine gIload X25 hx (hb hby d5_28) (q := 30) rfl rfl ?_
  refine gI2b X25 hx (hb hby d5_30) (q := 31) rfl ?_
  rw [show ((101 : Int32).toInt8.toInt32) = (101 : Int32) from by decide]
  refine gBastore X25 hx hZ e25 B25 (hb hby d5_31) (q := 32) rfl (show ¬ (((5 : Int32) : Int32) < 0 ∨ 6 ≤ ((5 : Int32) : Int32).toNatClampNeg) by decide) (fun T31 h31 X31 e31 W31 A31 => ?_)
  have B31 : Ary Z h31 kx2 kd (.byte) [(.int (108 : Int32)), (.int (105 : Int32)), (.int (116 : Int32)), (.int (116 : Int32)), (.int (108 : Int32)), (.int (101 : Int32))] := (by have zA := A31; rw [show nar .byte (101 : Int32) = (101 : Int32) from by decide] at zA; exact zA)
  have N32 := Fr.snoc X31 N26 lkx2
  have K33 := K27.wr W31 (Or.inl (List.mem_of_getElem? (i := 0) rfl))
  have A34 := Ary.other W31 A28 n12
  have Z36 : n0 ≤ h31.size := by rw [W31.size]; exact Z30
  refine gIinc X31 hx (1 : Int32) (hb hby d5_32) (q := 35) rfl (by decide) rfl (L' := #[.val (.ref kx1), .val (.int (6 : Int32)), .val (.ref kx2), .val (.int (5 : Int32)), .val (.int (6 : Int32)), .val (.int (5 : Int32)), .val (.int (101 : Int32))]) rfl ?_
  refine gIinc X31 hx (1 : Int32) (hb hby d5_35) (q := 38) rfl (by decide) rfl (L' := #[.val (.ref kx1), .val (.int (6 : Int32)), .val (.ref kx2), .val (.int (6 : Int32)), .val (.int (6 : Int32)), .val (.int (5 : Int32)), .val (.int (101 : Int32))]) rfl ?_
  refine gIinc X31 hx (1 : Int32) (hb hby d5_38) (q := 41) rfl (by decide) rfl (L' := #[.val (.ref kx1), .val (.int (6 : Int32)), .val (.ref kx2), .val (.int (6 : Int32)), .val (.int (6 : Int32)), .val (.int (6 : Int32)), .val (.int (101 : Int32))]) rfl ?_
  refine gGoto X31 hx (hb hby d5_41) (q := 3) (by decide) (by decide) ?_
  refine gIload X31 hx (hb hby d5_3) (q := 5) rfl rfl ?_
  refine gIload X31 hx (hb hby d5_5) (q := 7) rfl rfl ?_
  refine gIcmpY X31 hx (hb hby d5_7) (q := 44) (by decide) (by decide) (XT.ii_ge_t (by decide)) ?_
  refine gIload X31 hx (hb hby d5_44) (q := 46) rfl rfl ?_
  exact gRetI X31 hx hlk hret (hb hby d5_46) (by decide) (by decide) (by rw [e31]; exact ⟨rfl, N32, K33, B31⟩)
theorem ef6 (m : MethodId) (x0 : Addr) (x1 : Int32) (x2 : Int32) : entryFrame m #[(.ref x0), (.int x1), (.int x2)] 6 = mkF m 0 #[.val (.ref x0), .val (.int x1), .val (.int x2), .unset, .unset, .unset] [] := by first | (simp [entryFrame, mkF, argsToLocals, Value.category]; done) | rfl
def Q_rmC1L (Z : State) (kx1 : Addr) (kc : ClassId) (h0 : Heap) (n0 : Nat) (v : Option Value) (h : Heap) (L : List Loc) : Prop := ∃ r kd, v = some (.ref r) ∧ Fr n0 L ∧ Keep h0 h [] ∧ Ary Z h r kd .byte [(.int (108 : Int32)), (.int (105 : Int32)), (.int (116 : Int32)), (.int (116 : Int32)), (.int (108 : Int32)), (.int (101 : Int32))] ∧ h0.size ≤ r
set_option maxRecDepth 65536 in
set_option maxHeartbeats 40000000 in
theorem rmC1L (l : Launch) (Z : State) (a0 : Array Value) (hw : ∀ d ∈ tables_1, d.before a0 Z = true) (ws : List Jvm.Cond) (kx1 : Addr) (kc : ClassId) (h0 : Heap) (n0 : Nat) (Z0 : n0 ≤ h0.size) (pA1 : Ary Z h0 kx1 kc .char [(.int (108 : Int32)), (.int (105 : Int32)), (.int (116 : Int32)), (.int (116 : Int32)), (.int (108 : Int32)), (.int (101 : Int32))])  :
    Con l Z (⟨"java/lang/StringUTF16", "compress", "([CII)[B"⟩ : MethodName) jdk_52_method_16_code 6 (some (.array (.byte))) ws ({ frames := 1, cells := 1, slots := 6, locals := 18 } : Room) #[(.ref kx1), (.int (0 : Int32)), (.int (6 : Int32))] h0 (({ frames := 1, cells := 1, slots := 6, locals := 18 } : Room).cells) (({ frames := 1, cells := 1, slots := 6, locals := 18 } : Room).slots) (Q_rmC1L Z kx1 kc h0 n0) := by
  refine Con.of (plainFor_of_name pn0) ?_
  intro p e s m below meth c s₁ hx hby hml hown hnm hret hlk hZ X0 e0
  have N0 := Fr.nil n0
  refine goE (L := #[.val (.ref kx1), .val (.int (0 : Int32)), .val (.int (6 : Int32)), .unset, .unset, .unset]) (ef6 m kx1 (0 : Int32) (6 : Int32)) ?_
  refine gIloadN X0 hx (hb hby d4_0) (q := 1) rfl rfl ?_
  refine gNewP X0 hx hZ (hw _ (List.mem_of_getElem? (i := 19) rfl)) e0 (hb hby d4_1) (q := 3) rfl (by decide) (cap := 6) (by decide) (by decide) (by decide) (by decide) (fun T1 h1 a1 k1 X1 e1 g1 E1 A1 => ?_)
  have A2 := Ary.ext E1 pA1
  have ge_a1 : h0.size ≤ a1 := by rw [g1]; exact (Keep.refl h0 []).1
  have K3 := (Keep.refl h0 []).ext E1
  have le_a1 : n0 ≤ a1 := by rw [g1]; exact Z0
  have ne_kx1_a1 : kx1 ≠ a1 := by rw [g1]; exact Nat.ne_of_lt pA1.lt
  have Z4 := Nat.le_trans Z0 E1.1
  have B1 : Ary Z h1 a1 k1 (.byte) [(.int (0 : Int32)), (.int (0 : Int32)), (.int (0 : Int32)), (.int (0 : Int32)), (.int (0 : Int32)), (.int (0 : Int32))] := A1
  refine gAstoreN X1 hx (hb hby d4_3) (q := 4) rfl rfl (L' := #[.val (.ref kx1), .val (.int (0 : Int32)), .val (.int (6 : Int32)), .val (.ref a1), .unset, .unset]) rfl ?_
  refine gAloadN X1 hx (hb hby d4_4) (q := 5) rfl rfl rfl ?_
  refine gIloadN X1 hx (hb hby d4_5) (q := 6) rfl rfl ?_
  refine gAloadN X1 hx (hb hby d4_6) (q := 7) rfl rfl rfl ?_
  refine gIconst X1 hx (0 : Int32) (hb hby d4_7) (q := 8) rfl (by decide) ?_
  refine gIloadN X1 hx (hb hby d4_8) (q := 9) rfl rfl ?_
  refine gCallS X1 hx hZ hown (hw _ (List.mem_of_getElem? (i := 20) rfl)) (hw _ (List.mem_of_getElem? (i := 21) rfl)) (hw _ (List.mem_of_getElem? (i := 17) rfl)) (hw _ (List.mem_of_getElem? (i := 22) rfl)) (by decide) (rmC2L l Z a0 hw [] kx1 a1 kc k1  h1 n0 Z4 A2 B1 ne_kx1_a1 le_a1 ) (W := 0) (by decide) (by decide) e1 (by rw [hml]; rfl) [(.ref kx1), (.int (0 : Int32)), (.ref a1), (.int (0 : Int32)), (.int (6 : Int32))] (lenOf pd0 rfl) rfl (S := []) rfl (Nat.le_of_eq rfl) (hb hby d4_9) (q := 12) rfl (by decide) (by decide) (fun r5 T5 M5 X5 q5 => ?_)
  obtain ⟨rfl, M5n, K5, P5a⟩ := q5
  have N6 := Fr.app N0 M5n
  have A7 := Ary.keep A2 K5 (ninS ne_kx1_a1 nin0)
  have Z8 := Nat.le_trans Z4 K5.1
  have KK9 := K3.trans K5 (allS (Or.inr ge_a1) all0)
  dsimp only [Option.toList, List.cons_append, List.nil_append]
  refine gIstore X5 hx (hb hby d4_12) (q := 14) rfl (L' := #[.val (.ref kx1), .val (.int (0 : Int32)), .val (.int (6 : Int32)), .val (.ref a1), .val (.int (6 : Int32)), .unset]) rfl ?_
  refine gIload X5 hx (hb hby d4_14) (q := 16) rfl rfl ?_
  refine gIloadN X5 hx (hb hby d4_16) (q := 17) rfl rfl ?_
  refine gIcmpY X5 hx (hb hby d4_17) (q := 57) (by decide) (by decide) (XT.ii_eq_t (by decide)) ?_
  refine gAloadN X5 hx (hb hby d4_57) (q := 58) rfl rfl rfl ?_
  exact gRetA X5 hx hlk hret rfl rfl (hb hby d4_58) (by decide) (by decide) (by exact ⟨_, _, rfl, N6, KK9, P5a, ge_a1⟩)
theorem ef7 (m : MethodId) (x0 : Addr) (x1 : Int32) : entryFrame m #[(.ref x0), (.int x1)] 2 = mkF m 0 #[.val (.ref x0), .val (.int x1)] [] := by first | (simp [entryFrame, mkF, argsToLocals, Value.category]; done) | rfl
def Q_rmCdL (Z : State) (kx1 : Addr) (kd : ClassId) (h0 : Heap) (n0 : Nat) (v : Option Value) (h : Heap) (L : List Loc) : Prop := v = some (.int (0 : Int32)) ∧ Fr n0 L ∧ h = h0
set_option maxRecDepth 65536 in
set_option maxHeartbeats 40000000 in
theorem rmCdL (l : Launch) (Z : State) (a0 : Array Value) (hw : ∀ d ∈ tables_1, d.before a0 Z = true) (ws : List Jvm.Cond) (kx1 : Addr) (kd : ClassId) (h0 : Heap) (n0 : Nat) (Z0 : n0 ≤ h0.size) (pA1 : Ary Z h0 kx1 kd .byte [(.int (108 : Int32)), (.int (105 : Int32)), (.int (116 : Int32)), (.int (116 : Int32)), (.int (108 : Int32)), (.int (101 : Int32))]) :
    Con l Z (⟨"java/lang/StringUTF16", "coderFromArrayLen", "([BI)B"⟩ : MethodName) jdk_52_method_15_code 2 (some (.byte)) ws ({ frames := 0, cells := 0, slots := 0, locals := 0 } : Room) #[(.ref kx1), (.int (6 : Int32))] h0 (({ frames := 0, cells := 0, slots := 0, locals := 0 } : Room).cells) (({ frames := 0, cells := 0, slots := 0, locals := 0 } : Room).slots) (Q_rmCdL Z kx1 kd h0 n0) := by
  refine Con.of (plainFor_of_name pn0) ?_
  intro p e s m below meth c s₁ hx hby hml hown hnm hret hlk hZ X0 e0
  have N0 := Fr.nil n0
  refine goE (L := #[.val (.ref kx1), .val (.int (6 : Int32))]) (ef7 m kx1 (6 : Int32)) ?_
  refine gIloadN X0 hx (hb hby d6_0) (q := 1) rfl rfl ?_
  refine gAloadN X0 hx (hb hby d6_1) (q := 2) rfl rfl rfl ?_
  refine gLen X0 hx hZ e0 pA1 (n := (6 : Int32)) rfl (hb hby d6_2) (q := 3) rfl ?_
  refine gIsub X0 hx (hb hby d6_3) (q := 4) rfl ?_
  rw [show ((6 : Int32) - (6 : Int32)) = (0 : Int32) from by decide]
  refine gBipush X0 hx (31 : Int32) (hb hby d6_4) (q := 6) rfl (by decide) ?_
  refine gIushr X0 hx (hb hby d6_6) (q := 7) rfl ?_
  rw [show (XT.ushr (0 : Int32) (31 : Int32)) = (0 : Int32) from by decide]
  refine gI2b X0 hx (hb hby d6_7) (q := 8) rfl ?_
  rw [show ((0 : Int32).toInt8.toInt32) = (0 : Int32) from by decide]
  exact gRetB X0 hx hlk hret (hb hby d6_8) (by decide) (by decide) rfl ⟨rfl, N0, e0⟩
theorem ef8 (m : MethodId) (x0 : Addr) (x1 : Addr) (x2 : Int32) (x3 : Int32) : entryFrame m #[(.ref x0), (.ref x1), (.int x2), (.int x3), (.null)] 6 = mkF m 0 #[.val (.ref x0), .val (.ref x1), .val (.int x2), .val (.int x3), .val (.null), .unset] [] := by first | (simp [entryFrame, mkF, argsToLocals, Value.category]; done) | rfl
def Q_rmI4L (Z : State) (a : Addr) (kx1 : Addr) (kc : ClassId) (ic : Int32) (h0 : Heap) (n0 : Nat) (v : Option Value) (h : Heap) (L : List Loc) : Prop := v = none ∧ Fr n0 L ∧ Keep h0 h [a] ∧ Exa Z h a "java/lang/String" ∧ Fld Z h a "java/lang/String" "coder" "B" (.int (0 : Int32)) ∧ ∃ rb kb, Fld Z h a "java/lang/String" "value" "[B" (.ref rb) ∧ Ary Z h rb kb .byte [(.int (108 : Int32)), (.int (105 : Int32)), (.int (116 : Int32)), (.int (116 : Int32)), (.int (108 : Int32)), (.int (101 : Int32))] ∧ h0.size ≤ rb
set_option maxRecDepth 65536 in
set_option maxHeartbeats 40000000 in
theorem rmI4L (l : Launch) (Z : State) (a0 : Array Value) (hw : ∀ d ∈ tables_1, d.before a0 Z = true) (ws : List Jvm.Cond) (a : Addr) (kx1 : Addr) (kc : ClassId) (ic : Int32) (h0 : Heap) (n0 : Nat) (Z0 : n0 ≤ h0.size) (pF1 : Fld Z h0 a "java/lang/String" "value" "[B" .null) (pF2 : Fld Z h0 a "java/lang/String" "coder" "B" (.int (0 : Int32))) (EXa : Exa Z h0 a "java/lang/String") (la : n0 ≤ a) (pA1 : Ary Z h0 kx1 kc .char [(.int (108 : Int32)), (.int (105 : Int32)), (.int (116 : Int32)), (.int (116 : Int32)), (.int (108 : Int32)), (.int (101 : Int32))]) (n1a : kx1 ≠ a) (SCs : Sta Z Z.heap "java/lang/String" "COMPACT_STRINGS" "Z" (.int ic)) (hic : ¬ ic = (0 : Int32)) (O0 : Old Z n0 h0)  :
    Con l Z (⟨"java/lang/String", "<init>", "([CIILjava/lang/Void;)V"⟩ : MethodName) jdk_42_method_149_code 6 none ws ({ frames := 2, cells := 1, slots := 6, locals := 36 } : Room) #[(.ref a), (.ref kx1), (.int (0 : Int32)), (.int (6 : Int32)), (.null)] h0 (({ frames := 2, cells := 1, slots := 6, locals := 36 } : Room).cells) (({ frames := 2, cells := 1, slots := 6, locals := 36 } : Room).slots) (Q_rmI4L Z a kx1 kc ic h0 n0) := by
  refine Con.of (plainFor_of_name pn1) ?_
  intro p e s m below meth c s₁ hx hby hml hown hnm hret hlk hZ X0 e0
  have N0 := Fr.nil n0
  refine goE (L := #[.val (.ref a), .val (.ref kx1), .val (.int (0 : Int32)), .val (.int (6 : Int32)), .val (.null), .unset]) (ef8 m a kx1 (0 : Int32) (6 : Int32)) ?_
  refine gAloadN X0 hx (hb hby d2_0) (q := 1) rfl rfl rfl ?_
  refine gInitO X0 hx hZ hown (hw _ (List.mem_of_getElem? (i := 11) rfl)) (hw _ (List.mem_of_getElem? (i := 12) rfl)) (hw _ (List.mem_of_getElem? (i := 13) rfl)) e0 (by rw [hml]; rfl) (hb hby d2_1) (q := 4) rfl (by decide) (W := 0) (Nat.le_of_eq rfl) (by decide) (fun T1 X1 e1 => ?_)
  refine gIloadN X1 hx (hb hby d2_4) (q := 5) rfl rfl ?_
  refine gIfY X1 hx (hb hby d2_5) (q := 27) (by decide) (by decide) (XT.i0_ne_t (by decide)) ?_
  refine gGetS X1 hx hZ hown (hw _ (List.mem_of_getElem? (i := 14) rfl)) Via.refl e1 (Sta.ext O0.2 SCs) (hb hby d2_27) (q := 30) rfl (fun T2 X2 e2 => ?_)
  refine gIfN X2 hx (hb hby d2_30) (q := 33) rfl (XT.i0_eq_f hic) ?_
  refine gAloadN X2 hx (hb hby d2_33) (q := 34) rfl rfl rfl ?_
  refine gIloadN X2 hx (hb hby d2_34) (q := 35) rfl rfl ?_
  refine gIloadN X2 hx (hb hby d2_35) (q := 36) rfl rfl ?_
  refine gCallS X2 hx hZ hown (hw _ (List.mem_of_getElem? (i := 15) rfl)) (hw _ (List.mem_of_getElem? (i := 16) rfl)) (hw _ (List.mem_of_getElem? (i := 17) rfl)) (hw _ (List.mem_of_getElem? (i := 18) rfl)) (by decide) (rmC1L l Z a0 hw [] kx1 kc  h0 n0 Z0 pA1 ) (W := 0) (by decide) (by decide) e2 (by rw [hml]; rfl) [(.ref kx1), (.int (0 : Int32)), (.int (6 : Int32))] (lenOf pd1 rfl) rfl (S := []) rfl (Nat.le_of_eq rfl) (hb hby d2_36) (q := 39) rfl (by decide) (by decide) (fun r3 T3 M3 X3 q3 => ?_)
  obtain ⟨rb, kb, rfl, M3n, K3, Arb, grb⟩ := q3
  have N4 := Fr.app N0 M3n
  have lrb : n0 ≤ rb := Nat.le_trans Z0 grb
  have ne_a_rb : a ≠ rb := Nat.ne_of_lt (Nat.lt_of_lt_of_le EXa.lt grb)
  have ne_kx1_rb : kx1 ≠ rb := Nat.ne_of_lt (Nat.lt_of_lt_of_le pA1.lt grb)
  have g0rb : h0.size ≤ rb := Nat.le_trans (Keep.refl h0 [a]).1 grb
  have F5 := Fld.keep pF1 K3 nin0
  have F6 := Fld.keep pF2 K3 nin0
  have E7 := Exa.keep EXa K3
  have A8 := Ary.keep pA1 K3 nin0
  have O9 := O0.keep K3 all0
  have Z10 := Nat.le_trans Z0 K3.1
  have KK11 := (Keep.refl h0 [a]).trans K3 all0
  dsimp only [Option.toList, List.cons_append, List.nil_append]
  refine gAstore X3 hx (hb hby d2_39) (q := 41) rfl rfl (L' := #[.val (.ref a), .val (.ref kx1), .val (.int (0 : Int32)), .val (.int (6 : Int32)), .val (.null), .val (.ref rb)]) rfl ?_
  refine gAloadN X3 hx (hb hby d2_41) (q := 42) rfl rfl rfl ?_
  refine gAload X3 hx (hb hby d2_42) (q := 44) rfl rfl rfl ?_
  refine gIloadN X3 hx (hb hby d2_44) (q := 45) rfl rfl ?_
  refine gCallS X3 hx hZ hown (hw _ (List.mem_of_getElem? (i := 23) rfl)) (hw _ (List.mem_of_getElem? (i := 24) rfl)) (hw _ (List.mem_of_getElem? (i := 17) rfl)) (hw _ (List.mem_of_getElem? (i := 25) rfl)) (by decide) (rmCdL l Z a0 hw [] rb kb  T3.heap n0 Z10 Arb) (W := 1) (by decide) (by decide) rfl (by rw [hml]; rfl) [(.ref rb), (.int (6 : Int32))] (lenOf pd2 rfl) rfl (S := [(.ref a)]) rfl (Nat.le_of_eq rfl) (hb hby d2_45) (q := 48) rfl (by decide) (by decide) (fun r12 T12 M12 X12 q12 => ?_)
  obtain ⟨rfl, M12n, e12⟩ := q12
  have N13 := Fr.app N4 M12n
  dsimp only [Option.toList, List.cons_append, List.nil_append]
  refine gPutF X12 hx hZ (host := "") hown (Or.inl (hw _ (List.mem_of_getElem? (i := 26) rfl))) Via.refl e12 F6 E7 (Or.inr ⟨(hw _ (List.mem_of_getElem? (i := 27) rfl)), rfl, hnm⟩) (hw _ (List.mem_of_getElem? (i := 2) rfl)) (ty := .byte) (by decide) rfl rfl (hb hby d2_48) (q := 51) rfl (fun T14 h14 X14 e14 W14 => ?_)
  have N15 := Fr.snoc X14 N13 la
  have K16 := KK11.wr W14 (Or.inl (List.mem_of_getElem? (i := 0) rfl))
  have F17 := Fld.other W14 F5 (Or.inr (slot_ne (Or.inr (hw _ (List.mem_of_getElem? (i := 29) rfl))) (Or.inr (hw _ (List.mem_of_getElem? (i := 27) rfl))) (by decide) (t := .array (.byte)) (by decide) (t' := .byte) (by decide)))
  have F18 := Fld.same W14 F6
  have E19 := Exa.wr W14 E7
  have A20 := Ary.other W14 A8 n1a
  have A21 := Ary.other W14 Arb ne_a_rb.symm
  have O22 := O9.wr W14 la
  have Z23 : n0 ≤ h14.size := by rw [W14.size]; exact Z10
  refine gAloadN X14 hx (hb hby d2_51) (q := 52) rfl rfl rfl ?_
  refine gAload X14 hx (hb hby d2_52) (q := 54) rfl rfl rfl ?_
  refine gPutF X14 hx hZ (host := "") hown (Or.inl (hw _ (List.mem_of_getElem? (i := 28) rfl))) Via.refl e14 F17 E19 (Or.inr ⟨(hw _ (List.mem_of_getElem? (i := 29) rfl)), rfl, hnm⟩) (hw _ (List.mem_of_getElem? (i := 2) rfl)) (ty := .array (.byte)) (by decide) rfl rfl (hb hby d2_54) (q := 57) rfl (fun T24 h24 X24 e24 W24 => ?_)
  have N25 := Fr.snoc X24 N15 la
  have K26 := K16.wr W24 (Or.inl (List.mem_of_getElem? (i := 0) rfl))
  have F27 := Fld.same W24 F17
  have F28 := Fld.other W24 F18 (Or.inr (slot_ne (Or.inr (hw _ (List.mem_of_getElem? (i := 27) rfl))) (Or.inr (hw _ (List.mem_of_getElem? (i := 29) rfl))) (by decide) (t := .byte) (by decide) (t' := .array (.byte)) (by decide)))
  have E29 := Exa.wr W24 E19
  have A30 := Ary.other W24 A20 n1a
  have A31 := Ary.other W24 A21 ne_a_rb.symm
  have O32 := O22.wr W24 la
  have Z33 : n0 ≤ h24.size := by rw [W24.size]; exact Z23
  exact gRetV X24 hx hlk hret (hb hby d2_57) (by decide) (by decide) (by rw [e24]; exact ⟨rfl, N25, K26, E29, F28, _, _, F27, A31, g0rb⟩)
theorem ef9 (m : MethodId) (x0 : Addr) (x1 : Addr) : entryFrame m #[(.ref x0), (.ref x1)] 2 = mkF m 0 #[.val (.ref x0), .val (.ref x1)] [] := by first | (simp [entryFrame, mkF, argsToLocals, Value.category]; done) | rfl
def Q_rmI1L (Z : State) (a : Addr) (kx1 : Addr) (kc : ClassId) (ic : Int32) (h0 : Heap) (n0 : Nat) (v : Option Value) (h : Heap) (L : List Loc) : Prop := v = none ∧ Fr n0 L ∧ Keep h0 h [a] ∧ Exa Z h a "java/lang/String" ∧ Fld Z h a "java/lang/String" "coder" "B" (.int (0 : Int32)) ∧ ∃ rb kb, Fld Z h a "java/lang/String" "value" "[B" (.ref rb) ∧ Ary Z h rb kb .byte [(.int (108 : Int32)), (.int (105 : Int32)), (.int (116 : Int32)), (.int (116 : Int32)), (.int (108 : Int32)), (.int (101 : Int32))] ∧ h0.size ≤ rb
set_option maxRecDepth 65536 in
set_option maxHeartbeats 40000000 in
theorem rmI1L (l : Launch) (Z : State) (a0 : Array Value) (hw : ∀ d ∈ tables_1, d.before a0 Z = true) (ws : List Jvm.Cond) (a : Addr) (kx1 : Addr) (kc : ClassId) (ic : Int32) (h0 : Heap) (n0 : Nat) (Z0 : n0 ≤ h0.size) (pF1 : Fld Z h0 a "java/lang/String" "value" "[B" .null) (pF2 : Fld Z h0 a "java/lang/String" "coder" "B" (.int (0 : Int32))) (EXa : Exa Z h0 a "java/lang/String") (la : n0 ≤ a) (pA1 : Ary Z h0 kx1 kc .char [(.int (108 : Int32)), (.int (105 : Int32)), (.int (116 : Int32)), (.int (116 : Int32)), (.int (108 : Int32)), (.int (101 : Int32))]) (n1a : kx1 ≠ a) (SCs : Sta Z Z.heap "java/lang/String" "COMPACT_STRINGS" "Z" (.int ic)) (hic : ¬ ic = (0 : Int32)) (O0 : Old Z n0 h0)  :
    Con l Z (⟨"java/lang/String", "<init>", "([C)V"⟩ : MethodName) jdk_42_method_3_code 2 none ws ({ frames := 3, cells := 1, slots := 6, locals := 53 } : Room) #[(.ref a), (.ref kx1)] h0 (({ frames := 3, cells := 1, slots := 6, locals := 53 } : Room).cells) (({ frames := 3, cells := 1, slots := 6, locals := 53 } : Room).slots) (Q_rmI1L Z a kx1 kc ic h0 n0) := by
  refine Con.of (plainFor_of_name pn1) ?_
  intro p e s m below meth c s₁ hx hby hml hown hnm hret hlk hZ X0 e0
  have N0 := Fr.nil n0
  refine goE (L := #[.val (.ref a), .val (.ref kx1)]) (ef9 m a kx1) ?_
  refine gAloadN X0 hx (hb hby d1_0) (q := 1) rfl rfl rfl ?_
  refine gAloadN X0 hx (hb hby d1_1) (q := 2) rfl rfl rfl ?_
  refine gIconst X0 hx (0 : Int32) (hb hby d1_2) (q := 3) rfl (by decide) ?_
  refine gAloadN X0 hx (hb hby d1_3) (q := 4) rfl rfl rfl ?_
  refine gLen X0 hx hZ e0 pA1 (n := (6 : Int32)) rfl (hb hby d1_4) (q := 5) rfl ?_
  refine gNull X0 hx (hb hby d1_5) (q := 6) rfl ?_
  refine gCallN X0 hx hZ rfl hown (hw _ (List.mem_of_getElem? (i := 7) rfl)) (hw _ (List.mem_of_getElem? (i := 8) rfl)) (hw _ (List.mem_of_getElem? (i := 3) rfl)) (hw _ (List.mem_of_getElem? (i := 10) rfl)) (by decide) (rmI4L l Z a0 hw [] a kx1 kc ic  h0 n0 Z0 pF1 pF2 EXa la pA1 n1a SCs hic O0 ) (W := 0) (by decide) (by decide) e0 (by rw [hml]; rfl) [(.ref kx1), (.int (0 : Int32)), (.int (6 : Int32)), (.null)] (lenOf pd3 rfl) rfl (S := []) rfl (Nat.le_of_eq rfl) (hb hby d1_6) (q := 9) rfl (by decide) (by decide) (fun r1 T1 M1 X1 q1 => ?_)
  obtain ⟨rfl, M1n, K1, P1e, P1c, rb, kb, P1v, P1a, grb⟩ := q1
  have N2 := Fr.app N0 M1n
  dsimp only [Option.toList, List.cons_append, List.nil_append]
  exact gRetV X1 hx hlk hret (hb hby d1_9) (by decide) (by decide) ⟨rfl, N2, K1, P1e, P1c, _, _, P1v, P1a, grb⟩
theorem d10_0 : decode jdk_43_method_13_code 0 = .ok (.aload_n 0, 1) := by decide +kernel
theorem d10_1 : decode jdk_43_method_13_code 1 = .ok (.arraylength, 1) := by decide +kernel
theorem d10_2 : decode jdk_43_method_13_code 2 = .ok (.aload_n 1, 1) := by decide +kernel
theorem d10_3 : decode jdk_43_method_13_code 3 = .ok (.arraylength, 1) := by decide +kernel
theorem d10_4 : decode jdk_43_method_13_code 4 = .ok (.if_icmp .ne 30, 3) := by decide +kernel
theorem d10_7 : decode jdk_43_method_13_code 7 = .ok (.iconst 0, 1) := by decide +kernel
theorem d10_8 : decode jdk_43_method_13_code 8 = .ok (.istore_n 2, 1) := by decide +kernel
theorem d10_9 : decode jdk_43_method_13_code 9 = .ok (.iload_n 2, 1) := by decide +kernel
theorem d10_10 : decode jdk_43_method_13_code 10 = .ok (.aload_n 0, 1) := by decide +kernel
theorem d10_11 : decode jdk_43_method_13_code 11 = .ok (.arraylength, 1) := by decide +kernel
theorem d10_12 : decode jdk_43_method_13_code 12 = .ok (.if_icmp .ge 20, 3) := by decide +kernel
theorem d10_15 : decode jdk_43_method_13_code 15 = .ok (.aload_n 0, 1) := by decide +kernel
theorem d10_16 : decode jdk_43_method_13_code 16 = .ok (.iload_n 2, 1) := by decide +kernel
theorem d10_17 : decode jdk_43_method_13_code 17 = .ok (.baload, 1) := by decide +kernel
theorem d10_18 : decode jdk_43_method_13_code 18 = .ok (.aload_n 1, 1) := by decide +kernel
theorem d10_19 : decode jdk_43_method_13_code 19 = .ok (.iload_n 2, 1) := by decide +kernel
theorem d10_20 : decode jdk_43_method_13_code 20 = .ok (.baload, 1) := by decide +kernel
theorem d10_21 : decode jdk_43_method_13_code 21 = .ok (.if_icmp .eq 5, 3) := by decide +kernel
theorem d10_24 : decode jdk_43_method_13_code 24 = .ok (.iconst 0, 1) := by decide +kernel
theorem d10_25 : decode jdk_43_method_13_code 25 = .ok (.ireturn, 1) := by decide +kernel
theorem d10_26 : decode jdk_43_method_13_code 26 = .ok (.iinc 2 1, 3) := by decide +kernel
theorem d10_29 : decode jdk_43_method_13_code 29 = .ok (.goto (-20), 3) := by decide +kernel
theorem d10_32 : decode jdk_43_method_13_code 32 = .ok (.iconst 1, 1) := by decide +kernel
theorem d10_33 : decode jdk_43_method_13_code 33 = .ok (.ireturn, 1) := by decide +kernel
theorem d10_34 : decode jdk_43_method_13_code 34 = .ok (.iconst 0, 1) := by decide +kernel
theorem d10_35 : decode jdk_43_method_13_code 35 = .ok (.ireturn, 1) := by decide +kernel
theorem pn2 : plainName "java/lang/StringLatin1" = true := by first | (simp [plainName, overriddenIn]; done) | decide +kernel
theorem ef10 (m : MethodId) (x0 : Addr) (x1 : Addr) : entryFrame m #[(.ref x0), (.ref x1)] 3 = mkF m 0 #[.val (.ref x0), .val (.ref x1), .unset] [] := by first | (simp [entryFrame, mkF, argsToLocals, Value.category]; done) | rfl
def Q_rmLeBB (Z : State) (kx1 : Addr) (kx2 : Addr) (kc : ClassId) (kd : ClassId) (h0 : Heap) (n0 : Nat) (v : Option Value) (h : Heap) (L : List Loc) : Prop := v = some (.int (1 : Int32)) ∧ Fr n0 L ∧ h = h0
set_option maxRecDepth 65536 in
set_option maxHeartbeats 40000000 in
theorem rmLeBB (l : Launch) (Z : State) (a0 : Array Value) (hw : ∀ d ∈ tables_1, d.before a0 Z = true) (ws : List Jvm.Cond) (kx1 : Addr) (kx2 : Addr) (kc : ClassId) (kd : ClassId) (h0 : Heap) (n0 : Nat) (Z0 : n0 ≤ h0.size) (pA1 : Ary Z h0 kx1 kc .byte [(.int (98 : Int32)), (.int (105 : Int32)), (.int (103 : Int32))]) (pA2 : Ary Z h0 kx2 kd .byte [(.int (98 : Int32)), (.int (105 : Int32)), (.int (103 : Int32))]) :
    Con l Z (⟨"java/lang/StringLatin1", "equals", "([B[B)Z"⟩ : MethodName) jdk_43_method_13_code 3 (some (.boolean)) ws ({ frames := 0, cells := 0, slots := 0, locals := 0 } : Room) #[(.ref kx1), (.ref kx2)] h0 (({ frames := 0, cells := 0, slots := 0, locals := 0 } : Room).cells) (({ frames := 0, cells := 0, slots := 0, locals := 0 } : Room).slots) (Q_rmLeBB Z kx1 kx2 kc kd h0 n0) := by
  refine Con.of (plainFor_of_name pn2) ?_
  intro p e s m below meth c s₁ hx hby hml hown hnm hret hlk hZ X0 e0
  have N0 := Fr.nil n0
  refine goE (L := #[.val (.ref kx1), .val (.ref kx2), .unset]) (ef10 m kx1 kx2) ?_
  refine gAloadN X0 hx (hb hby d10_0) (q := 1) rfl rfl rfl ?_
  refine gLen X0 hx hZ e0 pA1 (n := (3 : Int32)) rfl (hb hby d10_1) (q := 2) rfl ?_
  refine gAloadN X0 hx (hb hby d10_2) (q := 3) rfl rfl rfl ?_
  refine gLen X0 hx hZ e0 pA2 (n := (3 : Int32)) rfl (hb hby d10_3) (q := 4) rfl ?_
  refine gIcmpN X0 hx (hb hby d10_4) (q := 7) rfl (XT.ii_ne_f (by decide)) ?_
  refine gIconst X0 hx (0 : Int32) (hb hby d10_7) (q := 8) rfl (by decide) ?_
  refine gIstoreN X0 hx (hb hby d10_8) (q := 9) rfl (L' := #[.val (.ref kx1), .val (.ref kx2), .val (.int (0 : Int32))]) rfl ?_
  refine gIloadN X0 hx (hb hby d10_9) (q := 10) rfl rfl ?_
  refine gAloadN X0 hx (hb hby d10_10) (q := 11) rfl rfl rfl ?_
  refine gLen X0 hx hZ e0 pA1 (n := (3 : Int32)) rfl (hb hby d10_11) (q := 12) rfl ?_
  refine gIcmpN X0 hx (hb hby d10_12) (q := 15) rfl (XT.ii_ge_f (by decide)) ?_
  refine gAloadN X0 hx (hb hby d10_15) (q := 16) rfl rfl rfl ?_
  refine gIloadN X0 hx (hb hby d10_16) (q := 17) rfl rfl ?_
  refine gBaload X0 hx hZ e0 pA1 (hb hby d10_17) (q := 18) rfl (show ¬ (((0 : Int32) : Int32) < 0 ∨ 3 ≤ ((0 : Int32) : Int32).toNatClampNeg) by decide) (v := .int (98 : Int32)) rfl ?_
  refine gAloadN X0 hx (hb hby d10_18) (q := 19) rfl rfl rfl ?_
  refine gIloadN X0 hx (hb hby d10_19) (q := 20) rfl rfl ?_
  refine gBaload X0 hx hZ e0 pA2 (hb hby d10_20) (q := 21) rfl (show ¬ (((0 : Int32) : Int32) < 0 ∨ 3 ≤ ((0 : Int32) : Int32).toNatClampNeg) by decide) (v := .int (98 : Int32)) rfl ?_
  refine gIcmpY X0 hx (hb hby d10_21) (q := 26) (by decide) (by decide) (XT.ii_eq_t (by decide)) ?_
  refine gIinc X0 hx (1 : Int32) (hb hby d10_26) (q := 29) rfl (by decide) rfl (L' := #[.val (.ref kx1), .val (.ref kx2), .val (.int (1 : Int32))]) rfl ?_
  refine gGoto X0 hx (hb hby d10_29) (q := 9) (by decide) (by decide) ?_
  refine gIloadN X0 hx (hb hby d10_9) (q := 10) rfl rfl ?_
  refine gAloadN X0 hx (hb hby d10_10) (q := 11) rfl rfl rfl ?_
  refine gLen X0 hx hZ e0 pA1 (n := (3 : Int32)) rfl (hb hby d10_11) (q := 12) rfl ?_
  refine gIcmpN X0 hx (hb hby d10_12) (q := 15) rfl (XT.ii_ge_f (by decide)) ?_
  refine gAloadN X0 hx (hb hby d10_15) (q := 16) rfl rfl rfl ?_
  refine gIloadN X0 hx (hb hby d10_16) (q := 17) rfl rfl ?_
  refine gBaload X0 hx hZ e0 pA1 (hb hby d10_17) (q := 18) rfl (show ¬ (((1 : Int32) : Int32) < 0 ∨ 3 ≤ ((1 : Int32) : Int32).toNatClampNeg) by decide) (v := .int (105 : Int32)) rfl ?_
  refine gAloadN X0 hx (hb hby d10_18) (q := 19) rfl rfl rfl ?_
  refine gIloadN X0 hx (hb hby d10_19) (q := 20) rfl rfl ?_
  refine gBaload X0 hx hZ e0 pA2 (hb hby d10_20) (q := 21) rfl (show ¬ (((1 : Int32) : Int32) < 0 ∨ 3 ≤ ((1 : Int32) : Int32).toNatClampNeg) by decide) (v := .int (105 : Int32)) rfl ?_
  refine gIcmpY X0 hx (hb hby d10_21) (q := 26) (by decide) (by decide) (XT.ii_eq_t (by decide)) ?_
  refine gIinc X0 hx (1 : Int32) (hb hby d10_26) (q := 29) rfl (by decide) rfl (L' := #[.val (.ref kx1), .val (.ref kx2), .val (.int (2 : Int32))]) rfl ?_
  refine gGoto X0 hx (hb hby d10_29) (q := 9) (by decide) (by decide) ?_
  refine gIloadN X0 hx (hb hby d10_9) (q := 10) rfl rfl ?_
  refine gAloadN X0 hx (hb hby d10_10) (q := 11) rfl rfl rfl ?_
  refine gLen X0 hx hZ e0 pA1 (n := (3 : Int32)) rfl (hb hby d10_11) (q := 12) rfl ?_
  refine gIcmpN X0 hx (hb hby d10_12) (q := 15) rfl (XT.ii_ge_f (by decide)) ?_
  refine gAloadN X0 hx (hb hby d10_15) (q := 16) rfl rfl rfl ?_
  refine gIloadN X0 hx (hb hby d10_16) (q := 17) rfl rfl ?_
  refine gBaload X0 hx hZ e0 pA1 (hb hby d10_17) (q := 18) rfl (show ¬ (((2 : Int32) : Int32) < 0 ∨ 3 ≤ ((2 : Int32) : Int32).toNatClampNeg) by decide) (v := .int (103 : Int32)) rfl ?_
  refine gAloadN X0 hx (hb hby d10_18) (q := 19) rfl rfl rfl ?_
  refine gIloadN X0 hx (hb hby d10_19) (q := 20) rfl rfl ?_
  refine gBaload X0 hx hZ e0 pA2 (hb hby d10_20) (q := 21) rfl (show ¬ (((2 : Int32) : Int32) < 0 ∨ 3 ≤ ((2 : Int32) : Int32).toNatClampNeg) by decide) (v := .int (103 : Int32)) rfl ?_
  refine gIcmpY X0 hx (hb hby d10_21) (q := 26) (by decide) (by decide) (XT.ii_eq_t (by decide)) ?_
  refine gIinc X0 hx (1 : Int32) (hb hby d10_26) (q := 29) rfl (by decide) rfl (L' := #[.val (.ref kx1), .val (.ref kx2), .val (.int (3 : Int32))]) rfl ?_
  refine gGoto X0 hx (hb hby d10_29) (q := 9) (by decide) (by decide) ?_
  refine gIloadN X0 hx (hb hby d10_9) (q := 10) rfl rfl ?_
  refine gAloadN X0 hx (hb hby d10_10) (q := 11) rfl rfl rfl ?_
  refine gLen X0 hx hZ e0 pA1 (n := (3 : Int32)) rfl (hb hby d10_11) (q := 12) rfl ?_
  refine gIcmpY X0 hx (hb hby d10_12) (q := 32) (by decide) (by decide) (XT.ii_ge_t (by decide)) ?_
  refine gIconst X0 hx (1 : Int32) (hb hby d10_32) (q := 33) rfl (by decide) ?_
  exact gRetZ X0 hx hlk hret (hb hby d10_33) (by decide) (by decide) (by simp) ⟨rfl, N0, e0⟩
theorem d9_0 : decode jdk_42_method_66_code 0 = .ok (.aload_n 0, 1) := by decide +kernel
theorem d9_1 : decode jdk_42_method_66_code 1 = .ok (.aload_n 1, 1) := by decide +kernel
theorem d9_2 : decode jdk_42_method_66_code 2 = .ok (.if_acmp .ne 5, 3) := by decide +kernel
theorem d9_5 : decode jdk_42_method_66_code 5 = .ok (.iconst 1, 1) := by decide +kernel
theorem d9_6 : decode jdk_42_method_66_code 6 = .ok (.ireturn, 1) := by decide +kernel
theorem d9_7 : decode jdk_42_method_66_code 7 = .ok (.aload_n 1, 1) := by decide +kernel
theorem d9_8 : decode jdk_42_method_66_code 8 = .ok (.instanceof 10, 3) := by decide +kernel
theorem d9_11 : decode jdk_42_method_66_code 11 = .ok (.ifCond .eq 43, 3) := by decide +kernel
theorem d9_14 : decode jdk_42_method_66_code 14 = .ok (.aload_n 1, 1) := by decide +kernel
theorem d9_15 : decode jdk_42_method_66_code 15 = .ok (.checkcast 10, 3) := by decide +kernel
theorem d9_18 : decode jdk_42_method_66_code 18 = .ok (.astore_n 2, 1) := by decide +kernel
theorem d9_19 : decode jdk_42_method_66_code 19 = .ok (.getstatic 38, 3) := by decide +kernel
theorem d9_22 : decode jdk_42_method_66_code 22 = .ok (.ifCond .eq 14, 3) := by decide +kernel
theorem d9_25 : decode jdk_42_method_66_code 25 = .ok (.aload_n 0, 1) := by decide +kernel
theorem d9_26 : decode jdk_42_method_66_code 26 = .ok (.getfield 15, 3) := by decide +kernel
theorem d9_29 : decode jdk_42_method_66_code 29 = .ok (.aload_n 2, 1) := by decide +kernel
theorem d9_30 : decode jdk_42_method_66_code 30 = .ok (.getfield 15, 3) := by decide +kernel
theorem d9_33 : decode jdk_42_method_66_code 33 = .ok (.if_icmp .ne 21, 3) := by decide +kernel
theorem d9_36 : decode jdk_42_method_66_code 36 = .ok (.aload_n 0, 1) := by decide +kernel
theorem d9_37 : decode jdk_42_method_66_code 37 = .ok (.getfield 9, 3) := by decide +kernel
theorem d9_40 : decode jdk_42_method_66_code 40 = .ok (.aload_n 2, 1) := by decide +kernel
theorem d9_41 : decode jdk_42_method_66_code 41 = .ok (.getfield 9, 3) := by decide +kernel
theorem d9_44 : decode jdk_42_method_66_code 44 = .ok (.invokestatic 541, 3) := by decide +kernel
theorem d9_47 : decode jdk_42_method_66_code 47 = .ok (.ifCond .eq 7, 3) := by decide +kernel
theorem d9_50 : decode jdk_42_method_66_code 50 = .ok (.iconst 1, 1) := by decide +kernel
theorem d9_51 : decode jdk_42_method_66_code 51 = .ok (.goto 4, 3) := by decide +kernel
theorem d9_54 : decode jdk_42_method_66_code 54 = .ok (.iconst 0, 1) := by decide +kernel
theorem d9_55 : decode jdk_42_method_66_code 55 = .ok (.ireturn, 1) := by decide +kernel
theorem ef11 (m : MethodId) (x0 : Addr) (x1 : Addr) : entryFrame m #[(.ref x0), (.ref x1)] 3 = mkF m 0 #[.val (.ref x0), .val (.ref x1), .unset] [] := by first | (simp [entryFrame, mkF, argsToLocals, Value.category]; done) | rfl
def Q_rmEqBB (Z : State) (a : Addr) (b : Addr) (kx1 : Addr) (kx2 : Addr) (kc : ClassId) (kd : ClassId) (ic : Int32) (h0 : Heap) (n0 : Nat) (v : Option Value) (h : Heap) (L : List Loc) : Prop := v = some (.int (1 : Int32)) ∧ Fr n0 L ∧ h = h0
theorem pd4 : parseMethodDescriptor "([B[B)Z" = some ⟨[.array (.byte), .array (.byte)], some (.boolean)⟩ := by decide +kernel
set_option maxRecDepth 65536 in
set_option maxHeartbeats 40000000 in
theorem rmEqBB (l : Launch) (Z : State) (a0 : Array Value) (hw : ∀ d ∈ tables_1, d.before a0 Z = true) (ws : List Jvm.Cond) (a : Addr) (b : Addr) (kx1 : Addr) (kx2 : Addr) (kc : ClassId) (kd : ClassId) (ic : Int32) (h0 : Heap) (n0 : Nat) (Z0 : n0 ≤ h0.size) (pF1 : Fld Z h0 a "java/lang/String" "value" "[B" (.ref kx1)) (pF2 : Fld Z h0 a "java/lang/String" "coder" "B" (.int (0 : Int32))) (pG1 : Fld Z h0 b "java/lang/String" "value" "[B" (.ref kx2)) (pG2 : Fld Z h0 b "java/lang/String" "coder" "B" (.int (0 : Int32))) (EXb : Exa Z h0 b "java/lang/String") (pA1 : Ary Z h0 kx1 kc .byte [(.int (98 : Int32)), (.int (105 : Int32)), (.int (103 : Int32))]) (pA2 : Ary Z h0 kx2 kd .byte [(.int (98 : Int32)), (.int (105 : Int32)), (.int (103 : Int32))]) (nab : ¬ (.ref a : Value) = (.ref b : Value)) (SCs : Sta Z Z.heap "java/lang/String" "COMPACT_STRINGS" "Z" (.int ic)) (hic : ¬ ic = (0 : Int32)) (O0 : Old Z n0 h0) :
    Con l Z (⟨"java/lang/String", "equals", "(Ljava/lang/Object;)Z"⟩ : MethodName) jdk_42_method_66_code 3 (some (.boolean)) ws ({ frames := 1, cells := 0, slots := 0, locals := 14 } : Room) #[(.ref a), (.ref b)] h0 (({ frames := 1, cells := 0, slots := 0, locals := 14 } : Room).cells) (({ frames := 1, cells := 0, slots := 0, locals := 14 } : Room).slots) (Q_rmEqBB Z a b kx1 kx2 kc kd ic h0 n0) := by
  refine Con.of (plainFor_of_name pn1) ?_
  intro p e s m below meth c s₁ hx hby hml hown hnm hret hlk hZ X0 e0
  have N0 := Fr.nil n0
  refine goE (L := #[.val (.ref a), .val (.ref b), .unset]) (ef11 m a b) ?_
  refine gAloadN X0 hx (hb hby d9_0) (q := 1) rfl rfl rfl ?_
  refine gAloadN X0 hx (hb hby d9_1) (q := 2) rfl rfl rfl ?_
  refine gAcmpY X0 hx (hb hby d9_2) (q := 7) (by decide) (by decide) rfl rfl (XT.aa_ne_t nab) ?_
  refine gAloadN X0 hx (hb hby d9_7) (q := 8) rfl rfl rfl ?_
  refine gInstY X0 hx hZ hown (hw _ (List.mem_of_getElem? (i := 59) rfl)) e0 (Ins.self EXb) (hb hby d9_8) (q := 11) rfl (fun T1 X1 e1 => ?_)
  refine gIfN X1 hx (hb hby d9_11) (q := 14) rfl (XT.i0_eq_f (by decide)) ?_
  refine gAloadN X1 hx (hb hby d9_14) (q := 15) rfl rfl rfl ?_
  refine gCastY X1 hx hZ hown (hw _ (List.mem_of_getElem? (i := 59) rfl)) e1 (Ins.self EXb) (hb hby d9_15) (q := 18) rfl (fun T2 X2 e2 => ?_)
  refine gAstoreN X2 hx (hb hby d9_18) (q := 19) rfl rfl (L' := #[.val (.ref a), .val (.ref b), .val (.ref b)]) rfl ?_
  refine gGetS X2 hx hZ hown (hw _ (List.mem_of_getElem? (i := 14) rfl)) Via.refl e2 (Sta.ext O0.2 SCs) (hb hby d9_19) (q := 22) rfl (fun T3 X3 e3 => ?_)
  refine gIfN X3 hx (hb hby d9_22) (q := 25) rfl (XT.i0_eq_f hic) ?_
  refine gAloadN X3 hx (hb hby d9_25) (q := 26) rfl rfl rfl ?_
  refine gGetF X3 hx hZ (host := "") hown (Or.inl (hw _ (List.mem_of_getElem? (i := 26) rfl))) Via.refl e3 pF2 (hb hby d9_26) (q := 29) rfl (fun T4 X4 e4 => ?_)
  refine gAloadN X4 hx (hb hby d9_29) (q := 30) rfl rfl rfl ?_
  refine gGetF X4 hx hZ (host := "") hown (Or.inl (hw _ (List.mem_of_getElem? (i := 26) rfl))) Via.refl e4 pG2 (hb hby d9_30) (q := 33) rfl (fun T5 X5 e5 => ?_)
  refine gIcmpN X5 hx (hb hby d9_33) (q := 36) rfl (XT.ii_ne_f (by decide)) ?_
  refine gAloadN X5 hx (hb hby d9_36) (q := 37) rfl rfl rfl ?_
  refine gGetF X5 hx hZ (host := "") hown (Or.inl (hw _ (List.mem_of_getElem? (i := 28) rfl))) Via.refl e5 pF1 (hb hby d9_37) (q := 40) rfl (fun T6 X6 e6 => ?_)
  refine gAloadN X6 hx (hb hby d9_40) (q := 41) rfl rfl rfl ?_
  refine gGetF X6 hx hZ (host := "") hown (Or.inl (hw _ (List.mem_of_getElem? (i := 28) rfl))) Via.refl e6 pG1 (hb hby d9_41) (q := 44) rfl (fun T7 X7 e7 => ?_)
  refine gCallS X7 hx hZ hown (hw _ (List.mem_of_getElem? (i := 60) rfl)) (hw _ (List.mem_of_getElem? (i := 61) rfl)) (hw _ (List.mem_of_getElem? (i := 62) rfl)) (hw _ (List.mem_of_getElem? (i := 63) rfl)) (by decide) (rmLeBB l Z a0 hw [] kx1 kx2 kc kd h0 n0 Z0 pA1 pA2) (W := 0) (by decide) (by decide) e7 (by rw [hml]; rfl) [(.ref kx1), (.ref kx2)] (lenOf pd4 rfl) rfl (S := []) rfl (Nat.le_of_eq rfl) (hb hby d9_44) (q := 47) rfl (by decide) (by decide) (fun r8 T8 M8 X8 q8 => ?_)
  obtain ⟨rfl, M8n, e8⟩ := q8
  have N9 := Fr.app N0 M8n
  dsimp only [Option.toList, List.cons_append, List.nil_append]
  refine gIfN X8 hx (hb hby d9_47) (q := 50) rfl (XT.i0_eq_f (by decide)) ?_
  refine gIconst X8 hx (1 : Int32) (hb hby d9_50) (q := 51) rfl (by decide) ?_
  refine gGoto X8 hx (hb hby d9_51) (q := 55) (by decide) (by decide) ?_
  exact gRetZ X8 hx hlk hret (hb hby d9_55) (by decide) (by decide) (by simp) ⟨rfl, N9, e8⟩
theorem ef12 (m : MethodId) (x0 : Addr) (x1 : Addr) : entryFrame m #[(.ref x0), (.ref x1)] 3 = mkF m 0 #[.val (.ref x0), .val (.ref x1), .unset] [] := by first | (simp [entryFrame, mkF, argsToLocals, Value.category]; done) | rfl
def Q_rmLeLB (Z : State) (kx1 : Addr) (kx2 : Addr) (kc : ClassId) (kd : ClassId) (h0 : Heap) (n0 : Nat) (v : Option Value) (h : Heap) (L : List Loc) : Prop := v = some (.int (0 : Int32)) ∧ Fr n0 L ∧ h = h0
set_option maxRecDepth 65536 in
set_option maxHeartbeats 40000000 in
theorem rmLeLB (l : Launch) (Z : State) (a0 : Array Value) (hw : ∀ d ∈ tables_1, d.before a0 Z = true) (ws : List Jvm.Cond) (kx1 : Addr) (kx2 : Addr) (kc : ClassId) (kd : ClassId) (h0 : Heap) (n0 : Nat) (Z0 : n0 ≤ h0.size) (pA1 : Ary Z h0 kx1 kc .byte [(.int (108 : Int32)), (.int (105 : Int32)), (.int (116 : Int32)), (.int (116 : Int32)), (.int (108 : Int32)), (.int (101 : Int32))]) (pA2 : Ary Z h0 kx2 kd .byte [(.int (98 : Int32)), (.int (105 : Int32)), (.int (103 : Int32))]) :
    Con l Z (⟨"java/lang/StringLatin1", "equals", "([B[B)Z"⟩ : MethodName) jdk_43_method_13_code 3 (some (.boolean)) ws ({ frames := 0, cells := 0, slots := 0, locals := 0 } : Room) #[(.ref kx1), (.ref kx2)] h0 (({ frames := 0, cells := 0, slots := 0, locals := 0 } : Room).cells) (({ frames := 0, cells := 0, slots := 0, locals := 0 } : Room).slots) (Q_rmLeLB Z kx1 kx2 kc kd h0 n0) := by
  refine Con.of (plainFor_of_name pn2) ?_
  intro p e s m below meth c s₁ hx hby hml hown hnm hret hlk hZ X0 e0
  have N0 := Fr.nil n0
  refine goE (L := #[.val (.ref kx1), .val (.ref kx2), .unset]) (ef12 m kx1 kx2) ?_
  refine gAloadN X0 hx (hb hby d10_0) (q := 1) rfl rfl rfl ?_
  refine gLen X0 hx hZ e0 pA1 (n := (6 : Int32)) rfl (hb hby d10_1) (q := 2) rfl ?_
  refine gAloadN X0 hx (hb hby d10_2) (q := 3) rfl rfl rfl ?_
  refine gLen X0 hx hZ e0 pA2 (n := (3 : Int32)) rfl (hb hby d10_3) (q := 4) rfl ?_
  refine gIcmpY X0 hx (hb hby d10_4) (q := 34) (by decide) (by decide) (XT.ii_ne_t (by decide)) ?_
  refine gIconst X0 hx (0 : Int32) (hb hby d10_34) (q := 35) rfl (by decide) ?_
  exact gRetZ X0 hx hlk hret (hb hby d10_35) (by decide) (by decide) (by simp) ⟨rfl, N0, e0⟩
theorem ef13 (m : MethodId) (x0 : Addr) (x1 : Addr) : entryFrame m #[(.ref x0), (.ref x1)] 3 = mkF m 0 #[.val (.ref x0), .val (.ref x1), .unset] [] := by first | (simp [entryFrame, mkF, argsToLocals, Value.category]; done) | rfl
def Q_rmEqLB (Z : State) (a : Addr) (b : Addr) (kx1 : Addr) (kx2 : Addr) (kc : ClassId) (kd : ClassId) (ic : Int32) (h0 : Heap) (n0 : Nat) (v : Option Value) (h : Heap) (L : List Loc) : Prop := v = some (.int (0 : Int32)) ∧ Fr n0 L ∧ h = h0
set_option maxRecDepth 65536 in
set_option maxHeartbeats 40000000 in
theorem rmEqLB (l : Launch) (Z : State) (a0 : Array Value) (hw : ∀ d ∈ tables_1, d.before a0 Z = true) (ws : List Jvm.Cond) (a : Addr) (b : Addr) (kx1 : Addr) (kx2 : Addr) (kc : ClassId) (kd : ClassId) (ic : Int32) (h0 : Heap) (n0 : Nat) (Z0 : n0 ≤ h0.size) (pF1 : Fld Z h0 a "java/lang/String" "value" "[B" (.ref kx1)) (pF2 : Fld Z h0 a "java/lang/String" "coder" "B" (.int (0 : Int32))) (pG1 : Fld Z h0 b "java/lang/String" "value" "[B" (.ref kx2)) (pG2 : Fld Z h0 b "java/lang/String" "coder" "B" (.int (0 : Int32))) (EXb : Exa Z h0 b "java/lang/String") (pA1 : Ary Z h0 kx1 kc .byte [(.int (108 : Int32)), (.int (105 : Int32)), (.int (116 : Int32)), (.int (116 : Int32)), (.int (108 : Int32)), (.int (101 : Int32))]) (pA2 : Ary Z h0 kx2 kd .byte [(.int (98 : Int32)), (.int (105 : Int32)), (.int (103 : Int32))]) (nab : ¬ (.ref a : Value) = (.ref b : Value)) (SCs : Sta Z Z.heap "java/lang/String" "COMPACT_STRINGS" "Z" (.int ic)) (hic : ¬ ic = (0 : Int32)) (O0 : Old Z n0 h0) :
    Con l Z (⟨"java/lang/String", "equals", "(Ljava/lang/Object;)Z"⟩ : MethodName) jdk_42_method_66_code 3 (some (.boolean)) ws ({ frames := 1, cells := 0, slots := 0, locals := 14 } : Room) #[(.ref a), (.ref b)] h0 (({ frames := 1, cells := 0, slots := 0, locals := 14 } : Room).cells) (({ frames := 1, cells := 0, slots := 0, locals := 14 } : Room).slots) (Q_rmEqLB Z a b kx1 kx2 kc kd ic h0 n0) := by
  refine Con.of (plainFor_of_name pn1) ?_
  intro p e s m below meth c s₁ hx hby hml hown hnm hret hlk hZ X0 e0
  have N0 := Fr.nil n0
  refine goE (L := #[.val (.ref a), .val (.ref b), .unset]) (ef13 m a b) ?_
  refine gAloadN X0 hx (hb hby d9_0) (q := 1) rfl rfl rfl ?_
  refine gAloadN X0 hx (hb hby d9_1) (q := 2) rfl rfl rfl ?_
  refine gAcmpY X0 hx (hb hby d9_2) (q := 7) (by decide) (by decide) rfl rfl (XT.aa_ne_t nab) ?_
  refine gAloadN X0 hx (hb hby d9_7) (q := 8) rfl rfl rfl ?_
  refine gInstY X0 hx hZ hown (hw _ (List.mem_of_getElem? (i := 59) rfl)) e0 (Ins.self EXb) (hb hby d9_8) (q := 11) rfl (fun T1 X1 e1 => ?_)
  refine gIfN X1 hx (hb hby d9_11) (q := 14) rfl (XT.i0_eq_f (by decide)) ?_
  refine gAloadN X1 hx (hb hby d9_14) (q := 15) rfl rfl rfl ?_
  refine gCastY X1 hx hZ hown (hw _ (List.mem_of_getElem? (i := 59) rfl)) e1 (Ins.self EXb) (hb hby d9_15) (q := 18) rfl (fun T2 X2 e2 => ?_)
  refine gAstoreN X2 hx (hb hby d9_18) (q := 19) rfl rfl (L' := #[.val (.ref a), .val (.ref b), .val (.ref b)]) rfl ?_
  refine gGetS X2 hx hZ hown (hw _ (List.mem_of_getElem? (i := 14) rfl)) Via.refl e2 (Sta.ext O0.2 SCs) (hb hby d9_19) (q := 22) rfl (fun T3 X3 e3 => ?_)
  refine gIfN X3 hx (hb hby d9_22) (q := 25) rfl (XT.i0_eq_f hic) ?_
  refine gAloadN X3 hx (hb hby d9_25) (q := 26) rfl rfl rfl ?_
  refine gGetF X3 hx hZ (host := "") hown (Or.inl (hw _ (List.mem_of_getElem? (i := 26) rfl))) Via.refl e3 pF2 (hb hby d9_26) (q := 29) rfl (fun T4 X4 e4 => ?_)
  refine gAloadN X4 hx (hb hby d9_29) (q := 30) rfl rfl rfl ?_
  refine gGetF X4 hx hZ (host := "") hown (Or.inl (hw _ (List.mem_of_getElem? (i := 26) rfl))) Via.refl e4 pG2 (hb hby d9_30) (q := 33) rfl (fun T5 X5 e5 => ?_)
  refine gIcmpN X5 hx (hb hby d9_33) (q := 36) rfl (XT.ii_ne_f (by decide)) ?_
  refine gAloadN X5 hx (hb hby d9_36) (q := 37) rfl rfl rfl ?_
  refine gGetF X5 hx hZ (host := "") hown (Or.inl (hw _ (List.mem_of_getElem? (i := 28) rfl))) Via.refl e5 pF1 (hb hby d9_37) (q := 40) rfl (fun T6 X6 e6 => ?_)
  refine gAloadN X6 hx (hb hby d9_40) (q := 41) rfl rfl rfl ?_
  refine gGetF X6 hx hZ (host := "") hown (Or.inl (hw _ (List.mem_of_getElem? (i := 28) rfl))) Via.refl e6 pG1 (hb hby d9_41) (q := 44) rfl (fun T7 X7 e7 => ?_)
  refine gCallS X7 hx hZ hown (hw _ (List.mem_of_getElem? (i := 60) rfl)) (hw _ (List.mem_of_getElem? (i := 61) rfl)) (hw _ (List.mem_of_getElem? (i := 62) rfl)) (hw _ (List.mem_of_getElem? (i := 63) rfl)) (by decide) (rmLeLB l Z a0 hw [] kx1 kx2 kc kd h0 n0 Z0 pA1 pA2) (W := 0) (by decide) (by decide) e7 (by rw [hml]; rfl) [(.ref kx1), (.ref kx2)] (lenOf pd4 rfl) rfl (S := []) rfl (Nat.le_of_eq rfl) (hb hby d9_44) (q := 47) rfl (by decide) (by decide) (fun r8 T8 M8 X8 q8 => ?_)
  obtain ⟨rfl, M8n, e8⟩ := q8
  have N9 := Fr.app N0 M8n
  dsimp only [Option.toList, List.cons_append, List.nil_append]
  refine gIfY X8 hx (hb hby d9_47) (q := 54) (by decide) (by decide) (XT.i0_eq_t (by decide)) ?_
  refine gIconst X8 hx (0 : Int32) (hb hby d9_54) (q := 55) rfl (by decide) ?_
  exact gRetZ X8 hx hlk hret (hb hby d9_55) (by decide) (by decide) (by simp) ⟨rfl, N9, e8⟩
theorem ef14 (m : MethodId) (x0 : Addr) (x1 : Addr) : entryFrame m #[(.ref x0), (.ref x1)] 3 = mkF m 0 #[.val (.ref x0), .val (.ref x1), .unset] [] := by first | (simp [entryFrame, mkF, argsToLocals, Value.category]; done) | rfl
def Q_rmLeLL (Z : State) (kx1 : Addr) (kx2 : Addr) (kc : ClassId) (kd : ClassId) (h0 : Heap) (n0 : Nat) (v : Option Value) (h : Heap) (L : List Loc) : Prop := v = some (.int (1 : Int32)) ∧ Fr n0 L ∧ h = h0
set_option maxRecDepth 65536 in
set_option maxHeartbeats 40000000 in
theorem rmLeLL (l : Launch) (Z : State) (a0 : Array Value) (hw : ∀ d ∈ tables_1, d.before a0 Z = true) (ws : List Jvm.Cond) (kx1 : Addr) (kx2 : Addr) (kc : ClassId) (kd : ClassId) (h0 : Heap) (n0 : Nat) (Z0 : n0 ≤ h0.size) (pA1 : Ary Z h0 kx1 kc .byte [(.int (108 : Int32)), (.int (105 : Int32)), (.int (116 : Int32)), (.int (116 : Int32)), (.int (108 : Int32)), (.int (101 : Int32))]) (pA2 : Ary Z h0 kx2 kd .byte [(.int (108 : Int32)), (.int (105 : Int32)), (.int (116 : Int32)), (.int (116 : Int32)), (.int (108 : Int32)), (.int (101 : Int32))]) :
    Con l Z (⟨"java/lang/StringLatin1", "equals", "([B[B)Z"⟩ : MethodName) jdk_43_method_13_code 3 (some (.boolean)) ws ({ frames := 0, cells := 0, slots := 0, locals := 0 } : Room) #[(.ref kx1), (.ref kx2)] h0 (({ frames := 0, cells := 0, slots := 0, locals := 0 } : Room).cells) (({ frames := 0, cells := 0, slots := 0, locals := 0 } : Room).slots) (Q_rmLeLL Z kx1 kx2 kc kd h0 n0) := by
  refine Con.of (plainFor_of_name pn2) ?_
  intro p e s m below meth c s₁ hx hby hml hown hnm hret hlk hZ X0 e0
  have N0 := Fr.nil n0
  refine goE (L := #[.val (.ref kx1), .val (.ref kx2), .unset]) (ef14 m kx1 kx2) ?_
  refine gAloadN X0 hx (hb hby d10_0) (q := 1) rfl rfl rfl ?_
  refine gLen X0 hx hZ e0 pA1 (n := (6 : Int32)) rfl (hb hby d10_1) (q := 2) rfl ?_
  refine gAloadN X0 hx (hb hby d10_2) (q := 3) rfl rfl rfl ?_
  refine gLen X0 hx hZ e0 pA2 (n := (6 : Int32)) rfl (hb hby d10_3) (q := 4) rfl ?_
  refine gIcmpN X0 hx (hb hby d10_4) (q := 7) rfl (XT.ii_ne_f (by decide)) ?_
  refine gIconst X0 hx (0 : Int32) (hb hby d10_7) (q := 8) rfl (by decide) ?_
  refine gIstoreN X0 hx (hb hby d10_8) (q := 9) rfl (L' := #[.val (.ref kx1), .val (.ref kx2), .val (.int (0 : Int32))]) rfl ?_
  refine gIloadN X0 hx (hb hby d10_9) (q := 10) rfl rfl ?_
  refine gAloadN X0 hx (hb hby d10_10) (q := 11) rfl rfl rfl ?_
  refine gLen X0 hx hZ e0 pA1 (n := (6 : Int32)) rfl (hb hby d10_11) (q := 12) rfl ?_
  refine gIcmpN X0 hx (hb hby d10_12) (q := 15) rfl (XT.ii_ge_f (by decide)) ?_
  refine gAloadN X0 hx (hb hby d10_15) (q := 16) rfl rfl rfl ?_
  refine gIloadN X0 hx (hb hby d10_16) (q := 17) rfl rfl ?_
  refine gBaload X0 hx hZ e0 pA1 (hb hby d10_17) (q := 18) rfl (show ¬ (((0 : Int32) : Int32) < 0 ∨ 6 ≤ ((0 : Int32) : Int32).toNatClampNeg) by decide) (v := .int (108 : Int32)) rfl ?_
  refine gAloadN X0 hx (hb hby d10_18) (q := 19) rfl rfl rfl ?_
  refine gIloadN X0 hx (hb hby d10_19) (q := 20) rfl rfl ?_
  refine gBaload X0 hx hZ e0 pA2 (hb hby d10_20) (q := 21) rfl (show ¬ (((0 : Int32) : Int32) < 0 ∨ 6 ≤ ((0 : Int32) : Int32).toNatClampNeg) by decide) (v := .int (108 : Int32)) rfl ?_
  refine gIcmpY X0 hx (hb hby d10_21) (q := 26) (by decide) (by decide) (XT.ii_eq_t (by decide)) ?_
  refine gIinc X0 hx (1 : Int32) (hb hby d10_26) (q := 29) rfl (by decide) rfl (L' := #[.val (.ref kx1), .val (.ref kx2), .val (.int (1 : Int32))]) rfl ?_
  refine gGoto X0 hx (hb hby d10_29) (q := 9) (by decide) (by decide) ?_
  refine gIloadN X0 hx (hb hby d10_9) (q := 10) rfl rfl ?_
  refine gAloadN X0 hx (hb hby d10_10) (q := 11) rfl rfl rfl ?_
  refine gLen X0 hx hZ e0 pA1 (n := (6 : Int32)) rfl (hb hby d10_11) (q := 12) rfl ?_
  refine gIcmpN X0 hx (hb hby d10_12) (q := 15) rfl (XT.ii_ge_f (by decide)) ?_
  refine gAloadN X0 hx (hb hby d10_15) (q := 16) rfl rfl rfl ?_
  refine gIloadN X0 hx (hb hby d10_16) (q := 17) rfl rfl ?_
  refine gBaload X0 hx hZ e0 pA1 (hb hby d10_17) (q := 18) rfl (show ¬ (((1 : Int32) : Int32) < 0 ∨ 6 ≤ ((1 : Int32) : Int32).toNatClampNeg) by decide) (v := .int (105 : Int32)) rfl ?_
  refine gAloadN X0 hx (hb hby d10_18) (q := 19) rfl rfl rfl ?_
  refine gIloadN X0 hx (hb hby d10_19) (q := 20) rfl rfl ?_
  refine gBaload X0 hx hZ e0 pA2 (hb hby d10_20) (q := 21) rfl (show ¬ (((1 : Int32) : Int32) < 0 ∨ 6 ≤ ((1 : Int32) : Int32).toNatClampNeg) by decide) (v := .int (105 : Int32)) rfl ?_
  refine gIcmpY X0 hx (hb hby d10_21) (q := 26) (by decide) (by decide) (XT.ii_eq_t (by decide)) ?_
  refine gIinc X0 hx (1 : Int32) (hb hby d10_26) (q := 29) rfl (by decide) rfl (L' := #[.val (.ref kx1), .val (.ref kx2), .val (.int (2 : Int32))]) rfl ?_
  refine gGoto X0 hx (hb hby d10_29) (q := 9) (by decide) (by decide) ?_
  refine gIloadN X0 hx (hb hby d10_9) (q := 10) rfl rfl ?_
  refine gAloadN X0 hx (hb hby d10_10) (q := 11) rfl rfl rfl ?_
  refine gLen X0 hx hZ e0 pA1 (n := (6 : Int32)) rfl (hb hby d10_11) (q := 12) rfl ?_
  refine gIcmpN X0 hx (hb hby d10_12) (q := 15) rfl (XT.ii_ge_f (by decide)) ?_
  refine gAloadN X0 hx (hb hby d10_15) (q := 16) rfl rfl rfl ?_
  refine gIloadN X0 hx (hb hby d10_16) (q := 17) rfl rfl ?_
  refine gBaload X0 hx hZ e0 pA1 (hb hby d10_17) (q := 18) rfl (show ¬ (((2 : Int32) : Int32) < 0 ∨ 6 ≤ ((2 : Int32) : Int32).toNatClampNeg) by decide) (v := .int (116 : Int32)) rfl ?_
  refine gAloadN X0 hx (hb hby d10_18) (q := 19) rfl rfl rfl ?_
  refine gIloadN X0 hx (hb hby d10_19) (q := 20) rfl rfl ?_
  refine gBaload X0 hx hZ e0 pA2 (hb hby d10_20) (q := 21) rfl (show ¬ (((2 : Int32) : Int32) < 0 ∨ 6 ≤ ((2 : Int32) : Int32).toNatClampNeg) by decide) (v := .int (116 : Int32)) rfl ?_
  refine gIcmpY X0 hx (hb hby d10_21) (q := 26) (by decide) (by decide) (XT.ii_eq_t (by decide)) ?_
  refine gIinc X0 hx (1 : Int32) (hb hby d10_26) (q := 29) rfl (by decide) rfl (L' := #[.val (.ref kx1), .val (.ref kx2), .val (.int (3 : Int32))]) rfl ?_
  refine gGoto X0 hx (hb hby d10_29) (q := 9) (by decide) (by decide) ?_
  refine gIloadN X0 hx (hb hby d10_9) (q := 10) rfl rfl ?_
  refine gAloadN X0 hx (hb hby d10_10) (q := 11) rfl rfl rfl ?_
  refine gLen X0 hx hZ e0 pA1 (n := (6 : Int32)) rfl (hb hby d10_11) (q := 12) rfl ?_
  refine gIcmpN X0 hx (hb hby d10_12) (q := 15) rfl (XT.ii_ge_f (by decide)) ?_
  refine gAloadN X0 hx (hb hby d10_15) (q := 16) rfl rfl rfl ?_
  refine gIloadN X0 hx (hb hby d10_16) (q := 17) rfl rfl ?_
  refine gBaload X0 hx hZ e0 pA1 (hb hby d10_17) (q := 18) rfl (show ¬ (((3 : Int32) : Int32) < 0 ∨ 6 ≤ ((3 : Int32) : Int32).toNatClampNeg) by decide) (v := .int (116 : Int32)) rfl ?_
  refine gAloadN X0 hx (hb hby d10_18) (q := 19) rfl rfl rfl ?_
  refine gIloadN X0 hx (hb hby d10_19) (q := 20) rfl rfl ?_
  refine gBaload X0 hx hZ e0 pA2 (hb hby d10_20) (q := 21) rfl (show ¬ (((3 : Int32) : Int32) < 0 ∨ 6 ≤ ((3 : Int32) : Int32).toNatClampNeg) by decide) (v := .int (116 : Int32)) rfl ?_
  refine gIcmpY X0 hx (hb hby d10_21) (q := 26) (by decide) (by decide) (XT.ii_eq_t (by decide)) ?_
  refine gIinc X0 hx (1 : Int32) (hb hby d10_26) (q := 29) rfl (by decide) rfl (L' := #[.val (.ref kx1), .val (.ref kx2), .val (.int (4 : Int32))]) rfl ?_
  refine gGoto X0 hx (hb hby d10_29) (q := 9) (by decide) (by decide) ?_
  refine gIloadN X0 hx (hb hby d10_9) (q := 10) rfl rfl ?_
  refine gAloadN X0 hx (hb hby d10_10) (q := 11) rfl rfl rfl ?_
  refine gLen X0 hx hZ e0 pA1 (n := (6 : Int32)) rfl (hb hby d10_11) (q := 12) rfl ?_
  refine gIcmpN X0 hx (hb hby d10_12) (q := 15) rfl (XT.ii_ge_f (by decide)) ?_
  refine gAloadN X0 hx (hb hby d10_15) (q := 16) rfl rfl rfl ?_
  refine gIloadN X0 hx (hb hby d10_16) (q := 17) rfl rfl ?_
  refine gBaload X0 hx hZ e0 pA1 (hb hby d10_17) (q := 18) rfl (show ¬ (((4 : Int32) : Int32) < 0 ∨ 6 ≤ ((4 : Int32) : Int32).toNatClampNeg) by decide) (v := .int (108 : Int32)) rfl ?_
  refine gAloadN X0 hx (hb hby d10_18) (q := 19) rfl rfl rfl ?_
  refine gIloadN X0 hx (hb hby d10_19) (q := 20) rfl rfl ?_
  refine gBaload X0 hx hZ e0 pA2 (hb hby d10_20) (q := 21) rfl (show ¬ (((4 : Int32) : Int32) < 0 ∨ 6 ≤ ((4 : Int32) : Int32).toNatClampNeg) by decide) (v := .int (108 : Int32)) rfl ?_
  refine gIcmpY X0 hx (hb hby d10_21) (q := 26) (by decide) (by decide) (XT.ii_eq_t (by decide)) ?_
  refine gIinc X0 hx (1 : Int32) (hb hby d10_26) (q := 29) rfl (by decide) rfl (L' := #[.val (.ref kx1), .val (.ref kx2), .val (.int (5 : Int32))]) rfl ?_
  refine gGoto X0 hx (hb hby d10_29) (q := 9) (by decide) (by decide) ?_
  refine gIloadN X0 hx (hb hby d10_9) (q := 10) rfl rfl ?_
  refine gAloadN X0 hx (hb hby d10_10) (q := 11) rfl rfl rfl ?_
  refine gLen X0 hx hZ e0 pA1 (n := (6 : Int32)) rfl (hb hby d10_11) (q := 12) rfl ?_
  refine gIcmpN X0 hx (hb hby d10_12) (q := 15) rfl (XT.ii_ge_f (by decide)) ?_
  refine gAloadN X0 hx (hb hby d10_15) (q := 16) rfl rfl rfl ?_
  refine gIloadN X0 hx (hb hby d10_16) (q := 17) rfl rfl ?_
  refine gBaload X0 hx hZ e0 pA1 (hb hby d10_17) (q := 18) rfl (show ¬ (((5 : Int32) : Int32) < 0 ∨ 6 ≤ ((5 : Int32) : Int32).toNatClampNeg) by decide) (v := .int (101 : Int32)) rfl ?_
  refine gAloadN X0 hx (hb hby d10_18) (q := 19) rfl rfl rfl ?_
  refine gIloadN X0 hx (hb hby d10_19) (q := 20) rfl rfl ?_
  refine gBaload X0 hx hZ e0 pA2 (hb hby d10_20) (q := 21) rfl (show ¬ (((5 : Int32) : Int32) < 0 ∨ 6 ≤ ((5 : Int32) : Int32).toNatClampNeg) by decide) (v := .int (101 : Int32)) rfl ?_
  refine gIcmpY X0 hx (hb hby d10_21) (q := 26) (by decide) (by decide) (XT.ii_eq_t (by decide)) ?_
  refine gIinc X0 hx (1 : Int32) (hb hby d10_26) (q := 29) rfl (by decide) rfl (L' := #[.val (.ref kx1), .val (.ref kx2), .val (.int (6 : Int32))]) rfl ?_
  refine gGoto X0 hx (hb hby d10_29) (q := 9) (by decide) (by decide) ?_
  refine gIloadN X0 hx (hb hby d10_9) (q := 10) rfl rfl ?_
  refine gAloadN X0 hx (hb hby d10_10) (q := 11) rfl rfl rfl ?_
  refine gLen X0 hx hZ e0 pA1 (n := (6 : Int32)) rfl (hb hby d10_11) (q := 12) rfl ?_
  refine gIcmpY X0 hx (hb hby d10_12) (q := 32) (by decide) (by decide) (XT.ii_ge_t (by decide)) ?_
  refine gIconst X0 hx (1 : Int32) (hb hby d10_32) (q := 33) rfl (by decide) ?_
  exact gRetZ X0 hx hlk hret (hb hby d10_33) (by decide) (by decide) (by simp) ⟨rfl, N0, e0⟩
theorem ef15 (m : MethodId) (x0 : Addr) (x1 : Addr) : entryFrame m #[(.ref x0), (.ref x1)] 3 = mkF m 0 #[.val (.ref x0), .val (.ref x1), .unset] [] := by first | (simp [entryFrame, mkF, argsToLocals, Value.category]; done) | rfl
def Q_rmEqLL (Z : State) (a : Addr) (b : Addr) (kx1 : Addr) (kx2 : Addr) (kc : ClassId) (kd : ClassId) (ic : Int32) (h0 : Heap) (n0 : Nat) (v : Option Value) (h : Heap) (L : List Loc) : Prop := v = some (.int (1 : Int32)) ∧ Fr n0 L ∧ h = h0
set_option maxRecDepth 65536 in
set_option maxHeartbeats 40000000 in
theorem rmEqLL (l : Launch) (Z : State) (a0 : Array Value) (hw : ∀ d ∈ tables_1, d.before a0 Z = true) (ws : List Jvm.Cond) (a : Addr) (b : Addr) (kx1 : Addr) (kx2 : Addr) (kc : ClassId) (kd : ClassId) (ic : Int32) (h0 : Heap) (n0 : Nat) (Z0 : n0 ≤ h0.size) (pF1 : Fld Z h0 a "java/lang/String" "value" "[B" (.ref kx1)) (pF2 : Fld Z h0 a "java/lang/String" "coder" "B" (.int (0 : Int32))) (pG1 : Fld Z h0 b "java/lang/String" "value" "[B" (.ref kx2)) (pG2 : Fld Z h0 b "java/lang/String" "coder" "B" (.int (0 : Int32))) (EXb : Exa Z h0 b "java/lang/String") (pA1 : Ary Z h0 kx1 kc .byte [(.int (108 : Int32)), (.int (105 : Int32)), (.int (116 : Int32)), (.int (116 : Int32)), (.int (108 : Int32)), (.int (101 : Int32))]) (pA2 : Ary Z h0 kx2 kd .byte [(.int (108 : Int32)), (.int (105 : Int32)), (.int (116 : Int32)), (.int (116 : Int32)), (.int (108 : Int32)), (.int (101 : Int32))]) (nab : ¬ (.ref a : Value) = (.ref b : Value)) (SCs : Sta Z Z.heap "java/lang/String" "COMPACT_STRINGS" "Z" (.int ic)) (hic : ¬ ic = (0 : Int32)) (O0 : Old Z n0 h0) :
    Con l Z (⟨"java/lang/String", "equals", "(Ljava/lang/Object;)Z"⟩ : MethodName) jdk_42_method_66_code 3 (some (.boolean)) ws ({ frames := 1, cells := 0, slots := 0, locals := 14 } : Room) #[(.ref a), (.ref b)] h0 (({ frames := 1, cells := 0, slots := 0, locals := 14 } : Room).cells) (({ frames := 1, cells := 0, slots := 0, locals := 14 } : Room).slots) (Q_rmEqLL Z a b kx1 kx2 kc kd ic h0 n0) := by
  refine Con.of (plainFor_of_name pn1) ?_
  intro p e s m below meth c s₁ hx hby hml hown hnm hret hlk hZ X0 e0
  have N0 := Fr.nil n0
  refine goE (L := #[.val (.ref a), .val (.ref b), .unset]) (ef15 m a b) ?_
  refine gAloadN X0 hx (hb hby d9_0) (q := 1) rfl rfl rfl ?_
  refine gAloadN X0 hx (hb hby d9_1) (q := 2) rfl rfl rfl ?_
  refine gAcmpY X0 hx (hb hby d9_2) (q := 7) (by decide) (by decide) rfl rfl (XT.aa_ne_t nab) ?_
  refine gAloadN X0 hx (hb hby d9_7) (q := 8) rfl rfl rfl ?_
  refine gInstY X0 hx hZ hown (hw _ (List.mem_of_getElem? (i := 59) rfl)) e0 (Ins.self EXb) (hb hby d9_8) (q := 11) rfl (fun T1 X1 e1 => ?_)
  refine gIfN X1 hx (hb hby d9_11) (q := 14) rfl (XT.i0_eq_f (by decide)) ?_
  refine gAloadN X1 hx (hb hby d9_14) (q := 15) rfl rfl rfl ?_
  refine gCastY X1 hx hZ hown (hw _ (List.mem_of_getElem? (i := 59) rfl)) e1 (Ins.self EXb) (hb hby d9_15) (q := 18) rfl (fun T2 X2 e2 => ?_)
  refine gAstoreN X2 hx (hb hby d9_18) (q := 19) rfl rfl (L' := #[.val (.ref a), .val (.ref b), .val (.ref b)]) rfl ?_
  refine gGetS X2 hx hZ hown (hw _ (List.mem_of_getElem? (i := 14) rfl)) Via.refl e2 (Sta.ext O0.2 SCs) (hb hby d9_19) (q := 22) rfl (fun T3 X3 e3 => ?_)
  refine gIfN X3 hx (hb hby d9_22) (q := 25) rfl (XT.i0_eq_f hic) ?_
  refine gAloadN X3 hx (hb hby d9_25) (q := 26) rfl rfl rfl ?_
  refine gGetF X3 hx hZ (host := "") hown (Or.inl (hw _ (List.mem_of_getElem? (i := 26) rfl))) Via.refl e3 pF2 (hb hby d9_26) (q := 29) rfl (fun T4 X4 e4 => ?_)
  refine gAloadN X4 hx (hb hby d9_29) (q := 30) rfl rfl rfl ?_
  refine gGetF X4 hx hZ (host := "") hown (Or.inl (hw _ (List.mem_of_getElem? (i := 26) rfl))) Via.refl e4 pG2 (hb hby d9_30) (q := 33) rfl (fun T5 X5 e5 => ?_)
  refine gIcmpN X5 hx (hb hby d9_33) (q := 36) rfl (XT.ii_ne_f (by decide)) ?_
  refine gAloadN X5 hx (hb hby d9_36) (q := 37) rfl rfl rfl ?_
  refine gGetF X5 hx hZ (host := "") hown (Or.inl (hw _ (List.mem_of_getElem? (i := 28) rfl))) Via.refl e5 pF1 (hb hby d9_37) (q := 40) rfl (fun T6 X6 e6 => ?_)
  refine gAloadN X6 hx (hb hby d9_40) (q := 41) rfl rfl rfl ?_
  refine gGetF X6 hx hZ (host := "") hown (Or.inl (hw _ (List.mem_of_getElem? (i := 28) rfl))) Via.refl e6 pG1 (hb hby d9_41) (q := 44) rfl (fun T7 X7 e7 => ?_)
  refine gCallS X7 hx hZ hown (hw _ (List.mem_of_getElem? (i := 60) rfl)) (hw _ (List.mem_of_getElem? (i := 61) rfl)) (hw _ (List.mem_of_getElem? (i := 62) rfl)) (hw _ (List.mem_of_getElem? (i := 63) rfl)) (by decide) (rmLeLL l Z a0 hw [] kx1 kx2 kc kd h0 n0 Z0 pA1 pA2) (W := 0) (by decide) (by decide) e7 (by rw [hml]; rfl) [(.ref kx1), (.ref kx2)] (lenOf pd4 rfl) rfl (S := []) rfl (Nat.le_of_eq rfl) (hb hby d9_44) (q := 47) rfl (by decide) (by decide) (fun r8 T8 M8 X8 q8 => ?_)
  obtain ⟨rfl, M8n, e8⟩ := q8
  have N9 := Fr.app N0 M8n
  dsimp only [Option.toList, List.cons_append, List.nil_append]
  refine gIfN X8 hx (hb hby d9_47) (q := 50) rfl (XT.i0_eq_f (by decide)) ?_
  refine gIconst X8 hx (1 : Int32) (hb hby d9_50) (q := 51) rfl (by decide) ?_
  refine gGoto X8 hx (hb hby d9_51) (q := 55) (by decide) (by decide) ?_
  exact gRetZ X8 hx hlk hret (hb hby d9_55) (by decide) (by decide) (by simp) ⟨rfl, N9, e8⟩
theorem ef16 (m : MethodId) (x0 : Addr) (x1 : Addr) : entryFrame m #[(.ref x0), (.ref x1)] 3 = mkF m 0 #[.val (.ref x0), .val (.ref x1), .unset] [] := by first | (simp [entryFrame, mkF, argsToLocals, Value.category]; done) | rfl
def Q_rmEqSame (Z : State) (a : Addr) (h0 : Heap) (n0 : Nat) (v : Option Value) (h : Heap) (L : List Loc) : Prop := v = some (.int (1 : Int32)) ∧ Fr n0 L ∧ h = h0
set_option maxRecDepth 65536 in
set_option maxHeartbeats 40000000 in
theorem rmEqSame (l : Launch) (Z : State) (a0 : Array Value) (hw : ∀ d ∈ tables_1, d.before a0 Z = true) (ws : List Jvm.Cond) (a : Addr) (h0 : Heap) (n0 : Nat) (Z0 : n0 ≤ h0.size)  :
    Con l Z (⟨"java/lang/String", "equals", "(Ljava/lang/Object;)Z"⟩ : MethodName) jdk_42_method_66_code 3 (some (.boolean)) ws ({ frames := 0, cells := 0, slots := 0, locals := 0 } : Room) #[(.ref a), (.ref a)] h0 (({ frames := 0, cells := 0, slots := 0, locals := 0 } : Room).cells) (({ frames := 0, cells := 0, slots := 0, locals := 0 } : Room).slots) (Q_rmEqSame Z a h0 n0) := by
  refine Con.of (plainFor_of_name pn1) ?_
  intro p e s m below meth c s₁ hx hby hml hown hnm hret hlk hZ X0 e0
  have N0 := Fr.nil n0
  refine goE (L := #[.val (.ref a), .val (.ref a), .unset]) (ef16 m a a) ?_
  refine gAloadN X0 hx (hb hby d9_0) (q := 1) rfl rfl rfl ?_
  refine gAloadN X0 hx (hb hby d9_1) (q := 2) rfl rfl rfl ?_
  refine gAcmpN X0 hx (hb hby d9_2) (q := 5) rfl rfl rfl (XT.aa_ne_f rfl) ?_
  refine gIconst X0 hx (1 : Int32) (hb hby d9_5) (q := 6) rfl (by decide) ?_
  exact gRetZ X0 hx hlk hret (hb hby d9_6) (by decide) (by decide) (by simp) ⟨rfl, N0, e0⟩
theorem d8_0 : decode prog_32_method_1_code 0 = .ok (.getstatic 10, 3) := by decide +kernel
theorem d8_3 : decode prog_32_method_1_code 3 = .ok (.invokevirtual 14, 3) := by decide +kernel
theorem d8_6 : decode prog_32_method_1_code 6 = .ok (.checkcast 15, 3) := by decide +kernel
theorem d8_9 : decode prog_32_method_1_code 9 = .ok (.areturn, 1) := by decide +kernel
theorem pn3 : plainName "com/example/oridune/oridune/core/Endian" = true := by first | (simp [plainName, overriddenIn]; done) | decide +kernel
theorem ef17 (m : MethodId)  : entryFrame m #[] 0 = mkF m 0 #[] [] := by first | (simp [entryFrame, mkF, argsToLocals, Value.category]; done) | rfl
def Q_rmVals (Z : State) (rL : Addr) (rB : Addr) (rV : Addr) (kV : ClassId) (sL : Addr) (sB : Addr) (bL : Addr) (bB : Addr) (kL : ClassId) (kB : ClassId) (ic : Int32) (h0 : Heap) (n0 : Nat) (v : Option Value) (h : Heap) (L : List Loc) : Prop := ∃ r, v = some (.ref r) ∧ Fr n0 L ∧ Keep h0 h [] ∧ Ary Z h r kV (.object "com/example/oridune/oridune/core/Endian") [.ref rL, .ref rB]
set_option maxRecDepth 65536 in
set_option maxHeartbeats 40000000 in
theorem rmVals (l : Launch) (Z : State) (a0 : Array Value) (hw : ∀ d ∈ tables_1, d.before a0 Z = true) (ws : List Jvm.Cond) (rL : Addr) (rB : Addr) (rV : Addr) (kV : ClassId) (sL : Addr) (sB : Addr) (bL : Addr) (bB : Addr) (kL : ClassId) (kB : ClassId) (ic : Int32) (h0 : Heap) (n0 : Nat) (Z0 : n0 ≤ h0.size) (S_L : Sta Z Z.heap "com/example/oridune/oridune/core/Endian" "LITTLE" "Lcom/example/oridune/oridune/core/Endian;" (.ref rL)) (S_B : Sta Z Z.heap "com/example/oridune/oridune/core/Endian" "BIG" "Lcom/example/oridune/oridune/core/Endian;" (.ref rB)) (S_V : Sta Z Z.heap "com/example/oridune/oridune/core/Endian" "$VALUES" "[Lcom/example/oridune/oridune/core/Endian;" (.ref rV)) (E_V : Exa Z Z.heap rV "[Lcom/example/oridune/oridune/core/Endian;") (A_V : Ary Z Z.heap rV kV (.object "com/example/oridune/oridune/core/Endian") [.ref rL, .ref rB]) (E_L : Exa Z Z.heap rL "com/example/oridune/oridune/core/Endian") (E_B : Exa Z Z.heap rB "com/example/oridune/oridune/core/Endian") (N_L : Fld Z Z.heap rL "com/example/oridune/oridune/core/Endian" "optionName" "Ljava/lang/String;" (.ref sL)) (N_B : Fld Z Z.heap rB "com/example/oridune/oridune/core/Endian" "optionName" "Ljava/lang/String;" (.ref sB)) (E_sL : Exa Z Z.heap sL "java/lang/String") (E_sB : Exa Z Z.heap sB "java/lang/String") (C_L : Fld Z Z.heap sL "java/lang/String" "coder" "B" (.int (0 : Int32))) (C_B : Fld Z Z.heap sB "java/lang/String" "coder" "B" (.int (0 : Int32))) (V_L : Fld Z Z.heap sL "java/lang/String" "value" "[B" (.ref bL)) (V_B : Fld Z Z.heap sB "java/lang/String" "value" "[B" (.ref bB)) (A_L : Ary Z Z.heap bL kL .byte [(.int (108 : Int32)), (.int (105 : Int32)), (.int (116 : Int32)), (.int (116 : Int32)), (.int (108 : Int32)), (.int (101 : Int32))]) (A_B : Ary Z Z.heap bB kB .byte [(.int (98 : Int32)), (.int (105 : Int32)), (.int (103 : Int32))]) (nLB : ¬ (.ref sL : Value) = (.ref sB : Value)) (SCs : Sta Z Z.heap "java/lang/String" "COMPACT_STRINGS" "Z" (.int ic)) (hic : ¬ ic = (0 : Int32)) (O0 : Old Z n0 h0) :
    Con l Z (⟨"com/example/oridune/oridune/core/Endian", "values", "()[Lcom/example/oridune/oridune/core/Endian;"⟩ : MethodName) prog_32_method_1_code 0 (some (.array (.object "com/example/oridune/oridune/core/Endian"))) ws ({ frames := 1, cells := 1, slots := 2, locals := 14 } : Room) #[] h0 (({ frames := 1, cells := 1, slots := 2, locals := 14 } : Room).cells) (({ frames := 1, cells := 1, slots := 2, locals := 14 } : Room).slots) (Q_rmVals Z rL rB rV kV sL sB bL bB kL kB ic h0 n0) := by
  refine Con.of (plainFor_of_name pn3) ?_
  intro p e s m below meth c s₁ hx hby hml hown hnm hret hlk hZ X0 e0
  have N0 := Fr.nil n0
  refine goE (L := #[]) (ef17 m ) ?_
  refine gGetS X0 hx hZ hown (hw _ (List.mem_of_getElem? (i := 39) rfl)) Via.refl e0 (Sta.ext O0.2 S_V) (hb hby d8_0) (q := 3) rfl (fun T1 X1 e1 => ?_)
  refine gClone X1 hx hZ hown (hw _ (List.mem_of_getElem? (i := 41) rfl)) (hw _ (List.mem_of_getElem? (i := 42) rfl)) (hw _ (List.mem_of_getElem? (i := 46) rfl)) (hw _ (List.mem_of_getElem? (i := 44) rfl)) (hw _ (List.mem_of_getElem? (i := 45) rfl)) (hw _ (List.mem_of_getElem? (i := 47) rfl)) e1 (Ary.ext O0.2 A_V) (Exa.ext O0.2 E_V) (by intro v hv; simp only [List.mem_cons, List.not_mem_nil, or_false] at hv; rcases hv with rfl | rfl <;> rfl) (by rw [hml]; rfl) (hb hby d8_3) (q := 6) rfl (by decide) (W := 0) (cap := 2) (Nat.le_of_eq rfl) (by decide) (Nat.le_of_eq rfl) (by decide) (by decide) (fun T2 h2 a2 X2 e2 g2 E2 B2 C2 => ?_)
  have O3 := O0.ext E2
  have ge_a2 : h0.size ≤ a2 := by rw [g2]; exact (Keep.refl h0 []).1
  have K4 := (Keep.refl h0 []).ext E2
  have le_a2 : n0 ≤ a2 := by rw [g2]; exact Z0
  have Z5 := Nat.le_trans Z0 E2.1
  refine gCastY X2 hx hZ hown (hw _ (List.mem_of_getElem? (i := 50) rfl)) e2 (Ins.self C2) (hb hby d8_6) (q := 9) rfl (fun T6 X6 e6 => ?_)
  exact gRetA X6 hx hlk hret rfl rfl (hb hby d8_9) (by decide) (by decide) (by rw [e6]; exact ⟨_, rfl, N0, K4, B2⟩)
theorem d7_0 : decode prog_32_method_4_code 0 = .ok (.invokestatic 40, 3) := by decide +kernel
theorem d7_3 : decode prog_32_method_4_code 3 = .ok (.astore_n 1, 1) := by decide +kernel
theorem d7_4 : decode prog_32_method_4_code 4 = .ok (.aload_n 1, 1) := by decide +kernel
theorem d7_5 : decode prog_32_method_4_code 5 = .ok (.arraylength, 1) := by decide +kernel
theorem d7_6 : decode prog_32_method_4_code 6 = .ok (.istore_n 2, 1) := by decide +kernel
theorem d7_7 : decode prog_32_method_4_code 7 = .ok (.iconst 0, 1) := by decide +kernel
theorem d7_8 : decode prog_32_method_4_code 8 = .ok (.istore_n 3, 1) := by decide +kernel
theorem d7_9 : decode prog_32_method_4_code 9 = .ok (.iload_n 3, 1) := by decide +kernel
theorem d7_10 : decode prog_32_method_4_code 10 = .ok (.iload_n 2, 1) := by decide +kernel
theorem d7_11 : decode prog_32_method_4_code 11 = .ok (.if_icmp .ge 29, 3) := by decide +kernel
theorem d7_14 : decode prog_32_method_4_code 14 = .ok (.aload_n 1, 1) := by decide +kernel
theorem d7_15 : decode prog_32_method_4_code 15 = .ok (.iload_n 3, 1) := by decide +kernel
theorem d7_16 : decode prog_32_method_4_code 16 = .ok (.aaload, 1) := by decide +kernel
theorem d7_17 : decode prog_32_method_4_code 17 = .ok (.astore 4, 2) := by decide +kernel
theorem d7_19 : decode prog_32_method_4_code 19 = .ok (.aload 4, 2) := by decide +kernel
theorem d7_21 : decode prog_32_method_4_code 21 = .ok (.getfield 29, 3) := by decide +kernel
theorem d7_24 : decode prog_32_method_4_code 24 = .ok (.aload_n 0, 1) := by decide +kernel
theorem d7_25 : decode prog_32_method_4_code 25 = .ok (.invokevirtual 44, 3) := by decide +kernel
theorem d7_28 : decode prog_32_method_4_code 28 = .ok (.ifCond .eq 6, 3) := by decide +kernel
theorem d7_31 : decode prog_32_method_4_code 31 = .ok (.aload 4, 2) := by decide +kernel
theorem d7_33 : decode prog_32_method_4_code 33 = .ok (.areturn, 1) := by decide +kernel
theorem d7_34 : decode prog_32_method_4_code 34 = .ok (.iinc 3 1, 3) := by decide +kernel
theorem d7_37 : decode prog_32_method_4_code 37 = .ok (.goto (-28), 3) := by decide +kernel
theorem d7_40 : decode prog_32_method_4_code 40 = .ok (.new 50, 3) := by decide +kernel
theorem d7_43 : decode prog_32_method_4_code 43 = .ok (.dup, 1) := by decide +kernel
theorem d7_44 : decode prog_32_method_4_code 44 = .ok (.aload_n 0, 1) := by decide +kernel
theorem d7_45 : decode prog_32_method_4_code 45 = .ok (.invokedynamic 52, 5) := by decide +kernel
theorem d7_50 : decode prog_32_method_4_code 50 = .ok (.invokespecial 56, 3) := by decide +kernel
theorem d7_53 : decode prog_32_method_4_code 53 = .ok (.athrow, 1) := by decide +kernel
theorem ef18 (m : MethodId) (x0 : Addr) : entryFrame m #[(.ref x0)] 5 = mkF m 0 #[.val (.ref x0), .unset, .unset, .unset, .unset] [] := by first | (simp [entryFrame, mkF, argsToLocals, Value.category]; done) | rfl
def Q_rmNmB (Z : State) (rL : Addr) (rB : Addr) (rV : Addr) (kV : ClassId) (sL : Addr) (sB : Addr) (bL : Addr) (bB : Addr) (kL : ClassId) (kB : ClassId) (ic : Int32) (nm : Addr) (bx : Addr) (kx : ClassId) (h0 : Heap) (n0 : Nat) (v : Option Value) (h : Heap) (L : List Loc) : Prop := v = some (.ref rB) ∧ Fr n0 L ∧ Keep h0 h []
theorem pd5 : parseMethodDescriptor "()[Lcom/example/oridune/oridune/core/Endian;" = some ⟨[], some (.array (.object "com/example/oridune/oridune/core/Endian"))⟩ := by decide +kernel
theorem pd6 : parseMethodDescriptor "(Ljava/lang/Object;)Z" = some ⟨[.object "java/lang/Object"], some (.boolean)⟩ := by decide +kernel
set_option maxRecDepth 65536 in
set_option maxHeartbeats 40000000 in
theorem rmNmB (l : Launch) (Z : State) (a0 : Array Value) (hw : ∀ d ∈ tables_1, d.before a0 Z = true) (ws : List Jvm.Cond) (rL : Addr) (rB : Addr) (rV : Addr) (kV : ClassId) (sL : Addr) (sB : Addr) (bL : Addr) (bB : Addr) (kL : ClassId) (kB : ClassId) (ic : Int32) (nm : Addr) (bx : Addr) (kx : ClassId) (h0 : Heap) (n0 : Nat) (Z0 : n0 ≤ h0.size) (S_L : Sta Z Z.heap "com/example/oridune/oridune/core/Endian" "LITTLE" "Lcom/example/oridune/oridune/core/Endian;" (.ref rL)) (S_B : Sta Z Z.heap "com/example/oridune/oridune/core/Endian" "BIG" "Lcom/example/oridune/oridune/core/Endian;" (.ref rB)) (S_V : Sta Z Z.heap "com/example/oridune/oridune/core/Endian" "$VALUES" "[Lcom/example/oridune/oridune/core/Endian;" (.ref rV)) (E_V : Exa Z Z.heap rV "[Lcom/example/oridune/oridune/core/Endian;") (A_V : Ary Z Z.heap rV kV (.object "com/example/oridune/oridune/core/Endian") [.ref rL, .ref rB]) (E_L : Exa Z Z.heap rL "com/example/oridune/oridune/core/Endian") (E_B : Exa Z Z.heap rB "com/example/oridune/oridune/core/Endian") (N_L : Fld Z Z.heap rL "com/example/oridune/oridune/core/Endian" "optionName" "Ljava/lang/String;" (.ref sL)) (N_B : Fld Z Z.heap rB "com/example/oridune/oridune/core/Endian" "optionName" "Ljava/lang/String;" (.ref sB)) (E_sL : Exa Z Z.heap sL "java/lang/String") (E_sB : Exa Z Z.heap sB "java/lang/String") (C_L : Fld Z Z.heap sL "java/lang/String" "coder" "B" (.int (0 : Int32))) (C_B : Fld Z Z.heap sB "java/lang/String" "coder" "B" (.int (0 : Int32))) (V_L : Fld Z Z.heap sL "java/lang/String" "value" "[B" (.ref bL)) (V_B : Fld Z Z.heap sB "java/lang/String" "value" "[B" (.ref bB)) (A_L : Ary Z Z.heap bL kL .byte [(.int (108 : Int32)), (.int (105 : Int32)), (.int (116 : Int32)), (.int (116 : Int32)), (.int (108 : Int32)), (.int (101 : Int32))]) (A_B : Ary Z Z.heap bB kB .byte [(.int (98 : Int32)), (.int (105 : Int32)), (.int (103 : Int32))]) (nLB : ¬ (.ref sL : Value) = (.ref sB : Value)) (SCs : Sta Z Z.heap "java/lang/String" "COMPACT_STRINGS" "Z" (.int ic)) (hic : ¬ ic = (0 : Int32)) (O0 : Old Z n0 h0) (NV : Fld Z h0 nm "java/lang/String" "value" "[B" (.ref bx)) (NC : Fld Z h0 nm "java/lang/String" "coder" "B" (.int (0 : Int32))) (NE_ : Exa Z h0 nm "java/lang/String") (NA : Ary Z h0 bx kx .byte [(.int (98 : Int32)), (.int (105 : Int32)), (.int (103 : Int32))]) (nsL : sL ≠ nm) (nsB : sB ≠ nm) :
    Con l Z (⟨"com/example/oridune/oridune/core/Endian", "named", "(Ljava/lang/String;)Lcom/example/oridune/oridune/core/Endian;"⟩ : MethodName) prog_32_method_4_code 5 (some (.object "com/example/oridune/oridune/core/Endian")) ws ({ frames := 2, cells := 1, slots := 2, locals := 30 } : Room) #[(.ref nm)] h0 (({ frames := 2, cells := 1, slots := 2, locals := 30 } : Room).cells) (({ frames := 2, cells := 1, slots := 2, locals := 30 } : Room).slots) (Q_rmNmB Z rL rB rV kV sL sB bL bB kL kB ic nm bx kx h0 n0) := by
  refine Con.of (plainFor_of_name pn3) ?_
  intro p e s m below meth c s₁ hx hby hml hown hnm hret hlk hZ X0 e0
  have N0 := Fr.nil n0
  refine goE (L := #[.val (.ref nm), .unset, .unset, .unset, .unset]) (ef18 m nm) ?_
  refine gCallS X0 hx hZ hown (hw _ (List.mem_of_getElem? (i := 36) rfl)) (hw _ (List.mem_of_getElem? (i := 37) rfl)) (hw _ (List.mem_of_getElem? (i := 31) rfl)) (hw _ (List.mem_of_getElem? (i := 38) rfl)) (by decide) (rmVals l Z a0 hw [] rL rB rV kV sL sB bL bB kL kB ic h0 n0 Z0 S_L S_B S_V E_V A_V E_L E_B N_L N_B E_sL E_sB C_L C_B V_L V_B A_L A_B nLB SCs hic O0) (W := 0) (by decide) (by decide) e0 (by rw [hml]; rfl) [] (lenOf pd5 rfl) rfl (S := []) rfl (Nat.le_of_eq rfl) (hb hby d7_0) (q := 3) rfl (by decide) (by decide) (fun r1 T1 M1 X1 q1 => ?_)
  obtain ⟨rv, rfl, M1n, K1, AV⟩ := q1
  have N2 := Fr.app N0 M1n
  have F3 := Fld.keep NV K1 nin0
  have F4 := Fld.keep NC K1 nin0
  have E5 := Exa.keep NE_ K1
  have A6 := Ary.keep NA K1 nin0
  have O7 := O0.keep K1 all0
  have Z8 := Nat.le_trans Z0 K1.1
  have KK9 := (Keep.refl h0 []).trans K1 all0
  dsimp only [Option.toList, List.cons_append, List.nil_append]
  refine gAstoreN X1 hx (hb hby d7_3) (q := 4) rfl rfl (L' := #[.val (.ref nm), .val (.ref rv), .unset, .unset, .unset]) rfl ?_
  refine gAloadN X1 hx (hb hby d7_4) (q := 5) rfl rfl rfl ?_
  refine gLen X1 hx hZ rfl AV (n := (2 : Int32)) rfl (hb hby d7_5) (q := 6) rfl ?_
  refine gIstoreN X1 hx (hb hby d7_6) (q := 7) rfl (L' := #[.val (.ref nm), .val (.ref rv), .val (.int (2 : Int32)), .unset, .unset]) rfl ?_
  refine gIconst X1 hx (0 : Int32) (hb hby d7_7) (q := 8) rfl (by decide) ?_
  refine gIstoreN X1 hx (hb hby d7_8) (q := 9) rfl (L' := #[.val (.ref nm), .val (.ref rv), .val (.int (2 : Int32)), .val (.int (0 : Int32)), .unset]) rfl ?_
  refine gIloadN X1 hx (hb hby d7_9) (q := 10) rfl rfl ?_
  refine gIloadN X1 hx (hb hby d7_10) (q := 11) rfl rfl ?_
  refine gIcmpN X1 hx (hb hby d7_11) (q := 14) rfl (XT.ii_ge_f (by decide)) ?_
  refine gAloadN X1 hx (hb hby d7_14) (q := 15) rfl rfl rfl ?_
  refine gIloadN X1 hx (hb hby d7_15) (q := 16) rfl rfl ?_
  refine gAaload X1 hx hZ rfl AV rfl (hb hby d7_16) (q := 17) rfl (show ¬ (((0 : Int32) : Int32) < 0 ∨ 2 ≤ ((0 : Int32) : Int32).toNatClampNeg) by decide) (v := .ref rL) rfl ?_
  refine gAstore X1 hx (hb hby d7_17) (q := 19) rfl rfl (L' := #[.val (.ref nm), .val (.ref rv), .val (.int (2 : Int32)), .val (.int (0 : Int32)), .val (.ref rL)]) rfl ?_
  refine gAload X1 hx (hb hby d7_19) (q := 21) rfl rfl rfl ?_
  refine gGetF X1 hx hZ (host := "") hown (Or.inl (hw _ (List.mem_of_getElem? (i := 52) rfl))) Via.refl rfl (Fld.ext O7.2 N_L) (hb hby d7_21) (q := 24) rfl (fun T10 X10 e10 => ?_)
  refine gAloadN X10 hx (hb hby d7_24) (q := 25) rfl rfl rfl ?_
  refine gCallV X10 hx hZ hown (hw _ (List.mem_of_getElem? (i := 54) rfl)) (hw _ (List.mem_of_getElem? (i := 55) rfl)) (hw _ (List.mem_of_getElem? (i := 57) rfl)) (hw _ (List.mem_of_getElem? (i := 56) rfl)) (hw _ (List.mem_of_getElem? (i := 3) rfl)) (hw _ (List.mem_of_getElem? (i := 58) rfl)) (notFace_of_selects (args := #[]) (mvT hZ (hw _ (List.mem_of_getElem? (i := 57) rfl)))) (by decide) (rmEqLB l Z a0 hw [] sL nm bL bx kL kx ic T1.heap n0 Z8 (Fld.ext O7.2 V_L) (Fld.ext O7.2 C_L) F3 F4 E5 (Ary.ext O7.2 A_L) A6 (fun z => nsL (Value.ref.inj z)) SCs hic O7) (W := 0) (by decide) (by decide) e10 (by rw [hml]; rfl) (Exa.ext O7.2 E_sL) [(.ref nm)] (lenOf pd6 rfl) rfl (S := []) rfl (Nat.le_of_eq rfl) (hb hby d7_25) (q := 28) rfl (by decide) (by decide) (fun r11 T11 M11 X11 q11 => ?_)
  obtain ⟨rfl, M11n, e11⟩ := q11
  have N12 := Fr.app N2 M11n
  dsimp only [Option.toList, List.cons_append, List.nil_append]
  refine gIfY X11 hx (hb hby d7_28) (q := 34) (by decide) (by decide) (XT.i0_eq_t (by decide)) ?_
  refine gIinc X11 hx (1 : Int32) (hb hby d7_34) (q := 37) rfl (by decide) rfl (L' := #[.val (.ref nm), .val (.ref rv), .val (.int (2 : Int32)), .val (.int (1 : Int32)), .val (.ref rL)]) rfl ?_
  refine gGoto X11 hx (hb hby d7_37) (q := 9) (by decide) (by decide) ?_
  refine gIloadN X11 hx (hb hby d7_9) (q := 10) rfl rfl ?_
  refine gIloadN X11 hx (hb hby d7_10) (q := 11) rfl rfl ?_
  refine gIcmpN X11 hx (hb hby d7_11) (q := 14) rfl (XT.ii_ge_f (by decide)) ?_
  refine gAloadN X11 hx (hb hby d7_14) (q := 15) rfl rfl rfl ?_
  refine gIloadN X11 hx (hb hby d7_15) (q := 16) rfl rfl ?_
  refine gAaload X11 hx hZ e11 AV rfl (hb hby d7_16) (q := 17) rfl (show ¬ (((1 : Int32) : Int32) < 0 ∨ 2 ≤ ((1 : Int32) : Int32).toNatClampNeg) by decide) (v := .ref rB) rfl ?_
  refine gAstore X11 hx (hb hby d7_17) (q := 19) rfl rfl (L' := #[.val (.ref nm), .val (.ref rv), .val (.int (2 : Int32)), .val (.int (1 : Int32)), .val (.ref rB)]) rfl ?_
  refine gAload X11 hx (hb hby d7_19) (q := 21) rfl rfl rfl ?_
  refine gGetF X11 hx hZ (host := "") hown (Or.inl (hw _ (List.mem_of_getElem? (i := 52) rfl))) Via.refl e11 (Fld.ext O7.2 N_B) (hb hby d7_21) (q := 24) rfl (fun T13 X13 e13 => ?_)
  refine gAloadN X13 hx (hb hby d7_24) (q := 25) rfl rfl rfl ?_
  refine gCallV X13 hx hZ hown (hw _ (List.mem_of_getElem? (i := 54) rfl)) (hw _ (List.mem_of_getElem? (i := 55) rfl)) (hw _ (List.mem_of_getElem? (i := 57) rfl)) (hw _ (List.mem_of_getElem? (i := 56) rfl)) (hw _ (List.mem_of_getElem? (i := 3) rfl)) (hw _ (List.mem_of_getElem? (i := 58) rfl)) (notFace_of_selects (args := #[]) (mvT hZ (hw _ (List.mem_of_getElem? (i := 57) rfl)))) (by decide) (rmEqBB l Z a0 hw [] sB nm bB bx kB kx ic T1.heap n0 Z8 (Fld.ext O7.2 V_B) (Fld.ext O7.2 C_B) F3 F4 E5 (Ary.ext O7.2 A_B) A6 (fun z => nsB (Value.ref.inj z)) SCs hic O7) (W := 0) (by decide) (by decide) e13 (by rw [hml]; rfl) (Exa.ext O7.2 E_sB) [(.ref nm)] (lenOf pd6 rfl) rfl (S := []) rfl (Nat.le_of_eq rfl) (hb hby d7_25) (q := 28) rfl (by decide) (by decide) (fun r14 T14 M14 X14 q14 => ?_)
  obtain ⟨rfl, M14n, e14⟩ := q14
  have N15 := Fr.app N12 M14n
  dsimp only [Option.toList, List.cons_append, List.nil_append]
  refine gIfN X14 hx (hb hby d7_28) (q := 31) rfl (XT.i0_eq_f (by decide)) ?_
  refine gAload X14 hx (hb hby d7_31) (q := 33) rfl rfl rfl ?_
  exact gRetA X14 hx hlk hret rfl rfl (hb hby d7_33) (by decide) (by decide) (by rw [e14]; exact ⟨rfl, N15, KK9⟩)
theorem ef19 (m : MethodId) (x0 : Addr) : entryFrame m #[(.ref x0)] 5 = mkF m 0 #[.val (.ref x0), .unset, .unset, .unset, .unset] [] := by first | (simp [entryFrame, mkF, argsToLocals, Value.category]; done) | rfl
def Q_rmNmL (Z : State) (rL : Addr) (rB : Addr) (rV : Addr) (kV : ClassId) (sL : Addr) (sB : Addr) (bL : Addr) (bB : Addr) (kL : ClassId) (kB : ClassId) (ic : Int32) (nm : Addr) (bx : Addr) (kx : ClassId) (h0 : Heap) (n0 : Nat) (v : Option Value) (h : Heap) (L : List Loc) : Prop := v = some (.ref rL) ∧ Fr n0 L ∧ Keep h0 h []
set_option maxRecDepth 65536 in
set_option maxHeartbeats 40000000 in
theorem rmNmL (l : Launch) (Z : State) (a0 : Array Value) (hw : ∀ d ∈ tables_1, d.before a0 Z = true) (ws : List Jvm.Cond) (rL : Addr) (rB : Addr) (rV : Addr) (kV : ClassId) (sL : Addr) (sB : Addr) (bL : Addr) (bB : Addr) (kL : ClassId) (kB : ClassId) (ic : Int32) (nm : Addr) (bx : Addr) (kx : ClassId) (h0 : Heap) (n0 : Nat) (Z0 : n0 ≤ h0.size) (S_L : Sta Z Z.heap "com/example/oridune/oridune/core/Endian" "LITTLE" "Lcom/example/oridune/oridune/core/Endian;" (.ref rL)) (S_B : Sta Z Z.heap "com/example/oridune/oridune/core/Endian" "BIG" "Lcom/example/oridune/oridune/core/Endian;" (.ref rB)) (S_V : Sta Z Z.heap "com/example/oridune/oridune/core/Endian" "$VALUES" "[Lcom/example/oridune/oridune/core/Endian;" (.ref rV)) (E_V : Exa Z Z.heap rV "[Lcom/example/oridune/oridune/core/Endian;") (A_V : Ary Z Z.heap rV kV (.object "com/example/oridune/oridune/core/Endian") [.ref rL, .ref rB]) (E_L : Exa Z Z.heap rL "com/example/oridune/oridune/core/Endian") (E_B : Exa Z Z.heap rB "com/example/oridune/oridune/core/Endian") (N_L : Fld Z Z.heap rL "com/example/oridune/oridune/core/Endian" "optionName" "Ljava/lang/String;" (.ref sL)) (N_B : Fld Z Z.heap rB "com/example/oridune/oridune/core/Endian" "optionName" "Ljava/lang/String;" (.ref sB)) (E_sL : Exa Z Z.heap sL "java/lang/String") (E_sB : Exa Z Z.heap sB "java/lang/String") (C_L : Fld Z Z.heap sL "java/lang/String" "coder" "B" (.int (0 : Int32))) (C_B : Fld Z Z.heap sB "java/lang/String" "coder" "B" (.int (0 : Int32))) (V_L : Fld Z Z.heap sL "java/lang/String" "value" "[B" (.ref bL)) (V_B : Fld Z Z.heap sB "java/lang/String" "value" "[B" (.ref bB)) (A_L : Ary Z Z.heap bL kL .byte [(.int (108 : Int32)), (.int (105 : Int32)), (.int (116 : Int32)), (.int (116 : Int32)), (.int (108 : Int32)), (.int (101 : Int32))]) (A_B : Ary Z Z.heap bB kB .byte [(.int (98 : Int32)), (.int (105 : Int32)), (.int (103 : Int32))]) (nLB : ¬ (.ref sL : Value) = (.ref sB : Value)) (SCs : Sta Z Z.heap "java/lang/String" "COMPACT_STRINGS" "Z" (.int ic)) (hic : ¬ ic = (0 : Int32)) (O0 : Old Z n0 h0) (NV : Fld Z h0 nm "java/lang/String" "value" "[B" (.ref bx)) (NC : Fld Z h0 nm "java/lang/String" "coder" "B" (.int (0 : Int32))) (NE_ : Exa Z h0 nm "java/lang/String") (NA : Ary Z h0 bx kx .byte [(.int (108 : Int32)), (.int (105 : Int32)), (.int (116 : Int32)), (.int (116 : Int32)), (.int (108 : Int32)), (.int (101 : Int32))]) (nsL : sL ≠ nm) (nsB : sB ≠ nm) :
    Con l Z (⟨"com/example/oridune/oridune/core/Endian", "named", "(Ljava/lang/String;)Lcom/example/oridune/oridune/core/Endian;"⟩ : MethodName) prog_32_method_4_code 5 (some (.object "com/example/oridune/oridune/core/Endian")) ws ({ frames := 2, cells := 1, slots := 2, locals := 30 } : Room) #[(.ref nm)] h0 (({ frames := 2, cells := 1, slots := 2, locals := 30 } : Room).cells) (({ frames := 2, cells := 1, slots := 2, locals := 30 } : Room).slots) (Q_rmNmL Z rL rB rV kV sL sB bL bB kL kB ic nm bx kx h0 n0) := by
  refine Con.of (plainFor_of_name pn3) ?_
  intro p e s m below meth c s₁ hx hby hml hown hnm hret hlk hZ X0 e0
  have N0 := Fr.nil n0
  refine goE (L := #[.val (.ref nm), .unset, .unset, .unset, .unset]) (ef19 m nm) ?_
  refine gCallS X0 hx hZ hown (hw _ (List.mem_of_getElem? (i := 36) rfl)) (hw _ (List.mem_of_getElem? (i := 37) rfl)) (hw _ (List.mem_of_getElem? (i := 31) rfl)) (hw _ (List.mem_of_getElem? (i := 38) rfl)) (by decide) (rmVals l Z a0 hw [] rL rB rV kV sL sB bL bB kL kB ic h0 n0 Z0 S_L S_B S_V E_V A_V E_L E_B N_L N_B E_sL E_sB C_L C_B V_L V_B A_L A_B nLB SCs hic O0) (W := 0) (by decide) (by decide) e0 (by rw [hml]; rfl) [] (lenOf pd5 rfl) rfl (S := []) rfl (Nat.le_of_eq rfl) (hb hby d7_0) (q := 3) rfl (by decide) (by decide) (fun r1 T1 M1 X1 q1 => ?_)
  obtain ⟨rv, rfl, M1n, K1, AV⟩ := q1
  have N2 := Fr.app N0 M1n
  have F3 := Fld.keep NV K1 nin0
  have F4 := Fld.keep NC K1 nin0
  have E5 := Exa.keep NE_ K1
  have A6 := Ary.keep NA K1 nin0
  have O7 := O0.keep K1 all0
  have Z8 := Nat.le_trans Z0 K1.1
  have KK9 := (Keep.refl h0 []).trans K1 all0
  dsimp only [Option.toList, List.cons_append, List.nil_append]
  refine gAstoreN X1 hx (hb hby d7_3) (q := 4) rfl rfl (L' := #[.val (.ref nm), .val (.ref rv), .unset, .unset, .unset]) rfl ?_
  refine gAloadN X1 hx (hb hby d7_4) (q := 5) rfl rfl rfl ?_
  refine gLen X1 hx hZ rfl AV (n := (2 : Int32)) rfl (hb hby d7_5) (q := 6) rfl ?_
  refine gIstoreN X1 hx (hb hby d7_6) (q := 7) rfl (L' := #[.val (.ref nm), .val (.ref rv), .val (.int (2 : Int32)), .unset, .unset]) rfl ?_
  refine gIconst X1 hx (0 : Int32) (hb hby d7_7) (q := 8) rfl (by decide) ?_
  refine gIstoreN X1 hx (hb hby d7_8) (q := 9) rfl (L' := #[.val (.ref nm), .val (.ref rv), .val (.int (2 : Int32)), .val (.int (0 : Int32)), .unset]) rfl ?_
  refine gIloadN X1 hx (hb hby d7_9) (q := 10) rfl rfl ?_
  refine gIloadN X1 hx (hb hby d7_10) (q := 11) rfl rfl ?_
  refine gIcmpN X1 hx (hb hby d7_11) (q := 14) rfl (XT.ii_ge_f (by decide)) ?_
  refine gAloadN X1 hx (hb hby d7_14) (q := 15) rfl rfl rfl ?_
  refine gIloadN X1 hx (hb hby d7_15) (q := 16) rfl rfl ?_
  refine gAaload X1 hx hZ rfl AV rfl (hb hby d7_16) (q := 17) rfl (show ¬ (((0 : Int32) : Int32) < 0 ∨ 2 ≤ ((0 : Int32) : Int32).toNatClampNeg) by decide) (v := .ref rL) rfl ?_
  refine gAstore X1 hx (hb hby d7_17) (q := 19) rfl rfl (L' := #[.val (.ref nm), .val (.ref rv), .val (.int (2 : Int32)), .val (.int (0 : Int32)), .val (.ref rL)]) rfl ?_
  refine gAload X1 hx (hb hby d7_19) (q := 21) rfl rfl rfl ?_
  refine gGetF X1 hx hZ (host := "") hown (Or.inl (hw _ (List.mem_of_getElem? (i := 52) rfl))) Via.refl rfl (Fld.ext O7.2 N_L) (hb hby d7_21) (q := 24) rfl (fun T10 X10 e10 => ?_)
  refine gAloadN X10 hx (hb hby d7_24) (q := 25) rfl rfl rfl ?_
  refine gCallV X10 hx hZ hown (hw _ (List.mem_of_getElem? (i := 54) rfl)) (hw _ (List.mem_of_getElem? (i := 55) rfl)) (hw _ (List.mem_of_getElem? (i := 57) rfl)) (hw _ (List.mem_of_getElem? (i := 56) rfl)) (hw _ (List.mem_of_getElem? (i := 3) rfl)) (hw _ (List.mem_of_getElem? (i := 58) rfl)) (notFace_of_selects (args := #[]) (mvT hZ (hw _ (List.mem_of_getElem? (i := 57) rfl)))) (by decide) (rmEqLL l Z a0 hw [] sL nm bL bx kL kx ic T1.heap n0 Z8 (Fld.ext O7.2 V_L) (Fld.ext O7.2 C_L) F3 F4 E5 (Ary.ext O7.2 A_L) A6 (fun z => nsL (Value.ref.inj z)) SCs hic O7) (W := 0) (by decide) (by decide) e10 (by rw [hml]; rfl) (Exa.ext O7.2 E_sL) [(.ref nm)] (lenOf pd6 rfl) rfl (S := []) rfl (Nat.le_of_eq rfl) (hb hby d7_25) (q := 28) rfl (by decide) (by decide) (fun r11 T11 M11 X11 q11 => ?_)
  obtain ⟨rfl, M11n, e11⟩ := q11
  have N12 := Fr.app N2 M11n
  dsimp only [Option.toList, List.cons_append, List.nil_append]
  refine gIfN X11 hx (hb hby d7_28) (q := 31) rfl (XT.i0_eq_f (by decide)) ?_
  refine gAload X11 hx (hb hby d7_31) (q := 33) rfl rfl rfl ?_
  exact gRetA X11 hx hlk hret rfl rfl (hb hby d7_33) (by decide) (by decide) (by rw [e11]; exact ⟨rfl, N12, KK9⟩)
theorem ef20 (m : MethodId) (x0 : Addr) : entryFrame m #[(.ref x0)] 5 = mkF m 0 #[.val (.ref x0), .unset, .unset, .unset, .unset] [] := by first | (simp [entryFrame, mkF, argsToLocals, Value.category]; done) | rfl
def Q_rmNmB2 (Z : State) (rL : Addr) (rB : Addr) (rV : Addr) (kV : ClassId) (sL : Addr) (sB : Addr) (bL : Addr) (bB : Addr) (kL : ClassId) (kB : ClassId) (ic : Int32) (h0 : Heap) (n0 : Nat) (v : Option Value) (h : Heap) (L : List Loc) : Prop := v = some (.ref rB) ∧ Fr n0 L ∧ Keep h0 h []
set_option maxRecDepth 65536 in
set_option maxHeartbeats 40000000 in
theorem rmNmB2 (l : Launch) (Z : State) (a0 : Array Value) (hw : ∀ d ∈ tables_1, d.before a0 Z = true) (ws : List Jvm.Cond) (rL : Addr) (rB : Addr) (rV : Addr) (kV : ClassId) (sL : Addr) (sB : Addr) (bL : Addr) (bB : Addr) (kL : ClassId) (kB : ClassId) (ic : Int32) (h0 : Heap) (n0 : Nat) (Z0 : n0 ≤ h0.size) (S_L : Sta Z Z.heap "com/example/oridune/oridune/core/Endian" "LITTLE" "Lcom/example/oridune/oridune/core/Endian;" (.ref rL)) (S_B : Sta Z Z.heap "com/example/oridune/oridune/core/Endian" "BIG" "Lcom/example/oridune/oridune/core/Endian;" (.ref rB)) (S_V : Sta Z Z.heap "com/example/oridune/oridune/core/Endian" "$VALUES" "[Lcom/example/oridune/oridune/core/Endian;" (.ref rV)) (E_V : Exa Z Z.heap rV "[Lcom/example/oridune/oridune/core/Endian;") (A_V : Ary Z Z.heap rV kV (.object "com/example/oridune/oridune/core/Endian") [.ref rL, .ref rB]) (E_L : Exa Z Z.heap rL "com/example/oridune/oridune/core/Endian") (E_B : Exa Z Z.heap rB "com/example/oridune/oridune/core/Endian") (N_L : Fld Z Z.heap rL "com/example/oridune/oridune/core/Endian" "optionName" "Ljava/lang/String;" (.ref sL)) (N_B : Fld Z Z.heap rB "com/example/oridune/oridune/core/Endian" "optionName" "Ljava/lang/String;" (.ref sB)) (E_sL : Exa Z Z.heap sL "java/lang/String") (E_sB : Exa Z Z.heap sB "java/lang/String") (C_L : Fld Z Z.heap sL "java/lang/String" "coder" "B" (.int (0 : Int32))) (C_B : Fld Z Z.heap sB "java/lang/String" "coder" "B" (.int (0 : Int32))) (V_L : Fld Z Z.heap sL "java/lang/String" "value" "[B" (.ref bL)) (V_B : Fld Z Z.heap sB "java/lang/String" "value" "[B" (.ref bB)) (A_L : Ary Z Z.heap bL kL .byte [(.int (108 : Int32)), (.int (105 : Int32)), (.int (116 : Int32)), (.int (116 : Int32)), (.int (108 : Int32)), (.int (101 : Int32))]) (A_B : Ary Z Z.heap bB kB .byte [(.int (98 : Int32)), (.int (105 : Int32)), (.int (103 : Int32))]) (nLB : ¬ (.ref sL : Value) = (.ref sB : Value)) (SCs : Sta Z Z.heap "java/lang/String" "COMPACT_STRINGS" "Z" (.int ic)) (hic : ¬ ic = (0 : Int32)) (O0 : Old Z n0 h0) :
    Con l Z (⟨"com/example/oridune/oridune/core/Endian", "named", "(Ljava/lang/String;)Lcom/example/oridune/oridune/core/Endian;"⟩ : MethodName) prog_32_method_4_code 5 (some (.object "com/example/oridune/oridune/core/Endian")) ws ({ frames := 2, cells := 1, slots := 2, locals := 30 } : Room) #[(.ref sB)] h0 (({ frames := 2, cells := 1, slots := 2, locals := 30 } : Room).cells) (({ frames := 2, cells := 1, slots := 2, locals := 30 } : Room).slots) (Q_rmNmB2 Z rL rB rV kV sL sB bL bB kL kB ic h0 n0) := by
  refine Con.of (plainFor_of_name pn3) ?_
  intro p e s m below meth c s₁ hx hby hml hown hnm hret hlk hZ X0 e0
  have N0 := Fr.nil n0
  refine goE (L := #[.val (.ref sB), .unset, .unset, .unset, .unset]) (ef20 m sB) ?_
  refine gCallS X0 hx hZ hown (hw _ (List.mem_of_getElem? (i := 36) rfl)) (hw _ (List.mem_of_getElem? (i := 37) rfl)) (hw _ (List.mem_of_getElem? (i := 31) rfl)) (hw _ (List.mem_of_getElem? (i := 38) rfl)) (by decide) (rmVals l Z a0 hw [] rL rB rV kV sL sB bL bB kL kB ic h0 n0 Z0 S_L S_B S_V E_V A_V E_L E_B N_L N_B E_sL E_sB C_L C_B V_L V_B A_L A_B nLB SCs hic O0) (W := 0) (by decide) (by decide) e0 (by rw [hml]; rfl) [] (lenOf pd5 rfl) rfl (S := []) rfl (Nat.le_of_eq rfl) (hb hby d7_0) (q := 3) rfl (by decide) (by decide) (fun r1 T1 M1 X1 q1 => ?_)
  obtain ⟨rv, rfl, M1n, K1, AV⟩ := q1
  have N2 := Fr.app N0 M1n
  have O3 := O0.keep K1 all0
  have Z4 := Nat.le_trans Z0 K1.1
  have KK5 := (Keep.refl h0 []).trans K1 all0
  dsimp only [Option.toList, List.cons_append, List.nil_append]
  refine gAstoreN X1 hx (hb hby d7_3) (q := 4) rfl rfl (L' := #[.val (.ref sB), .val (.ref rv), .unset, .unset, .unset]) rfl ?_
  refine gAloadN X1 hx (hb hby d7_4) (q := 5) rfl rfl rfl ?_
  refine gLen X1 hx hZ rfl AV (n := (2 : Int32)) rfl (hb hby d7_5) (q := 6) rfl ?_
  refine gIstoreN X1 hx (hb hby d7_6) (q := 7) rfl (L' := #[.val (.ref sB), .val (.ref rv), .val (.int (2 : Int32)), .unset, .unset]) rfl ?_
  refine gIconst X1 hx (0 : Int32) (hb hby d7_7) (q := 8) rfl (by decide) ?_
  refine gIstoreN X1 hx (hb hby d7_8) (q := 9) rfl (L' := #[.val (.ref sB), .val (.ref rv), .val (.int (2 : Int32)), .val (.int (0 : Int32)), .unset]) rfl ?_
  refine gIloadN X1 hx (hb hby d7_9) (q := 10) rfl rfl ?_
  refine gIloadN X1 hx (hb hby d7_10) (q := 11) rfl rfl ?_
  refine gIcmpN X1 hx (hb hby d7_11) (q := 14) rfl (XT.ii_ge_f (by decide)) ?_
  refine gAloadN X1 hx (hb hby d7_14) (q := 15) rfl rfl rfl ?_
  refine gIloadN X1 hx (hb hby d7_15) (q := 16) rfl rfl ?_
  refine gAaload X1 hx hZ rfl AV rfl (hb hby d7_16) (q := 17) rfl (show ¬ (((0 : Int32) : Int32) < 0 ∨ 2 ≤ ((0 : Int32) : Int32).toNatClampNeg) by decide) (v := .ref rL) rfl ?_
  refine gAstore X1 hx (hb hby d7_17) (q := 19) rfl rfl (L' := #[.val (.ref sB), .val (.ref rv), .val (.int (2 : Int32)), .val (.int (0 : Int32)), .val (.ref rL)]) rfl ?_
  refine gAload X1 hx (hb hby d7_19) (q := 21) rfl rfl rfl ?_
  refine gGetF X1 hx hZ (host := "") hown (Or.inl (hw _ (List.mem_of_getElem? (i := 52) rfl))) Via.refl rfl (Fld.ext O3.2 N_L) (hb hby d7_21) (q := 24) rfl (fun T6 X6 e6 => ?_)
  refine gAloadN X6 hx (hb hby d7_24) (q := 25) rfl rfl rfl ?_
  refine gCallV X6 hx hZ hown (hw _ (List.mem_of_getElem? (i := 54) rfl)) (hw _ (List.mem_of_getElem? (i := 55) rfl)) (hw _ (List.mem_of_getElem? (i := 57) rfl)) (hw _ (List.mem_of_getElem? (i := 56) rfl)) (hw _ (List.mem_of_getElem? (i := 3) rfl)) (hw _ (List.mem_of_getElem? (i := 58) rfl)) (notFace_of_selects (args := #[]) (mvT hZ (hw _ (List.mem_of_getElem? (i := 57) rfl)))) (by decide) (rmEqLB l Z a0 hw [] sL sB bL bB kL kB ic T1.heap n0 Z4 (Fld.ext O3.2 V_L) (Fld.ext O3.2 C_L) (Fld.ext O3.2 V_B) (Fld.ext O3.2 C_B) (Exa.ext O3.2 E_sB) (Ary.ext O3.2 A_L) (Ary.ext O3.2 A_B) nLB SCs hic O3) (W := 0) (by decide) (by decide) e6 (by rw [hml]; rfl) (Exa.ext O3.2 E_sL) [(.ref sB)] (lenOf pd6 rfl) rfl (S := []) rfl (Nat.le_of_eq rfl) (hb hby d7_25) (q := 28) rfl (by decide) (by decide) (fun r7 T7 M7 X7 q7 => ?_)
  obtain ⟨rfl, M7n, e7⟩ := q7
  have N8 := Fr.app N2 M7n
  dsimp only [Option.toList, List.cons_append, List.nil_append]
  refine gIfY X7 hx (hb hby d7_28) (q := 34) (by decide) (by decide) (XT.i0_eq_t (by decide)) ?_
  refine gIinc X7 hx (1 : Int32) (hb hby d7_34) (q := 37) rfl (by decide) rfl (L' := #[.val (.ref sB), .val (.ref rv), .val (.int (2 : Int32)), .val (.int (1 : Int32)), .val (.ref rL)]) rfl ?_
  refine gGoto X7 hx (hb hby d7_37) (q := 9) (by decide) (by decide) ?_
  refine gIloadN X7 hx (hb hby d7_9) (q := 10) rfl rfl ?_
  refine gIloadN X7 hx (hb hby d7_10) (q := 11) rfl rfl ?_
  refine gIcmpN X7 hx (hb hby d7_11) (q := 14) rfl (XT.ii_ge_f (by decide)) ?_
  refine gAloadN X7 hx (hb hby d7_14) (q := 15) rfl rfl rfl ?_
  refine gIloadN X7 hx (hb hby d7_15) (q := 16) rfl rfl ?_
  refine gAaload X7 hx hZ e7 AV rfl (hb hby d7_16) (q := 17) rfl (show ¬ (((1 : Int32) : Int32) < 0 ∨ 2 ≤ ((1 : Int32) : Int32).toNatClampNeg) by decide) (v := .ref rB) rfl ?_
  refine gAstore X7 hx (hb hby d7_17) (q := 19) rfl rfl (L' := #[.val (.ref sB), .val (.ref rv), .val (.int (2 : Int32)), .val (.int (1 : Int32)), .val (.ref rB)]) rfl ?_
  refine gAload X7 hx (hb hby d7_19) (q := 21) rfl rfl rfl ?_
  refine gGetF X7 hx hZ (host := "") hown (Or.inl (hw _ (List.mem_of_getElem? (i := 52) rfl))) Via.refl e7 (Fld.ext O3.2 N_B) (hb hby d7_21) (q := 24) rfl (fun T9 X9 e9 => ?_)
  refine gAloadN X9 hx (hb hby d7_24) (q := 25) rfl rfl rfl ?_
  refine gCallV X9 hx hZ hown (hw _ (List.mem_of_getElem? (i := 54) rfl)) (hw _ (List.mem_of_getElem? (i := 55) rfl)) (hw _ (List.mem_of_getElem? (i := 57) rfl)) (hw _ (List.mem_of_getElem? (i := 56) rfl)) (hw _ (List.mem_of_getElem? (i := 3) rfl)) (hw _ (List.mem_of_getElem? (i := 58) rfl)) (notFace_of_selects (args := #[]) (mvT hZ (hw _ (List.mem_of_getElem? (i := 57) rfl)))) (by decide) (rmEqSame l Z a0 hw [] sB T1.heap n0 Z4) (W := 0) (by decide) (by decide) e9 (by rw [hml]; rfl) (Exa.ext O3.2 E_sB) [(.ref sB)] (lenOf pd6 rfl) rfl (S := []) rfl (Nat.le_of_eq rfl) (hb hby d7_25) (q := 28) rfl (by decide) (by decide) (fun r10 T10 M10 X10 q10 => ?_)
  obtain ⟨rfl, M10n, e10⟩ := q10
  have N11 := Fr.app N8 M10n
  dsimp only [Option.toList, List.cons_append, List.nil_append]
  refine gIfN X10 hx (hb hby d7_28) (q := 31) rfl (XT.i0_eq_f (by decide)) ?_
  refine gAload X10 hx (hb hby d7_31) (q := 33) rfl rfl rfl ?_
  exact gRetA X10 hx hlk hret rfl rfl (hb hby d7_33) (by decide) (by decide) (by rw [e10]; exact ⟨rfl, N11, KK5⟩)
theorem ef21 (m : MethodId) (x0 : Addr) : entryFrame m #[(.ref x0)] 5 = mkF m 0 #[.val (.ref x0), .unset, .unset, .unset, .unset] [] := by first | (simp [entryFrame, mkF, argsToLocals, Value.category]; done) | rfl
def Q_rmNmL2 (Z : State) (rL : Addr) (rB : Addr) (rV : Addr) (kV : ClassId) (sL : Addr) (sB : Addr) (bL : Addr) (bB : Addr) (kL : ClassId) (kB : ClassId) (ic : Int32) (h0 : Heap) (n0 : Nat) (v : Option Value) (h : Heap) (L : List Loc) : Prop := v = some (.ref rL) ∧ Fr n0 L ∧ Keep h0 h []
set_option maxRecDepth 65536 in
set_option maxHeartbeats 40000000 in
theorem rmNmL2 (l : Launch) (Z : State) (a0 : Array Value) (hw : ∀ d ∈ tables_1, d.before a0 Z = true) (ws : List Jvm.Cond) (rL : Addr) (rB : Addr) (rV : Addr) (kV : ClassId) (sL : Addr) (sB : Addr) (bL : Addr) (bB : Addr) (kL : ClassId) (kB : ClassId) (ic : Int32) (h0 : Heap) (n0 : Nat) (Z0 : n0 ≤ h0.size) (S_L : Sta Z Z.heap "com/example/oridune/oridune/core/Endian" "LITTLE" "Lcom/example/oridune/oridune/core/Endian;" (.ref rL)) (S_B : Sta Z Z.heap "com/example/oridune/oridune/core/Endian" "BIG" "Lcom/example/oridune/oridune/core/Endian;" (.ref rB)) (S_V : Sta Z Z.heap "com/example/oridune/oridune/core/Endian" "$VALUES" "[Lcom/example/oridune/oridune/core/Endian;" (.ref rV)) (E_V : Exa Z Z.heap rV "[Lcom/example/oridune/oridune/core/Endian;") (A_V : Ary Z Z.heap rV kV (.object "com/example/oridune/oridune/core/Endian") [.ref rL, .ref rB]) (E_L : Exa Z Z.heap rL "com/example/oridune/oridune/core/Endian") (E_B : Exa Z Z.heap rB "com/example/oridune/oridune/core/Endian") (N_L : Fld Z Z.heap rL "com/example/oridune/oridune/core/Endian" "optionName" "Ljava/lang/String;" (.ref sL)) (N_B : Fld Z Z.heap rB "com/example/oridune/oridune/core/Endian" "optionName" "Ljava/lang/String;" (.ref sB)) (E_sL : Exa Z Z.heap sL "java/lang/String") (E_sB : Exa Z Z.heap sB "java/lang/String") (C_L : Fld Z Z.heap sL "java/lang/String" "coder" "B" (.int (0 : Int32))) (C_B : Fld Z Z.heap sB "java/lang/String" "coder" "B" (.int (0 : Int32))) (V_L : Fld Z Z.heap sL "java/lang/String" "value" "[B" (.ref bL)) (V_B : Fld Z Z.heap sB "java/lang/String" "value" "[B" (.ref bB)) (A_L : Ary Z Z.heap bL kL .byte [(.int (108 : Int32)), (.int (105 : Int32)), (.int (116 : Int32)), (.int (116 : Int32)), (.int (108 : Int32)), (.int (101 : Int32))]) (A_B : Ary Z Z.heap bB kB .byte [(.int (98 : Int32)), (.int (105 : Int32)), (.int (103 : Int32))]) (nLB : ¬ (.ref sL : Value) = (.ref sB : Value)) (SCs : Sta Z Z.heap "java/lang/String" "COMPACT_STRINGS" "Z" (.int ic)) (hic : ¬ ic = (0 : Int32)) (O0 : Old Z n0 h0) :
    Con l Z (⟨"com/example/oridune/oridune/core/Endian", "named", "(Ljava/lang/String;)Lcom/example/oridune/oridune/core/Endian;"⟩ : MethodName) prog_32_method_4_code 5 (some (.object "com/example/oridune/oridune/core/Endian")) ws ({ frames := 2, cells := 1, slots := 2, locals := 30 } : Room) #[(.ref sL)] h0 (({ frames := 2, cells := 1, slots := 2, locals := 30 } : Room).cells) (({ frames := 2, cells := 1, slots := 2, locals := 30 } : Room).slots) (Q_rmNmL2 Z rL rB rV kV sL sB bL bB kL kB ic h0 n0) := by
  refine Con.of (plainFor_of_name pn3) ?_
  intro p e s m below meth c s₁ hx hby hml hown hnm hret hlk hZ X0 e0
  have N0 := Fr.nil n0
  refine goE (L := #[.val (.ref sL), .unset, .unset, .unset, .unset]) (ef21 m sL) ?_
  refine gCallS X0 hx hZ hown (hw _ (List.mem_of_getElem? (i := 36) rfl)) (hw _ (List.mem_of_getElem? (i := 37) rfl)) (hw _ (List.mem_of_getElem? (i := 31) rfl)) (hw _ (List.mem_of_getElem? (i := 38) rfl)) (by decide) (rmVals l Z a0 hw [] rL rB rV kV sL sB bL bB kL kB ic h0 n0 Z0 S_L S_B S_V E_V A_V E_L E_B N_L N_B E_sL E_sB C_L C_B V_L V_B A_L A_B nLB SCs hic O0) (W := 0) (by decide) (by decide) e0 (by rw [hml]; rfl) [] (lenOf pd5 rfl) rfl (S := []) rfl (Nat.le_of_eq rfl) (hb hby d7_0) (q := 3) rfl (by decide) (by decide) (fun r1 T1 M1 X1 q1 => ?_)
  obtain ⟨rv, rfl, M1n, K1, AV⟩ := q1
  have N2 := Fr.app N0 M1n
  have O3 := O0.keep K1 all0
  have Z4 := Nat.le_trans Z0 K1.1
  have KK5 := (Keep.refl h0 []).trans K1 all0
  dsimp only [Option.toList, List.cons_append, List.nil_append]
  refine gAstoreN X1 hx (hb hby d7_3) (q := 4) rfl rfl (L' := #[.val (.ref sL), .val (.ref rv), .unset, .unset, .unset]) rfl ?_
  refine gAloadN X1 hx (hb hby d7_4) (q := 5) rfl rfl rfl ?_
  refine gLen X1 hx hZ rfl AV (n := (2 : Int32)) rfl (hb hby d7_5) (q := 6) rfl ?_
  refine gIstoreN X1 hx (hb hby d7_6) (q := 7) rfl (L' := #[.val (.ref sL), .val (.ref rv), .val (.int (2 : Int32)), .unset, .unset]) rfl ?_
  refine gIconst X1 hx (0 : Int32) (hb hby d7_7) (q := 8) rfl (by decide) ?_
  refine gIstoreN X1 hx (hb hby d7_8) (q := 9) rfl (L' := #[.val (.ref sL), .val (.ref rv), .val (.int (2 : Int32)), .val (.int (0 : Int32)), .unset]) rfl ?_
  refine gIloadN X1 hx (hb hby d7_9) (q := 10) rfl rfl ?_
  refine gIloadN X1 hx (hb hby d7_10) (q := 11) rfl rfl ?_
  refine gIcmpN X1 hx (hb hby d7_11) (q := 14) rfl (XT.ii_ge_f (by decide)) ?_
  refine gAloadN X1 hx (hb hby d7_14) (q := 15) rfl rfl rfl ?_
  refine gIloadN X1 hx (hb hby d7_15) (q := 16) rfl rfl ?_
  refine gAaload X1 hx hZ rfl AV rfl (hb hby d7_16) (q := 17) rfl (show ¬ (((0 : Int32) : Int32) < 0 ∨ 2 ≤ ((0 : Int32) : Int32).toNatClampNeg) by decide) (v := .ref rL) rfl ?_
  refine gAstore X1 hx (hb hby d7_17) (q := 19) rfl rfl (L' := #[.val (.ref sL), .val (.ref rv), .val (.int (2 : Int32)), .val (.int (0 : Int32)), .val (.ref rL)]) rfl ?_
  refine gAload X1 hx (hb hby d7_19) (q := 21) rfl rfl rfl ?_
  refine gGetF X1 hx hZ (host := "") hown (Or.inl (hw _ (List.mem_of_getElem? (i := 52) rfl))) Via.refl rfl (Fld.ext O3.2 N_L) (hb hby d7_21) (q := 24) rfl (fun T6 X6 e6 => ?_)
  refine gAloadN X6 hx (hb hby d7_24) (q := 25) rfl rfl rfl ?_
  refine gCallV X6 hx hZ hown (hw _ (List.mem_of_getElem? (i := 54) rfl)) (hw _ (List.mem_of_getElem? (i := 55) rfl)) (hw _ (List.mem_of_getElem? (i := 57) rfl)) (hw _ (List.mem_of_getElem? (i := 56) rfl)) (hw _ (List.mem_of_getElem? (i := 3) rfl)) (hw _ (List.mem_of_getElem? (i := 58) rfl)) (notFace_of_selects (args := #[]) (mvT hZ (hw _ (List.mem_of_getElem? (i := 57) rfl)))) (by decide) (rmEqSame l Z a0 hw [] sL T1.heap n0 Z4) (W := 0) (by decide) (by decide) e6 (by rw [hml]; rfl) (Exa.ext O3.2 E_sL) [(.ref sL)] (lenOf pd6 rfl) rfl (S := []) rfl (Nat.le_of_eq rfl) (hb hby d7_25) (q := 28) rfl (by decide) (by decide) (fun r7 T7 M7 X7 q7 => ?_)
  obtain ⟨rfl, M7n, e7⟩ := q7
  have N8 := Fr.app N2 M7n
  dsimp only [Option.toList, List.cons_append, List.nil_append]
  refine gIfN X7 hx (hb hby d7_28) (q := 31) rfl (XT.i0_eq_f (by decide)) ?_
  refine gAload X7 hx (hb hby d7_31) (q := 33) rfl rfl rfl ?_
  exact gRetA X7 hx hlk hret rfl rfl (hb hby d7_33) (by decide) (by decide) (by rw [e7]; exact ⟨rfl, N8, KK5⟩)
theorem d11_0 : decode prog_32_method_7_code 0 = .ok (.aload_n 0, 1) := by decide +kernel
theorem d11_1 : decode prog_32_method_7_code 1 = .ok (.getfield 29, 3) := by decide +kernel
theorem d11_4 : decode prog_32_method_7_code 4 = .ok (.areturn, 1) := by decide +kernel
theorem ef22 (m : MethodId) (x0 : Addr) : entryFrame m #[(.ref x0)] 1 = mkF m 0 #[.val (.ref x0)] [] := by first | (simp [entryFrame, mkF, argsToLocals, Value.category]; done) | rfl
def Q_rmTs (Z : State) (a : Addr) (b : Addr) (h0 : Heap) (n0 : Nat) (v : Option Value) (h : Heap) (L : List Loc) : Prop := v = some (.ref b) ∧ Fr n0 L ∧ h = h0
set_option maxRecDepth 65536 in
set_option maxHeartbeats 40000000 in
theorem rmTs (l : Launch) (Z : State) (a0 : Array Value) (hw : ∀ d ∈ tables_1, d.before a0 Z = true) (ws : List Jvm.Cond) (a : Addr) (b : Addr) (h0 : Heap) (n0 : Nat) (Z0 : n0 ≤ h0.size) (pF1 : Fld Z h0 a "com/example/oridune/oridune/core/Endian" "optionName" "Ljava/lang/String;" (.ref b)) :
    Con l Z (⟨"com/example/oridune/oridune/core/Endian", "toString", "()Ljava/lang/String;"⟩ : MethodName) prog_32_method_7_code 1 (some (.object "java/lang/String")) ws ({ frames := 0, cells := 0, slots := 0, locals := 0 } : Room) #[(.ref a)] h0 (({ frames := 0, cells := 0, slots := 0, locals := 0 } : Room).cells) (({ frames := 0, cells := 0, slots := 0, locals := 0 } : Room).slots) (Q_rmTs Z a b h0 n0) := by
  refine Con.of (plainFor_of_name pn3) ?_
  intro p e s m below meth c s₁ hx hby hml hown hnm hret hlk hZ X0 e0
  have N0 := Fr.nil n0
  refine goE (L := #[.val (.ref a)]) (ef22 m a) ?_
  refine gAloadN X0 hx (hb hby d11_0) (q := 1) rfl rfl rfl ?_
  refine gGetF X0 hx hZ (host := "") hown (Or.inl (hw _ (List.mem_of_getElem? (i := 52) rfl))) Via.refl e0 pF1 (hb hby d11_1) (q := 4) rfl (fun T1 X1 e1 => ?_)
  exact gRetA X1 hx hlk hret rfl rfl (hb hby d11_4) (by decide) (by decide) ⟨rfl, N0, e1⟩

theorem pn4 : plainName "com/example/oridune/oridune/core/EndianNamedPinLaw" = true := by first | (simp [plainName, overriddenIn]; done) | decide +kernel
theorem ef23 (m : MethodId) (x0 : Int32) : entryFrame m #[(.int x0)] maxLocals = mkF m 0 #[.val (.int x0), .unset, .unset, .unset, .unset, .unset] [] := by first | (simp [entryFrame, mkF, argsToLocals, Value.category, maxLocals]; done) | rfl
def Q_rm0 (Z : State) (x0 : Int32) (rL : Addr) (rB : Addr) (rV : Addr) (kV : ClassId) (sL : Addr) (sB : Addr) (bL : Addr) (bB : Addr) (kL : ClassId) (kB : ClassId) (ic : Int32) (h0 : Heap) (n0 : Nat) (v : Option Value) (h : Heap) (L : List Loc) : Prop := v = some (.int 1) ∧ Fr n0 L
theorem pd7 : parseMethodDescriptor "([C)V" = some ⟨[.array (.char)], none⟩ := by decide +kernel
theorem pd8 : parseMethodDescriptor "(Ljava/lang/String;)Lcom/example/oridune/oridune/core/Endian;" = some ⟨[.object "java/lang/String"], some (.object "com/example/oridune/oridune/core/Endian")⟩ := by decide +kernel
theorem pd9 : parseMethodDescriptor "()Ljava/lang/String;" = some ⟨[], some (.object "java/lang/String")⟩ := by decide +kernel
set_option maxRecDepth 65536 in
set_option maxHeartbeats 40000000 in
theorem rm0 (l : Launch) (Z : State) (a0 : Array Value) (hw : ∀ d ∈ tables_1, d.before a0 Z = true) (ws : List Jvm.Cond) (x0 : Int32) (rL : Addr) (rB : Addr) (rV : Addr) (kV : ClassId) (sL : Addr) (sB : Addr) (bL : Addr) (bB : Addr) (kL : ClassId) (kB : ClassId) (ic : Int32) (h0 : Heap) (n0 : Nat) (Z0 : n0 ≤ h0.size) (S_L : Sta Z Z.heap "com/example/oridune/oridune/core/Endian" "LITTLE" "Lcom/example/oridune/oridune/core/Endian;" (.ref rL)) (S_B : Sta Z Z.heap "com/example/oridune/oridune/core/Endian" "BIG" "Lcom/example/oridune/oridune/core/Endian;" (.ref rB)) (S_V : Sta Z Z.heap "com/example/oridune/oridune/core/Endian" "$VALUES" "[Lcom/example/oridune/oridune/core/Endian;" (.ref rV)) (E_V : Exa Z Z.heap rV "[Lcom/example/oridune/oridune/core/Endian;") (A_V : Ary Z Z.heap rV kV (.object "com/example/oridune/oridune/core/Endian") [.ref rL, .ref rB]) (E_L : Exa Z Z.heap rL "com/example/oridune/oridune/core/Endian") (E_B : Exa Z Z.heap rB "com/example/oridune/oridune/core/Endian") (N_L : Fld Z Z.heap rL "com/example/oridune/oridune/core/Endian" "optionName" "Ljava/lang/String;" (.ref sL)) (N_B : Fld Z Z.heap rB "com/example/oridune/oridune/core/Endian" "optionName" "Ljava/lang/String;" (.ref sB)) (E_sL : Exa Z Z.heap sL "java/lang/String") (E_sB : Exa Z Z.heap sB "java/lang/String") (C_L : Fld Z Z.heap sL "java/lang/String" "coder" "B" (.int (0 : Int32))) (C_B : Fld Z Z.heap sB "java/lang/String" "coder" "B" (.int (0 : Int32))) (V_L : Fld Z Z.heap sL "java/lang/String" "value" "[B" (.ref bL)) (V_B : Fld Z Z.heap sB "java/lang/String" "value" "[B" (.ref bB)) (A_L : Ary Z Z.heap bL kL .byte [(.int (108 : Int32)), (.int (105 : Int32)), (.int (116 : Int32)), (.int (116 : Int32)), (.int (108 : Int32)), (.int (101 : Int32))]) (A_B : Ary Z Z.heap bB kB .byte [(.int (98 : Int32)), (.int (105 : Int32)), (.int (103 : Int32))]) (nLB : ¬ (.ref sL : Value) = (.ref sB : Value)) (SCs : Sta Z Z.heap "java/lang/String" "COMPACT_STRINGS" "Z" (.int ic)) (hic : ¬ ic = (0 : Int32)) (O0 : Old Z n0 h0) :
    Con l Z x code maxLocals ret ws room_1 #[(.int x0)] h0 (room_1.cells) (room_1.slots) (Q_rm0 Z x0 rL rB rV kV sL sB bL bB kL kB ic h0 n0) := by
  refine Con.of (plainFor_of_name pn4) ?_
  intro p e s m below meth c s₁ hx hby hml hown hnm hret hlk hZ X0 e0
  have N0 := Fr.nil n0
  refine goE (L := #[.val (.int x0), .unset, .unset, .unset, .unset, .unset]) (ef23 m x0) ?_
  refine gIloadN X0 hx (hb hby at_0) (q := 1) rfl rfl ?_
  refine gIconst X0 hx (1 : Int32) (hb hby at_1) (q := 2) rfl (by decide) ?_
  refine gIand X0 hx (hb hby at_2) (q := 3) rfl ?_
  by_cases c1 : (x0 &&& (1 : Int32)) = (0 : Int32)
  · refine gIfY X0 hx (hb hby at_3) (q := 10) (by decide) (by decide) (XT.i0_eq_t c1) ?_
    refine gIconst X0 hx (0 : Int32) (hb hby at_10) (q := 11) rfl (by decide) ?_
    refine gIstoreN X0 hx (hb hby at_11) (q := 12) rfl (L' := #[.val (.int x0), .val (.int (0 : Int32)), .unset, .unset, .unset, .unset]) rfl ?_
    refine gIloadN X0 hx (hb hby at_12) (q := 13) rfl rfl ?_
    refine gIfY X0 hx (hb hby at_13) (q := 37) (by decide) (by decide) (XT.i0_eq_t (by decide)) ?_
    refine gBipush X0 hx (6 : Int32) (hb hby at_37) (q := 39) rfl (by decide) ?_
    refine gNewP X0 hx hZ (hw _ (List.mem_of_getElem? (i := 0) rfl)) e0 (hb hby at_39) (q := 41) rfl (by decide) (cap := 6) (by decide) (by decide) (by decide) (by decide) (fun T2 h2 a2 k2 X2 e2 g2 E2 A2 => ?_)
    have O3 := O0.ext E2
    have le_a2 : n0 ≤ a2 := by rw [g2]; exact Z0
    have ne_rL_a2 : rL ≠ a2 := by rw [g2]; exact Nat.ne_of_lt (Exa.ext O0.2 E_L).lt
    have ne_rB_a2 : rB ≠ a2 := by rw [g2]; exact Nat.ne_of_lt (Exa.ext O0.2 E_B).lt
    have ne_rV_a2 : rV ≠ a2 := by rw [g2]; exact Nat.ne_of_lt (Exa.ext O0.2 E_V).lt
    have ne_sL_a2 : sL ≠ a2 := by rw [g2]; exact Nat.ne_of_lt (Exa.ext O0.2 E_sL).lt
    have ne_sB_a2 : sB ≠ a2 := by rw [g2]; exact Nat.ne_of_lt (Exa.ext O0.2 E_sB).lt
    have ne_bL_a2 : bL ≠ a2 := by rw [g2]; exact Nat.ne_of_lt (Ary.ext O0.2 A_L).lt
    have ne_bB_a2 : bB ≠ a2 := by rw [g2]; exact Nat.ne_of_lt (Ary.ext O0.2 A_B).lt
    have Z4 := Nat.le_trans Z0 E2.1
    have B2 : Ary Z h2 a2 k2 (.char) [(.int (0 : Int32)), (.int (0 : Int32)), (.int (0 : Int32)), (.int (0 : Int32)), (.int (0 : Int32)), (.int (0 : Int32))] := A2
    refine gDup X2 hx (hb hby at_41) (q := 42) rfl rfl ?_
    refine gIconst X2 hx (0 : Int32) (hb hby at_42) (q := 43) rfl (by decide) ?_
    refine gBipush X2 hx (108 : Int32) (hb hby at_43) (q := 45) rfl (by decide) ?_
    refine gCastore X2 hx hZ e2 B2 (hb hby at_45) (q := 46) rfl (show ¬ (((0 : Int32) : Int32) < 0 ∨ 6 ≤ ((0 : Int32) : Int32).toNatClampNeg) by decide) (fun T5 h5 X5 e5 W5 A5 => ?_)
    have B5 : Ary Z h5 a2 k2 (.char) [(.int (108 : Int32)), (.int (0 : Int32)), (.int (0 : Int32)), (.int (0 : Int32)), (.int (0 : Int32)), (.int (0 : Int32))] := (by have zA := A5; rw [show nar .char (108 : Int32) = (108 : Int32) from by decide] at zA; exact zA)
    have N6 := Fr.snoc X5 N0 le_a2
    have O8 := O3.wr W5 le_a2
    have Z9 : n0 ≤ h5.size := by rw [W5.size]; exact Z4
    refine gDup X5 hx (hb hby at_46) (q := 47) rfl rfl ?_
    refine gIconst X5 hx (1 : Int32) (hb hby at_47) (q := 48) rfl (by decide) ?_
    refine gBipush X5 hx (105 : Int32) (hb hby at_48) (q := 50) rfl (by decide) ?_
    refine gCastore X5 hx hZ e5 B5 (hb hby at_50) (q := 51) rfl (show ¬ (((1 : Int32) : Int32) < 0 ∨ 6 ≤ ((1 : Int32) : Int32).toNatClampNeg) by decide) (fun T10 h10 X10 e10 W10 A10 => ?_)
    have B10 : Ary Z h10 a2 k2 (.char) [(.int (108 : Int32)), (.int (105 : Int32)), (.int (0 : Int32)), (.int (0 : Int32)), (.int (0 : Int32)), (.int (0 : Int32))] := (by have zA := A10; rw [show nar .char (105 : Int32) = (105 : Int32) from by decide] at zA; exact zA)
    have N11 := Fr.snoc X10 N6 le_a2
    have O13 := O8.wr W10 le_a2
    have Z14 : n0 ≤ h10.size := by rw [W10.size]; exact Z9
    refine gDup X10 hx (hb hby at_51) (q := 52) rfl rfl ?_
    refine gIconst X10 hx (2 : Int32) (hb hby at_52) (q := 53) rfl (by decide) ?_
    refine gBipush X10 hx (116 : Int32) (hb hby at_53) (q := 55) rfl (by decide) ?_
    refine gCastore X10 hx hZ e10 B10 (hb hby at_55) (q := 56) rfl (show ¬ (((2 : Int32) : Int32) < 0 ∨ 6 ≤ ((2 : Int32) : Int32).toNatClampNeg) by decide) (fun T15 h15 X15 e15 W15 A15 => ?_)
    have B15 : Ary Z h15 a2 k2 (.char) [(.int (108 : Int32)), (.int (105 : Int32)), (.int (116 : Int32)), (.int (0 : Int32)), (.int (0 : Int32)), (.int (0 : Int32))] := (by have zA := A15; rw [show nar .char (116 : Int32) = (116 : Int32) from by decide] at zA; exact zA)
    have N16 := Fr.snoc X15 N11 le_a2
    have O18 := O13.wr W15 le_a2
    have Z19 : n0 ≤ h15.size := by rw [W15.size]; exact Z14
    refine gDup X15 hx (hb hby at_56) (q := 57) rfl rfl ?_
    refine gIconst X15 hx (3 : Int32) (hb hby at_57) (q := 58) rfl (by decide) ?_
    refine gBipush X15 hx (116 : Int32) (hb hby at_58) (q := 60) rfl (by decide) ?_
    refine gCastore X15 hx hZ e15 B15 (hb hby at_60) (q := 61) rfl (show ¬ (((3 : Int32) : Int32) < 0 ∨ 6 ≤ ((3 : Int32) : Int32).toNatClampNeg) by decide) (fun T20 h20 X20 e20 W20 A20 => ?_)
    have B20 : Ary Z h20 a2 k2 (.char) [(.int (108 : Int32)), (.int (105 : Int32)), (.int (116 : Int32)), (.int (116 : Int32)), (.int (0 : Int32)), (.int (0 : Int32))] := (by have zA := A20; rw [show nar .char (116 : Int32) = (116 : Int32) from by decide] at zA; exact zA)
    have N21 := Fr.snoc X20 N16 le_a2
    have O23 := O18.wr W20 le_a2
    have Z24 : n0 ≤ h20.size := by rw [W20.size]; exact Z19
    refine gDup X20 hx (hb hby at_61) (q := 62) rfl rfl ?_
    refine gIconst X20 hx (4 : Int32) (hb hby at_62) (q := 63) rfl (by decide) ?_
    refine gBipush X20 hx (108 : Int32) (hb hby at_63) (q := 65) rfl (by decide) ?_
    refine gCastore X20 hx hZ e20 B20 (hb hby at_65) (q := 66) rfl (show ¬ (((4 : Int32) : Int32) < 0 ∨ 6 ≤ ((4 : Int32) : Int32).toNatClampNeg) by decide) (fun T25 h25 X25 e25 W25 A25 => ?_)
    have B25 : Ary Z h25 a2 k2 (.char) [(.int (108 : Int32)), (.int (105 : Int32)), (.int (116 : Int32)), (.int (116 : Int32)), (.int (108 : Int32)), (.int (0 : Int32))] := (by have zA := A25; rw [show nar .char (108 : Int32) = (108 : Int32) from by decide] at zA; exact zA)
    have N26 := Fr.snoc X25 N21 le_a2
    have O28 := O23.wr W25 le_a2
    have Z29 : n0 ≤ h25.size := by rw [W25.size]; exact Z24
    refine gDup X25 hx (hb hby at_66) (q := 67) rfl rfl ?_
    refine gIconst X25 hx (5 : Int32) (hb hby at_67) (q := 68) rfl (by decide) ?_
    refine gBipush X25 hx (101 : Int32) (hb hby at_68) (q := 70) rfl (by decide) ?_
    refine gCastore X25 hx hZ e25 B25 (hb hby at_70) (q := 71) rfl (show ¬ (((5 : Int32) : Int32) < 0 ∨ 6 ≤ ((5 : Int32) : Int32).toNatClampNeg) by decide) (fun T30 h30 X30 e30 W30 A30 => ?_)
    have B30 : Ary Z h30 a2 k2 (.char) [(.int (108 : Int32)), (.int (105 : Int32)), (.int (116 : Int32)), (.int (116 : Int32)), (.int (108 : Int32)), (.int (101 : Int32))] := (by have zA := A30; rw [show nar .char (101 : Int32) = (101 : Int32) from by decide] at zA; exact zA)
    have N31 := Fr.snoc X30 N26 le_a2
    have O33 := O28.wr W30 le_a2
    have Z34 : n0 ≤ h30.size := by rw [W30.size]; exact Z29
    refine gAstoreN X30 hx (hb hby at_71) (q := 72) rfl rfl (L' := #[.val (.int x0), .val (.int (0 : Int32)), .val (.ref a2), .unset, .unset, .unset]) rfl ?_
    refine gNewO X30 hx hZ hown (hw _ (List.mem_of_getElem? (i := 1) rfl)) (hw _ (List.mem_of_getElem? (i := 2) rfl)) (hw _ (List.mem_of_getElem? (i := 3) rfl)) e30 (hb hby at_72) (q := 75) rfl (by decide) (by decide) (fun T35 h35 a35 X35 e35 g35 E35 A35 D35 => ?_)
    have A36 := Ary.ext E35 B30
    have O37 := O33.ext E35
    have le_a35 : n0 ≤ a35 := by rw [g35]; exact Z34
    have ne_rL_a35 : rL ≠ a35 := by rw [g35]; exact Nat.ne_of_lt (Exa.ext O33.2 E_L).lt
    have ne_rB_a35 : rB ≠ a35 := by rw [g35]; exact Nat.ne_of_lt (Exa.ext O33.2 E_B).lt
    have ne_rV_a35 : rV ≠ a35 := by rw [g35]; exact Nat.ne_of_lt (Exa.ext O33.2 E_V).lt
    have ne_sL_a35 : sL ≠ a35 := by rw [g35]; exact Nat.ne_of_lt (Exa.ext O33.2 E_sL).lt
    have ne_sB_a35 : sB ≠ a35 := by rw [g35]; exact Nat.ne_of_lt (Exa.ext O33.2 E_sB).lt
    have ne_bL_a35 : bL ≠ a35 := by rw [g35]; exact Nat.ne_of_lt (Ary.ext O33.2 A_L).lt
    have ne_bB_a35 : bB ≠ a35 := by rw [g35]; exact Nat.ne_of_lt (Ary.ext O33.2 A_B).lt
    have ne_a2_a35 : a2 ≠ a35 := by rw [g35]; exact Nat.ne_of_lt B30.lt
    have Z38 := Nat.le_trans Z34 E35.1
    have F39 : Fld Z h35 a35 "java/lang/String" "coder" "B" (.int (0 : Int32)) := D35 (Or.inr (hw _ (List.mem_of_getElem? (i := 27) rfl))) (ty := .byte) (by decide)
    have F40 : Fld Z h35 a35 "java/lang/String" "value" "[B" (.null) := D35 (Or.inr (hw _ (List.mem_of_getElem? (i := 29) rfl))) (ty := .array (.byte)) (by decide)
    clear D35
    refine gDup X35 hx (hb hby at_75) (q := 76) rfl rfl ?_
    refine gAloadN X35 hx (hb hby at_76) (q := 77) rfl rfl rfl ?_
    refine gCallN X35 hx hZ rfl hown (hw _ (List.mem_of_getElem? (i := 4) rfl)) (hw _ (List.mem_of_getElem? (i := 5) rfl)) (hw _ (List.mem_of_getElem? (i := 3) rfl)) (hw _ (List.mem_of_getElem? (i := 6) rfl)) (by decide) (rmI1L l Z a0 hw [] a35 a2 k2 ic  h35 n0 Z38 F40 F39 A35 le_a35 A36 ne_a2_a35 SCs hic O37 ) (W := 1) (by decide) (by decide) e35 (by rw [hml]; rfl) [(.ref a2)] (lenOf pd7 rfl) rfl (S := [(.ref a35)]) rfl (Nat.le_of_eq rfl) (hb hby at_77) (q := 80) rfl (by decide) (by decide) (fun r42 T42 M42 X42 q42 => ?_)
    obtain ⟨rfl, M42n, K42, P42e, P42c, sb41, kb41, P42v, P42a, gsb41⟩ := q42
    have N43 := Fr.app N31 M42n
    have lsb41 : n0 ≤ sb41 := Nat.le_trans Z38 gsb41
    have ne_rL_sb41 : rL ≠ sb41 := Nat.ne_of_lt (Nat.lt_of_lt_of_le (Exa.ext O37.2 E_L).lt gsb41)
    have ne_rB_sb41 : rB ≠ sb41 := Nat.ne_of_lt (Nat.lt_of_lt_of_le (Exa.ext O37.2 E_B).lt gsb41)
    have ne_rV_sb41 : rV ≠ sb41 := Nat.ne_of_lt (Nat.lt_of_lt_of_le (Exa.ext O37.2 E_V).lt gsb41)
    have ne_sL_sb41 : sL ≠ sb41 := Nat.ne_of_lt (Nat.lt_of_lt_of_le (Exa.ext O37.2 E_sL).lt gsb41)
    have ne_sB_sb41 : sB ≠ sb41 := Nat.ne_of_lt (Nat.lt_of_lt_of_le (Exa.ext O37.2 E_sB).lt gsb41)
    have ne_bL_sb41 : bL ≠ sb41 := Nat.ne_of_lt (Nat.lt_of_lt_of_le (Ary.ext O37.2 A_L).lt gsb41)
    have ne_bB_sb41 : bB ≠ sb41 := Nat.ne_of_lt (Nat.lt_of_lt_of_le (Ary.ext O37.2 A_B).lt gsb41)
    have ne_a2_sb41 : a2 ≠ sb41 := Nat.ne_of_lt (Nat.lt_of_lt_of_le A36.lt gsb41)
    have ne_a35_sb41 : a35 ≠ sb41 := Nat.ne_of_lt (Nat.lt_of_lt_of_le A35.lt gsb41)
    have A44 := Ary.keep A36 K42 (ninS ne_a2_a35 nin0)
    have O45 := O37.keep K42 (allS le_a35 all0)
    have Z46 := Nat.le_trans Z38 K42.1
    dsimp only [Option.toList, List.cons_append, List.nil_append]
    refine gAstoreN X42 hx (hb hby at_80) (q := 81) rfl rfl (L' := #[.val (.int x0), .val (.int (0 : Int32)), .val (.ref a2), .val (.ref a35), .unset, .unset]) rfl ?_
    refine gIloadN X42 hx (hb hby at_81) (q := 82) rfl rfl ?_
    refine gIfY X42 hx (hb hby at_82) (q := 91) (by decide) (by decide) (XT.i0_eq_t (by decide)) ?_
    refine gGetS X42 hx hZ hown (hw _ (List.mem_of_getElem? (i := 30) rfl)) Via.refl rfl (Sta.ext O45.2 S_L) (hb hby at_91) (q := 94) rfl (fun T47 X47 e47 => ?_)
    refine gAstore X47 hx (hb hby at_94) (q := 96) rfl rfl (L' := #[.val (.int x0), .val (.int (0 : Int32)), .val (.ref a2), .val (.ref a35), .val (.ref rL), .unset]) rfl ?_
    refine gAloadN X47 hx (hb hby at_96) (q := 97) rfl rfl rfl ?_
    refine gCallS X47 hx hZ hown (hw _ (List.mem_of_getElem? (i := 33) rfl)) (hw _ (List.mem_of_getElem? (i := 34) rfl)) (hw _ (List.mem_of_getElem? (i := 31) rfl)) (hw _ (List.mem_of_getElem? (i := 35) rfl)) (by decide) (rmNmL l Z a0 hw [] rL rB rV kV sL sB bL bB kL kB ic a35 sb41 kb41 T42.heap n0 Z46 S_L S_B S_V E_V A_V E_L E_B N_L N_B E_sL E_sB C_L C_B V_L V_B A_L A_B nLB SCs hic O45 P42v P42c P42e P42a ne_sL_a35 ne_sB_a35) (W := 0) (by decide) (by decide) e47 (by rw [hml]; rfl) [(.ref a35)] (lenOf pd8 rfl) rfl (S := []) rfl (Nat.le_of_eq rfl) (hb hby at_97) (q := 100) rfl (by decide) (by decide) (fun r48 T48 M48 X48 q48 => ?_)
    obtain ⟨rfl, M48n, K48⟩ := q48
    have N49 := Fr.app N43 M48n
    have A50 := Ary.keep A44 K48 nin0
    have E51 := Exa.keep P42e K48
    have F52 := Fld.keep P42c K48 nin0
    have F53 := Fld.keep P42v K48 nin0
    have A54 := Ary.keep P42a K48 nin0
    have O55 := O45.keep K48 all0
    have Z56 := Nat.le_trans Z46 K48.1
    dsimp only [Option.toList, List.cons_append, List.nil_append]
    refine gAstore X48 hx (hb hby at_100) (q := 102) rfl rfl (L' := #[.val (.int x0), .val (.int (0 : Int32)), .val (.ref a2), .val (.ref a35), .val (.ref rL), .val (.ref rL)]) rfl ?_
    refine gAload X48 hx (hb hby at_102) (q := 104) rfl rfl rfl ?_
    refine gAload X48 hx (hb hby at_104) (q := 106) rfl rfl rfl ?_
    refine gAcmpY X48 hx (hb hby at_106) (q := 111) (by decide) (by decide) rfl rfl (XT.aa_eq_t rfl) ?_
    refine gAload X48 hx (hb hby at_111) (q := 113) rfl rfl rfl ?_
    refine gCallV X48 hx hZ hown (hw _ (List.mem_of_getElem? (i := 64) rfl)) (hw _ (List.mem_of_getElem? (i := 65) rfl)) (hw _ (List.mem_of_getElem? (i := 67) rfl)) (hw _ (List.mem_of_getElem? (i := 66) rfl)) (hw _ (List.mem_of_getElem? (i := 31) rfl)) (hw _ (List.mem_of_getElem? (i := 68) rfl)) (notFace_of_selects (args := #[]) (mvT hZ (hw _ (List.mem_of_getElem? (i := 67) rfl)))) (by decide) (rmTs l Z a0 hw [] rL sL T48.heap n0 Z56 (Fld.ext O55.2 N_L)) (W := 0) (by decide) (by decide) rfl (by rw [hml]; rfl) (Exa.ext O55.2 E_L) [] (lenOf pd9 rfl) rfl (S := []) rfl (Nat.le_of_eq rfl) (hb hby at_113) (q := 116) rfl (by decide) (by decide) (fun r57 T57 M57 X57 q57 => ?_)
    obtain ⟨rfl, M57n, e57⟩ := q57
    have N58 := Fr.app N49 M57n
    dsimp only [Option.toList, List.cons_append, List.nil_append]
    refine gCallS X57 hx hZ hown (hw _ (List.mem_of_getElem? (i := 33) rfl)) (hw _ (List.mem_of_getElem? (i := 34) rfl)) (hw _ (List.mem_of_getElem? (i := 31) rfl)) (hw _ (List.mem_of_getElem? (i := 35) rfl)) (by decide) (rmNmL2 l Z a0 hw [] rL rB rV kV sL sB bL bB kL kB ic  T48.heap n0 Z56 S_L S_B S_V E_V A_V E_L E_B N_L N_B E_sL E_sB C_L C_B V_L V_B A_L A_B nLB SCs hic O55 ) (W := 0) (by decide) (by decide) e57 (by rw [hml]; rfl) [(.ref sL)] (lenOf pd8 rfl) rfl (S := []) rfl (Nat.le_of_eq rfl) (hb hby at_116) (q := 119) rfl (by decide) (by decide) (fun r59 T59 M59 X59 q59 => ?_)
    obtain ⟨rfl, M59n, K59⟩ := q59
    have N60 := Fr.app N58 M59n
    have A61 := Ary.keep A50 K59 nin0
    have E62 := Exa.keep E51 K59
    have F63 := Fld.keep F52 K59 nin0
    have F64 := Fld.keep F53 K59 nin0
    have A65 := Ary.keep A54 K59 nin0
    have O66 := O55.keep K59 all0
    have Z67 := Nat.le_trans Z56 K59.1
    dsimp only [Option.toList, List.cons_append, List.nil_append]
    refine gAload X59 hx (hb hby at_119) (q := 121) rfl rfl rfl ?_
    refine gAcmpN X59 hx (hb hby at_121) (q := 124) rfl rfl rfl (XT.aa_ne_f rfl) ?_
    refine gIconst X59 hx (1 : Int32) (hb hby at_124) (q := 125) rfl (by decide) ?_
    refine gGoto X59 hx (hb hby at_125) (q := 129) (by decide) (by decide) ?_
    exact gRetZ X59 hx hlk hret (hb hby at_129) (by decide) (by decide) (Or.inr rfl) ⟨rfl, N60⟩
  · refine gIfN X0 hx (hb hby at_3) (q := 6) rfl (XT.i0_eq_f c1) ?_
    refine gIconst X0 hx (1 : Int32) (hb hby at_6) (q := 7) rfl (by decide) ?_
    refine gGoto X0 hx (hb hby at_7) (q := 11) (by decide) (by decide) ?_
    refine gIstoreN X0 hx (hb hby at_11) (q := 12) rfl (L' := #[.val (.int x0), .val (.int (1 : Int32)), .unset, .unset, .unset, .unset]) rfl ?_
    refine gIloadN X0 hx (hb hby at_12) (q := 13) rfl rfl ?_
    refine gIfN X0 hx (hb hby at_13) (q := 16) rfl (XT.i0_eq_f (by decide)) ?_
    refine gIconst X0 hx (3 : Int32) (hb hby at_16) (q := 17) rfl (by decide) ?_
    refine gNewP X0 hx hZ (hw _ (List.mem_of_getElem? (i := 0) rfl)) e0 (hb hby at_17) (q := 19) rfl (by decide) (cap := 3) (by decide) (by decide) (by decide) (by decide) (fun T68 h68 a68 k68 X68 e68 g68 E68 A68 => ?_)
    have O69 := O0.ext E68
    have le_a68 : n0 ≤ a68 := by rw [g68]; exact Z0
    have ne_rL_a68 : rL ≠ a68 := by rw [g68]; exact Nat.ne_of_lt (Exa.ext O0.2 E_L).lt
    have ne_rB_a68 : rB ≠ a68 := by rw [g68]; exact Nat.ne_of_lt (Exa.ext O0.2 E_B).lt
    have ne_rV_a68 : rV ≠ a68 := by rw [g68]; exact Nat.ne_of_lt (Exa.ext O0.2 E_V).lt
    have ne_sL_a68 : sL ≠ a68 := by rw [g68]; exact Nat.ne_of_lt (Exa.ext O0.2 E_sL).lt
    have ne_sB_a68 : sB ≠ a68 := by rw [g68]; exact Nat.ne_of_lt (Exa.ext O0.2 E_sB).lt
    have ne_bL_a68 : bL ≠ a68 := by rw [g68]; exact Nat.ne_of_lt (Ary.ext O0.2 A_L).lt
    have ne_bB_a68 : bB ≠ a68 := by rw [g68]; exact Nat.ne_of_lt (Ary.ext O0.2 A_B).lt
    have Z70 := Nat.le_trans Z0 E68.1
    have B68 : Ary Z h68 a68 k68 (.char) [(.int (0 : Int32)), (.int (0 : Int32)), (.int (0 : Int32))] := A68
    refine gDup X68 hx (hb hby at_19) (q := 20) rfl rfl ?_
    refine gIconst X68 hx (0 : Int32) (hb hby at_20) (q := 21) rfl (by decide) ?_
    refine gBipush X68 hx (98 : Int32) (hb hby at_21) (q := 23) rfl (by decide) ?_
    refine gCastore X68 hx hZ e68 B68 (hb hby at_23) (q := 24) rfl (show ¬ (((0 : Int32) : Int32) < 0 ∨ 3 ≤ ((0 : Int32) : Int32).toNatClampNeg) by decide) (fun T71 h71 X71 e71 W71 A71 => ?_)
    have B71 : Ary Z h71 a68 k68 (.char) [(.int (98 : Int32)), (.int (0 : Int32)), (.int (0 : Int32))] := (by have zA := A71; rw [show nar .char (98 : Int32) = (98 : Int32) from by decide] at zA; exact zA)
    have N72 := Fr.snoc X71 N0 le_a68
    have O74 := O69.wr W71 le_a68
    have Z75 : n0 ≤ h71.size := by rw [W71.size]; exact Z70
    refine gDup X71 hx (hb hby at_24) (q := 25) rfl rfl ?_
    refine gIconst X71 hx (1 : Int32) (hb hby at_25) (q := 26) rfl (by decide) ?_
    refine gBipush X71 hx (105 : Int32) (hb hby at_26) (q := 28) rfl (by decide) ?_
    refine gCastore X71 hx hZ e71 B71 (hb hby at_28) (q := 29) rfl (show ¬ (((1 : Int32) : Int32) < 0 ∨ 3 ≤ ((1 : Int32) : Int32).toNatClampNeg) by decide) (fun T76 h76 X76 e76 W76 A76 => ?_)
    have B76 : Ary Z h76 a68 k68 (.char) [(.int (98 : Int32)), (.int (105 : Int32)), (.int (0 : Int32))] := (by have zA := A76; rw [show nar .char (105 : Int32) = (105 : Int32) from by decide] at zA; exact zA)
    have N77 := Fr.snoc X76 N72 le_a68
    have O79 := O74.wr W76 le_a68
    have Z80 : n0 ≤ h76.size := by rw [W76.size]; exact Z75
    refine gDup X76 hx (hb hby at_29) (q := 30) rfl rfl ?_
    refine gIconst X76 hx (2 : Int32) (hb hby at_30) (q := 31) rfl (by decide) ?_
    refine gBipush X76 hx (103 : Int32) (hb hby at_31) (q := 33) rfl (by decide) ?_
    refine gCastore X76 hx hZ e76 B76 (hb hby at_33) (q := 34) rfl (show ¬ (((2 : Int32) : Int32) < 0 ∨ 3 ≤ ((2 : Int32) : Int32).toNatClampNeg) by decide) (fun T81 h81 X81 e81 W81 A81 => ?_)
    have B81 : Ary Z h81 a68 k68 (.char) [(.int (98 : Int32)), (.int (105 : Int32)), (.int (103 : Int32))] := (by have zA := A81; rw [show nar .char (103 : Int32) = (103 : Int32) from by decide] at zA; exact zA)
    have N82 := Fr.snoc X81 N77 le_a68
    have O84 := O79.wr W81 le_a68
    have Z85 : n0 ≤ h81.size := by rw [W81.size]; exact Z80
    refine gGoto X81 hx (hb hby at_34) (q := 71) (by decide) (by decide) ?_
    refine gAstoreN X81 hx (hb hby at_71) (q := 72) rfl rfl (L' := #[.val (.int x0), .val (.int (1 : Int32)), .val (.ref a68), .unset, .unset, .unset]) rfl ?_
    refine gNewO X81 hx hZ hown (hw _ (List.mem_of_getElem? (i := 1) rfl)) (hw _ (List.mem_of_getElem? (i := 2) rfl)) (hw _ (List.mem_of_getElem? (i := 3) rfl)) e81 (hb hby at_72) (q := 75) rfl (by decide) (by decide) (fun T86 h86 a86 X86 e86 g86 E86 A86 D86 => ?_)
    have A87 := Ary.ext E86 B81
    have O88 := O84.ext E86
    have le_a86 : n0 ≤ a86 := by rw [g86]; exact Z85
    have ne_rL_a86 : rL ≠ a86 := by rw [g86]; exact Nat.ne_of_lt (Exa.ext O84.2 E_L).lt
    have ne_rB_a86 : rB ≠ a86 := by rw [g86]; exact Nat.ne_of_lt (Exa.ext O84.2 E_B).lt
    have ne_rV_a86 : rV ≠ a86 := by rw [g86]; exact Nat.ne_of_lt (Exa.ext O84.2 E_V).lt
    have ne_sL_a86 : sL ≠ a86 := by rw [g86]; exact Nat.ne_of_lt (Exa.ext O84.2 E_sL).lt
    have ne_sB_a86 : sB ≠ a86 := by rw [g86]; exact Nat.ne_of_lt (Exa.ext O84.2 E_sB).lt
    have ne_bL_a86 : bL ≠ a86 := by rw [g86]; exact Nat.ne_of_lt (Ary.ext O84.2 A_L).lt
    have ne_bB_a86 : bB ≠ a86 := by rw [g86]; exact Nat.ne_of_lt (Ary.ext O84.2 A_B).lt
    have ne_a68_a86 : a68 ≠ a86 := by rw [g86]; exact Nat.ne_of_lt B81.lt
    have Z89 := Nat.le_trans Z85 E86.1
    have F90 : Fld Z h86 a86 "java/lang/String" "coder" "B" (.int (0 : Int32)) := D86 (Or.inr (hw _ (List.mem_of_getElem? (i := 27) rfl))) (ty := .byte) (by decide)
    have F91 : Fld Z h86 a86 "java/lang/String" "value" "[B" (.null) := D86 (Or.inr (hw _ (List.mem_of_getElem? (i := 29) rfl))) (ty := .array (.byte)) (by decide)
    clear D86
    refine gDup X86 hx (hb hby at_75) (q := 76) rfl rfl ?_
    refine gAloadN X86 hx (hb hby at_76) (q := 77) rfl rfl rfl ?_
    refine gCallN X86 hx hZ rfl hown (hw _ (List.mem_of_getElem? (i := 4) rfl)) (hw _ (List.mem_of_getElem? (i := 5) rfl)) (hw _ (List.mem_of_getElem? (i := 3) rfl)) (hw _ (List.mem_of_getElem? (i := 6) rfl)) (by decide) (rmI1B l Z a0 hw [] a86 a68 k68 ic  h86 n0 Z89 F91 F90 A86 le_a86 A87 ne_a68_a86 SCs hic O88 ) (W := 1) (by decide) (by decide) e86 (by rw [hml]; rfl) [(.ref a68)] (lenOf pd7 rfl) rfl (S := [(.ref a86)]) rfl (Nat.le_of_eq rfl) (hb hby at_77) (q := 80) rfl (by decide) (by decide) (fun r93 T93 M93 X93 q93 => ?_)
    obtain ⟨rfl, M93n, K93, P93e, P93c, sb92, kb92, P93v, P93a, gsb92⟩ := q93
    have N94 := Fr.app N82 M93n
    have lsb92 : n0 ≤ sb92 := Nat.le_trans Z89 gsb92
    have ne_rL_sb92 : rL ≠ sb92 := Nat.ne_of_lt (Nat.lt_of_lt_of_le (Exa.ext O88.2 E_L).lt gsb92)
    have ne_rB_sb92 : rB ≠ sb92 := Nat.ne_of_lt (Nat.lt_of_lt_of_le (Exa.ext O88.2 E_B).lt gsb92)
    have ne_rV_sb92 : rV ≠ sb92 := Nat.ne_of_lt (Nat.lt_of_lt_of_le (Exa.ext O88.2 E_V).lt gsb92)
    have ne_sL_sb92 : sL ≠ sb92 := Nat.ne_of_lt (Nat.lt_of_lt_of_le (Exa.ext O88.2 E_sL).lt gsb92)
    have ne_sB_sb92 : sB ≠ sb92 := Nat.ne_of_lt (Nat.lt_of_lt_of_le (Exa.ext O88.2 E_sB).lt gsb92)
    have ne_bL_sb92 : bL ≠ sb92 := Nat.ne_of_lt (Nat.lt_of_lt_of_le (Ary.ext O88.2 A_L).lt gsb92)
    have ne_bB_sb92 : bB ≠ sb92 := Nat.ne_of_lt (Nat.lt_of_lt_of_le (Ary.ext O88.2 A_B).lt gsb92)
    have ne_a68_sb92 : a68 ≠ sb92 := Nat.ne_of_lt (Nat.lt_of_lt_of_le A87.lt gsb92)
    have ne_a86_sb92 : a86 ≠ sb92 := Nat.ne_of_lt (Nat.lt_of_lt_of_le A86.lt gsb92)
    have A95 := Ary.keep A87 K93 (ninS ne_a68_a86 nin0)
    have O96 := O88.keep K93 (allS le_a86 all0)
    have Z97 := Nat.le_trans Z89 K93.1
    dsimp only [Option.toList, List.cons_append, List.nil_append]
    refine gAstoreN X93 hx (hb hby at_80) (q := 81) rfl rfl (L' := #[.val (.int x0), .val (.int (1 : Int32)), .val (.ref a68), .val (.ref a86), .unset, .unset]) rfl ?_
    refine gIloadN X93 hx (hb hby at_81) (q := 82) rfl rfl ?_
    refine gIfN X93 hx (hb hby at_82) (q := 85) rfl (XT.i0_eq_f (by decide)) ?_
    refine gGetS X93 hx hZ hown (hw _ (List.mem_of_getElem? (i := 69) rfl)) Via.refl rfl (Sta.ext O96.2 S_B) (hb hby at_85) (q := 88) rfl (fun T98 X98 e98 => ?_)
    refine gGoto X98 hx (hb hby at_88) (q := 94) (by decide) (by decide) ?_
    refine gAstore X98 hx (hb hby at_94) (q := 96) rfl rfl (L' := #[.val (.int x0), .val (.int (1 : Int32)), .val (.ref a68), .val (.ref a86), .val (.ref rB), .unset]) rfl ?_
    refine gAloadN X98 hx (hb hby at_96) (q := 97) rfl rfl rfl ?_
    refine gCallS X98 hx hZ hown (hw _ (List.mem_of_getElem? (i := 33) rfl)) (hw _ (List.mem_of_getElem? (i := 34) rfl)) (hw _ (List.mem_of_getElem? (i := 31) rfl)) (hw _ (List.mem_of_getElem? (i := 35) rfl)) (by decide) (rmNmB l Z a0 hw [] rL rB rV kV sL sB bL bB kL kB ic a86 sb92 kb92 T93.heap n0 Z97 S_L S_B S_V E_V A_V E_L E_B N_L N_B E_sL E_sB C_L C_B V_L V_B A_L A_B nLB SCs hic O96 P93v P93c P93e P93a ne_sL_a86 ne_sB_a86) (W := 0) (by decide) (by decide) e98 (by rw [hml]; rfl) [(.ref a86)] (lenOf pd8 rfl) rfl (S := []) rfl (Nat.le_of_eq rfl) (hb hby at_97) (q := 100) rfl (by decide) (by decide) (fun r99 T99 M99 X99 q99 => ?_)
    obtain ⟨rfl, M99n, K99⟩ := q99
    have N100 := Fr.app N94 M99n
    have A101 := Ary.keep A95 K99 nin0
    have E102 := Exa.keep P93e K99
    have F103 := Fld.keep P93c K99 nin0
    have F104 := Fld.keep P93v K99 nin0
    have A105 := Ary.keep P93a K99 nin0
    have O106 := O96.keep K99 all0
    have Z107 := Nat.le_trans Z97 K99.1
    dsimp only [Option.toList, List.cons_append, List.nil_append]
    refine gAstore X99 hx (hb hby at_100) (q := 102) rfl rfl (L' := #[.val (.int x0), .val (.int (1 : Int32)), .val (.ref a68), .val (.ref a86), .val (.ref rB), .val (.ref rB)]) rfl ?_
    refine gAload X99 hx (hb hby at_102) (q := 104) rfl rfl rfl ?_
    refine gAload X99 hx (hb hby at_104) (q := 106) rfl rfl rfl ?_
    refine gAcmpY X99 hx (hb hby at_106) (q := 111) (by decide) (by decide) rfl rfl (XT.aa_eq_t rfl) ?_
    refine gAload X99 hx (hb hby at_111) (q := 113) rfl rfl rfl ?_
    refine gCallV X99 hx hZ hown (hw _ (List.mem_of_getElem? (i := 64) rfl)) (hw _ (List.mem_of_getElem? (i := 65) rfl)) (hw _ (List.mem_of_getElem? (i := 67) rfl)) (hw _ (List.mem_of_getElem? (i := 66) rfl)) (hw _ (List.mem_of_getElem? (i := 31) rfl)) (hw _ (List.mem_of_getElem? (i := 68) rfl)) (notFace_of_selects (args := #[]) (mvT hZ (hw _ (List.mem_of_getElem? (i := 67) rfl)))) (by decide) (rmTs l Z a0 hw [] rB sB T99.heap n0 Z107 (Fld.ext O106.2 N_B)) (W := 0) (by decide) (by decide) rfl (by rw [hml]; rfl) (Exa.ext O106.2 E_B) [] (lenOf pd9 rfl) rfl (S := []) rfl (Nat.le_of_eq rfl) (hb hby at_113) (q := 116) rfl (by decide) (by decide) (fun r108 T108 M108 X108 q108 => ?_)
    obtain ⟨rfl, M108n, e108⟩ := q108
    have N109 := Fr.app N100 M108n
    dsimp only [Option.toList, List.cons_append, List.nil_append]
    refine gCallS X108 hx hZ hown (hw _ (List.mem_of_getElem? (i := 33) rfl)) (hw _ (List.mem_of_getElem? (i := 34) rfl)) (hw _ (List.mem_of_getElem? (i := 31) rfl)) (hw _ (List.mem_of_getElem? (i := 35) rfl)) (by decide) (rmNmB2 l Z a0 hw [] rL rB rV kV sL sB bL bB kL kB ic  T99.heap n0 Z107 S_L S_B S_V E_V A_V E_L E_B N_L N_B E_sL E_sB C_L C_B V_L V_B A_L A_B nLB SCs hic O106 ) (W := 0) (by decide) (by decide) e108 (by rw [hml]; rfl) [(.ref sB)] (lenOf pd8 rfl) rfl (S := []) rfl (Nat.le_of_eq rfl) (hb hby at_116) (q := 119) rfl (by decide) (by decide) (fun r110 T110 M110 X110 q110 => ?_)
    obtain ⟨rfl, M110n, K110⟩ := q110
    have N111 := Fr.app N109 M110n
    have A112 := Ary.keep A101 K110 nin0
    have E113 := Exa.keep E102 K110
    have F114 := Fld.keep F103 K110 nin0
    have F115 := Fld.keep F104 K110 nin0
    have A116 := Ary.keep A105 K110 nin0
    have O117 := O106.keep K110 all0
    have Z118 := Nat.le_trans Z107 K110.1
    dsimp only [Option.toList, List.cons_append, List.nil_append]
    refine gAload X110 hx (hb hby at_119) (q := 121) rfl rfl rfl ?_
    refine gAcmpN X110 hx (hb hby at_121) (q := 124) rfl rfl rfl (XT.aa_ne_f rfl) ?_
    refine gIconst X110 hx (1 : Int32) (hb hby at_124) (q := 125) rfl (by decide) ?_
    refine gGoto X110 hx (hb hby at_125) (q := 129) (by decide) (by decide) ?_
    exact gRetZ X110 hx hlk hret (hb hby at_129) (by decide) (by decide) (Or.inr rfl) ⟨rfl, N111⟩
set_option maxRecDepth 65536 in
set_option maxHeartbeats 40000000 in
theorem comes_1 {Post : Tables → Env → Array Value → State → Outcome → State → Prop} (hpost : ∀ tb e args s v u, (limb_1_1.after args s (.returned v) u = true ∧ limb_1_2.after args s (.returned v) u = true ∧ True) → FrameEnd s (.returned v) u (Jvm.fieldLocs frame_1_writes args s ++ Jvm.arrayLocs frame_1_arrays args s ++ Jvm.staticLocs frame_1_statics s) 24 128 → Post tb e args s (.returned v) u) :
    ArmFor flags0 classFile x code maxLocals ret World_1 tables_1 room_1 Calls_1 rest_1 Pre_1 Post := by
  intro l hfl _ _ p e ha hc hk s m args below hf hA hF happ hP
  obtain ⟨hcalls, hrest, hpre⟩ := hP
  obtain ⟨-, -, -, hnamed, -, -, -, hat⟩ := (Spec.applies_iff hf).mp happ
  obtain ⟨hg, hn⟩ := and_e (Cond.before_iff.mp (show (Jvm.Cond.and given_1 narrow_1).before args s = true from hpre))
  obtain ⟨hcount, hg⟩ := and_e hg
  have hk0 := hg
  obtain ⟨w0, rfl⟩ : ∃ w0 : Value, args = #[w0] := by
    have hs : args.size = 1 := by simpa [Cond.value, given_1] using hcount
    obtain ⟨L⟩ := args
    match L, hs with
    | [w0], _ => exact ⟨w0, rfl⟩
  have hw := fun d (hd : d ∈ tables_1) => atoms_spec (ws := Jvm.Cond.code x code maxLocals ret :: tables_1) hat d (List.mem_cons_of_mem _ hd)
  have hfit : Fit s := fun {y c} hc i hi => by
    obtain ⟨ha, rfl⟩ := Array.getElem?_eq_some_iff.mp hc
    have q := List.all_eq_true.mp ((Array.all_eq_true_iff_forall_mem.mp hF) _ (Array.getElem_mem ha)) i (List.mem_range.mpr hi)
    simpa [Array.getElem?_eq_getElem hi] using q
  obtain ⟨i0, hi0⟩ := is_v hk0
  obtain rfl : w0 = (.int i0) := Option.some.inj hi0
  obtain ⟨na0, hn⟩ := and_e hn
  obtain ⟨na1, hn⟩ := and_e hn
  obtain ⟨na2, hn⟩ := and_e hn
  obtain ⟨na3, hn⟩ := and_e hn
  obtain ⟨na4, hn⟩ := and_e hn
  obtain ⟨na5, hn⟩ := and_e hn
  obtain ⟨na6, hn⟩ := and_e hn
  obtain ⟨na7, hn⟩ := and_e hn
  obtain ⟨na8, hn⟩ := and_e hn
  obtain ⟨na9, hn⟩ := and_e hn
  obtain ⟨na10, hn⟩ := and_e hn
  obtain ⟨na11, hn⟩ := and_e hn
  obtain ⟨na12, hn⟩ := and_e hn
  obtain ⟨na13, hn⟩ := and_e hn
  obtain ⟨na14, hn⟩ := and_e hn
  obtain ⟨na15, hn⟩ := and_e hn
  obtain ⟨na16, hn⟩ := and_e hn
  obtain ⟨na17, hn⟩ := and_e hn
  obtain ⟨na18, hn⟩ := and_e hn
  obtain ⟨na19, hn⟩ := and_e hn
  obtain ⟨na20, hn⟩ := and_e hn
  obtain ⟨na21, hn⟩ := and_e hn
  obtain ⟨na22, hn⟩ := and_e hn
  obtain ⟨na23, hn⟩ := and_e hn
  have na24 := hn
  obtain ⟨rL, evL⟩ := exa_v na0
  have E_L := Exa.start evL na0
  obtain ⟨rB, evB⟩ := exa_v na5
  have E_B := Exa.start evB na5
  obtain ⟨rV, evV⟩ := exa_v na2
  have E_V := Exa.start evV na2
  have S_L := Sta.start evL (Or.inr ⟨(hw _ (List.mem_of_getElem? (i := 31) rfl)), (hw _ (List.mem_of_getElem? (i := 32) rfl))⟩)
  have S_B := Sta.start evB (Or.inr ⟨(hw _ (List.mem_of_getElem? (i := 31) rfl)), (hw _ (List.mem_of_getElem? (i := 48) rfl))⟩)
  have S_V := Sta.start evV (Or.inr ⟨(hw _ (List.mem_of_getElem? (i := 31) rfl)), (hw _ (List.mem_of_getElem? (i := 40) rfl))⟩)
  obtain ⟨sL, evsL⟩ := exa_v na7
  have E_sL := Exa.start evsL na7
  obtain ⟨sB, evsB⟩ := exa_v na11
  have E_sB := Exa.start evsB na11
  have N_L := own_fldR evL evsL
  have N_B := own_fldR evB evsB
  have C_L := own_fldI evsL na8
  have C_B := own_fldI evsB na12
  obtain ⟨bL, evbL⟩ := arr_v na9
  obtain ⟨bB, evbB⟩ := arr_v na13
  have V_L := own_fldR evsL evbL
  have V_B := own_fldR evsB evbB
  have nLB : ¬ (.ref sL : Value) = (.ref sB : Value) := fun z => gotF (eq_R evsB evsL rfl rfl) (not_v na18) z.symm
  obtain ⟨clV, AcV, hlV⟩ := own_arr (M := 2) evV na1 na3 (by decide)
  have elV0 := own_elR evV AcV evL na4
  have elV1 := own_elR evV AcV evB na6
  have A_V : Ary s s.heap rV clV.cls (.object "com/example/oridune/oridune/core/Endian") [.ref rL, .ref rB] := by
    refine ⟨clV, AcV, rfl, ?_⟩
    revert elV0 elV1 hlV
    generalize clV.slots.toList = lst
    intro hlV
    match lst, hlV with
    | [bV0, bV1], _ => intro elV0 elV1; rw [show bV0 = _ from Option.some.inj elV0, show bV1 = _ from Option.some.inj elV1]
  obtain ⟨clL, AcL, hlL⟩ := own_arr (M := 6) evbL na9 na10 (by decide)
  have elL0 := own_el evbL AcL na19
  have elL1 := own_el evbL AcL na20
  have elL2 := own_el evbL AcL na21
  have elL3 := own_el evbL AcL na22
  have elL4 := own_el evbL AcL na23
  have elL5 := own_el evbL AcL na24
  have A_L : Ary s s.heap bL clL.cls (.byte) [(.int (108 : Int32)), (.int (105 : Int32)), (.int (116 : Int32)), (.int (116 : Int32)), (.int (108 : Int32)), (.int (101 : Int32))] := by
    refine ⟨clL, AcL, rfl, ?_⟩
    revert elL0 elL1 elL2 elL3 elL4 elL5 hlL
    generalize clL.slots.toList = lst
    intro hlL
    match lst, hlL with
    | [bL0, bL1, bL2, bL3, bL4, bL5], _ => intro elL0 elL1 elL2 elL3 elL4 elL5; rw [show bL0 = _ from Option.some.inj elL0, show bL1 = _ from Option.some.inj elL1, show bL2 = _ from Option.some.inj elL2, show bL3 = _ from Option.some.inj elL3, show bL4 = _ from Option.some.inj elL4, show bL5 = _ from Option.some.inj elL5]
  obtain ⟨clB, AcB, hlB⟩ := own_arr (M := 3) evbB na13 na14 (by decide)
  have elB0 := own_el evbB AcB na15
  have elB1 := own_el evbB AcB na16
  have elB2 := own_el evbB AcB na17
  have A_B : Ary s s.heap bB clB.cls (.byte) [(.int (98 : Int32)), (.int (105 : Int32)), (.int (103 : Int32))] := by
    refine ⟨clB, AcB, rfl, ?_⟩
    revert elB0 elB1 elB2 hlB
    generalize clB.slots.toList = lst
    intro hlB
    match lst, hlB with
    | [bB0, bB1, bB2], _ => intro elB0 elB1 elB2; rw [show bB0 = _ from Option.some.inj elB0, show bB1 = _ from Option.some.inj elB1, show bB2 = _ from Option.some.inj elB2]
  obtain ⟨hsets, hown0⟩ := atoms_of _ (rest_1_c_eq ▸ (show rest_1_c.before _ s = true from hrest))
  obtain ⟨ic, evc⟩ := is_v (Cond.before_iff.mp (hsets _ (List.mem_of_getElem? (i := 1) rfl)))
  have SCs := Sta.start evc (Or.inl (hsets _ (List.mem_of_getElem? (i := 0) rfl)))
  have hic : ¬ ic = (0 : Int32) := gotF (Cond.eq_ints evc (Term.int_eval 0)) (not_v (Cond.before_iff.mp (hsets _ (List.mem_of_getElem? (i := 2) rfl))))
  obtain ⟨n, o, h1, h2, h3, _, L, rfl, ⟨rfl, N⟩, hq⟩ := rm0 l s _ hw tables_1 i0 rL rB rV clV.cls sL sB bL bB clL.cls clB.cls ic s.heap s.heap.size (Nat.le_refl _) S_L S_B S_V E_V A_V E_L E_B N_L N_B E_sL E_sB C_L C_B V_L V_B A_L A_B nLB SCs hic (Old.start s) p e ha hc hk s m _ below hf ((Spec.applies_iff_loose hf).mp happ).1 ⟨rfl, State.Warmed39.refl s, rfl⟩ trivial
  refine ⟨n, _, h1, h2, h3, hpost _ _ _ _ _ _ ⟨Cond.after_iff.mpr rfl, Cond.after_iff.mpr (eq_i res_at (Term.int_eval (1)) rfl), trivial⟩ ⟨hq.1, hq.2.1, (hq.2.2.sift fun y hy => Or.inr (N y hy)).mono (by decide) (by decide)⟩⟩
theorem main_1_1 : Claimed_1_1 := comes_1 fun _ _ _ _ _ _ h hF => ⟨h.1, hF⟩
theorem main_1_2 : Claimed_1_2 := comes_1 fun _ _ _ _ _ _ h hF => ⟨h.2.1, hF⟩
end Jvm.Pilot.@@N@@
namespace Jvm.Pilot.@@N@@
open Jvm Jvm.ClassFile Sem Op Lib Jvm.Free Jvm.Stand Jvm.Pilot.@@N@@.Jvm.D
/-! MADE BY PROGRAM (witnessworld.py) out of the Statement's table words and the real class files: 22 classes; the members and pool entries that the words name. The judged class is class 1, her method 1. -/
namespace start1
open Jvm.ClassFile
def u (s : String) : CpInfo := .utf8 (stringToUtf16 s)
/-- a pool by its gaps: so many unusable entries, then the entry; so many at the end -/
def gap : Nat → List CpInfo → List CpInfo
  | 0, r => r
  | n + 1, r => .unusable :: gap n r
def poolList (es : List (Nat × CpInfo)) (last : Nat) : List CpInfo := es.foldr (fun e r => gap e.1 (e.2 :: r)) (gap last [])
def pool (es : List (Nat × CpInfo)) (last : Nat) : Array CpInfo := ⟨poolList es last⟩
def fileOf (pool : Array CpInfo) (this : Nat) (attrs : Array Attribute := #[]) (ms : Array MethodInfo := #[]) (fl : Nat := 33) (sup : Nat := 0) (ifs : Array Nat := #[]) (fds : Array FieldInfo := #[]) : ClassFile where
  minorVersion := 0
  majorVersion := 65
  constantPool := pool
  accessFlags := fl
  thisClass := this
  superClass := sup
  interfaces := ifs
  fields := fds
  methods := ms
  attributes := attrs
def plain (name : String) (sup : Option ClassId) : Class where
  name := name
  kind := .ordinary
  loader := none
  accessFlags := 33
  super := sup
  interfaces := #[]
  cf := none
  fields := #[]
  methods := #[]
  instanceTypes := #[]
  staticTypes := #[]
  resolved := #[]
  callSites := []
  init := .initialized
  statics := none
  mirror := none

def pool0 : Array CpInfo := pool [(5, u "<init>"), (0, u "()V"), (1, .class_ 10), (1, u "java/lang/Object"), (85, u "clone"), (0, u "()Ljava/lang/Object;")] 26

def k0c0 : Code := { maxStack := 0, maxLocals := 1, code := object_method_1_code, exceptionTable := #[], attributes := #[] }
def k0m0 : Method := { name := "<init>", desc := "()V", sig := { parameters := [], returnType := none }, accessFlags := 1, code := some k0c0 }
def k0m1 : Method := { name := "clone", desc := "()Ljava/lang/Object;", sig := { parameters := [], returnType := some (.object "java/lang/Object") }, accessFlags := 260, code := none }
/-- java/lang/Object -/
def k0 : Class := { plain "java/lang/Object" none with
  accessFlags := 33
  interfaces := #[]
  cf := some (fileOf pool0 8 #[] #[{ accessFlags := 1, nameIndex := 5, descriptorIndex := 6, attributes := #[] }, { accessFlags := 260, nameIndex := 96, descriptorIndex := 97, attributes := #[] }] 33 0 #[] #[])
  fields := #[]
  methods := #[k0m0, k0m1]
  instanceTypes := #[]
  staticTypes := #[]
  resolved := Array.replicate 124 none
  statics := none }

def pool1 : Array CpInfo := pool [(2, .class_ 4), (1, u "java/lang/Object"), (0, u "<init>"), (0, u "()V"), (0, .class_ 8), (0, u "java/lang/String"), (0, .methodref 7 10), (0, .nameAndType 5 11), (0, u "([C)V"), (0, .fieldref 13 14), (0, .class_ 15), (0, .nameAndType 16 17), (0, u "com/example/oridune/oridune/core/Endian"), (0, u "BIG"), (0, u "Lcom/example/oridune/oridune/core/Endian;"), (0, .fieldref 13 19), (0, .nameAndType 20 17), (0, u "LITTLE"), (0, .methodref 13 22), (0, .nameAndType 23 24), (0, u "named"), (0, u "(Ljava/lang/String;)Lcom/example/oridune/oridune/core/Endian;"), (0, .methodref 13 26), (0, .nameAndType 27 28), (0, u "toString"), (0, u "()Ljava/lang/String;"), (0, .class_ 30), (0, u "com/example/oridune/oridune/core/EndianNamedPinLaw"), (2, u "law"), (0, u "(I)Z")] 5

def k1m0 : Method := { name := "<init>", desc := "()V", sig := { parameters := [], returnType := none }, accessFlags := 1, code := none }
def k1c1 : Code := { maxStack := 4, maxLocals := 6, code := code, exceptionTable := #[], attributes := #[] }
def k1m1 : Method := { name := "law", desc := "(I)Z", sig := { parameters := [.int], returnType := some .boolean }, accessFlags := 9, code := some k1c1 }
/-- com/example/oridune/oridune/core/EndianNamedPinLaw -/
def k1 : Class := { plain "com/example/oridune/oridune/core/EndianNamedPinLaw" (some 0) with
  accessFlags := 49
  interfaces := #[]
  cf := some (fileOf pool1 29 #[] #[{ accessFlags := 1, nameIndex := 5, descriptorIndex := 6, attributes := #[] }, { accessFlags := 9, nameIndex := 33, descriptorIndex := 34, attributes := #[] }] 49 2 #[] #[])
  fields := #[]
  methods := #[k1m0, k1m1]
  instanceTypes := #[]
  staticTypes := #[]
  resolved := Array.replicate 40 none
  statics := none }

def pool2 : Array CpInfo := pool [(1, .class_ 2), (0, u "java/io/Serializable"), (0, .class_ 4), (0, u "java/lang/Object")] 2

/-- java/io/Serializable -/
def k2 : Class := { plain "java/io/Serializable" (some 0) with
  accessFlags := 1537
  interfaces := #[]
  cf := some (fileOf pool2 1 #[] #[] 1537 3 #[] #[])
  fields := #[]
  methods := #[]
  instanceTypes := #[]
  staticTypes := #[]
  resolved := Array.replicate 7 none
  statics := none }

def pool3 : Array CpInfo := pool [(1, .class_ 2), (0, u "java/lang/Comparable"), (0, .class_ 4), (0, u "java/lang/Object")] 7

/-- java/lang/Comparable -/
def k3 : Class := { plain "java/lang/Comparable" (some 0) with
  accessFlags := 1537
  interfaces := #[]
  cf := some (fileOf pool3 1 #[] #[] 1537 3 #[] #[])
  fields := #[]
  methods := #[]
  instanceTypes := #[]
  staticTypes := #[]
  resolved := Array.replicate 12 none
  statics := none }

def pool4 : Array CpInfo := pool [(2, .class_ 4), (1, u "java/lang/CharSequence"), (42, .class_ 48), (0, u "java/lang/CharSequence$1CodePointIterator"), (10, .class_ 60), (0, u "java/lang/CharSequence$1CharIterator"), (5, .class_ 67), (0, u "java/lang/Object")] 63

/-- java/lang/CharSequence -/
def k4 : Class := { plain "java/lang/CharSequence" (some 0) with
  accessFlags := 1537
  interfaces := #[]
  cf := some (fileOf pool4 2 #[.nestMembers #[47, 59]] #[] 1537 66 #[] #[])
  fields := #[]
  methods := #[]
  instanceTypes := #[]
  staticTypes := #[]
  resolved := Array.replicate 131 none
  statics := none }

def pool5 : Array CpInfo := pool [(1, .class_ 2), (0, u "java/lang/constant/Constable"), (0, .class_ 4), (0, u "java/lang/Object")] 6

/-- java/lang/constant/Constable -/
def k5 : Class := { plain "java/lang/constant/Constable" (some 0) with
  accessFlags := 1537
  interfaces := #[]
  cf := some (fileOf pool5 1 #[] #[] 1537 3 #[] #[])
  fields := #[]
  methods := #[]
  instanceTypes := #[]
  staticTypes := #[]
  resolved := Array.replicate 11 none
  statics := none }

def pool6 : Array CpInfo := pool [(1, .class_ 2), (0, u "java/lang/constant/ConstantDesc"), (0, .class_ 4), (0, u "java/lang/Object")] 32

/-- java/lang/constant/ConstantDesc -/
def k6 : Class := { plain "java/lang/constant/ConstantDesc" (some 0) with
  accessFlags := 1537
  interfaces := #[]
  cf := some (fileOf pool6 1 #[] #[] 1537 3 #[] #[])
  fields := #[]
  methods := #[]
  instanceTypes := #[]
  staticTypes := #[]
  resolved := Array.replicate 37 none
  statics := none }

def pool7 : Array CpInfo := pool [(1, .methodref 2 3), (0, .class_ 4), (0, .nameAndType 5 6), (0, u "java/lang/Object"), (0, u "<init>"), (0, u "()V"), (2, .fieldref 10 11), (0, .class_ 12), (0, .nameAndType 13 14), (0, u "java/lang/String"), (0, u "value"), (0, u "[B"), (0, .fieldref 10 16), (0, .nameAndType 17 18), (0, u "coder"), (0, u "B"), (2, u "hash"), (0, u "I"), (2, u "hashIsZero"), (0, u "Z"), (0, .methodref 10 28), (0, .nameAndType 5 29), (0, u "([CIILjava/lang/Void;)V"), (8, .fieldref 10 39), (0, .nameAndType 40 26), (0, u "COMPACT_STRINGS"), (1, .class_ 44), (1, u "java/lang/StringUTF16"), (0, u "compress"), (1, .methodref 42 48), (0, .nameAndType 49 50), (0, u "coderFromArrayLen"), (0, u "([BI)B"), (56, .class_ 109), (1, u "java/lang/StringLatin1"), (67, .methodref 42 178), (0, .nameAndType 45 179), (0, u "([CII)[B"), (361, .methodref 107 542), (0, .nameAndType 543 544), (0, u "equals"), (0, u "([B[B)Z"), (28, u "(Ljava/lang/Object;)Z"), (1, .class_ 576), (0, u "java/lang/CharSequence"), (22, u "CASE_INSENSITIVE_ORDER"), (0, u "Ljava/util/Comparator;"), (409, u "([C)V"), (90, u "serialPersistentFields"), (0, u "[Ljava/io/ObjectStreamField;"), (0, .class_ 1104), (0, u "java/lang/String$CaseInsensitiveComparator"), (1, .class_ 1107), (0, u "java/io/Serializable"), (0, .class_ 1109), (0, u "java/lang/Comparable"), (0, .class_ 1111), (0, u "java/lang/constant/Constable"), (0, .class_ 1113), (0, u "java/lang/constant/ConstantDesc"), (2, u "serialVersionUID"), (0, u "J"), (3, u "REPL"), (0, u "C"), (2, u "LATIN1"), (1, u "UTF16")] 323

def k7m0 : Method := { name := "<init>", desc := "()V", sig := { parameters := [], returnType := none }, accessFlags := 1, code := none }
def k7c1 : Code := { maxStack := 5, maxLocals := 2, code := jdk_42_method_3_code, exceptionTable := #[], attributes := #[] }
def k7m1 : Method := { name := "<init>", desc := "([C)V", sig := { parameters := [(.array .char)], returnType := none }, accessFlags := 1, code := some k7c1 }
def k7c2 : Code := { maxStack := 2, maxLocals := 3, code := jdk_42_method_66_code, exceptionTable := #[], attributes := #[] }
def k7m2 : Method := { name := "equals", desc := "(Ljava/lang/Object;)Z", sig := { parameters := [(.object "java/lang/Object")], returnType := some .boolean }, accessFlags := 1, code := some k7c2 }
def k7c3 : Code := { maxStack := 4, maxLocals := 6, code := jdk_42_method_149_code, exceptionTable := #[], attributes := #[] }
def k7m3 : Method := { name := "<init>", desc := "([CIILjava/lang/Void;)V", sig := { parameters := [(.array .char), .int, .int, (.object "java/lang/Void")], returnType := none }, accessFlags := 2, code := some k7c3 }
/-- java/lang/String -/
def k7 : Class := { plain "java/lang/String" (some 0) with
  accessFlags := 49
  interfaces := #[2, 3, 4, 5, 6]
  cf := some (fileOf pool7 10 #[.nestMembers #[1103]] #[{ accessFlags := 1, nameIndex := 5, descriptorIndex := 6, attributes := #[] }, { accessFlags := 1, nameIndex := 5, descriptorIndex := 1010, attributes := #[] }, { accessFlags := 1, nameIndex := 543, descriptorIndex := 573, attributes := #[] }, { accessFlags := 2, nameIndex := 5, descriptorIndex := 29, attributes := #[] }] 49 2 #[1106, 1108, 575, 1110, 1112] #[{ accessFlags := 18, nameIndex := 13, descriptorIndex := 14, attributes := #[] }, { accessFlags := 18, nameIndex := 17, descriptorIndex := 18, attributes := #[] }, { accessFlags := 2, nameIndex := 21, descriptorIndex := 22, attributes := #[] }, { accessFlags := 2, nameIndex := 25, descriptorIndex := 26, attributes := #[] }, { accessFlags := 26, nameIndex := 1116, descriptorIndex := 1117, attributes := #[] }, { accessFlags := 24, nameIndex := 40, descriptorIndex := 26, attributes := #[] }, { accessFlags := 26, nameIndex := 1101, descriptorIndex := 1102, attributes := #[] }, { accessFlags := 26, nameIndex := 1121, descriptorIndex := 1122, attributes := #[] }, { accessFlags := 25, nameIndex := 599, descriptorIndex := 600, attributes := #[] }, { accessFlags := 24, nameIndex := 1125, descriptorIndex := 18, attributes := #[] }, { accessFlags := 24, nameIndex := 1127, descriptorIndex := 18, attributes := #[] }])
  fields := #[{ name := "value", type := (.array .byte), accessFlags := 18, slot := 0, constantValue := 0 }, { name := "coder", type := .byte, accessFlags := 18, slot := 1, constantValue := 0 }, { name := "hash", type := .int, accessFlags := 2, slot := 2, constantValue := 0 }, { name := "hashIsZero", type := .boolean, accessFlags := 2, slot := 3, constantValue := 0 }, { name := "serialVersionUID", type := .long, accessFlags := 26, slot := 0, constantValue := 0 }, { name := "COMPACT_STRINGS", type := .boolean, accessFlags := 24, slot := 1, constantValue := 0 }, { name := "serialPersistentFields", type := (.array (.object "java/io/ObjectStreamField")), accessFlags := 26, slot := 2, constantValue := 0 }, { name := "REPL", type := .char, accessFlags := 26, slot := 3, constantValue := 0 }, { name := "CASE_INSENSITIVE_ORDER", type := (.object "java/util/Comparator"), accessFlags := 25, slot := 4, constantValue := 0 }, { name := "LATIN1", type := .byte, accessFlags := 24, slot := 5, constantValue := 0 }, { name := "UTF16", type := .byte, accessFlags := 24, slot := 6, constantValue := 0 }]
  methods := #[k7m0, k7m1, k7m2, k7m3]
  instanceTypes := #[(.array .byte), .byte, .int, .boolean]
  staticTypes := #[.long, .boolean, (.array (.object "java/io/ObjectStreamField")), .char, (.object "java/util/Comparator"), .byte, .byte]
  resolved := Array.replicate 1451 none
  statics := some 0 }

def pool8 : Array CpInfo := pool [(6, .class_ 8), (1, u "java/lang/Object"), (0, u "<init>"), (0, u "()V"), (1, .class_ 14), (1, u "java/lang/StringUTF16"), (31, u "$assertionsDisabled"), (0, u "Z"), (13, u "HI_BYTE_SHIFT"), (0, u "I"), (2, u "LO_BYTE_SHIFT"), (49, .methodref 12 116), (0, .nameAndType 117 118), (0, u "compress"), (0, u "([CI[BII)I"), (3, u "([CII)[B"), (138, u "coderFromArrayLen"), (0, u "([BI)B"), (106, .class_ 371), (1, u "java/lang/StringUTF16$LinesSpliterator"), (58, u "MAX_LENGTH"), (196, .class_ 628), (0, u "java/lang/StringUTF16$CodePointsSpliterator"), (0, .class_ 630), (0, u "java/lang/StringUTF16$CharsSpliterator")] 4

def k8m0 : Method := { name := "<init>", desc := "()V", sig := { parameters := [], returnType := none }, accessFlags := 0, code := none }
def k8c1 : Code := { maxStack := 2, maxLocals := 2, code := jdk_52_method_15_code, exceptionTable := #[], attributes := #[] }
def k8m1 : Method := { name := "coderFromArrayLen", desc := "([BI)B", sig := { parameters := [(.array .byte), .int], returnType := some .byte }, accessFlags := 8, code := some k8c1 }
def k8c2 : Code := { maxStack := 5, maxLocals := 6, code := jdk_52_method_16_code, exceptionTable := #[], attributes := #[] }
def k8m2 : Method := { name := "compress", desc := "([CII)[B", sig := { parameters := [(.array .char), .int, .int], returnType := some (.array .byte) }, accessFlags := 9, code := some k8c2 }
def k8c3 : Code := { maxStack := 3, maxLocals := 7, code := jdk_52_method_21_code, exceptionTable := #[], attributes := #[] }
def k8m3 : Method := { name := "compress", desc := "([CI[BII)I", sig := { parameters := [(.array .char), .int, (.array .byte), .int, .int], returnType := some .int }, accessFlags := 9, code := some k8c3 }
/-- java/lang/StringUTF16 -/
def k8 : Class := { plain "java/lang/StringUTF16" (some 0) with
  accessFlags := 48
  interfaces := #[]
  cf := some (fileOf pool8 12 #[.nestMembers #[627, 629, 369]] #[{ accessFlags := 0, nameIndex := 9, descriptorIndex := 10, attributes := #[] }, { accessFlags := 8, nameIndex := 261, descriptorIndex := 262, attributes := #[] }, { accessFlags := 9, nameIndex := 117, descriptorIndex := 122, attributes := #[] }, { accessFlags := 9, nameIndex := 117, descriptorIndex := 118, attributes := #[] }] 48 6 #[] #[{ accessFlags := 26, nameIndex := 61, descriptorIndex := 62, attributes := #[] }, { accessFlags := 26, nameIndex := 65, descriptorIndex := 62, attributes := #[] }, { accessFlags := 24, nameIndex := 430, descriptorIndex := 62, attributes := #[] }, { accessFlags := 4120, nameIndex := 46, descriptorIndex := 47, attributes := #[] }])
  fields := #[{ name := "HI_BYTE_SHIFT", type := .int, accessFlags := 26, slot := 0, constantValue := 0 }, { name := "LO_BYTE_SHIFT", type := .int, accessFlags := 26, slot := 1, constantValue := 0 }, { name := "MAX_LENGTH", type := .int, accessFlags := 24, slot := 2, constantValue := 0 }, { name := "$assertionsDisabled", type := .boolean, accessFlags := 4120, slot := 3, constantValue := 0 }]
  methods := #[k8m0, k8m1, k8m2, k8m3]
  instanceTypes := #[]
  staticTypes := #[.int, .int, .int, .boolean]
  resolved := Array.replicate 635 none
  statics := none }

def pool9 : Array CpInfo := pool [(2, .class_ 4), (1, u "java/lang/Enum"), (0, u "name"), (0, u "Ljava/lang/String;"), (2, u "ordinal"), (0, u "I"), (1, .class_ 14), (1, u "java/lang/Object"), (4, u "hash"), (86, .class_ 108), (1, u "java/lang/Enum$EnumDesc"), (2, .class_ 112), (0, u "java/lang/constant/Constable"), (0, .class_ 114), (0, u "java/lang/Comparable"), (0, .class_ 116), (0, u "java/io/Serializable")] 87

/-- java/lang/Enum -/
def k9 : Class := { plain "java/lang/Enum" (some 0) with
  accessFlags := 1057
  interfaces := #[5, 3, 2]
  cf := some (fileOf pool9 2 #[.nestMembers #[106]] #[] 1057 12 #[111, 113, 115] #[{ accessFlags := 18, nameIndex := 5, descriptorIndex := 6, attributes := #[] }, { accessFlags := 18, nameIndex := 9, descriptorIndex := 10, attributes := #[] }, { accessFlags := 2, nameIndex := 19, descriptorIndex := 10, attributes := #[] }])
  fields := #[{ name := "name", type := (.object "java/lang/String"), accessFlags := 18, slot := 0, constantValue := 0 }, { name := "ordinal", type := .int, accessFlags := 18, slot := 1, constantValue := 0 }, { name := "hash", type := .int, accessFlags := 2, slot := 2, constantValue := 0 }]
  methods := #[]
  instanceTypes := #[(.object "java/lang/String"), .int, .int]
  staticTypes := #[]
  resolved := Array.replicate 204 none
  statics := none }

def pool10 : Array CpInfo := pool [(1, .class_ 2), (0, u "com/example/oridune/oridune/core/Endian"), (2, u "LITTLE"), (0, u "Lcom/example/oridune/oridune/core/Endian;"), (2, u "BIG"), (0, .fieldref 1 11), (0, .nameAndType 12 13), (0, u "$VALUES"), (0, u "[Lcom/example/oridune/oridune/core/Endian;"), (0, .methodref 15 16), (0, .class_ 13), (0, .nameAndType 17 18), (0, u "clone"), (0, u "()Ljava/lang/Object;"), (1, .class_ 22), (1, u "java/lang/Enum"), (6, .fieldref 1 30), (0, .nameAndType 31 32), (0, u "optionName"), (0, u "Ljava/lang/String;"), (2, u "code"), (2, u "order"), (0, u "Ljava/nio/ByteOrder;"), (0, .methodref 1 41), (0, .nameAndType 42 43), (0, u "values"), (0, u "()[Lcom/example/oridune/oridune/core/Endian;"), (0, .methodref 45 46), (0, .class_ 47), (0, .nameAndType 48 49), (0, u "java/lang/String"), (0, u "equals"), (0, u "(Ljava/lang/Object;)Z"), (35, u "(Ljava/lang/String;)Lcom/example/oridune/oridune/core/Endian;"), (3, u "named"), (1, u "()Ljava/lang/String;"), (1, u "toString")] 20

def k10c0 : Code := { maxStack := 1, maxLocals := 0, code := prog_32_method_1_code, exceptionTable := #[], attributes := #[] }
def k10m0 : Method := { name := "values", desc := "()[Lcom/example/oridune/oridune/core/Endian;", sig := { parameters := [], returnType := some (.array (.object "com/example/oridune/oridune/core/Endian")) }, accessFlags := 9, code := some k10c0 }
def k10c1 : Code := { maxStack := 3, maxLocals := 5, code := prog_32_method_4_code, exceptionTable := #[], attributes := #[] }
def k10m1 : Method := { name := "named", desc := "(Ljava/lang/String;)Lcom/example/oridune/oridune/core/Endian;", sig := { parameters := [(.object "java/lang/String")], returnType := some (.object "com/example/oridune/oridune/core/Endian") }, accessFlags := 9, code := some k10c1 }
def k10c2 : Code := { maxStack := 1, maxLocals := 1, code := prog_32_method_7_code, exceptionTable := #[], attributes := #[] }
def k10m2 : Method := { name := "toString", desc := "()Ljava/lang/String;", sig := { parameters := [], returnType := some (.object "java/lang/String") }, accessFlags := 1, code := some k10c2 }
/-- com/example/oridune/oridune/core/Endian -/
def k10 : Class := { plain "com/example/oridune/oridune/core/Endian" (some 9) with
  accessFlags := 16433
  interfaces := #[]
  cf := some (fileOf pool10 1 #[] #[{ accessFlags := 9, nameIndex := 42, descriptorIndex := 43, attributes := #[] }, { accessFlags := 9, nameIndex := 89, descriptorIndex := 85, attributes := #[] }, { accessFlags := 1, nameIndex := 93, descriptorIndex := 91, attributes := #[] }] 16433 20 #[] #[{ accessFlags := 16409, nameIndex := 5, descriptorIndex := 6, attributes := #[] }, { accessFlags := 16409, nameIndex := 9, descriptorIndex := 6, attributes := #[] }, { accessFlags := 18, nameIndex := 31, descriptorIndex := 32, attributes := #[] }, { accessFlags := 18, nameIndex := 35, descriptorIndex := 32, attributes := #[] }, { accessFlags := 18, nameIndex := 38, descriptorIndex := 39, attributes := #[] }, { accessFlags := 4122, nameIndex := 12, descriptorIndex := 13, attributes := #[] }])
  fields := #[{ name := "LITTLE", type := (.object "com/example/oridune/oridune/core/Endian"), accessFlags := 16409, slot := 0, constantValue := 0 }, { name := "BIG", type := (.object "com/example/oridune/oridune/core/Endian"), accessFlags := 16409, slot := 1, constantValue := 0 }, { name := "optionName", type := (.object "java/lang/String"), accessFlags := 18, slot := 3, constantValue := 0 }, { name := "code", type := (.object "java/lang/String"), accessFlags := 18, slot := 4, constantValue := 0 }, { name := "order", type := (.object "java/nio/ByteOrder"), accessFlags := 18, slot := 5, constantValue := 0 }, { name := "$VALUES", type := (.array (.object "com/example/oridune/oridune/core/Endian")), accessFlags := 4122, slot := 2, constantValue := 0 }]
  methods := #[k10m0, k10m1, k10m2]
  instanceTypes := #[(.object "java/lang/String"), .int, .int, (.object "java/lang/String"), (.object "java/lang/String"), (.object "java/nio/ByteOrder")]
  staticTypes := #[(.object "com/example/oridune/oridune/core/Endian"), (.object "com/example/oridune/oridune/core/Endian"), (.array (.object "com/example/oridune/oridune/core/Endian"))]
  resolved := Array.replicate 114 none
  statics := some 1 }

def pool11 : Array CpInfo := pool [(1, .class_ 2), (0, u "java/lang/Cloneable"), (0, .class_ 4), (0, u "java/lang/Object")] 2

/-- java/lang/Cloneable -/
def k11 : Class := { plain "java/lang/Cloneable" (some 0) with
  accessFlags := 1537
  interfaces := #[]
  cf := some (fileOf pool11 1 #[] #[] 1537 3 #[] #[])
  fields := #[]
  methods := #[]
  instanceTypes := #[]
  staticTypes := #[]
  resolved := Array.replicate 7 none
  statics := none }

def pool12 : Array CpInfo := pool [(4, .class_ 6), (1, u "java/lang/Object"), (0, u "<init>"), (0, u "()V"), (5, .class_ 16), (1, u "java/lang/StringLatin1"), (104, u "$assertionsDisabled"), (0, u "Z"), (98, .class_ 223), (1, u "java/lang/StringLatin1$LinesSpliterator"), (57, u "equals"), (0, u "([B[B)Z"), (107, .class_ 391), (0, u "java/lang/StringLatin1$CharsSpliterator")] 3

def k12m0 : Method := { name := "<init>", desc := "()V", sig := { parameters := [], returnType := none }, accessFlags := 0, code := none }
def k12c1 : Code := { maxStack := 3, maxLocals := 3, code := jdk_43_method_13_code, exceptionTable := #[], attributes := #[] }
def k12m1 : Method := { name := "equals", desc := "([B[B)Z", sig := { parameters := [(.array .byte), (.array .byte)], returnType := some .boolean }, accessFlags := 9, code := some k12c1 }
/-- java/lang/StringLatin1 -/
def k12 : Class := { plain "java/lang/StringLatin1" (some 0) with
  accessFlags := 48
  interfaces := #[]
  cf := some (fileOf pool12 14 #[.nestMembers #[390, 221]] #[{ accessFlags := 0, nameIndex := 7, descriptorIndex := 8, attributes := #[] }, { accessFlags := 9, nameIndex := 281, descriptorIndex := 282, attributes := #[] }] 48 4 #[] #[{ accessFlags := 4120, nameIndex := 121, descriptorIndex := 122, attributes := #[] }])
  fields := #[{ name := "$assertionsDisabled", type := .boolean, accessFlags := 4120, slot := 0, constantValue := 0 }]
  methods := #[k12m0, k12m1]
  instanceTypes := #[]
  staticTypes := #[.boolean]
  resolved := Array.replicate 395 none
  statics := none }

def pool13 : Array CpInfo := pool [(2, .class_ 4), (1, u "java/lang/Object"), (0, u "<init>"), (0, u "()V"), (17, .class_ 26), (1, u "jdk/internal/util/Preconditions"), (28, .class_ 56), (0, u "jdk/internal/util/Preconditions$4"), (57, .class_ 115), (0, u "jdk/internal/util/Preconditions$1"), (7, u "SIOOBE_FORMATTER"), (0, u "Ljava/util/function/BiFunction;"), (0, .class_ 126), (0, u "jdk/internal/util/Preconditions$2"), (3, u "AIOOBE_FORMATTER"), (0, .class_ 132), (0, u "jdk/internal/util/Preconditions$3"), (3, u "IOOBE_FORMATTER")] 57

def k13m0 : Method := { name := "<init>", desc := "()V", sig := { parameters := [], returnType := none }, accessFlags := 1, code := none }
/-- jdk/internal/util/Preconditions -/
def k13 : Class := { plain "jdk/internal/util/Preconditions" (some 0) with
  accessFlags := 33
  interfaces := #[]
  cf := some (fileOf pool13 24 #[.nestMembers #[55, 131, 125, 114]] #[{ accessFlags := 1, nameIndex := 5, descriptorIndex := 6, attributes := #[] }] 33 2 #[] #[{ accessFlags := 25, nameIndex := 123, descriptorIndex := 124, attributes := #[] }, { accessFlags := 25, nameIndex := 130, descriptorIndex := 124, attributes := #[] }, { accessFlags := 25, nameIndex := 136, descriptorIndex := 124, attributes := #[] }])
  fields := #[{ name := "SIOOBE_FORMATTER", type := (.object "java/util/function/BiFunction"), accessFlags := 25, slot := 0, constantValue := 0 }, { name := "AIOOBE_FORMATTER", type := (.object "java/util/function/BiFunction"), accessFlags := 25, slot := 1, constantValue := 0 }, { name := "IOOBE_FORMATTER", type := (.object "java/util/function/BiFunction"), accessFlags := 25, slot := 2, constantValue := 0 }]
  methods := #[k13m0]
  instanceTypes := #[]
  staticTypes := #[(.object "java/util/function/BiFunction"), (.object "java/util/function/BiFunction"), (.object "java/util/function/BiFunction")]
  resolved := Array.replicate 194 none
  statics := some 2 }

def pool14 : Array CpInfo := pool [(9, u "<init>"), (6, .class_ 18), (1, u "java/lang/Object"), (0, u "()V"), (1, .class_ 23), (1, u "jdk/internal/util/ArraysSupport"), (0, u "LOG2_ARRAY_LONG_INDEX_SCALE"), (0, u "I"), (2, u "U"), (0, u "Ljdk/internal/misc/Unsafe;"), (8, u "BIG_ENDIAN"), (0, u "Z"), (8, u "LOG2_BYTE_BIT_SIZE"), (4, u "LOG2_ARRAY_INT_INDEX_SCALE"), (54, u "JLA"), (0, u "Ljdk/internal/access/JavaLangAccess;"), (11, u "LOG2_ARRAY_BOOLEAN_INDEX_SCALE"), (9, u "LOG2_ARRAY_BYTE_INDEX_SCALE"), (5, u "LOG2_ARRAY_CHAR_INDEX_SCALE"), (5, u "LOG2_ARRAY_SHORT_INDEX_SCALE"), (18, u "LOG2_ARRAY_FLOAT_INDEX_SCALE"), (24, u "LOG2_ARRAY_DOUBLE_INDEX_SCALE"), (89, u "T_BOOLEAN"), (2, u "T_CHAR"), (1, u "T_FLOAT"), (1, u "T_DOUBLE"), (1, u "T_BYTE"), (1, u "T_SHORT"), (1, u "T_INT"), (1, u "T_LONG"), (1, u "SOFT_MAX_ARRAY_LENGTH")] 83

def k14m0 : Method := { name := "<init>", desc := "()V", sig := { parameters := [], returnType := none }, accessFlags := 2, code := none }
/-- jdk/internal/util/ArraysSupport -/
def k14 : Class := { plain "jdk/internal/util/ArraysSupport" (some 0) with
  accessFlags := 33
  interfaces := #[]
  cf := some (fileOf pool14 21 #[] #[{ accessFlags := 2, nameIndex := 9, descriptorIndex := 19, attributes := #[] }] 33 16 #[] #[{ accessFlags := 24, nameIndex := 28, descriptorIndex := 29, attributes := #[] }, { accessFlags := 26, nameIndex := 38, descriptorIndex := 39, attributes := #[] }, { accessFlags := 25, nameIndex := 121, descriptorIndex := 25, attributes := #[] }, { accessFlags := 25, nameIndex := 131, descriptorIndex := 25, attributes := #[] }, { accessFlags := 25, nameIndex := 137, descriptorIndex := 25, attributes := #[] }, { accessFlags := 25, nameIndex := 143, descriptorIndex := 25, attributes := #[] }, { accessFlags := 25, nameIndex := 53, descriptorIndex := 25, attributes := #[] }, { accessFlags := 25, nameIndex := 24, descriptorIndex := 25, attributes := #[] }, { accessFlags := 25, nameIndex := 162, descriptorIndex := 25, attributes := #[] }, { accessFlags := 25, nameIndex := 187, descriptorIndex := 25, attributes := #[] }, { accessFlags := 26, nameIndex := 48, descriptorIndex := 25, attributes := #[] }, { accessFlags := 25, nameIndex := 277, descriptorIndex := 25, attributes := #[] }, { accessFlags := 25, nameIndex := 280, descriptorIndex := 25, attributes := #[] }, { accessFlags := 25, nameIndex := 282, descriptorIndex := 25, attributes := #[] }, { accessFlags := 25, nameIndex := 284, descriptorIndex := 25, attributes := #[] }, { accessFlags := 25, nameIndex := 286, descriptorIndex := 25, attributes := #[] }, { accessFlags := 25, nameIndex := 288, descriptorIndex := 25, attributes := #[] }, { accessFlags := 25, nameIndex := 290, descriptorIndex := 25, attributes := #[] }, { accessFlags := 25, nameIndex := 292, descriptorIndex := 25, attributes := #[] }, { accessFlags := 26, nameIndex := 108, descriptorIndex := 109, attributes := #[] }, { accessFlags := 25, nameIndex := 294, descriptorIndex := 25, attributes := #[] }])
  fields := #[{ name := "U", type := (.object "jdk/internal/misc/Unsafe"), accessFlags := 24, slot := 0, constantValue := 0 }, { name := "BIG_ENDIAN", type := .boolean, accessFlags := 26, slot := 1, constantValue := 0 }, { name := "LOG2_ARRAY_BOOLEAN_INDEX_SCALE", type := .int, accessFlags := 25, slot := 2, constantValue := 0 }, { name := "LOG2_ARRAY_BYTE_INDEX_SCALE", type := .int, accessFlags := 25, slot := 3, constantValue := 0 }, { name := "LOG2_ARRAY_CHAR_INDEX_SCALE", type := .int, accessFlags := 25, slot := 4, constantValue := 0 }, { name := "LOG2_ARRAY_SHORT_INDEX_SCALE", type := .int, accessFlags := 25, slot := 5, constantValue := 0 }, { name := "LOG2_ARRAY_INT_INDEX_SCALE", type := .int, accessFlags := 25, slot := 6, constantValue := 0 }, { name := "LOG2_ARRAY_LONG_INDEX_SCALE", type := .int, accessFlags := 25, slot := 7, constantValue := 0 }, { name := "LOG2_ARRAY_FLOAT_INDEX_SCALE", type := .int, accessFlags := 25, slot := 8, constantValue := 0 }, { name := "LOG2_ARRAY_DOUBLE_INDEX_SCALE", type := .int, accessFlags := 25, slot := 9, constantValue := 0 }, { name := "LOG2_BYTE_BIT_SIZE", type := .int, accessFlags := 26, slot := 10, constantValue := 0 }, { name := "T_BOOLEAN", type := .int, accessFlags := 25, slot := 11, constantValue := 0 }, { name := "T_CHAR", type := .int, accessFlags := 25, slot := 12, constantValue := 0 }, { name := "T_FLOAT", type := .int, accessFlags := 25, slot := 13, constantValue := 0 }, { name := "T_DOUBLE", type := .int, accessFlags := 25, slot := 14, constantValue := 0 }, { name := "T_BYTE", type := .int, accessFlags := 25, slot := 15, constantValue := 0 }, { name := "T_SHORT", type := .int, accessFlags := 25, slot := 16, constantValue := 0 }, { name := "T_INT", type := .int, accessFlags := 25, slot := 17, constantValue := 0 }, { name := "T_LONG", type := .int, accessFlags := 25, slot := 18, constantValue := 0 }, { name := "JLA", type := (.object "jdk/internal/access/JavaLangAccess"), accessFlags := 26, slot := 19, constantValue := 0 }, { name := "SOFT_MAX_ARRAY_LENGTH", type := .int, accessFlags := 25, slot := 20, constantValue := 0 }]
  methods := #[k14m0]
  instanceTypes := #[]
  staticTypes := #[(.object "jdk/internal/misc/Unsafe"), .boolean, .int, .int, .int, .int, .int, .int, .int, .int, .int, .int, .int, .int, .int, .int, .int, .int, .int, (.object "jdk/internal/access/JavaLangAccess"), .int]
  resolved := Array.replicate 378 none
  statics := none }

/-- the primitive byte -/
def k15 : Class := { plain "byte" none with kind := .primitive 'B', accessFlags := 0x411 }
/-- [B -/
def k16 : Class := { plain "[B" (some 0) with kind := .array 15 .byte, interfaces := #[11, 2], accessFlags := 1041 }

/-- the primitive char -/
def k17 : Class := { plain "char" none with kind := .primitive 'C', accessFlags := 0x411 }
/-- [C -/
def k18 : Class := { plain "[C" (some 0) with kind := .array 17 .char, interfaces := #[11, 2], accessFlags := 1041 }

/-- the primitive int -/
def k19 : Class := { plain "int" none with kind := .primitive 'I', accessFlags := 0x411 }
/-- [I -/
def k20 : Class := { plain "[I" (some 0) with kind := .array 19 .int, interfaces := #[11, 2], accessFlags := 1041 }

/-- [Lcom/example/oridune/oridune/core/Endian; -/
def k21 : Class := { plain "[Lcom/example/oridune/oridune/core/Endian;" (some 0) with kind := .array 10 (.object "com/example/oridune/oridune/core/Endian"), interfaces := #[11, 2], accessFlags := 1041 }

def heap : Heap := #[{ cls := 7, slots := #[.long 0, .int 1, .null, .int 0, .null, .int 0, .int 0], vm := .statics 7 },
  { cls := 10, slots := #[.ref 4, .ref 5, .ref 3], vm := .statics 10 },
  { cls := 13, slots := #[.null, .null, .null], vm := .statics 13 },
  { cls := 21, slots := #[.ref 4, .ref 5], vm := .none },
  { cls := 10, slots := #[.null, .int 0, .int 0, .ref 6, .null, .null], vm := .none },
  { cls := 10, slots := #[.null, .int 1, .int 0, .ref 7, .null, .null], vm := .none },
  { cls := 7, slots := #[.ref 8, .int 0, .int 0, .int 0], vm := .none },
  { cls := 7, slots := #[.ref 9, .int 0, .int 0, .int 0], vm := .none },
  { cls := 16, slots := #[.int 108, .int 105, .int 116, .int 116, .int 108, .int 101], vm := .none },
  { cls := 16, slots := #[.int 98, .int 105, .int 103], vm := .none }]
def classes : Array Class := #[k0, k1, k2, k3, k4, k5, k6, k7, k8, k9, k10, k11, k12, k13, k14, k15, k16, k17, k18, k19, k20, k21]
def interned : List (Array UInt16 × Addr) := []
def slotsUsed : Nat := 44
def theMethod : MethodId := ⟨1, 1⟩
def args0 : Array Value := #[.int 5]
def aboutOver (below : List Frame) : State where
  vm := { classes := classes, interned := interned.toArray }
  heap := heap
  slotsUsed := slotsUsed
  threads := #[{ frames := .invoking theMethod args0 :: below }]
def below0 : List Frame := [.native { method := ⟨0, 0⟩, args := #[] }]
def about1 : State := aboutOver below0
def p0 : Program := .bare "" "" ""
def e0 : Env := launch0.env 0 0 0
theorem w_frames : about1.frames = Frame.invoking theMethod args0 :: below0 := rfl
set_option maxRecDepth 65536 in
theorem w_args : argsFit about1.vm theMethod args0 = true := by decide +kernel
set_option maxRecDepth 65536 in
theorem w_heap : heapFits about1 = true := by decide +kernel
set_option maxRecDepth 65536 in
theorem w_runnable : about1.curStatus? = some .runnable := by decide +kernel
set_option maxRecDepth 65536 in
theorem w_alone : about1.alone = true := by decide +kernel
set_option maxRecDepth 65536 in
theorem w_named : about1.methodNamed? x = some theMethod := by decide +kernel
set_option maxRecDepth 65536 in
theorem w_hears : about1.hears theMethod below0 = true := by decide +kernel
set_option maxRecDepth 65536 in
theorem w_ripe : about1.ripe theMethod args0 below0 = true := by decide +kernel
theorem w_running : about1.status = .running := rfl
set_option maxRecDepth 65536 in
theorem w_room : about1.hasRoom e0.platform room_1 = true :=
  launch0.hasRoom_least _ room_1 (by decide +kernel) (by decide +kernel) (by decide +kernel) (by decide +kernel) (by decide +kernel) (by decide +kernel)
theorem allAtoms_all (ts : List Jvm.Cond) (a : Array Jvm.Value) (st : Jvm.State) : (allAtoms ts).before a st = ts.all (fun c => c.before a st) := by
  induction ts with
  | nil => rfl
  | cons c t ih =>
    show (Jvm.Cond.and c (allAtoms t)).before a st = _
    rw [Jvm.Cond.before_and, ih, List.all_cons]
def words1 : List Jvm.Cond := Jvm.Cond.code x code maxLocals ret :: tables_1
/-- a 'code' word, met by the world's own term for the bytes: nothing is compared byte by byte -/
theorem code_word {y : MethodName} {bytes : ByteArray} {mx : Nat} {rt : Option FieldType} {a : Array Value} {s : State} {m : MethodId} {meth : Method} {c : Code} (h1 : s.methodNamed? y = some m) (h2 : s.vm.method? m = some meth) (h3 : meth.code = some c) (h4 : c.code = bytes)
    (h5 : (c.maxLocals == mx && c.exceptionTable.isEmpty && decide (c.maxStack ≤ mostOperands) && decide (meth.sig.returnType = rt) && !meth.locks && decide (parseMethodDescriptor y.desc = some meth.sig)) = true) : (Jvm.Cond.code y bytes mx rt).before a s = true := by
  simp only [Bool.and_eq_true, beq_iff_eq, Bool.not_eq_true', decide_eq_true_eq] at h5
  obtain ⟨⟨⟨⟨⟨g1, g2⟩, g3⟩, g4⟩, g5⟩, g6⟩ := h5
  simp [Cond.before, Cond.holds, Cond.value, h1, h2, h3, h4, g1, g2, g3, g4, g5, g6]
def isCode : Jvm.Cond → Bool
  | .code _ _ _ _ => true
  | _ => false
theorem all_split {L : List Jvm.Cond} {P : Jvm.Cond → Bool} (h1 : L.all (fun c => isCode c || P c) = true) (h2 : ∀ c ∈ L.filter isCode, P c = true) : L.all P = true := by
  refine List.all_eq_true.mpr fun c hc => ?_
  have h := List.all_eq_true.mp h1 c hc
  rcases Bool.eq_false_or_eq_true (isCode c) with hi | hi
  · exact h2 c (List.mem_filter.mpr ⟨hc, hi⟩)
  · simpa [hi] using h
set_option maxRecDepth 65536 in
theorem w_c0 : (Jvm.Cond.code x code maxLocals ret).before args0 about1 = true := code_word (m := ⟨1, 1⟩) (meth := k1m1) (c := k1c1) (by decide +kernel) rfl rfl rfl (by decide +kernel)
set_option maxRecDepth 65536 in
theorem w_c1 : (Jvm.Cond.code ({ cls := "java/lang/String", name := "<init>", desc := "([C)V" } : Jvm.MethodName) jdk_42_method_3_code (2 : Nat) (Option.none : Option Jvm.ClassFile.FieldType)).before args0 about1 = true := code_word (m := ⟨7, 1⟩) (meth := k7m1) (c := k7c1) (by decide +kernel) rfl rfl rfl (by decide +kernel)
set_option maxRecDepth 65536 in
theorem w_c2 : (Jvm.Cond.code ({ cls := "java/lang/String", name := "<init>", desc := "([CIILjava/lang/Void;)V" } : Jvm.MethodName) jdk_42_method_149_code (6 : Nat) (Option.none : Option Jvm.ClassFile.FieldType)).before args0 about1 = true := code_word (m := ⟨7, 3⟩) (meth := k7m3) (c := k7c3) (by decide +kernel) rfl rfl rfl (by decide +kernel)
set_option maxRecDepth 65536 in
theorem w_c3 : (Jvm.Cond.code ({ cls := "java/lang/Object", name := "<init>", desc := "()V" } : Jvm.MethodName) object_method_1_code (1 : Nat) (Option.none : Option Jvm.ClassFile.FieldType)).before args0 about1 = true := code_word (m := ⟨0, 0⟩) (meth := k0m0) (c := k0c0) (by decide +kernel) rfl rfl rfl (by decide +kernel)
set_option maxRecDepth 65536 in
theorem w_c4 : (Jvm.Cond.code ({ cls := "java/lang/StringUTF16", name := "compress", desc := "([CII)[B" } : Jvm.MethodName) jdk_52_method_16_code (6 : Nat) (Option.some (Jvm.ClassFile.FieldType.array Jvm.ClassFile.FieldType.byte))).before args0 about1 = true := code_word (m := ⟨8, 2⟩) (meth := k8m2) (c := k8c2) (by decide +kernel) rfl rfl rfl (by decide +kernel)
set_option maxRecDepth 65536 in
theorem w_c5 : (Jvm.Cond.code ({ cls := "java/lang/StringUTF16", name := "compress", desc := "([CI[BII)I" } : Jvm.MethodName) jdk_52_method_21_code (7 : Nat) (Option.some Jvm.ClassFile.FieldType.int)).before args0 about1 = true := code_word (m := ⟨8, 3⟩) (meth := k8m3) (c := k8c3) (by decide +kernel) rfl rfl rfl (by decide +kernel)
set_option maxRecDepth 65536 in
theorem w_c6 : (Jvm.Cond.code ({ cls := "java/lang/StringUTF16", name := "coderFromArrayLen", desc := "([BI)B" } : Jvm.MethodName) jdk_52_method_15_code (2 : Nat) (Option.some Jvm.ClassFile.FieldType.byte)).before args0 about1 = true := code_word (m := ⟨8, 1⟩) (meth := k8m1) (c := k8c1) (by decide +kernel) rfl rfl rfl (by decide +kernel)
set_option maxRecDepth 65536 in
theorem w_c7 : (Jvm.Cond.code ({ cls := "com/example/oridune/oridune/core/Endian", name := "named", desc := "(Ljava/lang/String;)Lcom/example/oridune/oridune/core/Endian;" } : Jvm.MethodName) prog_32_method_4_code (5 : Nat) (Option.some (Jvm.ClassFile.FieldType.object "com/example/oridune/oridune/core/Endian"))).before args0 about1 = true := code_word (m := ⟨10, 1⟩) (meth := k10m1) (c := k10c1) (by decide +kernel) rfl rfl rfl (by decide +kernel)
set_option maxRecDepth 65536 in
theorem w_c8 : (Jvm.Cond.code ({ cls := "com/example/oridune/oridune/core/Endian", name := "values", desc := "()[Lcom/example/oridune/oridune/core/Endian;" } : Jvm.MethodName) prog_32_method_1_code (0 : Nat) (Option.some (Jvm.ClassFile.FieldType.array (Jvm.ClassFile.FieldType.object "com/example/oridune/oridune/core/Endian")))).before args0 about1 = true := code_word (m := ⟨10, 0⟩) (meth := k10m0) (c := k10c0) (by decide +kernel) rfl rfl rfl (by decide +kernel)
set_option maxRecDepth 65536 in
theorem w_c9 : (Jvm.Cond.code ({ cls := "java/lang/String", name := "equals", desc := "(Ljava/lang/Object;)Z" } : Jvm.MethodName) jdk_42_method_66_code (3 : Nat) (Option.some Jvm.ClassFile.FieldType.boolean)).before args0 about1 = true := code_word (m := ⟨7, 2⟩) (meth := k7m2) (c := k7c2) (by decide +kernel) rfl rfl rfl (by decide +kernel)
set_option maxRecDepth 65536 in
theorem w_c10 : (Jvm.Cond.code ({ cls := "java/lang/StringLatin1", name := "equals", desc := "([B[B)Z" } : Jvm.MethodName) jdk_43_method_13_code (3 : Nat) (Option.some Jvm.ClassFile.FieldType.boolean)).before args0 about1 = true := code_word (m := ⟨12, 1⟩) (meth := k12m1) (c := k12c1) (by decide +kernel) rfl rfl rfl (by decide +kernel)
set_option maxRecDepth 65536 in
theorem w_c11 : (Jvm.Cond.code ({ cls := "com/example/oridune/oridune/core/Endian", name := "toString", desc := "()Ljava/lang/String;" } : Jvm.MethodName) prog_32_method_7_code (1 : Nat) (Option.some (Jvm.ClassFile.FieldType.object "java/lang/String"))).before args0 about1 = true := code_word (m := ⟨10, 2⟩) (meth := k10m2) (c := k10c2) (by decide +kernel) rfl rfl rfl (by decide +kernel)
def codes1 : List Jvm.Cond := [Jvm.Cond.code x code maxLocals ret, Jvm.Cond.code ({ cls := "java/lang/String", name := "<init>", desc := "([C)V" } : Jvm.MethodName) jdk_42_method_3_code (2 : Nat) (Option.none : Option Jvm.ClassFile.FieldType), Jvm.Cond.code ({ cls := "java/lang/String", name := "<init>", desc := "([CIILjava/lang/Void;)V" } : Jvm.MethodName) jdk_42_method_149_code (6 : Nat) (Option.none : Option Jvm.ClassFile.FieldType), Jvm.Cond.code ({ cls := "java/lang/Object", name := "<init>", desc := "()V" } : Jvm.MethodName) object_method_1_code (1 : Nat) (Option.none : Option Jvm.ClassFile.FieldType), Jvm.Cond.code ({ cls := "java/lang/StringUTF16", name := "compress", desc := "([CII)[B" } : Jvm.MethodName) jdk_52_method_16_code (6 : Nat) (Option.some (Jvm.ClassFile.FieldType.array Jvm.ClassFile.FieldType.byte)), Jvm.Cond.code ({ cls := "java/lang/StringUTF16", name := "compress", desc := "([CI[BII)I" } : Jvm.MethodName) jdk_52_method_21_code (7 : Nat) (Option.some Jvm.ClassFile.FieldType.int), Jvm.Cond.code ({ cls := "java/lang/StringUTF16", name := "coderFromArrayLen", desc := "([BI)B" } : Jvm.MethodName) jdk_52_method_15_code (2 : Nat) (Option.some Jvm.ClassFile.FieldType.byte), Jvm.Cond.code ({ cls := "com/example/oridune/oridune/core/Endian", name := "named", desc := "(Ljava/lang/String;)Lcom/example/oridune/oridune/core/Endian;" } : Jvm.MethodName) prog_32_method_4_code (5 : Nat) (Option.some (Jvm.ClassFile.FieldType.object "com/example/oridune/oridune/core/Endian")), Jvm.Cond.code ({ cls := "com/example/oridune/oridune/core/Endian", name := "values", desc := "()[Lcom/example/oridune/oridune/core/Endian;" } : Jvm.MethodName) prog_32_method_1_code (0 : Nat) (Option.some (Jvm.ClassFile.FieldType.array (Jvm.ClassFile.FieldType.object "com/example/oridune/oridune/core/Endian"))), Jvm.Cond.code ({ cls := "java/lang/String", name := "equals", desc := "(Ljava/lang/Object;)Z" } : Jvm.MethodName) jdk_42_method_66_code (3 : Nat) (Option.some Jvm.ClassFile.FieldType.boolean), Jvm.Cond.code ({ cls := "java/lang/StringLatin1", name := "equals", desc := "([B[B)Z" } : Jvm.MethodName) jdk_43_method_13_code (3 : Nat) (Option.some Jvm.ClassFile.FieldType.boolean), Jvm.Cond.code ({ cls := "com/example/oridune/oridune/core/Endian", name := "toString", desc := "()Ljava/lang/String;" } : Jvm.MethodName) prog_32_method_7_code (1 : Nat) (Option.some (Jvm.ClassFile.FieldType.object "java/lang/String"))]
set_option maxRecDepth 65536 in
theorem codes_eq : words1.filter isCode = codes1 := rfl
theorem w_codes : ∀ c ∈ words1.filter isCode, c.before args0 about1 = true := by
  rw [codes_eq]
  intro c hc
  simp only [codes1, List.mem_cons, List.not_mem_nil, or_false] at hc
  rcases hc with rfl | rfl | rfl | rfl | rfl | rfl | rfl | rfl | rfl | rfl | rfl | rfl
  · exact w_c0
  · exact w_c1
  · exact w_c2
  · exact w_c3
  · exact w_c4
  · exact w_c5
  · exact w_c6
  · exact w_c7
  · exact w_c8
  · exact w_c9
  · exact w_c10
  · exact w_c11
set_option maxRecDepth 65536 in
theorem w_t1 : (words1.take 24).all (fun c => isCode c || c.before args0 about1) = true := by decide +kernel
set_option maxRecDepth 65536 in
theorem w_t2 : ((words1.drop 24).take 24).all (fun c => isCode c || c.before args0 about1) = true := by decide +kernel
set_option maxRecDepth 65536 in
theorem w_t3 : ((words1.drop 24).drop 24).all (fun c => isCode c || c.before args0 about1) = true := by decide +kernel
theorem w_tables : (allAtoms (Jvm.Cond.code x code maxLocals ret :: tables_1)).before args0 about1 = true := by
  rw [allAtoms_all]
  show words1.all (fun c => c.before args0 about1) = true
  refine all_split ?_ w_codes
  rw [← List.take_append_drop 24 words1, List.all_append, w_t1, ← List.take_append_drop 24 (words1.drop 24), List.all_append, w_t2, w_t3]
  rfl
set_option maxRecDepth 65536 in
theorem w_rest : rest_1_c.before args0 about1 = true := by decide +kernel
set_option maxRecDepth 65536 in
theorem w_case : (Jvm.Cond.and given_1 narrow_1).before args0 about1 = true := by decide +kernel
theorem w_applies : (headSpec (Jvm.Cond.code x code maxLocals ret :: tables_1) room_1).applies x e0.platform about1 = true :=
  (Spec.applies_iff w_frames).mpr ⟨w_running, w_runnable, w_alone, w_named, w_hears, w_ripe, w_room, w_tables⟩
theorem atStart : AtStart classFile x code maxLocals ret World_1 tables_1 room_1 Calls_1 rest_1 Pre_1 launch0 p0 e0 about1 theMethod args0 below0 :=
  ⟨lists_1, trivial, launch0.admits_env _ _ _, launch0.least_env, fairChoices_fair.cas, fairChoices_fair.clock, w_frames, w_args, w_heap, w_applies, trivial, w_rest, w_case⟩
end start1
theorem witness_1 : WitnessClaimed_1 := ⟨start1.p0, start1.e0, start1.about1, start1.theMethod, start1.args0, start1.below0, start1.atStart⟩
end Jvm.Pilot.@@N@@
