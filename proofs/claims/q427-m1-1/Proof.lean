import JvmDerived
import JvmDerived.Pilot.@@N@@Statement
import JvmDerived.Pilot.@@N@@Code
set_option linter.unusedVariables false
set_option linter.unusedSimpArgs false
namespace Jvm.OwnKit
open Sem ClassFile Op Lib Jvm.Stand Jvm.Free Jvm.LawKit Jvm.RoadKit
def Go (tb : Tables) (e : Env) (below : List Frame) (P : State → Outcome → Prop) (S : State) : Prop :=
  ∃ s₂ o, Steps tb e below S s₂ ∧ s₂.status = .running ∧ Ended s₂ below o ∧ P s₂ o
theorem go {tb : Tables} {e : Env} {below : List Frame} {P : State → Outcome → Prop} {S S' : State} (h : ∀ t, Steps tb e below S' t → Steps tb e below S t) (k : Go tb e below P S') : Go tb e below P S := by
  obtain ⟨s₂, o, h1, h2⟩ := k
  exact ⟨s₂, o, h _ h1, h2⟩
theorem goT {tb : Tables} {e : Env} {below : List Frame} {P : State → Outcome → Prop} {S S' : State} (h : Steps tb e below S S') (k : Go tb e below P S') : Go tb e below P S := go (fun _ q => h.trans q) k
def Done (s : State) (Q : Option Value → Heap → List Loc → Prop) (k n : Nat) (t : State) (o : Outcome) : Prop := ∃ v L, o = .returned v ∧ Q v t.heap L ∧ FrameEnd s o t L k n
/-- a body's contract: called with just these arguments, over this heap -/
def Con (l : Launch) (Z : State) (y : MethodName) (bytes : ByteArray) (maxL : Nat) (rt : Option FieldType) (ws : List Jvm.Cond) (rm : Room) (as' : Array Value) (h : Heap) (k n : Nat) (Q : Option Value → Heap → List Loc → Prop) : Prop :=
  MetFree l y (head1 (Jvm.Cond.code y bytes maxL rt :: ws) rm) (fun a U => a = as' ∧ Z.Warmed39 U.vm ∧ U.heap = h) (fun _ _ _ _ _ => True) (fun _ U o U' => ∃ v L, o = .returned v ∧ Q v U'.heap L ∧ FrameEnd U o U' L k n)
theorem Con.of {l : Launch} {Z : State} {y : MethodName} {bytes : ByteArray} {maxL : Nat} {rt : Option FieldType} {ws : List Jvm.Cond} {rm : Room} {as' : Array Value} {h : Heap} {k n : Nat} {Q : Option Value → Heap → List Loc → Prop} (hp : plainFor y = true)
    (body : ∀ (p : Program) (e : Env) (s : State) (m : MethodId) (below : List Frame) (meth : Method) (c : Code) (s₁ : State), p.tables.exec = Jvm.exec → c.code = bytes → c.maxLocals = maxL → s.vm.findClass y.cls = some m.cls → meth.name = y.name → meth.sig.returnType = rt → meth.locks = false → Z.Warmed39 s.vm →
      Stand p l e rm s m as' below meth c s₁ [] 0 0 → s₁.heap = h → Go p.tables e below (Done s Q k n) (s₁.setTop (entryFrame m as' maxL))) : Con l Z y bytes maxL rt ws rm as' h k n Q := by
  refine MetFree.of_bodySF hp hisR ?_
  intro p e s m args below meth c s₁ Bd hml0 hP hK
  obtain ⟨rfl, hZ, hh⟩ := hP
  exact body p e s m below meth c s₁ Bd.exec Bd.bytes hml0 (findClass_of_methodNamed Bd.named) (name_of_methodNamed Bd.named Bd.method).1 Bd.returns Bd.notSynchronized hZ (Stand.of_body Bd) (by rw [← hh, Bd.state]; rfl)
section Steps1
variable {p : Program} {l : Launch} {e : Env} {R : Room} {s : State} {m : MethodId} {args : Array Value} {below : List Frame} {meth : Method} {c : Code} {T : State} {locs : List Loc} {cells slots : Nat} {P : State → Outcome → Prop} {pc q : Nat} {L L' : Array Slot} {S : List Value}
theorem goE {args' : Array Value} {n : Nat} (hq : entryFrame m args' n = mkF m 0 L []) (K : Go p.tables e below P (T.setTop (mkF m 0 L []))) : Go p.tables e below P (T.setTop (entryFrame m args' n)) := go (fun _ k => castTop hq k) K
theorem gIloadN (X : Stand p l e R s m args below meth c T locs cells slots) (hx : p.tables.exec = Jvm.exec) {k : Fin 4} {v : Int32} (hd : decode c.code pc = .ok (.iload_n k, 1)) (hq : pc + 1 = q) (hl : L[k.val]? = some (.val (.int v))) (K : Go p.tables e below P (T.setTop (mkF m q L (.int v :: S)))) : Go p.tables e below P (T.setTop (mkF m pc L (S))) := by subst hq; exact go (fun t k => XS.iloadN X.here hx rfl hd hl k) K
theorem gIload (X : Stand p l e R s m args below meth c T locs cells slots) (hx : p.tables.exec = Jvm.exec) {k : Nat} {v : Int32} (hd : decode c.code pc = .ok (.iload k, 2)) (hq : pc + 2 = q) (hl : L[k]? = some (.val (.int v))) (K : Go p.tables e below P (T.setTop (mkF m q L (.int v :: S)))) : Go p.tables e below P (T.setTop (mkF m pc L (S))) := by subst hq; exact go (fun t k => XS.iload X.here hx rfl hd hl k) K
theorem gLloadN (X : Stand p l e R s m args below meth c T locs cells slots) (hx : p.tables.exec = Jvm.exec) {k : Fin 4} {v : Int64} (hd : decode c.code pc = .ok (.lload_n k, 1)) (hq : pc + 1 = q) (hl : L[k.val]? = some (.val (.long v))) (K : Go p.tables e below P (T.setTop (mkF m q L (.long v :: S)))) : Go p.tables e below P (T.setTop (mkF m pc L (S))) := by subst hq; exact go (fun t k => XT.lloadN X.here hx rfl hd hl k) K
theorem gLload (X : Stand p l e R s m args below meth c T locs cells slots) (hx : p.tables.exec = Jvm.exec) {k : Nat} {v : Int64} (hd : decode c.code pc = .ok (.lload k, 2)) (hq : pc + 2 = q) (hl : L[k]? = some (.val (.long v))) (K : Go p.tables e below P (T.setTop (mkF m q L (.long v :: S)))) : Go p.tables e below P (T.setTop (mkF m pc L (S))) := by subst hq; exact go (fun t k => XT.lload X.here hx rfl hd hl k) K
theorem gAloadN (X : Stand p l e R s m args below meth c T locs cells slots) (hx : p.tables.exec = Jvm.exec) {k : Fin 4} {v : Value} (hd : decode c.code pc = .ok (.aload_n k, 1)) (hq : pc + 1 = q) (hl : L[k.val]? = some (.val v)) (hv : v.isRef = true) (K : Go p.tables e below P (T.setTop (mkF m q L (v :: S)))) : Go p.tables e below P (T.setTop (mkF m pc L (S))) := by subst hq; exact go (fun t k => XS.aloadN X.here hx rfl hd hl hv k) K
theorem gAload (X : Stand p l e R s m args below meth c T locs cells slots) (hx : p.tables.exec = Jvm.exec) {k : Nat} {v : Value} (hd : decode c.code pc = .ok (.aload k, 2)) (hq : pc + 2 = q) (hl : L[k]? = some (.val v)) (hv : v.isRef = true) (K : Go p.tables e below P (T.setTop (mkF m q L (v :: S)))) : Go p.tables e below P (T.setTop (mkF m pc L (S))) := by subst hq; exact go (fun t k => XS.aload X.here hx rfl hd hl hv k) K
theorem gIconst (X : Stand p l e R s m args below meth c T locs cells slots) (hx : p.tables.exec = Jvm.exec) {i : Int} (v : Int32) (hd : decode c.code pc = .ok (.iconst i, 1)) (hq : pc + 1 = q) (hv : Int32.ofInt i = v) (K : Go p.tables e below P (T.setTop (mkF m q L (.int v :: S)))) : Go p.tables e below P (T.setTop (mkF m pc L (S))) := by subst hq; exact go (fun t k => XT.iconstV X.here hx rfl v hd hv k) K
theorem gBipush (X : Stand p l e R s m args below meth c T locs cells slots) (hx : p.tables.exec = Jvm.exec) {i : Int} (v : Int32) (hd : decode c.code pc = .ok (.bipush i, 2)) (hq : pc + 2 = q) (hv : (Int8.ofInt i).toInt32 = v) (K : Go p.tables e below P (T.setTop (mkF m q L (.int v :: S)))) : Go p.tables e below P (T.setTop (mkF m pc L (S))) := by subst hq; exact go (fun t k => XT.bipushV X.here hx rfl v hd hv k) K
theorem gSipush (X : Stand p l e R s m args below meth c T locs cells slots) (hx : p.tables.exec = Jvm.exec) {i : Int} (v : Int32) (hd : decode c.code pc = .ok (.sipush i, 3)) (hq : pc + 3 = q) (hv : (Int16.ofInt i).toInt32 = v) (K : Go p.tables e below P (T.setTop (mkF m q L (.int v :: S)))) : Go p.tables e below P (T.setTop (mkF m pc L (S))) := by subst hq; exact go (fun t k => XT.sipushV X.here hx rfl v hd hv k) K
theorem gLconst (X : Stand p l e R s m args below meth c T locs cells slots) (hx : p.tables.exec = Jvm.exec) {k : Fin 2} (v : Int64) (hd : decode c.code pc = .ok (.lconst k, 1)) (hq : pc + 1 = q) (hv : Int64.ofNat k = v) (K : Go p.tables e below P (T.setTop (mkF m q L (.long v :: S)))) : Go p.tables e below P (T.setTop (mkF m pc L (S))) := by subst hq; exact go (fun t k => XT.lconstV X.here hx rfl v hd hv k) K
theorem gNull (X : Stand p l e R s m args below meth c T locs cells slots) (hx : p.tables.exec = Jvm.exec)  (hd : decode c.code pc = .ok (.aconst_null, 1)) (hq : pc + 1 = q)  (K : Go p.tables e below P (T.setTop (mkF m q L (.null :: S)))) : Go p.tables e below P (T.setTop (mkF m pc L (S))) := by subst hq; exact go (fun t k => XS.aconstNull X.here hx rfl hd  k) K
theorem gLdc (X : Stand p l e R s m args below meth c T locs cells slots) (hx : p.tables.exec = Jvm.exec) {Z : State} {a0 : Array Value} (hZ : Z.Warmed39 s.vm) {own : String} {i : Nat} {v : Int32} (hown : s.vm.findClass own = some m.cls) (w : (Jvm.Cond.constant own i v).before a0 Z = true) (hd : decode c.code pc = .ok (.ldc i, 2)) (hq : pc + 2 = q) (K : Go p.tables e below P (T.setTop (mkF m q L (.int v :: S)))) : Go p.tables e below P (T.setTop (mkF m pc L (S))) := by subst hq; exact go (fun t k => Stand.ldcI X hx hown (mvT hZ w) rfl hd k) K
theorem gLdcW (X : Stand p l e R s m args below meth c T locs cells slots) (hx : p.tables.exec = Jvm.exec) {Z : State} {a0 : Array Value} (hZ : Z.Warmed39 s.vm) {own : String} {i : Nat} {v : Int32} (hown : s.vm.findClass own = some m.cls) (w : (Jvm.Cond.constant own i v).before a0 Z = true) (hd : decode c.code pc = .ok (.ldc_w i, 3)) (hq : pc + 3 = q) (K : Go p.tables e below P (T.setTop (mkF m q L (.int v :: S)))) : Go p.tables e below P (T.setTop (mkF m pc L (S))) := by subst hq; exact go (fun t k => Stand.ldcWI X hx hown (mvT hZ w) rfl hd k) K
theorem gLdc2 (X : Stand p l e R s m args below meth c T locs cells slots) (hx : p.tables.exec = Jvm.exec) {Z : State} {a0 : Array Value} (hZ : Z.Warmed39 s.vm) {own : String} {i : Nat} {v : Int64} (hown : s.vm.findClass own = some m.cls) (w : (Jvm.Cond.constantLong own i v).before a0 Z = true) (hd : decode c.code pc = .ok (.ldc2_w i, 3)) (hq : pc + 3 = q) (K : Go p.tables e below P (T.setTop (mkF m q L (.long v :: S)))) : Go p.tables e below P (T.setTop (mkF m pc L (S))) := by subst hq; exact go (fun t k => Stand.ldc2J X hx hown (mvT hZ w) rfl hd k) K
theorem gIadd (X : Stand p l e R s m args below meth c T locs cells slots) (hx : p.tables.exec = Jvm.exec) {x y : Int32} (hd : decode c.code pc = .ok (.iadd, 1)) (hq : pc + 1 = q)  (K : Go p.tables e below P (T.setTop (mkF m q L (.int (x + y) :: S)))) : Go p.tables e below P (T.setTop (mkF m pc L (.int y :: .int x :: S))) := by subst hq; exact go (fun t k => XS.iadd X.here hx rfl hd rfl  k) K
theorem gIsub (X : Stand p l e R s m args below meth c T locs cells slots) (hx : p.tables.exec = Jvm.exec) {x y : Int32} (hd : decode c.code pc = .ok (.isub, 1)) (hq : pc + 1 = q)  (K : Go p.tables e below P (T.setTop (mkF m q L (.int (x - y) :: S)))) : Go p.tables e below P (T.setTop (mkF m pc L (.int y :: .int x :: S))) := by subst hq; exact go (fun t k => XS.isub X.here hx rfl hd rfl  k) K
theorem gIand (X : Stand p l e R s m args below meth c T locs cells slots) (hx : p.tables.exec = Jvm.exec) {x y : Int32} (hd : decode c.code pc = .ok (.iand, 1)) (hq : pc + 1 = q)  (K : Go p.tables e below P (T.setTop (mkF m q L (.int (x &&& y) :: S)))) : Go p.tables e below P (T.setTop (mkF m pc L (.int y :: .int x :: S))) := by subst hq; exact go (fun t k => XS.iand X.here hx rfl hd rfl  k) K
theorem gImul (X : Stand p l e R s m args below meth c T locs cells slots) (hx : p.tables.exec = Jvm.exec) {x y : Int32} (hd : decode c.code pc = .ok (.imul, 1)) (hq : pc + 1 = q)  (K : Go p.tables e below P (T.setTop (mkF m q L (.int (x * y) :: S)))) : Go p.tables e below P (T.setTop (mkF m pc L (.int y :: .int x :: S))) := by subst hq; exact go (fun t k => XS.imul X.here hx rfl hd rfl  k) K
theorem gIxor (X : Stand p l e R s m args below meth c T locs cells slots) (hx : p.tables.exec = Jvm.exec) {x y : Int32} (hd : decode c.code pc = .ok (.ixor, 1)) (hq : pc + 1 = q)  (K : Go p.tables e below P (T.setTop (mkF m q L (.int (x ^^^ y) :: S)))) : Go p.tables e below P (T.setTop (mkF m pc L (.int y :: .int x :: S))) := by subst hq; exact go (fun t k => XT.ixor X.here hx rfl hd rfl  k) K
theorem gIor (X : Stand p l e R s m args below meth c T locs cells slots) (hx : p.tables.exec = Jvm.exec) {x y : Int32} (hd : decode c.code pc = .ok (.ior, 1)) (hq : pc + 1 = q)  (K : Go p.tables e below P (T.setTop (mkF m q L (.int (x ||| y) :: S)))) : Go p.tables e below P (T.setTop (mkF m pc L (.int y :: .int x :: S))) := by subst hq; exact go (fun t k => XT.ior X.here hx rfl hd rfl  k) K
theorem gIshl (X : Stand p l e R s m args below meth c T locs cells slots) (hx : p.tables.exec = Jvm.exec) {x y : Int32} (hd : decode c.code pc = .ok (.ishl, 1)) (hq : pc + 1 = q)  (K : Go p.tables e below P (T.setTop (mkF m q L (.int (x <<< (y &&& 31)) :: S)))) : Go p.tables e below P (T.setTop (mkF m pc L (.int y :: .int x :: S))) := by subst hq; exact go (fun t k => XT.ishl X.here hx rfl hd rfl  k) K
theorem gIshr (X : Stand p l e R s m args below meth c T locs cells slots) (hx : p.tables.exec = Jvm.exec) {x y : Int32} (hd : decode c.code pc = .ok (.ishr, 1)) (hq : pc + 1 = q)  (K : Go p.tables e below P (T.setTop (mkF m q L (.int (x >>> (y &&& 31)) :: S)))) : Go p.tables e below P (T.setTop (mkF m pc L (.int y :: .int x :: S))) := by subst hq; exact go (fun t k => XT.ishr X.here hx rfl hd rfl  k) K
theorem gIushr (X : Stand p l e R s m args below meth c T locs cells slots) (hx : p.tables.exec = Jvm.exec) {x y : Int32} (hd : decode c.code pc = .ok (.iushr, 1)) (hq : pc + 1 = q)  (K : Go p.tables e below P (T.setTop (mkF m q L (.int (XT.ushr x y) :: S)))) : Go p.tables e below P (T.setTop (mkF m pc L (.int y :: .int x :: S))) := by subst hq; exact go (fun t k => XT.iushr X.here hx rfl hd rfl  k) K
theorem gIdiv (X : Stand p l e R s m args below meth c T locs cells slots) (hx : p.tables.exec = Jvm.exec) {x y : Int32} (hd : decode c.code pc = .ok (.idiv, 1)) (hq : pc + 1 = q) (hy : y ≠ 0) (K : Go p.tables e below P (T.setTop (mkF m q L (.int (x / y) :: S)))) : Go p.tables e below P (T.setTop (mkF m pc L (.int y :: .int x :: S))) := by subst hq; exact go (fun t k => XS.idiv X.here hx rfl hd rfl hy k) K
theorem gIrem (X : Stand p l e R s m args below meth c T locs cells slots) (hx : p.tables.exec = Jvm.exec) {x y : Int32} (hd : decode c.code pc = .ok (.irem, 1)) (hq : pc + 1 = q) (hy : y ≠ 0) (K : Go p.tables e below P (T.setTop (mkF m q L (.int (x % y) :: S)))) : Go p.tables e below P (T.setTop (mkF m pc L (.int y :: .int x :: S))) := by subst hq; exact go (fun t k => iremM X hx rfl hd rfl hy k) K
theorem gIneg (X : Stand p l e R s m args below meth c T locs cells slots) (hx : p.tables.exec = Jvm.exec) {x : Int32} (hd : decode c.code pc = .ok (.ineg, 1)) (hq : pc + 1 = q)  (K : Go p.tables e below P (T.setTop (mkF m q L (.int (-x) :: S)))) : Go p.tables e below P (T.setTop (mkF m pc L (.int x :: S))) := by subst hq; exact go (fun t k => XS.ineg X.here hx rfl hd rfl  k) K
theorem gLadd (X : Stand p l e R s m args below meth c T locs cells slots) (hx : p.tables.exec = Jvm.exec) {x y : Int64} (hd : decode c.code pc = .ok (.ladd, 1)) (hq : pc + 1 = q)  (K : Go p.tables e below P (T.setTop (mkF m q L (.long (x + y) :: S)))) : Go p.tables e below P (T.setTop (mkF m pc L (.long y :: .long x :: S))) := by subst hq; exact go (fun t k => XT.ladd X.here hx rfl hd rfl  k) K
theorem gLsub (X : Stand p l e R s m args below meth c T locs cells slots) (hx : p.tables.exec = Jvm.exec) {x y : Int64} (hd : decode c.code pc = .ok (.lsub, 1)) (hq : pc + 1 = q)  (K : Go p.tables e below P (T.setTop (mkF m q L (.long (x - y) :: S)))) : Go p.tables e below P (T.setTop (mkF m pc L (.long y :: .long x :: S))) := by subst hq; exact go (fun t k => XT.lsub X.here hx rfl hd rfl  k) K
theorem gLmul (X : Stand p l e R s m args below meth c T locs cells slots) (hx : p.tables.exec = Jvm.exec) {x y : Int64} (hd : decode c.code pc = .ok (.lmul, 1)) (hq : pc + 1 = q)  (K : Go p.tables e below P (T.setTop (mkF m q L (.long (x * y) :: S)))) : Go p.tables e below P (T.setTop (mkF m pc L (.long y :: .long x :: S))) := by subst hq; exact go (fun t k => XT.lmul X.here hx rfl hd rfl  k) K
theorem gLand (X : Stand p l e R s m args below meth c T locs cells slots) (hx : p.tables.exec = Jvm.exec) {x y : Int64} (hd : decode c.code pc = .ok (.land, 1)) (hq : pc + 1 = q)  (K : Go p.tables e below P (T.setTop (mkF m q L (.long (x &&& y) :: S)))) : Go p.tables e below P (T.setTop (mkF m pc L (.long y :: .long x :: S))) := by subst hq; exact go (fun t k => XT.land X.here hx rfl hd rfl  k) K
theorem gLor (X : Stand p l e R s m args below meth c T locs cells slots) (hx : p.tables.exec = Jvm.exec) {x y : Int64} (hd : decode c.code pc = .ok (.lor, 1)) (hq : pc + 1 = q)  (K : Go p.tables e below P (T.setTop (mkF m q L (.long (x ||| y) :: S)))) : Go p.tables e below P (T.setTop (mkF m pc L (.long y :: .long x :: S))) := by subst hq; exact go (fun t k => XT.lor X.here hx rfl hd rfl  k) K
theorem gLxor (X : Stand p l e R s m args below meth c T locs cells slots) (hx : p.tables.exec = Jvm.exec) {x y : Int64} (hd : decode c.code pc = .ok (.lxor, 1)) (hq : pc + 1 = q)  (K : Go p.tables e below P (T.setTop (mkF m q L (.long (x ^^^ y) :: S)))) : Go p.tables e below P (T.setTop (mkF m pc L (.long y :: .long x :: S))) := by subst hq; exact go (fun t k => XT.lxor X.here hx rfl hd rfl  k) K
theorem gLcmp (X : Stand p l e R s m args below meth c T locs cells slots) (hx : p.tables.exec = Jvm.exec) {x y : Int64} (hd : decode c.code pc = .ok (.lcmp, 1)) (hq : pc + 1 = q)  (K : Go p.tables e below P (T.setTop (mkF m q L (.int (XT.cmpL x y) :: S)))) : Go p.tables e below P (T.setTop (mkF m pc L (.long y :: .long x :: S))) := by subst hq; exact go (fun t k => XT.lcmp X.here hx rfl hd rfl  k) K
theorem gLneg (X : Stand p l e R s m args below meth c T locs cells slots) (hx : p.tables.exec = Jvm.exec) {x : Int64} (hd : decode c.code pc = .ok (.lneg, 1)) (hq : pc + 1 = q)  (K : Go p.tables e below P (T.setTop (mkF m q L (.long (-x) :: S)))) : Go p.tables e below P (T.setTop (mkF m pc L (.long x :: S))) := by subst hq; exact go (fun t k => XT.lneg X.here hx rfl hd rfl  k) K
theorem gI2l (X : Stand p l e R s m args below meth c T locs cells slots) (hx : p.tables.exec = Jvm.exec) {x : Int32} (hd : decode c.code pc = .ok (.i2l, 1)) (hq : pc + 1 = q)  (K : Go p.tables e below P (T.setTop (mkF m q L (.long x.toInt64 :: S)))) : Go p.tables e below P (T.setTop (mkF m pc L (.int x :: S))) := by subst hq; exact go (fun t k => XT.i2l X.here hx rfl hd rfl  k) K
theorem gL2i (X : Stand p l e R s m args below meth c T locs cells slots) (hx : p.tables.exec = Jvm.exec) {x : Int64} (hd : decode c.code pc = .ok (.l2i, 1)) (hq : pc + 1 = q)  (K : Go p.tables e below P (T.setTop (mkF m q L (.int x.toInt32 :: S)))) : Go p.tables e below P (T.setTop (mkF m pc L (.long x :: S))) := by subst hq; exact go (fun t k => XT.l2i X.here hx rfl hd rfl  k) K
theorem gI2c (X : Stand p l e R s m args below meth c T locs cells slots) (hx : p.tables.exec = Jvm.exec) {x : Int32} (hd : decode c.code pc = .ok (.i2c, 1)) (hq : pc + 1 = q)  (K : Go p.tables e below P (T.setTop (mkF m q L (.int x.toUInt32.toUInt16.toUInt32.toInt32 :: S)))) : Go p.tables e below P (T.setTop (mkF m pc L (.int x :: S))) := by subst hq; exact go (fun t k => XT.i2c X.here hx rfl hd rfl  k) K
theorem gI2b (X : Stand p l e R s m args below meth c T locs cells slots) (hx : p.tables.exec = Jvm.exec) {x : Int32} (hd : decode c.code pc = .ok (.i2b, 1)) (hq : pc + 1 = q)  (K : Go p.tables e below P (T.setTop (mkF m q L (.int x.toInt8.toInt32 :: S)))) : Go p.tables e below P (T.setTop (mkF m pc L (.int x :: S))) := by subst hq; exact go (fun t k => XT.i2b X.here hx rfl hd rfl  k) K
theorem gLdiv (X : Stand p l e R s m args below meth c T locs cells slots) (hx : p.tables.exec = Jvm.exec) {x y : Int64} (hd : decode c.code pc = .ok (.ldiv, 1)) (hq : pc + 1 = q) (hy : y ≠ 0) (K : Go p.tables e below P (T.setTop (mkF m q L (.long (x / y) :: S)))) : Go p.tables e below P (T.setTop (mkF m pc L (.long y :: .long x :: S))) := by subst hq; exact go (fun t k => XT.ldiv X.here hx rfl hd rfl hy k) K
theorem gLshl (X : Stand p l e R s m args below meth c T locs cells slots) (hx : p.tables.exec = Jvm.exec) {x : Int64} {y : Int32} (hd : decode c.code pc = .ok (.lshl, 1)) (hq : pc + 1 = q)  (K : Go p.tables e below P (T.setTop (mkF m q L (.long (x <<< (y.toInt64 &&& 63)) :: S)))) : Go p.tables e below P (T.setTop (mkF m pc L (.int y :: .long x :: S))) := by subst hq; exact go (fun t k => XT.lshl X.here hx rfl hd rfl  k) K
theorem gLshr (X : Stand p l e R s m args below meth c T locs cells slots) (hx : p.tables.exec = Jvm.exec) {x : Int64} {y : Int32} (hd : decode c.code pc = .ok (.lshr, 1)) (hq : pc + 1 = q)  (K : Go p.tables e below P (T.setTop (mkF m q L (.long (x >>> (y.toInt64 &&& 63)) :: S)))) : Go p.tables e below P (T.setTop (mkF m pc L (.int y :: .long x :: S))) := by subst hq; exact go (fun t k => XT.lshr X.here hx rfl hd rfl  k) K
theorem gLushr (X : Stand p l e R s m args below meth c T locs cells slots) (hx : p.tables.exec = Jvm.exec) {x : Int64} {y : Int32} (hd : decode c.code pc = .ok (.lushr, 1)) (hq : pc + 1 = q)  (K : Go p.tables e below P (T.setTop (mkF m q L (.long (XT.ushrL x y) :: S)))) : Go p.tables e below P (T.setTop (mkF m pc L (.int y :: .long x :: S))) := by subst hq; exact go (fun t k => XT.lushr X.here hx rfl hd rfl  k) K
theorem gLrem (X : Stand p l e R s m args below meth c T locs cells slots) (hx : p.tables.exec = Jvm.exec) {x y : Int64} (hd : decode c.code pc = .ok (.lrem, 1)) (hq : pc + 1 = q) (hy : y ≠ 0) (K : Go p.tables e below P (T.setTop (mkF m q L (.long (x - (x / y) * y) :: S)))) : Go p.tables e below P (T.setTop (mkF m pc L (.long y :: .long x :: S))) := by subst hq; exact go (fun t k => XT.lrem X.here hx rfl hd rfl hy k) K
theorem gIstoreN (X : Stand p l e R s m args below meth c T locs cells slots) (hx : p.tables.exec = Jvm.exec) {k : Fin 4} {x : Int32} (hd : decode c.code pc = .ok (.istore_n k, 1)) (hq : pc + 1 = q) (hl : storeLocals L k.val (.int x) = some L') (K : Go p.tables e below P (T.setTop (mkF m q L' (S)))) : Go p.tables e below P (T.setTop (mkF m pc L (.int x :: S))) := by subst hq; exact go (fun t k => XS.istoreN X.here hx rfl hd rfl hl k) K
theorem gIstore (X : Stand p l e R s m args below meth c T locs cells slots) (hx : p.tables.exec = Jvm.exec) {k : Nat} {x : Int32} (hd : decode c.code pc = .ok (.istore k, 2)) (hq : pc + 2 = q) (hl : storeLocals L k (.int x) = some L') (K : Go p.tables e below P (T.setTop (mkF m q L' (S)))) : Go p.tables e below P (T.setTop (mkF m pc L (.int x :: S))) := by subst hq; exact go (fun t k => XS.istore X.here hx rfl hd rfl hl k) K
theorem gLstoreN (X : Stand p l e R s m args below meth c T locs cells slots) (hx : p.tables.exec = Jvm.exec) {k : Fin 4} {x : Int64} (hd : decode c.code pc = .ok (.lstore_n k, 1)) (hq : pc + 1 = q) (hl : storeLocals L k.val (.long x) = some L') (K : Go p.tables e below P (T.setTop (mkF m q L' (S)))) : Go p.tables e below P (T.setTop (mkF m pc L (.long x :: S))) := by subst hq; exact go (fun t k => XT.lstoreN X.here hx rfl hd rfl hl k) K
theorem gLstore (X : Stand p l e R s m args below meth c T locs cells slots) (hx : p.tables.exec = Jvm.exec) {k : Nat} {x : Int64} (hd : decode c.code pc = .ok (.lstore k, 2)) (hq : pc + 2 = q) (hl : storeLocals L k (.long x) = some L') (K : Go p.tables e below P (T.setTop (mkF m q L' (S)))) : Go p.tables e below P (T.setTop (mkF m pc L (.long x :: S))) := by subst hq; exact go (fun t k => XT.lstore X.here hx rfl hd rfl hl k) K
theorem gAstoreN (X : Stand p l e R s m args below meth c T locs cells slots) (hx : p.tables.exec = Jvm.exec) {k : Fin 4} {x : Value} (hd : decode c.code pc = .ok (.astore_n k, 1)) (hq : pc + 1 = q) (hv : x.isRef = true) (hl : storeLocals L k.val x = some L') (K : Go p.tables e below P (T.setTop (mkF m q L' (S)))) : Go p.tables e below P (T.setTop (mkF m pc L (x :: S))) := by subst hq; exact go (fun t k => XS.astoreN X.here hx rfl hd rfl hv hl k) K
theorem gAstore (X : Stand p l e R s m args below meth c T locs cells slots) (hx : p.tables.exec = Jvm.exec) {k : Nat} {x : Value} (hd : decode c.code pc = .ok (.astore k, 2)) (hq : pc + 2 = q) (hv : x.isRef = true) (hl : storeLocals L k x = some L') (K : Go p.tables e below P (T.setTop (mkF m q L' (S)))) : Go p.tables e below P (T.setTop (mkF m pc L (x :: S))) := by subst hq; exact go (fun t k => XS.astore X.here hx rfl hd rfl hv hl k) K
theorem gIinc (X : Stand p l e R s m args below meth c T locs cells slots) (hx : p.tables.exec = Jvm.exec) {k : Nat} {cst : Int} {x : Int32} (v : Int32) (hd : decode c.code pc = .ok (.iinc k cst, 3)) (hq : pc + 3 = q) (hv : Int32.ofInt cst = v) (hl : L[k]? = some (.val (.int x))) (hl' : storeLocals L k (.int (x + v)) = some L') (K : Go p.tables e below P (T.setTop (mkF m q L' (S)))) : Go p.tables e below P (T.setTop (mkF m pc L (S))) := by subst hq; exact go (fun t k => XT.iincV X.here hx rfl v hd hv hl hl' k) K
theorem gDup (X : Stand p l e R s m args below meth c T locs cells slots) (hx : p.tables.exec = Jvm.exec) {x : Value} (hd : decode c.code pc = .ok (.dup, 1)) (hq : pc + 1 = q) (hc : x.category = 1) (K : Go p.tables e below P (T.setTop (mkF m q L (x :: x :: S)))) : Go p.tables e below P (T.setTop (mkF m pc L (x :: S))) := by subst hq; exact go (fun t k => XS.dup X.here hx rfl hd rfl hc k) K
theorem gPop (X : Stand p l e R s m args below meth c T locs cells slots) (hx : p.tables.exec = Jvm.exec) {x : Value} (hd : decode c.code pc = .ok (.pop, 1)) (hq : pc + 1 = q) (hc : x.category = 1) (K : Go p.tables e below P (T.setTop (mkF m q L (S)))) : Go p.tables e below P (T.setTop (mkF m pc L (x :: S))) := by subst hq; exact go (fun t k => XT.pop X.here hx rfl hd rfl hc k) K
theorem gDupX1 (X : Stand p l e R s m args below meth c T locs cells slots) (hx : p.tables.exec = Jvm.exec) {x y : Value} (hd : decode c.code pc = .ok (.dup_x1, 1)) (hq : pc + 1 = q) (hc : x.category = 1) (hc' : y.category = 1) (K : Go p.tables e below P (T.setTop (mkF m q L (x :: y :: x :: S)))) : Go p.tables e below P (T.setTop (mkF m pc L (x :: y :: S))) := by subst hq; exact go (fun t k => XT.dupX1 X.here hx rfl hd rfl hc hc' k) K
theorem gDup2 (X : Stand p l e R s m args below meth c T locs cells slots) (hx : p.tables.exec = Jvm.exec) {x y : Value} (hd : decode c.code pc = .ok (.dup2, 1)) (hq : pc + 1 = q) (hc : x.category = 1) (hc' : y.category = 1) (K : Go p.tables e below P (T.setTop (mkF m q L (x :: y :: x :: y :: S)))) : Go p.tables e below P (T.setTop (mkF m pc L (x :: y :: S))) := by subst hq; exact go (fun t k => XT.dup2 X.here hx rfl hd rfl hc hc' k) K
theorem gDup2L (X : Stand p l e R s m args below meth c T locs cells slots) (hx : p.tables.exec = Jvm.exec) {x : Int64} (hd : decode c.code pc = .ok (.dup2, 1)) (hq : pc + 1 = q)  (K : Go p.tables e below P (T.setTop (mkF m q L (.long x :: .long x :: S)))) : Go p.tables e below P (T.setTop (mkF m pc L (.long x :: S))) := by subst hq; exact go (fun t k => XT.dup2L X.here hx rfl hd rfl  k) K
theorem gGoto (X : Stand p l e R s m args below meth c T locs cells slots) (hx : p.tables.exec = Jvm.exec) {o : Int} (hd : decode c.code pc = .ok (.goto o, 3)) (ho : 0 ≤ (pc : Int) + o) (hq : ((pc : Int) + o).toNat = q) (K : Go p.tables e below P (T.setTop (mkF m q L (S)))) : Go p.tables e below P (T.setTop (mkF m pc L (S))) := go (fun t k => XS.goto X.here hx rfl rfl hd ho hq k) K
theorem gIfY (X : Stand p l e R s m args below meth c T locs cells slots) (hx : p.tables.exec = Jvm.exec) {cd : ClassFile.Cond} {x : Int32} {o : Int} (hd : decode c.code pc = .ok (.ifCond cd o, 3)) (ho : 0 ≤ (pc : Int) + o) (hq : ((pc : Int) + o).toNat = q) (hc : ifCond.holds cd x = true) (K : Go p.tables e below P (T.setTop (mkF m q L (S)))) : Go p.tables e below P (T.setTop (mkF m pc L (.int x :: S))) := go (fun t k => XS.ifYes X.here hx rfl rfl hd rfl hc ho hq k) K
theorem gIfN (X : Stand p l e R s m args below meth c T locs cells slots) (hx : p.tables.exec = Jvm.exec) {cd : ClassFile.Cond} {x : Int32} {o : Int} (hd : decode c.code pc = .ok (.ifCond cd o, 3)) (hq : pc + 3 = q) (hc : ifCond.holds cd x = false) (K : Go p.tables e below P (T.setTop (mkF m q L (S)))) : Go p.tables e below P (T.setTop (mkF m pc L (.int x :: S))) := by subst hq; exact go (fun t k => XS.ifNo X.here hx rfl hd rfl hc k) K
theorem gIcmpY (X : Stand p l e R s m args below meth c T locs cells slots) (hx : p.tables.exec = Jvm.exec) {cd : ClassFile.Cond} {x y : Int32} {o : Int} (hd : decode c.code pc = .ok (.if_icmp cd o, 3)) (ho : 0 ≤ (pc : Int) + o) (hq : ((pc : Int) + o).toNat = q) (hc : if_icmp.holds cd x y = true) (K : Go p.tables e below P (T.setTop (mkF m q L (S)))) : Go p.tables e below P (T.setTop (mkF m pc L (.int y :: .int x :: S))) := go (fun t k => XS.icmpYes X.here hx rfl rfl hd rfl hc ho hq k) K
theorem gIcmpN (X : Stand p l e R s m args below meth c T locs cells slots) (hx : p.tables.exec = Jvm.exec) {cd : ClassFile.Cond} {x y : Int32} {o : Int} (hd : decode c.code pc = .ok (.if_icmp cd o, 3)) (hq : pc + 3 = q) (hc : if_icmp.holds cd x y = false) (K : Go p.tables e below P (T.setTop (mkF m q L (S)))) : Go p.tables e below P (T.setTop (mkF m pc L (.int y :: .int x :: S))) := by subst hq; exact go (fun t k => XS.icmpNo X.here hx rfl hd rfl hc k) K
theorem gAcmpY (X : Stand p l e R s m args below meth c T locs cells slots) (hx : p.tables.exec = Jvm.exec) {cd : ClassFile.ACond} {x y : Value} {o : Int} (hd : decode c.code pc = .ok (.if_acmp cd o, 3)) (ho : 0 ≤ (pc : Int) + o) (hq : ((pc : Int) + o).toNat = q) (h1 : x.isRef = true) (h2 : y.isRef = true) (hc : XT.acmp cd x y = true) (K : Go p.tables e below P (T.setTop (mkF m q L (S)))) : Go p.tables e below P (T.setTop (mkF m pc L (y :: x :: S))) := go (fun t k => XT.acmpYes X.here hx rfl rfl hd rfl h1 h2 hc ho hq k) K
theorem gAcmpN (X : Stand p l e R s m args below meth c T locs cells slots) (hx : p.tables.exec = Jvm.exec) {cd : ClassFile.ACond} {x y : Value} {o : Int} (hd : decode c.code pc = .ok (.if_acmp cd o, 3)) (hq : pc + 3 = q) (h1 : x.isRef = true) (h2 : y.isRef = true) (hc : XT.acmp cd x y = false) (K : Go p.tables e below P (T.setTop (mkF m q L (S)))) : Go p.tables e below P (T.setTop (mkF m pc L (y :: x :: S))) := by subst hq; exact go (fun t k => XT.acmpNo X.here hx rfl hd rfl h1 h2 hc k) K
theorem gNullY (X : Stand p l e R s m args below meth c T locs cells slots) (hx : p.tables.exec = Jvm.exec) {v : Value} {o : Int} (hd : decode c.code pc = .ok (.ifnull o, 3)) (ho : 0 ≤ (pc : Int) + o) (hq : ((pc : Int) + o).toNat = q) (hv : v = .null) (K : Go p.tables e below P (T.setTop (mkF m q L (S)))) : Go p.tables e below P (T.setTop (mkF m pc L (v :: S))) := go (fun t k => XT.nullYes X.here hx rfl rfl hd rfl hv ho hq k) K
theorem gNullN (X : Stand p l e R s m args below meth c T locs cells slots) (hx : p.tables.exec = Jvm.exec) {v : Value} {o : Int} (hd : decode c.code pc = .ok (.ifnull o, 3)) (hq : pc + 3 = q) (hr : v.isRef = true) (hv : ¬ v = .null) (K : Go p.tables e below P (T.setTop (mkF m q L (S)))) : Go p.tables e below P (T.setTop (mkF m pc L (v :: S))) := by subst hq; exact go (fun t k => XT.nullNo X.here hx rfl hd rfl hr hv k) K
theorem gNonY (X : Stand p l e R s m args below meth c T locs cells slots) (hx : p.tables.exec = Jvm.exec) {v : Value} {o : Int} (hd : decode c.code pc = .ok (.ifnonnull o, 3)) (ho : 0 ≤ (pc : Int) + o) (hq : ((pc : Int) + o).toNat = q) (hr : v.isRef = true) (hv : ¬ v = .null) (K : Go p.tables e below P (T.setTop (mkF m q L (S)))) : Go p.tables e below P (T.setTop (mkF m pc L (v :: S))) := go (fun t k => XT.nonnullYes X.here hx rfl rfl hd rfl hr hv ho hq k) K
theorem gNonN (X : Stand p l e R s m args below meth c T locs cells slots) (hx : p.tables.exec = Jvm.exec) {v : Value} {o : Int} (hd : decode c.code pc = .ok (.ifnonnull o, 3)) (hq : pc + 3 = q) (hv : v = .null) (K : Go p.tables e below P (T.setTop (mkF m q L (S)))) : Go p.tables e below P (T.setTop (mkF m pc L (v :: S))) := by subst hq; exact go (fun t k => XT.nonnullNo X.here hx rfl hd rfl hv k) K
theorem gRet (X : Stand p l e R s m args below meth c T locs cells slots) (hx : p.tables.exec = Jvm.exec) {Q : Option Value → Heap → List Loc → Prop} {k n : Nat} {w : Value} {t : FieldType} {i : Instr} (hlk : meth.locks = false) (hret : meth.sig.returnType = some t) (hn : narrow t w = w)
    (hi : (i = .ireturn ∧ (t = .int ∨ t = .boolean ∨ t = .byte ∨ t = .char ∨ t = .short) ∧ ∃ z, w = .int z) ∨ (i = .lreturn ∧ t = .long ∧ ∃ z, w = .long z) ∨ (i = .dreturn ∧ t = .double ∧ ∃ z, w = .double z) ∨ (i = .freturn ∧ t = .float ∧ ∃ z, w = .float z) ∨ (i = .areturn ∧ t.isReference = true ∧ w.isRef = true))
    (hd : decode c.code pc = .ok (i, 1)) (hk : cells ≤ k) (hs : slots ≤ n) (hQ : Q (some w) T.heap locs) : Go p.tables e below (Done s Q k n) (T.setTop (mkF m pc L (w :: S))) := by
  obtain ⟨fs, hr, hrun, hended, hW, hsame⟩ := X.leave (v := some w) (fun h => by rw [hret] at h; cases h) hlk
  exact ⟨_, _, retOut X hx hret hn hi hd hr, hrun, hended, _, _, rfl, hQ, ⟨_, rfl⟩, hW, hsame.mono hk hs⟩
theorem gRetI (X : Stand p l e R s m args below meth c T locs cells slots) (hx : p.tables.exec = Jvm.exec) {Q : Option Value → Heap → List Loc → Prop} {k n : Nat} {z : Int32} (hlk : meth.locks = false) (hret : meth.sig.returnType = some .int) (hd : decode c.code pc = .ok (.ireturn, 1)) (hk : cells ≤ k) (hs : slots ≤ n) (hQ : Q (some (.int z)) T.heap locs) : Go p.tables e below (Done s Q k n) (T.setTop (mkF m pc L (.int z :: S))) :=
  gRet X hx hlk hret rfl (Or.inl ⟨rfl, Or.inl rfl, _, rfl⟩) hd hk hs hQ
theorem gRetZ (X : Stand p l e R s m args below meth c T locs cells slots) (hx : p.tables.exec = Jvm.exec) {Q : Option Value → Heap → List Loc → Prop} {k n : Nat} {z : Int32} (hlk : meth.locks = false) (hret : meth.sig.returnType = some .boolean) (hd : decode c.code pc = .ok (.ireturn, 1)) (hk : cells ≤ k) (hs : slots ≤ n) (hz : z = 0 ∨ z = 1) (hQ : Q (some (.int z)) T.heap locs) : Go p.tables e below (Done s Q k n) (T.setTop (mkF m pc L (.int z :: S))) :=
  gRet X hx hlk hret (by rcases hz with rfl | rfl <;> rfl) (Or.inl ⟨rfl, Or.inr (Or.inl rfl), _, rfl⟩) hd hk hs hQ
theorem gRetJ (X : Stand p l e R s m args below meth c T locs cells slots) (hx : p.tables.exec = Jvm.exec) {Q : Option Value → Heap → List Loc → Prop} {k n : Nat} {z : Int64} (hlk : meth.locks = false) (hret : meth.sig.returnType = some .long) (hd : decode c.code pc = .ok (.lreturn, 1)) (hk : cells ≤ k) (hs : slots ≤ n) (hQ : Q (some (.long z)) T.heap locs) : Go p.tables e below (Done s Q k n) (T.setTop (mkF m pc L (.long z :: S))) :=
  gRet X hx hlk hret rfl (Or.inr (Or.inl ⟨rfl, rfl, _, rfl⟩)) hd hk hs hQ
theorem gRetA (X : Stand p l e R s m args below meth c T locs cells slots) (hx : p.tables.exec = Jvm.exec) {Q : Option Value → Heap → List Loc → Prop} {k n : Nat} {w : Value} {t : FieldType} (hlk : meth.locks = false) (hret : meth.sig.returnType = some t) (ht : t.isReference = true) (hw : w.isRef = true) (hd : decode c.code pc = .ok (.areturn, 1)) (hk : cells ≤ k) (hs : slots ≤ n) (hQ : Q (some w) T.heap locs) : Go p.tables e below (Done s Q k n) (T.setTop (mkF m pc L (w :: S))) :=
  gRet X hx hlk hret (by cases t <;> simp [FieldType.isReference] at ht <;> cases w <;> simp [Value.isRef] at hw <;> rfl) (Or.inr (Or.inr (Or.inr (Or.inr ⟨rfl, ht, hw⟩)))) hd hk hs hQ
theorem gRetV (X : Stand p l e R s m args below meth c T locs cells slots) (hx : p.tables.exec = Jvm.exec) {Q : Option Value → Heap → List Loc → Prop} {k n : Nat} (hlk : meth.locks = false) (hret : meth.sig.returnType = none) (hd : decode c.code pc = .ok (.return_, 1)) (hk : cells ≤ k) (hs : slots ≤ n) (hQ : Q none T.heap locs) : Go p.tables e below (Done s Q k n) (T.setTop (mkF m pc L [])) := by
  obtain ⟨fs, hr, hrun, hended, hW, hsame⟩ := X.leave (v := none) (fun _ => rfl) hlk
  exact ⟨_, _, X.returnOut hx hret hd hr, hrun, hended, _, _, rfl, hQ, ⟨_, rfl⟩, hW, hsame.mono hk hs⟩
end Steps1
section Steps2
variable {p : Program} {l : Launch} {e : Env} {R : Room} {s : State} {m : MethodId} {args : Array Value} {below : List Frame} {meth : Method} {c : Code} {T : State} {locs : List Loc} {cells slots : Nat} {P : State → Outcome → Prop} {pc q : Nat} {L L' : Array Slot} {S : List Value} {Z : State} {a0 : Array Value} {h : Heap}
theorem gGetF (X : Stand p l e R s m args below meth c T locs cells slots) (hx : p.tables.exec = Jvm.exec) (hZ : Z.Warmed39 s.vm) {own R0 O n d host : String} {i : Nat} (hown : s.vm.findClass own = some m.cls) (w : (Jvm.Cond.fieldLink own i R0 n d).before a0 Z = true ∨ (Jvm.Cond.fieldLinkNest own i R0 n d host).before a0 Z = true) (via : Via Z R0 O n d)
    (eT : T.heap = h) {a : Addr} {v : Value} (F : Fld Z h a O n d v) (hd : decode c.code pc = .ok (.getfield i, 3)) (hq : pc + 3 = q)
    (K : ∀ T', Stand p l e R s m args below meth c T' locs cells slots → T'.heap = h → Go p.tables e below P (T'.setTop (mkF m q L (v :: S)))) : Go p.tables e below P (T.setTop (mkF m pc L (.ref a :: S))) := by
  subst hq
  obtain ⟨T', X', e', st⟩ := getF X hx hZ hown w via eT F (g := mkF m pc L (.ref a :: S)) rfl rfl hd
  exact go st (K T' X' e')
theorem gGetS (X : Stand p l e R s m args below meth c T locs cells slots) (hx : p.tables.exec = Jvm.exec) (hZ : Z.Warmed39 s.vm) {own R0 O n d : String} {i : Nat} (hown : s.vm.findClass own = some m.cls) (w : (Jvm.Cond.fieldLink own i R0 n d).before a0 Z = true) (via : Via Z R0 O n d)
    (eT : T.heap = h) {v : Value} (F : Sta Z h O n d v) (hd : decode c.code pc = .ok (.getstatic i, 3)) (hq : pc + 3 = q)
    (K : ∀ T', Stand p l e R s m args below meth c T' locs cells slots → T'.heap = h → Go p.tables e below P (T'.setTop (mkF m q L (v :: S)))) : Go p.tables e below P (T.setTop (mkF m pc L S)) := by
  subst hq
  obtain ⟨T', X', e', st⟩ := getS X hx hZ (host := "") hown w via eT F (g := mkF m pc L S) rfl hd
  exact go st (K T' X' e')
theorem gPutF (X : Stand p l e R s m args below meth c T locs cells slots) (hx : p.tables.exec = Jvm.exec) (hZ : Z.Warmed39 s.vm) {own R0 O n d host C : String} {i kk : Nat} {ty : FieldType} (hown : s.vm.findClass own = some m.cls) (w : (Jvm.Cond.fieldLink own i R0 n d).before a0 Z = true ∨ (Jvm.Cond.fieldLinkNest own i R0 n d host).before a0 Z = true) (via : Via Z R0 O n d)
    (eT : T.heap = h) {a : Addr} {v old : Value} (F : Fld Z h a O n d old) (E : Exa Z h a C) (Ly : (Jvm.Cond.lays C O n d).before a0 Z = true ∨ ((Jvm.Cond.laysFinal C O n d).before a0 Z = true ∧ own = O ∧ meth.name = "<init>")) (wi : (Jvm.Cond.instantiable C kk).before a0 Z = true)
    (hty : parseFieldDescriptor d = some ty) (hn : narrow ty v = v) (hf : fits ty v = true) (hd : decode c.code pc = .ok (.putfield i, 3)) (hq : pc + 3 = q)
    (K : ∀ T' h', Stand p l e R s m args below meth c T' (locs ++ [⟨a, Jvm.RoadKit.slotOf Z O n d⟩]) cells slots → T'.heap = h' → Wr h h' a (Jvm.RoadKit.slotOf Z O n d) v → Go p.tables e below P (T'.setTop (mkF m q L S))) : Go p.tables e below P (T.setTop (mkF m pc L (v :: .ref a :: S))) := by
  subst hq
  obtain ⟨T', h', X', e', W', st⟩ := putF X hx hZ hown w via eT F E Ly wi hty hn hf (g := mkF m pc L (v :: .ref a :: S)) rfl rfl hd
  exact go st (K T' h' X' e' W')
theorem gNewO (X : Stand p l e R s m args below meth c T locs cells slots) (hx : p.tables.exec = Jvm.exec) (hZ : Z.Warmed39 s.vm) {own C : String} {i n : Nat} (hown : s.vm.findClass own = some m.cls) (w : (Jvm.Cond.classLink own i C).before a0 Z = true) (wi : (Jvm.Cond.instantiable C n).before a0 Z = true) (wz : (Jvm.Cond.initialized C).before a0 Z = true) (eT : T.heap = h)
    (hd : decode c.code pc = .ok (.new i, 3)) (hq : pc + 3 = q) (hc : cells + 1 ≤ R.cells) (hl : slots + n ≤ R.slots)
    (K : ∀ T' h' a, Stand p l e R s m args below meth c T' locs (cells + 1) (slots + n) → T'.heap = h' → a = h.size → Ext h h' → Exa Z h' a C → (∀ {O nm d : String} {ty : FieldType}, Laid Z a0 C O nm d → parseFieldDescriptor d = some ty → Fld Z h' a O nm d (defaultValue ty)) → Go p.tables e below P (T'.setTop (mkF m q L (.ref a :: S)))) : Go p.tables e below P (T.setTop (mkF m pc L S)) := by
  subst hq
  obtain ⟨T', h', X', e', E', A', D', -, st⟩ := newO X hx hZ hown w wi wz eT (g := mkF m pc L S) rfl hd hc hl
  exact go st (K T' h' _ X' e' rfl E' A' D')
theorem gInitO (X : Stand p l e R s m args below meth c T locs cells slots) (hx : p.tables.exec = Jvm.exec) (hZ : Z.Warmed39 s.vm) {own : String} {i : Nat} (hown : s.vm.findClass own = some m.cls) (w1 : (Jvm.Cond.methodLink own i Lib.objectInit).before a0 Z = true) (w2 : (Jvm.Cond.instanceMethod Lib.objectInit).before a0 Z = true) (w3 : (Jvm.Cond.code Lib.objectInit ⟨#[0xb1]⟩ 1 none).before a0 Z = true) (eT : T.heap = h)
    (hsize : L.size = c.maxLocals) {a : Addr} (hd : decode c.code pc = .ok (.invokespecial i, 3)) (hq : pc + 3 = q) (hf : 1 ≤ R.frames) {W : Nat} (hW : (S.map fun v => v.category).sum ≤ W) (hl : W + 12 ≤ R.locals)
    (K : ∀ T', Stand p l e R s m args below meth c T' locs cells slots → T'.heap = h → Go p.tables e below P (T'.setTop (mkF m q L S))) : Go p.tables e below P (T.setTop (mkF m pc L (.ref a :: S))) := by
  subst hq
  obtain ⟨T', X', e', st⟩ := initO X hx hZ hown w1 w2 w3 eT (g := mkF m pc L (.ref a :: S)) rfl hsize rfl hd hf (W := W) (by show 2 * 0 + _ ≤ _; rw [Nat.mul_zero, Nat.zero_add]; exact hW) hl
  exact go st (K T' X' e')
/-! calls by a contract -/
theorem gCallS (X : Stand p l e R s m args below meth c T locs cells slots) (hx : p.tables.exec = Jvm.exec) (hZ : Z.Warmed39 s.vm) {own : String} {i : Nat} {y : MethodName} {bytes : ByteArray} {maxL : Nat} {rt : Option FieldType} {rm : Room} {as' : Array Value} {Q : Option Value → Heap → List Loc → Prop} (hown : s.vm.findClass own = some m.cls)
    (w1 : (Jvm.Cond.methodLink own i y).before a0 Z = true) (w2 : (Jvm.Cond.static y).before a0 Z = true) (w3 : (Jvm.Cond.initialized y.cls).before a0 Z = true) (w4 : (Jvm.Cond.code y bytes maxL rt).before a0 Z = true) (hy : y.cls ≠ "java/lang/invoke/MethodHandle" ∧ y.cls ≠ "java/lang/invoke/VarHandle")
    (hM : Con l Z y bytes maxL rt [] rm as' h rm.cells rm.slots Q) {W : Nat} (hf : rm.frames + 1 ≤ R.frames) (hlo : W + (maxL + 11) + rm.locals ≤ R.locals) (eT : T.heap = h) (hsize : L.size = c.maxLocals)
    {S0 : List Value} (argsL : List Value) (hlen : ∀ sig, parseMethodDescriptor y.desc = some sig → argsL.length = sig.parameters.length) (has : argsL.toArray = as') (hst : S0 = argsL.reverse ++ S) (hW : (S.map fun v => v.category).sum ≤ W) (hd : decode c.code pc = .ok (.invokestatic i, 3)) (hq : pc + 3 = q)
    (hc : cells + rm.cells ≤ R.cells) (hs : slots + rm.slots ≤ R.slots)
    (K : ∀ v T' Lc, Stand p l e R s m args below meth c T' (locs ++ Lc) (cells + rm.cells) (slots + rm.slots) → Q v T'.heap Lc → Go p.tables e below P (T'.setTop (mkF m q L (v.toList ++ S)))) : Go p.tables e below P (T.setTop (mkF m pc L S0)) := by
  subst hq has hst
  obtain ⟨v, _, ⟨T', L1, k1, n1⟩, -, X', ⟨Lc, hQ, h1, h2, h3⟩, st⟩ := Jvm.LawKit.callS X hx hown (mvT hZ w1) (mvT hZ w2) (mvT hZ w3) (mvT hZ w4) hy (backOf (W := W) hM hZ w4 w3 hf hlo) (g := mkF m pc L (argsL.reverse ++ S)) rfl hsize (argsL := argsL) (rest := S) hlen rfl (by show 2 * 0 + _ ≤ _; rw [Nat.mul_zero, Nat.zero_add]; exact hW) hd (fun _ _ => ⟨rfl, eT, hc, hs⟩)
  dsimp only [Pt.U, Pt.locs, Pt.cells, Pt.slots] at X' h1 h2 h3 st hQ
  subst h1 h2 h3
  exact go st (K v T' Lc X' hQ)
theorem gCallSN (X : Stand p l e R s m args below meth c T locs cells slots) (hx : p.tables.exec = Jvm.exec) (hZ : Z.Warmed39 s.vm) {own host : String} {i : Nat} {y : MethodName} {bytes : ByteArray} {maxL : Nat} {rt : Option FieldType} {rm : Room} {as' : Array Value} {Q : Option Value → Heap → List Loc → Prop} (hown : s.vm.findClass own = some m.cls)
    (w1 : (Jvm.Cond.methodLinkNest own i y host).before a0 Z = true) (w2 : (Jvm.Cond.static y).before a0 Z = true) (w3 : (Jvm.Cond.initialized y.cls).before a0 Z = true) (w4 : (Jvm.Cond.code y bytes maxL rt).before a0 Z = true) (hy : y.cls ≠ "java/lang/invoke/MethodHandle" ∧ y.cls ≠ "java/lang/invoke/VarHandle")
    (hM : Con l Z y bytes maxL rt [] rm as' h rm.cells rm.slots Q) {W : Nat} (hf : rm.frames + 1 ≤ R.frames) (hlo : W + (maxL + 11) + rm.locals ≤ R.locals) (eT : T.heap = h) (hsize : L.size = c.maxLocals)
    {S0 : List Value} (argsL : List Value) (hlen : ∀ sig, parseMethodDescriptor y.desc = some sig → argsL.length = sig.parameters.length) (has : argsL.toArray = as') (hst : S0 = argsL.reverse ++ S) (hW : (S.map fun v => v.category).sum ≤ W) (hd : decode c.code pc = .ok (.invokestatic i, 3)) (hq : pc + 3 = q)
    (hc : cells + rm.cells ≤ R.cells) (hs : slots + rm.slots ≤ R.slots)
    (K : ∀ v T' Lc, Stand p l e R s m args below meth c T' (locs ++ Lc) (cells + rm.cells) (slots + rm.slots) → Q v T'.heap Lc → Go p.tables e below P (T'.setTop (mkF m q L (v.toList ++ S)))) : Go p.tables e below P (T.setTop (mkF m pc L S0)) := by
  subst hq has hst
  obtain ⟨v, _, ⟨T', L1, k1, n1⟩, -, X', ⟨Lc, hQ, h1, h2, h3⟩, st⟩ := callSN X hx hown (Cond.methodLinkNest_wide hZ w1 :) (mvT hZ w2) (mvT hZ w3) (mvT hZ w4) hy (backOf (W := W) hM hZ w4 w3 hf hlo) (g := mkF m pc L (argsL.reverse ++ S)) rfl hsize (argsL := argsL) (rest := S) hlen rfl (by show 2 * 0 + _ ≤ _; rw [Nat.mul_zero, Nat.zero_add]; exact hW) hd (fun _ _ => ⟨rfl, eT, hc, hs⟩)
  dsimp only [Pt.U, Pt.locs, Pt.cells, Pt.slots] at X' h1 h2 h3 st hQ
  subst h1 h2 h3
  exact goT st (K v T' Lc X' hQ)
theorem gCallN (X : Stand p l e R s m args below meth c T locs cells slots) (hx : p.tables.exec = Jvm.exec) (hZ : Z.Warmed39 s.vm) {own : String} {i : Nat} {y : MethodName} {bytes : ByteArray} {maxL : Nat} {rm : Room} {as' : Array Value} {Q : Option Value → Heap → List Loc → Prop} (hy1 : y.name = "<init>") (hown : s.vm.findClass own = some m.cls)
    (w1 : (Jvm.Cond.methodLink own i y).before a0 Z = true) (w2 : (Jvm.Cond.instanceMethod y).before a0 Z = true) (w3 : (Jvm.Cond.initialized y.cls).before a0 Z = true) (w4 : (Jvm.Cond.code y bytes maxL none).before a0 Z = true) (hy : y.cls ≠ "java/lang/invoke/MethodHandle" ∧ y.cls ≠ "java/lang/invoke/VarHandle")
    (hM : Con l Z y bytes maxL none [] rm as' h rm.cells rm.slots Q) {W : Nat} (hf : rm.frames + 1 ≤ R.frames) (hlo : W + (maxL + 11) + rm.locals ≤ R.locals) (eT : T.heap = h) (hsize : L.size = c.maxLocals)
    {S0 : List Value} {a : Addr} (argsL : List Value) (hlen : ∀ sig, parseMethodDescriptor y.desc = some sig → argsL.length = sig.parameters.length) (has : (.ref a :: argsL).toArray = as') (hst : S0 = argsL.reverse ++ .ref a :: S) (hW : (S.map fun v => v.category).sum ≤ W) (hd : decode c.code pc = .ok (.invokespecial i, 3)) (hq : pc + 3 = q)
    (hc : cells + rm.cells ≤ R.cells) (hs : slots + rm.slots ≤ R.slots)
    (K : ∀ v T' Lc, Stand p l e R s m args below meth c T' (locs ++ Lc) (cells + rm.cells) (slots + rm.slots) → Q v T'.heap Lc → Go p.tables e below P (T'.setTop (mkF m q L (v.toList ++ S)))) : Go p.tables e below P (T.setTop (mkF m pc L S0)) := by
  subst hq has hst
  obtain ⟨v, _, ⟨T', L1, k1, n1⟩, -, X', ⟨Lc, hQ, h1, h2, h3⟩, st⟩ := X.specialBack hx hy1 hown (mvT hZ w1) (mvT hZ w2) (mvT hZ w4) hy (backOf (W := W) hM hZ w4 w3 hf hlo) (g := mkF m pc L (argsL.reverse ++ .ref a :: S)) rfl hsize (Steps.refl _) (a := a) (argsL := argsL) (rest := S) hlen rfl (by show 2 * 0 + _ ≤ _; rw [Nat.mul_zero, Nat.zero_add]; exact hW) hd (fun _ _ => ⟨rfl, eT, hc, hs⟩)
  dsimp only [Pt.U, Pt.locs, Pt.cells, Pt.slots] at X' h1 h2 h3 st hQ
  subst h1 h2 h3
  exact goT st (K v T' Lc X' hQ)
theorem gCallV (X : Stand p l e R s m args below meth c T locs cells slots) (hx : p.tables.exec = Jvm.exec) (hZ : Z.Warmed39 s.vm) {own C : String} {i : Nat} {y z : MethodName} {bytes : ByteArray} {maxL : Nat} {rt : Option FieldType} {rm : Room} {as' : Array Value} {Q : Option Value → Heap → List Loc → Prop} (hown : s.vm.findClass own = some m.cls)
    (w1 : (Jvm.Cond.methodLink own i y).before a0 Z = true) (w2 : (Jvm.Cond.declares y).before a0 Z = true) (w5 : (Jvm.Cond.selects C y z).before a0 Z = true) (w6 : (Jvm.Cond.instanceMethod z).before a0 Z = true) (w3 : (Jvm.Cond.initialized z.cls).before a0 Z = true) (w4 : (Jvm.Cond.code z bytes maxL rt).before a0 Z = true) (hnf : NotFace s y) (hy : y.cls ≠ "java/lang/invoke/MethodHandle" ∧ y.cls ≠ "java/lang/invoke/VarHandle")
    (hM : Con l Z z bytes maxL rt [] rm as' h rm.cells rm.slots Q) {W : Nat} (hf : rm.frames + 1 ≤ R.frames) (hlo : W + (maxL + 11) + rm.locals ≤ R.locals) (eT : T.heap = h) (hsize : L.size = c.maxLocals)
    {S0 : List Value} {a : Addr} (E : Exa Z h a C) (argsL : List Value) (hlen : ∀ sig, parseMethodDescriptor y.desc = some sig → argsL.length = sig.parameters.length) (has : (.ref a :: argsL).toArray = as') (hst : S0 = argsL.reverse ++ .ref a :: S) (hW : (S.map fun v => v.category).sum ≤ W) (hd : decode c.code pc = .ok (.invokevirtual i, 3)) (hq : pc + 3 = q)
    (hc : cells + rm.cells ≤ R.cells) (hs : slots + rm.slots ≤ R.slots)
    (K : ∀ v T' Lc, Stand p l e R s m args below meth c T' (locs ++ Lc) (cells + rm.cells) (slots + rm.slots) → Q v T'.heap Lc → Go p.tables e below P (T'.setTop (mkF m q L (v.toList ++ S)))) : Go p.tables e below P (T.setTop (mkF m pc L S0)) := by
  subst hq has hst
  obtain ⟨cq, kq, q1, q2, q3⟩ := isOf hZ eT E
  obtain ⟨v, _, ⟨T', L1, k1, n1⟩, -, X', ⟨Lc, hQ, h1, h2, h3⟩, st⟩ := X.virtualBack hx hown (mvT hZ w1) (mvT hZ w2) hnf (mvT hZ w5) (mvT hZ w6) hy (backOf (W := W) hM hZ w4 w3 hf hlo) q1 q3 (g := mkF m pc L (argsL.reverse ++ .ref a :: S)) rfl hsize (Steps.refl _) (argsL := argsL) (rest := S) hlen rfl (by show 2 * 0 + _ ≤ _; rw [Nat.mul_zero, Nat.zero_add]; exact hW) hd (fun _ _ => ⟨rfl, eT, hc, hs⟩)
  dsimp only [Pt.U, Pt.locs, Pt.cells, Pt.slots] at X' h1 h2 h3 st hQ
  subst h1 h2 h3
  exact goT st (K v T' Lc X' hQ)
end Steps2
end Jvm.OwnKit
namespace Jvm.OwnKit
open Sem ClassFile Op Lib Jvm.Stand Jvm.Free Jvm.LawKit Jvm.RoadKit
theorem own_fldI {args : Array Value} {Z : State} {t : Term} {C n d : String} {x : Addr} {k : Int32} (ev : t.eval args Z none [] Z = some (.ref x)) (h : (Jvm.Cond.eq (Term.field t C n d) (Term.int k)).value args Z none Z [] = some true) : Fld Z Z.heap x C n d (.int k) := by
  obtain ⟨u, w, h1, h2, h3, h4⟩ := cmp_v (Or.inl h)
  obtain rfl : w = .int k := Option.some.inj (h2.symm.trans (Term.int_eval k))
  obtain ⟨z, rfl⟩ := h4
  have hz : z = k := gotT (Cond.eq_ints h1 h2) h
  subst hz
  exact Fld.start ((fld_at ev).symm.trans h1)
end Jvm.OwnKit
namespace Jvm.OwnKit
open Sem ClassFile Op Lib Jvm.Stand Jvm.Free Jvm.LawKit Jvm.RoadKit
/-- the array at a: its class, its element type, its values -/
def Ary (Z : State) (h : Heap) (a : Addr) (k : ClassId) (ty : FieldType) (vs : List Value) : Prop := ∃ c : Cell, Arr Z h a c ty ∧ c.cls = k ∧ c.slots.toList = vs
section Ary
variable {Z : State} {h h' : Heap} {a b : Addr} {k : ClassId} {ty : FieldType} {vs : List Value} {sl : Nat} {v : Value} {ws : List Addr}
theorem Ary.ext (E : Ext h h') (F : Ary Z h a k ty vs) : Ary Z h' a k ty vs := by obtain ⟨c, A, r⟩ := F; exact ⟨c, A.ext E, r⟩
theorem Ary.other (W : Wr h h' a sl v) (F : Ary Z h b k ty vs) (q : b ≠ a) : Ary Z h' b k ty vs := by obtain ⟨c, A, r⟩ := F; exact ⟨c, A.other W q, r⟩
theorem Ary.keep (F : Ary Z h a k ty vs) (K : Keep h h' ws) (q : a ∉ ws) : Ary Z h' a k ty vs := by obtain ⟨c, A, r⟩ := F; exact ⟨c, ⟨K.2.1 a c A.1 q, A.2⟩, r⟩
theorem Ary.lt (F : Ary Z h a k ty vs) : a < h.size := by obtain ⟨c, A, -⟩ := F; exact A.lt
theorem Ary.same (W : Wr h h' a sl v) (F : Ary Z h a k ty vs) : Ary Z h' a k ty (vs.set sl v) := by
  obtain ⟨c, A, r1, r2⟩ := F
  exact ⟨_, A.same W, r1, by subst r2; simp [Cell.setSlot]⟩
theorem Ary.new {n : Int32} (A : Arr Z h a (newA k ty n) ty) : Ary Z h a k ty (List.replicate n.toNatClampNeg (defaultValue ty)) := ⟨_, A, rfl, by simp [newA]⟩
theorem Ary.ne_exa {a0 : Array Value} {C : String} {n : Nat} (F : Ary Z h a k ty vs) (E : Exa Z h b C) (wi : (Jvm.Cond.instantiable C n).before a0 Z = true) : a ≠ b := by obtain ⟨c, A, -⟩ := F; exact (ne_arr E wi A).symm
end Ary
section Steps3
variable {p : Program} {l : Launch} {e : Env} {R : Room} {s : State} {m : MethodId} {args : Array Value} {below : List Frame} {meth : Method} {c : Code} {T : State} {locs : List Loc} {cells slots : Nat} {P : State → Outcome → Prop} {pc q : Nat} {L L' : Array Slot} {S : List Value} {Z : State} {a0 : Array Value} {h : Heap} {a : Addr} {k : ClassId} {vs : List Value}
theorem gIaload (X : Stand p l e R s m args below meth c T locs cells slots) (hx : p.tables.exec = Jvm.exec) (hZ : Z.Warmed39 s.vm) (eT : T.heap = h) (A : Ary Z h a k .int vs) {j : Int32} {v : Value} (hd : decode c.code pc = .ok (.iaload, 1)) (hq : pc + 1 = q) (hj : ¬ (j < 0 ∨ vs.length ≤ j.toNatClampNeg)) (hv : vs[j.toNatClampNeg]? = some v) (K : Go p.tables e below P (T.setTop (mkF m q L (v :: S)))) : Go p.tables e below P (T.setTop (mkF m pc L (.int j :: .ref a :: S))) := by
  subst hq eT
  obtain ⟨cl, A, -, rfl⟩ := A
  exact go (fun t k => X.iaload hx (j := j) (v := v) A.1 (State.isArrayOf_alike hZ.alike A.2.1) A.2.2 (by simpa using hj) (by simpa using hv) (g := mkF m pc L (.int j :: .ref a :: S)) rfl rfl hd _ k) K
theorem gLaload (X : Stand p l e R s m args below meth c T locs cells slots) (hx : p.tables.exec = Jvm.exec) (hZ : Z.Warmed39 s.vm) (eT : T.heap = h) (A : Ary Z h a k .long vs) {j : Int32} {v : Value} (hd : decode c.code pc = .ok (.laload, 1)) (hq : pc + 1 = q) (hj : ¬ (j < 0 ∨ vs.length ≤ j.toNatClampNeg)) (hv : vs[j.toNatClampNeg]? = some v) (K : Go p.tables e below P (T.setTop (mkF m q L (v :: S)))) : Go p.tables e below P (T.setTop (mkF m pc L (.int j :: .ref a :: S))) := by
  subst hq eT
  obtain ⟨cl, A, -, rfl⟩ := A
  exact go (fun t k => X.laload hx (j := j) (v := v) A.1 (State.isArrayOf_alike hZ.alike A.2.1) A.2.2 (by simpa using hj) (by simpa using hv) (g := mkF m pc L (.int j :: .ref a :: S)) rfl rfl hd _ k) K
theorem gCaload (X : Stand p l e R s m args below meth c T locs cells slots) (hx : p.tables.exec = Jvm.exec) (hZ : Z.Warmed39 s.vm) (eT : T.heap = h) (A : Ary Z h a k .char vs) {j : Int32} {v : Value} (hd : decode c.code pc = .ok (.caload, 1)) (hq : pc + 1 = q) (hj : ¬ (j < 0 ∨ vs.length ≤ j.toNatClampNeg)) (hv : vs[j.toNatClampNeg]? = some v) (K : Go p.tables e below P (T.setTop (mkF m q L (v :: S)))) : Go p.tables e below P (T.setTop (mkF m pc L (.int j :: .ref a :: S))) := by
  subst hq eT
  obtain ⟨cl, A, -, rfl⟩ := A
  exact go (fun t k => X.caload hx (j := j) (v := v) A.1 (State.isArrayOf_alike hZ.alike A.2.1) A.2.2 (by simpa using hj) (by simpa using hv) (g := mkF m pc L (.int j :: .ref a :: S)) rfl rfl hd _ k) K
theorem gAaload (X : Stand p l e R s m args below meth c T locs cells slots) (hx : p.tables.exec = Jvm.exec) (hZ : Z.Warmed39 s.vm) (eT : T.heap = h) {ty : FieldType} (A : Ary Z h a k ty vs) (ht : ty.isReference = true) {j : Int32} {v : Value} (hd : decode c.code pc = .ok (.aaload, 1)) (hq : pc + 1 = q) (hj : ¬ (j < 0 ∨ vs.length ≤ j.toNatClampNeg)) (hv : vs[j.toNatClampNeg]? = some v) (K : Go p.tables e below P (T.setTop (mkF m q L (v :: S)))) : Go p.tables e below P (T.setTop (mkF m pc L (.int j :: .ref a :: S))) := by
  subst hq eT
  obtain ⟨cl, A, -, rfl⟩ := A
  exact go (fun t k => X.aaload hx (j := j) (v := v) A.1 (State.isArrayOf_alike hZ.alike A.2.1) ht A.2.2 (by simpa using hj) (by simpa using hv) (g := mkF m pc L (.int j :: .ref a :: S)) rfl rfl hd _ k) K
theorem gLen (X : Stand p l e R s m args below meth c T locs cells slots) (hx : p.tables.exec = Jvm.exec) (hZ : Z.Warmed39 s.vm) (eT : T.heap = h) {ty : FieldType} (A : Ary Z h a k ty vs) {n : Int32} (hn : vs.length.toInt32 = n) (hd : decode c.code pc = .ok (.arraylength, 1)) (hq : pc + 1 = q) (K : Go p.tables e below P (T.setTop (mkF m q L (.int n :: S)))) : Go p.tables e below P (T.setTop (mkF m pc L (.ref a :: S))) := by
  subst hq eT hn
  obtain ⟨cl, A, -, rfl⟩ := A
  exact go (fun t k => X.arraylength hx A.1 (State.isArrayOf_alike hZ.alike A.2.1) (g := mkF m pc L (.ref a :: S)) rfl rfl hd _ (by simpa using k)) K
theorem gIastore (X : Stand p l e R s m args below meth c T locs cells slots) (hx : p.tables.exec = Jvm.exec) (hZ : Z.Warmed39 s.vm) (eT : T.heap = h) (A : Ary Z h a k .int vs) {j : Int32} {x : Int32} (hd : decode c.code pc = .ok (.iastore, 1)) (hq : pc + 1 = q) (hj : ¬ (j < 0 ∨ vs.length ≤ j.toNatClampNeg))
    (K : ∀ T' h', Stand p l e R s m args below meth c T' (locs ++ [⟨a, j.toNatClampNeg⟩]) cells slots → T'.heap = h' → Wr h h' a j.toNatClampNeg (.int x) → Ary Z h' a k .int (vs.set j.toNatClampNeg (.int x)) → Go p.tables e below P (T'.setTop (mkF m q L (S)))) : Go p.tables e below P (T.setTop (mkF m pc L (.int x :: .int j :: .ref a :: S))) := by
  subst hq
  have A' := A
  obtain ⟨cl, Ac, r1, r2⟩ := A'
  obtain ⟨T', h', X', e', W', st⟩ := stI X hx hZ eT Ac (j := j) (x := x) (by subst r2; simpa using hj) (g := mkF m pc L (.int x :: .int j :: .ref a :: S)) rfl rfl hd
  exact go st (K T' h' X' e' W' (Ary.same W' A))
theorem gLastore (X : Stand p l e R s m args below meth c T locs cells slots) (hx : p.tables.exec = Jvm.exec) (hZ : Z.Warmed39 s.vm) (eT : T.heap = h) (A : Ary Z h a k .long vs) {j : Int32} {x : Int64} (hd : decode c.code pc = .ok (.lastore, 1)) (hq : pc + 1 = q) (hj : ¬ (j < 0 ∨ vs.length ≤ j.toNatClampNeg))
    (K : ∀ T' h', Stand p l e R s m args below meth c T' (locs ++ [⟨a, j.toNatClampNeg⟩]) cells slots → T'.heap = h' → Wr h h' a j.toNatClampNeg (.long x) → Ary Z h' a k .long (vs.set j.toNatClampNeg (.long x)) → Go p.tables e below P (T'.setTop (mkF m q L (S)))) : Go p.tables e below P (T.setTop (mkF m pc L (.long x :: .int j :: .ref a :: S))) := by
  subst hq
  have A' := A
  obtain ⟨cl, Ac, r1, r2⟩ := A'
  obtain ⟨T', h', X', e', W', st⟩ := stJ X hx hZ eT Ac (j := j) (x := x) (by subst r2; simpa using hj) (g := mkF m pc L (.long x :: .int j :: .ref a :: S)) rfl rfl hd
  exact go st (K T' h' X' e' W' (Ary.same W' A))
theorem gCastore (X : Stand p l e R s m args below meth c T locs cells slots) (hx : p.tables.exec = Jvm.exec) (hZ : Z.Warmed39 s.vm) (eT : T.heap = h) (A : Ary Z h a k .char vs) {j x : Int32} (hd : decode c.code pc = .ok (.castore, 1)) (hq : pc + 1 = q) (hj : ¬ (j < 0 ∨ vs.length ≤ j.toNatClampNeg))
    (K : ∀ T' h', Stand p l e R s m args below meth c T' (locs ++ [⟨a, j.toNatClampNeg⟩]) cells slots → T'.heap = h' → Wr h h' a j.toNatClampNeg (.int (nar .char x)) → Ary Z h' a k .char (vs.set j.toNatClampNeg (.int (nar .char x))) → Go p.tables e below P (T'.setTop (mkF m q L (S)))) : Go p.tables e below P (T.setTop (mkF m pc L (.int x :: .int j :: .ref a :: S))) := by
  subst hq
  have A' := A
  obtain ⟨cl, Ac, r1, r2⟩ := A'
  obtain ⟨T', h', X', e', W', st⟩ := stC X hx hZ eT Ac (j := j) (x := x) (by subst r2; simpa using hj) (g := mkF m pc L (.int x :: .int j :: .ref a :: S)) rfl rfl hd
  exact go st (K T' h' X' e' W' (Ary.same W' A))
theorem gAastore (X : Stand p l e R s m args below meth c T locs cells slots) (hx : p.tables.exec = Jvm.exec) (hZ : Z.Warmed39 s.vm) (eT : T.heap = h) {ty : FieldType} (A : Ary Z h a k ty vs) (ht : ty.isReference = true) {j : Int32} {v : Value} (F : Sto Z h a v) (hd : decode c.code pc = .ok (.aastore, 1)) (hq : pc + 1 = q) (hj : ¬ (j < 0 ∨ vs.length ≤ j.toNatClampNeg))
    (K : ∀ T' h', Stand p l e R s m args below meth c T' (locs ++ [⟨a, j.toNatClampNeg⟩]) cells slots → T'.heap = h' → Wr h h' a j.toNatClampNeg v → Ary Z h' a k ty (vs.set j.toNatClampNeg v) → Go p.tables e below P (T'.setTop (mkF m q L (S)))) : Go p.tables e below P (T.setTop (mkF m pc L (v :: .int j :: .ref a :: S))) := by
  subst hq
  have A' := A
  obtain ⟨cl, Ac, r1, r2⟩ := A'
  obtain ⟨T', h', X', e', W', st⟩ := stR X hx hZ eT Ac (j := j) (by subst r2; simpa using hj) ht F (g := mkF m pc L (v :: .int j :: .ref a :: S)) rfl rfl hd
  exact go st (K T' h' X' e' W' (Ary.same W' A))
theorem Sto.ofA {Z : State} {h : Heap} {a y : Addr} {k : ClassId} {ty : FieldType} {vs : List Value} {C : String} (A : Ary Z h a k ty vs) (O : Ovr Z k C) (I : Ins Z h y C true) : Sto Z h a (.ref y) := by obtain ⟨c, Ac, r, -⟩ := A; exact Sto.ofV Ac r O I
theorem gNewP (X : Stand p l e R s m args below meth c T locs cells slots) (hx : p.tables.exec = Jvm.exec) (hZ : Z.Warmed39 s.vm) {aty : ArrayType} (w : (Jvm.Cond.arrayClass (newarray.typeOf aty)).before a0 Z = true) (eT : T.heap = h) (hd : decode c.code pc = .ok (.newarray aty, 2)) (hq : pc + 2 = q) {n : Int32} (hn : ¬ n < 0) {cap : Nat} (hcap : n.toNatClampNeg ≤ cap) (hb : cap * 8 ≤ 536870912) (hc : cells + 1 ≤ R.cells) (hl : slots + cap ≤ R.slots)
    (K : ∀ T' h' a cA, Stand p l e R s m args below meth c T' locs (cells + 1) (slots + cap) → T'.heap = h' → a = h.size → Ext h h' → Ary Z h' a cA (newarray.typeOf aty) (List.replicate n.toNatClampNeg (defaultValue (newarray.typeOf aty))) → Go p.tables e below P (T'.setTop (mkF m q L (.ref a :: S)))) : Go p.tables e below P (T.setTop (mkF m pc L (.int n :: S))) := by
  subst hq
  obtain ⟨T', h', cA, X', e', E', A', st⟩ := newP X hx hZ w eT (g := mkF m pc L (.int n :: S)) rfl hd rfl hn hcap hb hc hl
  exact go st (K T' h' _ cA X' e' rfl E' (Ary.new A'))
theorem gNewR (X : Stand p l e R s m args below meth c T locs cells slots) (hx : p.tables.exec = Jvm.exec) (hZ : Z.Warmed39 s.vm) {own C : String} {i : Nat} (hown : s.vm.findClass own = some m.cls) (w1 : (Jvm.Cond.classLink own i C).before a0 Z = true) (w2 : (Jvm.Cond.arrayOver (.object C)).before a0 Z = true) (eT : T.heap = h) (hd : decode c.code pc = .ok (.anewarray i, 3)) (hq : pc + 3 = q) {n : Int32} (hn : ¬ n < 0) {cap : Nat} (hcap : n.toNatClampNeg ≤ cap) (hb : cap * 8 ≤ 536870912) (hc : cells + 1 ≤ R.cells) (hl : slots + cap ≤ R.slots)
    (K : ∀ T' h' a cA, Stand p l e R s m args below meth c T' locs (cells + 1) (slots + cap) → T'.heap = h' → a = h.size → Ext h h' → Ary Z h' a cA (.object C) (List.replicate n.toNatClampNeg .null) → Ovr Z cA C → Go p.tables e below P (T'.setTop (mkF m q L (.ref a :: S)))) : Go p.tables e below P (T.setTop (mkF m pc L (.int n :: S))) := by
  subst hq
  obtain ⟨T', h', cA, X', e', E', A', O', st⟩ := newR X hx hZ hown w1 w2 eT (g := mkF m pc L (.int n :: S)) rfl hd rfl hn hcap hb hc hl
  exact go st (K T' h' _ cA X' e' rfl E' (Ary.new A') O')
end Steps3
end Jvm.OwnKit
namespace Jvm.OwnKit
open Sem ClassFile Op Lib Jvm.Stand Jvm.Free Jvm.LawKit Jvm.RoadKit
theorem own_inst {Z : State} {a0 : Array Value} {K : String} {n : Nat} (w : (Jvm.Cond.instantiable K n).before a0 Z = true) : ∃ t k, Z.vm.findClass K = some t ∧ Z.vm.classes[t]? = some k ∧ k.kind = .ordinary ∧ k.isInterface = false := by
  obtain ⟨t, k, h1, h2, h3, h4, -⟩ := Cond.instantiable_spec w
  exact ⟨t, k, h1, h2, h3, by simp only [Bool.or_eq_false_iff] at h4; exact h4.1⟩
theorem own_nsRoot {Z : State} {a0 : Array Value} {O K : String} {n : Nat} (w : (Jvm.Cond.noSuperclass O).before a0 Z = true) (wk : (Jvm.Cond.instantiable K n).before a0 Z = true) (hn : O ≠ K) : NS Z O K := by
  obtain ⟨c, k, h1, h2, h3, -, -⟩ := Cond.noSuperclass_spec w
  obtain ⟨t, k', g1, -⟩ := own_inst wk
  have ne := ids_ne h1 g1 hn
  refine ⟨c, t, h1, g1, fun fuel => ?_⟩
  cases fuel with
  | zero => rfl
  | succ f => simp [Vm.isSubclassAux, ne, h2, h3]
theorem own_nsNo {Z : State} {a0 : Array Value} {C S K : String} {n : Nat} (w : (Jvm.Cond.superclass C S).before a0 Z = true) (wk : (Jvm.Cond.instantiable K n).before a0 Z = true) (m : NS Z C K) (hn : C ≠ K) : ∃ c t, Z.vm.findClass C = some c ∧ Z.vm.findClass K = some t ∧ Z.vm.assignable c t = false := by
  obtain ⟨c, t, h0, g0, n3⟩ := m
  obtain ⟨p, k, kp, h1, h2, h3, h4, h5, -, h7⟩ := Cond.superclass_spec h0 w
  obtain ⟨t', k', g1, g2, g3, g4⟩ := own_inst wk
  cases g0.symm.trans g1
  have ne := ids_ne h0 g0 hn
  refine ⟨c, t, h0, g0, ?_⟩
  show Z.vm.assignableAux (255 + 1) c t = false
  simp [Vm.assignableAux, ne, h2, g2, h5, g3, g4, Vm.isSubclass, n3]
section Steps4
variable {p : Program} {l : Launch} {e : Env} {R : Room} {s : State} {m : MethodId} {args : Array Value} {below : List Frame} {meth : Method} {c : Code} {T : State} {locs : List Loc} {cells slots : Nat} {P : State → Outcome → Prop} {pc q : Nat} {L L' : Array Slot} {S : List Value} {Z : State} {a0 : Array Value} {h : Heap} {a : Addr}
theorem gInstY (X : Stand p l e R s m args below meth c T locs cells slots) (hx : p.tables.exec = Jvm.exec) (hZ : Z.Warmed39 s.vm) {own K : String} {i : Nat} (hown : s.vm.findClass own = some m.cls) (w : (Jvm.Cond.classLink own i K).before a0 Z = true) (eT : T.heap = h) (F : Ins Z h a K true) (hd : decode c.code pc = .ok (.instanceof i, 3)) (hq : pc + 3 = q)
    (K1 : ∀ T', Stand p l e R s m args below meth c T' locs cells slots → T'.heap = h → Go p.tables e below P (T'.setTop (mkF m q L (.int 1 :: S)))) : Go p.tables e below P (T.setTop (mkF m pc L (.ref a :: S))) := by
  subst hq
  obtain ⟨T', X', e', st⟩ := instY X hx hZ hown w eT F (g := mkF m pc L (.ref a :: S)) rfl rfl hd
  exact go st (K1 T' X' e')
theorem gInstNo (X : Stand p l e R s m args below meth c T locs cells slots) (hx : p.tables.exec = Jvm.exec) (hZ : Z.Warmed39 s.vm) {own K C : String} {i : Nat} (hown : s.vm.findClass own = some m.cls) (w : (Jvm.Cond.classLink own i K).before a0 Z = true) (eT : T.heap = h) (E : Exa Z h a C) (F : ∃ c t, Z.vm.findClass C = some c ∧ Z.vm.findClass K = some t ∧ Z.vm.assignable c t = false) (hd : decode c.code pc = .ok (.instanceof i, 3)) (hq : pc + 3 = q)
    (K1 : ∀ T', Stand p l e R s m args below meth c T' locs cells slots → T'.heap = h → Go p.tables e below P (T'.setTop (mkF m q L (.int 0 :: S)))) : Go p.tables e below P (T.setTop (mkF m pc L (.ref a :: S))) := by
  subst hq
  obtain ⟨T', X', e', st⟩ := instNo X hx hZ hown w eT E F (g := mkF m pc L (.ref a :: S)) rfl rfl hd
  exact go st (K1 T' X' e')
theorem gInstNull (X : Stand p l e R s m args below meth c T locs cells slots) (hx : p.tables.exec = Jvm.exec) {i : Nat} (hd : decode c.code pc = .ok (.instanceof i, 3)) (hq : pc + 3 = q) (K1 : Go p.tables e below P (T.setTop (mkF m q L (.int 0 :: S)))) : Go p.tables e below P (T.setTop (mkF m pc L (.null :: S))) := by
  subst hq
  exact go (fun t k => X.instanceofNull hx (g := mkF m pc L (.null :: S)) rfl rfl hd _ k) K1
theorem gCastY (X : Stand p l e R s m args below meth c T locs cells slots) (hx : p.tables.exec = Jvm.exec) (hZ : Z.Warmed39 s.vm) {own K : String} {i : Nat} (hown : s.vm.findClass own = some m.cls) (w : (Jvm.Cond.classLink own i K).before a0 Z = true) (eT : T.heap = h) (F : Ins Z h a K true) (hd : decode c.code pc = .ok (.checkcast i, 3)) (hq : pc + 3 = q)
    (K1 : ∀ T', Stand p l e R s m args below meth c T' locs cells slots → T'.heap = h → Go p.tables e below P (T'.setTop (mkF m q L (.ref a :: S)))) : Go p.tables e below P (T.setTop (mkF m pc L (.ref a :: S))) := by
  subst hq
  obtain ⟨T', X', e', st⟩ := castY X hx hZ hown w eT F (g := mkF m pc L (.ref a :: S)) rfl rfl hd
  exact go st (K1 T' X' e')
theorem gLdcF (X : Stand p l e R s m args below meth c T locs cells slots) (hx : p.tables.exec = Jvm.exec) (hZ : Z.Warmed39 s.vm) {own : String} {i : Nat} {b : UInt32} (hown : s.vm.findClass own = some m.cls) (w : (Jvm.Cond.constantFloat own i b).before a0 Z = true) (hd : decode c.code pc = .ok (.ldc i, 2)) (hq : pc + 2 = q) (K1 : Go p.tables e below P (T.setTop (mkF m q L (.float b :: S)))) : Go p.tables e below P (T.setTop (mkF m pc L (S))) := by
  subst hq; exact go (X.ldcFloatC hx hown (mvT hZ w) (g := mkF m pc L S) rfl hd) K1
end Steps4
end Jvm.OwnKit
namespace Jvm.OwnKit
open Sem ClassFile Op Lib Jvm.Stand Jvm.Free Jvm.LawKit Jvm.RoadKit
section Steps6
variable {p : Program} {l : Launch} {e : Env} {R : Room} {s : State} {m : MethodId} {args : Array Value} {below : List Frame} {meth : Method} {c : Code} {T : State} {locs : List Loc} {cells slots : Nat} {P : State → Outcome → Prop} {pc q : Nat} {L L' : Array Slot} {S : List Value} {Z : State} {a0 : Array Value} {h : Heap} {a : Addr} {k : ClassId} {vs : List Value}
theorem gBaload (X : Stand p l e R s m args below meth c T locs cells slots) (hx : p.tables.exec = Jvm.exec) (hZ : Z.Warmed39 s.vm) (eT : T.heap = h) (A : Ary Z h a k .byte vs) {j : Int32} {v : Value} (hd : decode c.code pc = .ok (.baload, 1)) (hq : pc + 1 = q) (hj : ¬ (j < 0 ∨ vs.length ≤ j.toNatClampNeg)) (hv : vs[j.toNatClampNeg]? = some v) (K : Go p.tables e below P (T.setTop (mkF m q L (v :: S)))) : Go p.tables e below P (T.setTop (mkF m pc L (.int j :: .ref a :: S))) := by
  subst hq eT
  obtain ⟨cl, A, -, rfl⟩ := A
  exact go (fun t k => X.baloadBytes hx (j := j) (v := v) A.1 (State.isArrayOf_alike hZ.alike A.2.1) A.2.2 (by simpa using hj) (by simpa using hv) (g := mkF m pc L (.int j :: .ref a :: S)) rfl rfl hd _ k) K
theorem gBastore (X : Stand p l e R s m args below meth c T locs cells slots) (hx : p.tables.exec = Jvm.exec) (hZ : Z.Warmed39 s.vm) (eT : T.heap = h) (A : Ary Z h a k .byte vs) {j x : Int32} (hd : decode c.code pc = .ok (.bastore, 1)) (hq : pc + 1 = q) (hj : ¬ (j < 0 ∨ vs.length ≤ j.toNatClampNeg))
    (K : ∀ T' h', Stand p l e R s m args below meth c T' (locs ++ [⟨a, j.toNatClampNeg⟩]) cells slots → T'.heap = h' → Wr h h' a j.toNatClampNeg (.int (nar .byte x)) → Ary Z h' a k .byte (vs.set j.toNatClampNeg (.int (nar .byte x))) → Go p.tables e below P (T'.setTop (mkF m q L (S)))) : Go p.tables e below P (T.setTop (mkF m pc L (.int x :: .int j :: .ref a :: S))) := by
  subst hq
  have A' := A
  obtain ⟨cl, Ac, r1, r2⟩ := A'
  obtain ⟨T', h', X', e', W', st⟩ := stB X hx hZ eT Ac (j := j) (x := x) (by subst r2; simpa using hj) (g := mkF m pc L (.int x :: .int j :: .ref a :: S)) rfl rfl hd
  exact go st (K T' h' X' e' W' (Ary.same W' A))
theorem gClone (X : Stand p l e R s m args below meth c T locs cells slots) (hx : p.tables.exec = Jvm.exec) (hZ : Z.Warmed39 s.vm) {own ad : String} {i : Nat} {ty : FieldType} (hown : s.vm.findClass own = some m.cls) (w1 : (Jvm.Cond.methodLink own i ⟨ad, "clone", "()Ljava/lang/Object;"⟩).before a0 Z = true) (w2 : (Jvm.Cond.sameMethod ad "java/lang/Object" "clone" "()Ljava/lang/Object;").before a0 Z = true) (w3 : (Jvm.Cond.native ⟨"java/lang/Object", "clone", "()Ljava/lang/Object;"⟩).before a0 Z = true) (w4 : (Jvm.Cond.instanceMethod ⟨"java/lang/Object", "clone", "()Ljava/lang/Object;"⟩).before a0 Z = true) (w5 : (Jvm.Cond.selects ad ⟨ad, "clone", "()Ljava/lang/Object;"⟩ ⟨"java/lang/Object", "clone", "()Ljava/lang/Object;"⟩).before a0 Z = true) (w6 : (Jvm.Cond.castable ad "java/lang/Cloneable").before a0 Z = true)
    (eT : T.heap = h) (A : Ary Z h a k ty vs) (E : Exa Z h a ad) (hfit : ∀ v ∈ vs, fits ty v = true) (hsize : L.size = c.maxLocals) (hd : decode c.code pc = .ok (.invokevirtual i, 3)) (hq : pc + 3 = q) (hf : 1 ≤ R.frames) {W cap : Nat} (hW : (S.map fun v => v.category).sum ≤ W) (hl : W + 14 ≤ R.locals) (hcap : vs.length ≤ cap) (hc : cells + 1 ≤ R.cells) (hsl : slots + cap ≤ R.slots)
    (K : ∀ T' h' b, Stand p l e R s m args below meth c T' locs (cells + 1) (slots + cap) → T'.heap = h' → b = h.size → Ext h h' → Ary Z h' b k ty vs → Exa Z h' b ad → Go p.tables e below P (T'.setTop (mkF m q L (.ref b :: S)))) : Go p.tables e below P (T.setTop (mkF m pc L (.ref a :: S))) := by
  subst hq
  obtain ⟨cl, Ac, r1, r2⟩ := A
  have FC : FitC Z cl := fitC_of Ac fun i hi v hv => hfit v (by rw [← r2]; rw [← Array.getElem?_toList] at hv; exact List.mem_of_getElem? hv)
  obtain ⟨T', h', X', e', ex, A', E', st⟩ := cloneA X hx hZ hown w1 w2 w3 w4 w5 w6 eT Ac E FC (g := mkF m pc L (.ref a :: S)) rfl hsize rfl hd hf (W := W) (cap := cap) (by show 2 * 0 + _ ≤ _; rw [Nat.mul_zero, Nat.zero_add]; exact hW) hl (by rw [← r2] at hcap; simpa using hcap) hc hsl
  exact go st (K T' h' _ X' e' rfl ex ⟨_, A', r1, r2⟩ E')
end Steps6
theorem gRetB {p : Program} {l : Launch} {e : Env} {R : Room} {s : State} {m : MethodId} {args : Array Value} {below : List Frame} {meth : Method} {c : Code} {T : State} {locs : List Loc} {cells slots : Nat} {pc : Nat} {L : Array Slot} {S : List Value} (X : Stand p l e R s m args below meth c T locs cells slots) (hx : p.tables.exec = Jvm.exec) {Q : Option Value → Heap → List Loc → Prop} {k n : Nat} {z : Int32} (hlk : meth.locks = false) (hret : meth.sig.returnType = some .byte) (hd : decode c.code pc = .ok (.ireturn, 1)) (hk : cells ≤ k) (hs : slots ≤ n) (hz : narrow .byte (.int z) = .int z) (hQ : Q (some (.int z)) T.heap locs) : Go p.tables e below (Done s Q k n) (T.setTop (mkF m pc L (.int z :: S))) :=
  gRet X hx hlk hret hz (Or.inl ⟨rfl, Or.inr (Or.inr (Or.inl rfl)), _, rfl⟩) hd hk hs hQ
section Start
variable {s : State} {args : Array Value} {t : Term} {a x y : Addr} {C n d : String}
theorem own_fldR (ev : t.eval args s none [] s = some (.ref x)) (ev2 : (Term.field t C n d).eval args s none [] s = some (.ref y)) : Fld s s.heap x C n d (.ref y) := Fld.start ((fld_at ev).symm.trans ev2)
theorem own_lenlt' {cl : Cell} {v : Value} (ev : t.eval args s none [] s = some (.ref a)) (hat : s.arrayAt? a = some cl) (h : (Term.length t).eval args s none [] s = some v) : cl.slots.size < 2 ^ 31 := by
  simp [Term.eval, ev, hat] at h
  exact h.1
theorem own_arr {ty : FieldType} {N : Int32} {M : Nat} (ev : t.eval args s none [] s = some (.ref a)) (w5 : (Jvm.Cond.arrayOf t ty).value args s none s [] = some true) (w6 : (Jvm.Cond.eq (Term.length t) (Term.int N)).value args s none s [] = some true) (hN : N.toInt = M) : ∃ cl, Arr s s.heap a cl ty ∧ cl.slots.toList.length = M := by
  obtain ⟨cl, A⟩ := Arr.start ev w5
  have hat := Arr.fin (Vm.Alike.refl _) A
  obtain ⟨u, w, g1, g2, g3, g4⟩ := cmp_v (Or.inl w6)
  obtain rfl : w = .int N := Option.some.inj (g2.symm.trans (Term.int_eval N))
  obtain ⟨z, rfl⟩ := g4
  have hz : z = N := gotT (Cond.eq_ints g1 g2) w6
  subst hz
  obtain ⟨b, cell, e1, e2, e3⟩ := Term.length_spec g1
  obtain rfl : a = b := Value.ref.inj (Option.some.inj (ev.symm.trans e1))
  obtain rfl : cl = cell := Option.some.inj (hat.symm.trans e2)
  have hlt := own_lenlt' ev hat g1
  refine ⟨cl, A, ?_⟩
  have e4 := congrArg Int32.toInt (Value.int.inj e3)
  rw [len_toInt hlt] at e4
  simp only [Array.length_toList]
  omega
theorem own_el {cl : Cell} {j b : Int32} {ty : FieldType} (ev : t.eval args s none [] s = some (.ref a)) (A : Arr s s.heap a cl ty) (h : (Jvm.Cond.eq (Term.elem t (Term.int j)) (Term.int b)).value args s none s [] = some true) : cl.slots.toList[j.toNatClampNeg]? = some (.int b) := by
  obtain ⟨u, w, g1, g2, g3, g4⟩ := cmp_v (Or.inl h)
  obtain rfl : w = .int b := Option.some.inj (g2.symm.trans (Term.int_eval b))
  obtain ⟨z, rfl⟩ := g4
  have hz : z = b := gotT (Cond.eq_ints g1 g2) h
  subst hz
  rw [Array.getElem?_toList]
  exact (elem_in g1 ev (Term.int_eval j) A.1).2
theorem own_elR {cl : Cell} {j : Int32} {ty : FieldType} {t2 : Term} {r : Addr} (ev : t.eval args s none [] s = some (.ref a)) (A : Arr s s.heap a cl ty) (ev2 : t2.eval args s none [] s = some (.ref r)) (h : (Jvm.Cond.eq (Term.elem t (Term.int j)) t2).value args s none s [] = some true) : cl.slots.toList[j.toNatClampNeg]? = some (.ref r) := by
  obtain ⟨u, w, g1, g2, g3, g4⟩ := cmp_v (Or.inl h)
  obtain rfl : w = .ref r := Option.some.inj (g2.symm.trans ev2)
  have hu : u.isRef = true := g4.2
  have hz : u = .ref r := gotT (eq_R g1 g2 hu rfl) h
  subst hz
  rw [Array.getElem?_toList]
  exact (elem_in g1 ev (Term.int_eval j) A.1).2
end Start
end Jvm.OwnKit
namespace Jvm.OwnKit
open Sem ClassFile Op Lib Jvm.Stand Jvm.Free Jvm.LawKit Jvm.RoadKit
theorem own_dupX2 {tb : Tables} [Ours tb] {e : Env} {below : List Frame} {T target : State} {m : MethodId} {c : Code} {g : JFrame} (h : At T m c below) (hx : tb.exec = Jvm.exec) (hg : g.method = m) {x y z : Value} {rest : List Value} (hd : decode c.code g.pc = .ok (.dup_x2, 1)) (hs : g.stack = x :: y :: z :: rest) (hc : x.category = 1) (hc' : y.category = 1) (hc'' : z.category = 1)
    (hr : Steps tb e below (T.setTop { g with pc := g.pc + 1, stack := x :: y :: z :: x :: rest }) target) : Steps tb e below (T.setTop g) target := by
  subst hg
  jvm_step h [h.top, hx, hd, hs, hc, hc', hc'']
  exact hr
section Steps7
variable {p : Program} {l : Launch} {e : Env} {R : Room} {s : State} {m : MethodId} {args : Array Value} {below : List Frame} {meth : Method} {c : Code} {T : State} {locs : List Loc} {cells slots : Nat} {P : State → Outcome → Prop} {pc q : Nat} {L L' : Array Slot} {S : List Value} {Z : State} {a0 : Array Value} {h : Heap} {a b : Addr} {k kb : ClassId} {vs us : List Value}
theorem gDupX2 (X : Stand p l e R s m args below meth c T locs cells slots) (hx : p.tables.exec = Jvm.exec) {x y z : Value} (hd : decode c.code pc = .ok (.dup_x2, 1)) (hq : pc + 1 = q) (hc : x.category = 1) (hc' : y.category = 1) (hc'' : z.category = 1) (K : Go p.tables e below P (T.setTop (mkF m q L (x :: y :: z :: x :: S)))) : Go p.tables e below P (T.setTop (mkF m pc L (x :: y :: z :: S))) := by
  subst hq; exact go (fun t k => own_dupX2 X.here hx rfl hd rfl hc hc' hc'' k) K
theorem own_runI (l : List Value) (hl : ∀ v ∈ l, fits .int v = true) (c : Cell) (j : Nat) (hin : j + l.length ≤ c.slots.size) (hc : ∀ v ∈ c.slots.toList, fits .int v = true) : ∀ v ∈ (c.storeRun j l).slots.toList, fits .int v = true := by
  intro v hv
  obtain ⟨i, hi⟩ := List.mem_iff_getElem?.mp hv
  rw [Array.getElem?_toList, Cell.storeRun_get c j l i hin] at hi
  split at hi
  · exact hl v (List.mem_of_getElem? hi)
  · exact hc v (by rw [← Array.getElem?_toList] at hi; exact List.mem_of_getElem? hi)
theorem own_ints (ws : List Value) (h : ∀ v ∈ ws, fits .int v = true) : ∃ xs : List Int32, ws = xs.map Value.int := by
  induction ws with
  | nil => exact ⟨[], rfl⟩
  | cons v ws ih =>
    obtain ⟨xs, rfl⟩ := ih fun w hw => h w (List.mem_cons_of_mem _ hw)
    have hv := h v List.mem_cons_self
    cases v with
    | int x => exact ⟨x :: xs, rfl⟩
    | _ => simp [fits] at hv
theorem gCopyI (X : Stand p l e R s m args below meth c T locs cells slots) (hx : p.tables.exec = Jvm.exec) (hZ : Z.Warmed39 s.vm) {own : String} {i : Nat} (hown : s.vm.findClass own = some m.cls) (w1 : (Jvm.Cond.methodLink own i ⟨"java/lang/System", "arraycopy", "(Ljava/lang/Object;ILjava/lang/Object;II)V"⟩).before a0 Z = true) (w2 : (Jvm.Cond.native ⟨"java/lang/System", "arraycopy", "(Ljava/lang/Object;ILjava/lang/Object;II)V"⟩).before a0 Z = true) (w3 : (Jvm.Cond.static ⟨"java/lang/System", "arraycopy", "(Ljava/lang/Object;ILjava/lang/Object;II)V"⟩).before a0 Z = true) (w4 : (Jvm.Cond.initialized "java/lang/System").before a0 Z = true)
    (eT : T.heap = h) (A : Ary Z h a k .int vs) (B : Ary Z h b kb .int us) (hav : ∀ v ∈ vs, fits .int v = true) (hbv : ∀ v ∈ us, fits .int v = true) {j1 j2 n : Int32} (h1 : ¬ j1 < 0) (h2 : ¬ j2 < 0) (h3 : ¬ n < 0) (h4 : ¬ j1.toInt + n.toInt > vs.length) (h5 : ¬ j2.toInt + n.toInt > us.length) (h6 : j1.toNatClampNeg + n.toNatClampNeg ≤ vs.length) (h7 : j2.toNatClampNeg + n.toNatClampNeg ≤ us.length)
    (hsize : L.size = c.maxLocals) (hd : decode c.code pc = .ok (.invokestatic i, 3)) (hq : pc + 3 = q) (hf : 1 ≤ R.frames) {W : Nat} (hW : (S.map fun v => v.category).sum ≤ W) (hl : W + (nativeFrameWords "java/lang/System" "arraycopy" 5 + 11) ≤ R.locals)
    (K : ∀ (T' : State) (h' : Heap) (xs : List Int32), Stand p l e R s m args below meth c T' (locs ++ copyLocs b j2.toNatClampNeg n.toNatClampNeg) cells slots → T'.heap = h' → Keep h h' [b] → xs.length = us.length → Ary Z h' b kb .int (xs.map Value.int) → Go p.tables e below P (T'.setTop (mkF m q L (S)))) : Go p.tables e below P (T.setTop (mkF m pc L (.int n :: .int j2 :: .ref b :: .int j1 :: .ref a :: S))) := by
  subst hq eT
  obtain ⟨cs, A, -, rfl⟩ := A
  obtain ⟨cd, B, rfl, rfl⟩ := B
  have A2 := State.isArrayOf_alike hZ.alike A.2.1
  have B2 := State.isArrayOf_alike hZ.alike B.2.1
  obtain ⟨ks, hks, sC, hsk⟩ := A2.2
  obtain ⟨kd, hkd, dC, hdk⟩ := B2.2
  have hv : ∀ i, i < n.toNatClampNeg → fits .int (cs.slots.getD (j1.toNatClampNeg + i) .null) = true := by
    intro i hi
    have hlt : j1.toNatClampNeg + i < cs.slots.size := by simp only [Array.length_toList] at h6; omega
    rw [show cs.slots.getD (j1.toNatClampNeg + i) .null = cs.slots[j1.toNatClampNeg + i] by simp [hlt]]
    exact hav _ (by simp)
  obtain ⟨vm1, hW1, X', st⟩ := X.arraycopyK hx hown (mv hZ w1) (mv hZ w2) (mv hZ w3) (mv hZ w4) (src := a) (dst := b) (srcPos := j1) (destPos := j2) (n := n) A.1 B.1 A2.1 B2.1 A.2.2 B.2.2 hks hkd hsk hdk rfl h1 h2 h3 (by simpa using h4) (by simpa using h5)
    (fun vm' _ i hi => ⟨hv i hi, State.takes_of_prim _ _ rfl (hv i hi)⟩) (g := mkF m pc L (.int n :: .int j2 :: .ref b :: .int j1 :: .ref a :: S)) rfl hsize rfl hd hf (by show 2 * 0 + _ + _ ≤ _; omega)
  have hst : ∀ v ∈ cs.stretch j1.toNatClampNeg n.toNatClampNeg, fits .int v = true := by
    intro v hv'
    simp only [Cell.stretch, List.mem_map, List.mem_range] at hv'
    obtain ⟨i, hi, rfl⟩ := hv'
    exact hv i hi
  obtain ⟨r2, r3, r1, -⟩ := Cell.storeRun_facts cd j2.toNatClampNeg (cs.stretch j1.toNatClampNeg n.toNatClampNeg)
  obtain ⟨xs, hxs⟩ := own_ints _ (own_runI _ hst cd j2.toNatClampNeg (by simp only [Cell.stretch, List.length_map, List.length_range]; simpa using h7) hbv)
  have hb : b < T.heap.size := (Array.getElem?_eq_some_iff.mp B.1).1
  refine go st (K _ _ xs X' rfl ?_ ?_ ?_)
  · refine ⟨by show _ ≤ (T.heap.setIfInBounds b _).size; simp, fun x c hxc hx' => ?_, fun x c hxc => ?_⟩
    · have : b ≠ x := fun z => hx' (by simp [z])
      show (T.heap.setIfInBounds b _)[x]? = _
      rw [Array.getElem?_setIfInBounds_ne this]; exact hxc
    · by_cases hbx : b = x
      · subst hbx
        cases B.1.symm.trans hxc
        refine ⟨_, by show (T.heap.setIfInBounds b _)[b]? = _; rw [Array.getElem?_setIfInBounds_self_of_lt hb], r2, r3, r1⟩
      · refine ⟨c, ?_, rfl, rfl, rfl⟩
        show (T.heap.setIfInBounds b _)[x]? = _
        rw [Array.getElem?_setIfInBounds_ne hbx]; exact hxc
  · have := congrArg List.length hxs
    simp only [List.length_map, Array.length_toList, r1] at this
    simp [← this]
  · refine ⟨copied cs cd j1 j2 n, ⟨?_, ⟨?_, ?_⟩, ?_⟩, r2, hxs⟩
    · show (T.heap.setIfInBounds b _)[b]? = _
      rw [Array.getElem?_setIfInBounds_self_of_lt hb]
    · intro k hk; rw [r3] at hk; exact B.2.1.1 k hk
    · rw [r2]; exact B.2.1.2
    · rw [r3]; exact B.2.2
end Steps7
theorem Exa.ne_of {Z : State} {h : Heap} {a b : Addr} {C D : String} (E : Exa Z h a C) (F : Exa Z h b D) (hn : C ≠ D) : a ≠ b := by
  rintro rfl
  obtain ⟨c1, k1, e1, e2, -⟩ := E
  obtain ⟨c2, k2, f1, f2, -⟩ := F
  cases e1.symm.trans f1
  obtain ⟨k3, q1, q2⟩ := Vm.findClass_spec e2
  obtain ⟨k4, s1, s2⟩ := Vm.findClass_spec f2
  cases q1.symm.trans s1
  exact hn (q2.symm.trans s2)
end Jvm.OwnKit
namespace Jvm.Pilot.@@N@@
open Jvm Jvm.ClassFile Sem Op Lib Jvm.Free Jvm.Stand Jvm.LawKit Jvm.RoadKit Bundle Jvm.OwnKit Jvm.Pilot.@@N@@.Jvm.D
def own_BI (N : Nat) (Z : State) (h : Heap) (r : Addr) : Prop := Exa Z h r "java/math/BigInteger" ∧ (Fld Z h r "java/math/BigInteger" "signum" "I" (.int (0 : Int32)) ∨ (Fld Z h r "java/math/BigInteger" "signum" "I" (.int (1 : Int32)) ∧ ∃ (k : Addr) (kc : ClassId) (xs : List Int32), Fld Z h r "java/math/BigInteger" "mag" "[I" (.ref k) ∧ Ary Z h k kc .int (xs.map Value.int) ∧ 1 ≤ xs.length ∧ xs.length ≤ N))
theorem own_BI.keep {N : Nat} {Z : State} {h h' : Heap} {r : Addr} (B : own_BI N Z h r) (K : Keep h h' []) : own_BI N Z h' r := by
  obtain ⟨E, F | ⟨F, k, kc, xs, G, A, l⟩⟩ := B
  · exact ⟨E.keep K, Or.inl (F.keep K nin0)⟩
  · exact ⟨E.keep K, Or.inr ⟨F.keep K nin0, k, kc, xs, G.keep K nin0, A.keep K nin0, l⟩⟩
theorem own_BI.ext {N : Nat} {Z : State} {h h' : Heap} {r : Addr} (K : Ext h h') (B : own_BI N Z h r) : own_BI N Z h' r := by
  obtain ⟨E, F | ⟨F, k, kc, xs, G, A, l⟩⟩ := B
  · exact ⟨E.ext K, Or.inl (F.ext K)⟩
  · exact ⟨E.ext K, Or.inr ⟨F.ext K, k, kc, xs, G.ext K, A.ext K, l⟩⟩
theorem own_BI.wr {N : Nat} {Z : State} {h h' : Heap} {r a : Addr} {sl n : Nat} {v : Value} {a0 : Array Value} (B : own_BI N Z h r) (W : Wr h h' a sl v) (Ea : Exa Z h a "com/example/gangway/gangway/Extent") (wi : (Jvm.Cond.instantiable "com/example/gangway/gangway/Extent" n).before a0 Z = true) : own_BI N Z h' r := by
  obtain ⟨E, F | ⟨F, k, kc, xs, G, A, l⟩⟩ := B
  · exact ⟨E.wr W, Or.inl (Fld.other W F (Or.inl (Exa.ne_of E Ea (by decide))))⟩
  · exact ⟨E.wr W, Or.inr ⟨Fld.other W F (Or.inl (Exa.ne_of E Ea (by decide))), k, kc, xs, Fld.other W G (Or.inl (Exa.ne_of E Ea (by decide))), Ary.other W A (Ary.ne_exa A Ea wi), l⟩⟩
theorem own_BI.mono {N M : Nat} {Z : State} {h : Heap} {r : Addr} (B : own_BI N Z h r) (q : N ≤ M) : own_BI M Z h r := by
  obtain ⟨E, F | ⟨F, k, kc, xs, G, A, l1, l2⟩⟩ := B
  · exact ⟨E, Or.inl F⟩
  · exact ⟨E, Or.inr ⟨F, k, kc, xs, G, A, l1, Nat.le_trans l2 q⟩⟩
theorem own_pos {x : Int64} (h0 : ¬ x = (0 : Int64)) (h1 : ¬ x < (0 : Int64)) : (0 : Int64) < x := by
  have hz : (0 : Int64).toInt = 0 := rfl
  rw [← Int64.toInt_inj] at h0
  rw [Int64.lt_iff_toInt_lt] at h1 ⊢
  omega
theorem own_pidx {x : Int64} (h0 : (0 : Int64) < x) (h1 : ¬ (16 : Int64) < x) : ∃ j : Nat, 1 ≤ j ∧ j ≤ 16 ∧ ¬ x.toInt32 < 0 ∧ x.toInt32.toNatClampNeg = j := by
  have hz : (0 : Int64).toInt = 0 := rfl
  have hs : (16 : Int64).toInt = 16 := rfl
  have hz' : (0 : Int32).toInt = 0 := rfl
  rw [Int64.lt_iff_toInt_lt] at h0 h1
  have e := c_l2i x
  have r := rng32 x.toInt32
  have hn : ¬ x.toInt32 < 0 := by rw [Int32.lt_iff_toInt_lt]; omega
  have hN := nat_of hn
  exact ⟨x.toInt32.toNatClampNeg, by omega, by omega, hn, rfl⟩
theorem own_l1 {xs : List Int32} (h : xs.length = 1) : ∃ y0 : Int32, xs = [y0] := by
  match xs, h with
  | [y0], _ => exact ⟨y0, rfl⟩
theorem own_l2 {xs : List Int32} (h : xs.length = 2) : ∃ y0 y1 : Int32, xs = [y0, y1] := by
  match xs, h with
  | [y0, y1], _ => exact ⟨y0, y1, rfl⟩
theorem own_l3 {xs : List Int32} (h : xs.length = 3) : ∃ y0 y1 y2 : Int32, xs = [y0, y1, y2] := by
  match xs, h with
  | [y0, y1, y2], _ => exact ⟨y0, y1, y2, rfl⟩
theorem own_l4 {xs : List Int32} (h : xs.length = 4) : ∃ y0 y1 y2 y3 : Int32, xs = [y0, y1, y2, y3] := by
  match xs, h with
  | [y0, y1, y2, y3], _ => exact ⟨y0, y1, y2, y3, rfl⟩
theorem own_le2 {xs : List Int32} (h1 : 1 ≤ xs.length) (h2 : xs.length ≤ 2) : xs.length = 1 ∨ xs.length = 2 := by omega
theorem own_le3 {xs : List Int32} (h1 : 1 ≤ xs.length) (h2 : xs.length ≤ 3) : xs.length = 1 ∨ xs.length = 2 ∨ xs.length = 3 := by omega
theorem d8_0 : decode jdk_18_method_1_code 0 = .ok (.aload_n 0, 1) := by decide +kernel
theorem d8_1 : decode jdk_18_method_1_code 1 = .ok (.invokespecial 1, 3) := by decide +kernel
theorem d8_4 : decode jdk_18_method_1_code 4 = .ok (.return_, 1) := by decide +kernel
theorem pn0 : plainName "java/lang/Number" = true := by first | (simp [plainName, overriddenIn]; done) | decide +kernel
theorem ef0 (m : MethodId) (x0 : Addr) : entryFrame m #[(.ref x0)] 1 = mkF m 0 #[.val (.ref x0)] [] := by first | (simp [entryFrame, mkF, argsToLocals, Value.category]; done) | rfl
def Q_rmNum (Z : State) (a : Addr) (h0 : Heap) (n0 : Nat) (v : Option Value) (h : Heap) (L : List Loc) : Prop := v = none ∧ Fr n0 L ∧ h = h0
set_option maxRecDepth 65536 in
set_option maxHeartbeats 40000000 in
theorem rmNum (l : Launch) (Z : State) (a0 : Array Value) (hw : ∀ d ∈ tables_1, d.before a0 Z = true) (ws : List Jvm.Cond) (a : Addr) (h0 : Heap) (n0 : Nat) (Z0 : n0 ≤ h0.size)  :
    Con l Z (⟨"java/lang/Number", "<init>", "()V"⟩ : MethodName) jdk_18_method_1_code 1 none ws ({ frames := 1, cells := 0, slots := 0, locals := 12 } : Room) #[(.ref a)] h0 (({ frames := 1, cells := 0, slots := 0, locals := 12 } : Room).cells) (({ frames := 1, cells := 0, slots := 0, locals := 12 } : Room).slots) (Q_rmNum Z a h0 n0) := by
  refine Con.of (plainFor_of_name pn0) ?_
  intro p e s m below meth c s₁ hx hby hml hown hnm hret hlk hZ X0 e0
  have N0 := Fr.nil n0
  refine goE (L := #[.val (.ref a)]) (ef0 m a) ?_
  refine gAloadN X0 hx (hb hby d8_0) (q := 1) rfl rfl rfl ?_
  refine gInitO X0 hx hZ hown (hw _ (List.mem_of_getElem? (i := 47) rfl)) (hw _ (List.mem_of_getElem? (i := 8) rfl)) (hw _ (List.mem_of_getElem? (i := 9) rfl)) e0 (by rw [hml]; rfl) (hb hby d8_1) (q := 4) rfl (by decide) (W := 0) (Nat.le_of_eq rfl) (by decide) (fun T1 X1 e1 => ?_)
  exact gRetV X1 hx hlk hret (hb hby d8_4) (by decide) (by decide) ⟨rfl, N0, e1⟩
theorem d7_0 : decode jdk_2097_method_30_code 0 = .ok (.aload_n 0, 1) := by decide +kernel
theorem d7_1 : decode jdk_2097_method_30_code 1 = .ok (.invokespecial 3, 3) := by decide +kernel
theorem d7_4 : decode jdk_2097_method_30_code 4 = .ok (.lload_n 1, 1) := by decide +kernel
theorem d7_5 : decode jdk_2097_method_30_code 5 = .ok (.lconst 0, 1) := by decide +kernel
theorem d7_6 : decode jdk_2097_method_30_code 6 = .ok (.lcmp, 1) := by decide +kernel
theorem d7_7 : decode jdk_2097_method_30_code 7 = .ok (.ifCond .ge 14, 3) := by decide +kernel
theorem d7_10 : decode jdk_2097_method_30_code 10 = .ok (.lload_n 1, 1) := by decide +kernel
theorem d7_11 : decode jdk_2097_method_30_code 11 = .ok (.lneg, 1) := by decide +kernel
theorem d7_12 : decode jdk_2097_method_30_code 12 = .ok (.lstore_n 1, 1) := by decide +kernel
theorem d7_13 : decode jdk_2097_method_30_code 13 = .ok (.aload_n 0, 1) := by decide +kernel
theorem d7_14 : decode jdk_2097_method_30_code 14 = .ok (.iconst (-1), 1) := by decide +kernel
theorem d7_15 : decode jdk_2097_method_30_code 15 = .ok (.putfield 32, 3) := by decide +kernel
theorem d7_18 : decode jdk_2097_method_30_code 18 = .ok (.goto 8, 3) := by decide +kernel
theorem d7_21 : decode jdk_2097_method_30_code 21 = .ok (.aload_n 0, 1) := by decide +kernel
theorem d7_22 : decode jdk_2097_method_30_code 22 = .ok (.iconst 1, 1) := by decide +kernel
theorem d7_23 : decode jdk_2097_method_30_code 23 = .ok (.putfield 32, 3) := by decide +kernel
theorem d7_26 : decode jdk_2097_method_30_code 26 = .ok (.lload_n 1, 1) := by decide +kernel
theorem d7_27 : decode jdk_2097_method_30_code 27 = .ok (.bipush 32, 2) := by decide +kernel
theorem d7_29 : decode jdk_2097_method_30_code 29 = .ok (.lushr, 1) := by decide +kernel
theorem d7_30 : decode jdk_2097_method_30_code 30 = .ok (.l2i, 1) := by decide +kernel
theorem d7_31 : decode jdk_2097_method_30_code 31 = .ok (.istore_n 3, 1) := by decide +kernel
theorem d7_32 : decode jdk_2097_method_30_code 32 = .ok (.iload_n 3, 1) := by decide +kernel
theorem d7_33 : decode jdk_2097_method_30_code 33 = .ok (.ifCond .ne 21, 3) := by decide +kernel
theorem d7_36 : decode jdk_2097_method_30_code 36 = .ok (.aload_n 0, 1) := by decide +kernel
theorem d7_37 : decode jdk_2097_method_30_code 37 = .ok (.iconst 1, 1) := by decide +kernel
theorem d7_38 : decode jdk_2097_method_30_code 38 = .ok (.newarray .int, 2) := by decide +kernel
theorem d7_40 : decode jdk_2097_method_30_code 40 = .ok (.putfield 28, 3) := by decide +kernel
theorem d7_43 : decode jdk_2097_method_30_code 43 = .ok (.aload_n 0, 1) := by decide +kernel
theorem d7_44 : decode jdk_2097_method_30_code 44 = .ok (.getfield 28, 3) := by decide +kernel
theorem d7_47 : decode jdk_2097_method_30_code 47 = .ok (.iconst 0, 1) := by decide +kernel
theorem d7_48 : decode jdk_2097_method_30_code 48 = .ok (.lload_n 1, 1) := by decide +kernel
theorem d7_49 : decode jdk_2097_method_30_code 49 = .ok (.l2i, 1) := by decide +kernel
theorem d7_50 : decode jdk_2097_method_30_code 50 = .ok (.iastore, 1) := by decide +kernel
theorem d7_51 : decode jdk_2097_method_30_code 51 = .ok (.goto 25, 3) := by decide +kernel
theorem d7_54 : decode jdk_2097_method_30_code 54 = .ok (.aload_n 0, 1) := by decide +kernel
theorem d7_55 : decode jdk_2097_method_30_code 55 = .ok (.iconst 2, 1) := by decide +kernel
theorem d7_56 : decode jdk_2097_method_30_code 56 = .ok (.newarray .int, 2) := by decide +kernel
theorem d7_58 : decode jdk_2097_method_30_code 58 = .ok (.putfield 28, 3) := by decide +kernel
theorem d7_61 : decode jdk_2097_method_30_code 61 = .ok (.aload_n 0, 1) := by decide +kernel
theorem d7_62 : decode jdk_2097_method_30_code 62 = .ok (.getfield 28, 3) := by decide +kernel
theorem d7_65 : decode jdk_2097_method_30_code 65 = .ok (.iconst 0, 1) := by decide +kernel
theorem d7_66 : decode jdk_2097_method_30_code 66 = .ok (.iload_n 3, 1) := by decide +kernel
theorem d7_67 : decode jdk_2097_method_30_code 67 = .ok (.iastore, 1) := by decide +kernel
theorem d7_68 : decode jdk_2097_method_30_code 68 = .ok (.aload_n 0, 1) := by decide +kernel
theorem d7_69 : decode jdk_2097_method_30_code 69 = .ok (.getfield 28, 3) := by decide +kernel
theorem d7_72 : decode jdk_2097_method_30_code 72 = .ok (.iconst 1, 1) := by decide +kernel
theorem d7_73 : decode jdk_2097_method_30_code 73 = .ok (.lload_n 1, 1) := by decide +kernel
theorem d7_74 : decode jdk_2097_method_30_code 74 = .ok (.l2i, 1) := by decide +kernel
theorem d7_75 : decode jdk_2097_method_30_code 75 = .ok (.iastore, 1) := by decide +kernel
theorem d7_76 : decode jdk_2097_method_30_code 76 = .ok (.return_, 1) := by decide +kernel
theorem pn1 : plainName "java/math/BigInteger" = true := by first | (simp [plainName, overriddenIn]; done) | decide +kernel
theorem ef1 (m : MethodId) (x0 : Addr) (x1 : Int64) : entryFrame m #[(.ref x0), (.long x1)] 4 = mkF m 0 #[.val (.ref x0), .val (.long x1), .second, .unset] [] := by first | (simp [entryFrame, mkF, argsToLocals, Value.category]; done) | rfl
def Q_rmBJ (Z : State) (a : Addr) (x1 : Int64) (h0 : Heap) (n0 : Nat) (v : Option Value) (h : Heap) (L : List Loc) : Prop := v = none ∧ Fr n0 L ∧ Keep h0 h [a] ∧ own_BI 2 Z h a
theorem pd0 : parseMethodDescriptor "()V" = some ⟨[], none⟩ := by decide +kernel
set_option maxRecDepth 65536 in
set_option maxHeartbeats 40000000 in
theorem rmBJ (l : Launch) (Z : State) (a0 : Array Value) (hw : ∀ d ∈ tables_1, d.before a0 Z = true) (ws : List Jvm.Cond) (a : Addr) (x1 : Int64) (h0 : Heap) (n0 : Nat) (Z0 : n0 ≤ h0.size) (pS : Fld Z h0 a "java/math/BigInteger" "signum" "I" (.int (0 : Int32))) (pM : Fld Z h0 a "java/math/BigInteger" "mag" "[I" .null) (pE : Exa Z h0 a "java/math/BigInteger") (la : n0 ≤ a) (hx1 : ¬ x1 < (0 : Int64)) :
    Con l Z (⟨"java/math/BigInteger", "<init>", "(J)V"⟩ : MethodName) jdk_2097_method_30_code 4 none ws ({ frames := 2, cells := 1, slots := 2, locals := 26 } : Room) #[(.ref a), (.long x1)] h0 (({ frames := 2, cells := 1, slots := 2, locals := 26 } : Room).cells) (({ frames := 2, cells := 1, slots := 2, locals := 26 } : Room).slots) (Q_rmBJ Z a x1 h0 n0) := by
  refine Con.of (plainFor_of_name pn1) ?_
  intro p e s m below meth c s₁ hx hby hml hown hnm hret hlk hZ X0 e0
  have N0 := Fr.nil n0
  refine goE (L := #[.val (.ref a), .val (.long x1), .second, .unset]) (ef1 m a x1) ?_
  refine gAloadN X0 hx (hb hby d7_0) (q := 1) rfl rfl rfl ?_
  refine gCallN X0 hx hZ rfl hown (hw _ (List.mem_of_getElem? (i := 41) rfl)) (hw _ (List.mem_of_getElem? (i := 42) rfl)) (hw _ (List.mem_of_getElem? (i := 45) rfl)) (hw _ (List.mem_of_getElem? (i := 46) rfl)) (by decide) (rmNum l Z a0 hw [] a h0 n0 Z0) (W := 0) (by decide) (by decide) e0 (by rw [hml]; rfl) [] (lenOf pd0 rfl) rfl (S := []) rfl (Nat.le_of_eq rfl) (hb hby d7_1) (q := 4) rfl (by decide) (by decide) (fun r1 T1 M1 X1 q1 => ?_)
  obtain ⟨rfl, M1n, e1⟩ := q1
  have N2 := Fr.app N0 M1n
  dsimp only [Option.toList, List.cons_append, List.nil_append]
  refine gLloadN X1 hx (hb hby d7_4) (q := 5) rfl rfl ?_
  refine gLconst X1 hx (0 : Int64) (hb hby d7_5) (q := 6) rfl (by decide) ?_
  refine gLcmp X1 hx (hb hby d7_6) (q := 7) rfl ?_
  refine gIfY X1 hx (hb hby d7_7) (q := 21) (by decide) (by decide) (XT.ll_ge_t hx1) ?_
  refine gAloadN X1 hx (hb hby d7_21) (q := 22) rfl rfl rfl ?_
  refine gIconst X1 hx (1 : Int32) (hb hby d7_22) (q := 23) rfl (by decide) ?_
  refine gPutF X1 hx hZ (host := "") hown (Or.inl (hw _ (List.mem_of_getElem? (i := 48) rfl))) Via.refl e1 pS pE (Or.inr ⟨(hw _ (List.mem_of_getElem? (i := 49) rfl)), rfl, hnm⟩) (hw _ (List.mem_of_getElem? (i := 36) rfl)) (ty := .int) (by decide) rfl rfl (hb hby d7_23) (q := 26) rfl (fun T3 h3 X3 e3 W3 => ?_)
  have N4 := Fr.snoc X3 N2 la
  have K5 := (Keep.refl h0 [a]).wr W3 (Or.inl (List.mem_of_getElem? (i := 0) rfl))
  have F6 := Fld.same W3 pS
  have F7 := Fld.other W3 pM (Or.inr (slot_ne (Or.inr (hw _ (List.mem_of_getElem? (i := 52) rfl))) (Or.inr (hw _ (List.mem_of_getElem? (i := 49) rfl))) (by decide) (t := .array (.int)) (by decide) (t' := .int) (by decide)))
  have E8 := Exa.wr W3 pE
  have Z9 : n0 ≤ h3.size := by rw [W3.size]; exact Z0
  refine gLloadN X3 hx (hb hby d7_26) (q := 27) rfl rfl ?_
  refine gBipush X3 hx (32 : Int32) (hb hby d7_27) (q := 29) rfl (by decide) ?_
  refine gLushr X3 hx (hb hby d7_29) (q := 30) rfl ?_
  refine gL2i X3 hx (hb hby d7_30) (q := 31) rfl ?_
  refine gIstoreN X3 hx (hb hby d7_31) (q := 32) rfl (L' := #[.val (.ref a), .val (.long x1), .second, .val (.int ((XT.ushrL x1 (32 : Int32)).toInt32))]) rfl ?_
  refine gIloadN X3 hx (hb hby d7_32) (q := 33) rfl rfl ?_
  by_cases c10 : ((XT.ushrL x1 (32 : Int32)).toInt32) = (0 : Int32)
  · refine gIfN X3 hx (hb hby d7_33) (q := 36) rfl (XT.i0_ne_f c10) ?_
    refine gAloadN X3 hx (hb hby d7_36) (q := 37) rfl rfl rfl ?_
    refine gIconst X3 hx (1 : Int32) (hb hby d7_37) (q := 38) rfl (by decide) ?_
    refine gNewP X3 hx hZ (hw _ (List.mem_of_getElem? (i := 50) rfl)) e3 (hb hby d7_38) (q := 40) rfl (by decide) (cap := 1) (by decide) (by decide) (by decide) (by decide) (fun T11 h11 a11 k11 X11 e11 g11 E11 A11 => ?_)
    have F12 := Fld.ext E11 F6
    have F13 := Fld.ext E11 F7
    have E14 := Exa.ext E11 E8
    have ge_a11 : h0.size ≤ a11 := by rw [g11]; exact K5.1
    have K15 := K5.ext E11
    have le_a11 : n0 ≤ a11 := by rw [g11]; exact Z9
    have ne_a_a11 : a ≠ a11 := by rw [g11]; exact Nat.ne_of_lt E8.lt
    have Z16 := Nat.le_trans Z9 E11.1
    have B11 : Ary Z h11 a11 k11 (.int) [(.int (0 : Int32))] := A11
    refine gPutF X11 hx hZ (host := "") hown (Or.inl (hw _ (List.mem_of_getElem? (i := 51) rfl))) Via.refl e11 F13 E14 (Or.inr ⟨(hw _ (List.mem_of_getElem? (i := 52) rfl)), rfl, hnm⟩) (hw _ (List.mem_of_getElem? (i := 36) rfl)) (ty := .array (.int)) (by decide) rfl rfl (hb hby d7_40) (q := 43) rfl (fun T17 h17 X17 e17 W17 => ?_)
    have N18 := Fr.snoc X17 N4 la
    have K19 := K15.wr W17 (Or.inl (List.mem_of_getElem? (i := 0) rfl))
    have F20 := Fld.other W17 F12 (Or.inr (slot_ne (Or.inr (hw _ (List.mem_of_getElem? (i := 49) rfl))) (Or.inr (hw _ (List.mem_of_getElem? (i := 52) rfl))) (by decide) (t := .int) (by decide) (t' := .array (.int)) (by decide)))
    have F21 := Fld.same W17 F13
    have E22 := Exa.wr W17 E14
    have A23 := Ary.other W17 B11 ne_a_a11.symm
    have Z24 : n0 ≤ h17.size := by rw [W17.size]; exact Z16
    refine gAloadN X17 hx (hb hby d7_43) (q := 44) rfl rfl rfl ?_
    refine gGetF X17 hx hZ (host := "") hown (Or.inl (hw _ (List.mem_of_getElem? (i := 51) rfl))) Via.refl e17 F21 (hb hby d7_44) (q := 47) rfl (fun T25 X25 e25 => ?_)
    refine gIconst X25 hx (0 : Int32) (hb hby d7_47) (q := 48) rfl (by decide) ?_
    refine gLloadN X25 hx (hb hby d7_48) (q := 49) rfl rfl ?_
    refine gL2i X25 hx (hb hby d7_49) (q := 50) rfl ?_
    refine gIastore X25 hx hZ e25 A23 (hb hby d7_50) (q := 51) rfl (show ¬ (((0 : Int32) : Int32) < 0 ∨ 1 ≤ ((0 : Int32) : Int32).toNatClampNeg) by decide) (fun T26 h26 X26 e26 W26 A26 => ?_)
    have B26 : Ary Z h26 a11 k11 (.int) [(.int (x1.toInt32))] := A26
    have N27 := Fr.snoc X26 N18 le_a11
    have K28 := K19.wr W26 (Or.inr ge_a11)
    have F29 := Fld.other W26 F20 (Or.inl ne_a_a11)
    have F30 := Fld.other W26 F21 (Or.inl ne_a_a11)
    have E31 := Exa.wr W26 E22
    have Z33 : n0 ≤ h26.size := by rw [W26.size]; exact Z24
    refine gGoto X26 hx (hb hby d7_51) (q := 76) (by decide) (by decide) ?_
    exact gRetV X26 hx hlk hret (hb hby d7_76) (by decide) (by decide) (by rw [e26]; exact ⟨rfl, N27, K28, ⟨E31, Or.inr ⟨F29, a11, _, [(x1.toInt32)], F30, B26, show 1 ≤ 1 by decide, show 1 ≤ 2 by decide⟩⟩⟩)
  · refine gIfY X3 hx (hb hby d7_33) (q := 54) (by decide) (by decide) (XT.i0_ne_t c10) ?_
    refine gAloadN X3 hx (hb hby d7_54) (q := 55) rfl rfl rfl ?_
    refine gIconst X3 hx (2 : Int32) (hb hby d7_55) (q := 56) rfl (by decide) ?_
    refine gNewP X3 hx hZ (hw _ (List.mem_of_getElem? (i := 50) rfl)) e3 (hb hby d7_56) (q := 58) rfl (by decide) (cap := 2) (by decide) (by decide) (by decide) (by decide) (fun T34 h34 a34 k34 X34 e34 g34 E34 A34 => ?_)
    have F35 := Fld.ext E34 F6
    have F36 := Fld.ext E34 F7
    have E37 := Exa.ext E34 E8
    have ge_a34 : h0.size ≤ a34 := by rw [g34]; exact K5.1
    have K38 := K5.ext E34
    have le_a34 : n0 ≤ a34 := by rw [g34]; exact Z9
    have ne_a_a34 : a ≠ a34 := by rw [g34]; exact Nat.ne_of_lt E8.lt
    have Z39 := Nat.le_trans Z9 E34.1
    have B34 : Ary Z h34 a34 k34 (.int) [(.int (0 : Int32)), (.int (0 : Int32))] := A34
    refine gPutF X34 hx hZ (host := "") hown (Or.inl (hw _ (List.mem_of_getElem? (i := 51) rfl))) Via.refl e34 F36 E37 (Or.inr ⟨(hw _ (List.mem_of_getElem? (i := 52) rfl)), rfl, hnm⟩) (hw _ (List.mem_of_getElem? (i := 36) rfl)) (ty := .array (.int)) (by decide) rfl rfl (hb hby d7_58) (q := 61) rfl (fun T40 h40 X40 e40 W40 => ?_)
    have N41 := Fr.snoc X40 N4 la
    have K42 := K38.wr W40 (Or.inl (List.mem_of_getElem? (i := 0) rfl))
    have F43 := Fld.other W40 F35 (Or.inr (slot_ne (Or.inr (hw _ (List.mem_of_getElem? (i := 49) rfl))) (Or.inr (hw _ (List.mem_of_getElem? (i := 52) rfl))) (by decide) (t := .int) (by decide) (t' := .array (.int)) (by decide)))
    have F44 := Fld.same W40 F36
    have E45 := Exa.wr W40 E37
    have A46 := Ary.other W40 B34 ne_a_a34.symm
    have Z47 : n0 ≤ h40.size := by rw [W40.size]; exact Z39
    refine gAloadN X40 hx (hb hby d7_61) (q := 62) rfl rfl rfl ?_
    refine gGetF X40 hx hZ (host := "") hown (Or.inl (hw _ (List.mem_of_getElem? (i := 51) rfl))) Via.refl e40 F44 (hb hby d7_62) (q := 65) rfl (fun T48 X48 e48 => ?_)
    refine gIconst X48 hx (0 : Int32) (hb hby d7_65) (q := 66) rfl (by decide) ?_
    refine gIloadN X48 hx (hb hby d7_66) (q := 67) rfl rfl ?_
    refine gIastore X48 hx hZ e48 A46 (hb hby d7_67) (q := 68) rfl (show ¬ (((0 : Int32) : Int32) < 0 ∨ 2 ≤ ((0 : Int32) : Int32).toNatClampNeg) by decide) (fun T49 h49 X49 e49 W49 A49 => ?_)
    have B49 : Ary Z h49 a34 k34 (.int) [(.int ((XT.ushrL x1 (32 : Int32)).toInt32)), (.int (0 : Int32))] := A49
    have N50 := Fr.snoc X49 N41 le_a34
    have K51 := K42.wr W49 (Or.inr ge_a34)
    have F52 := Fld.other W49 F43 (Or.inl ne_a_a34)
    have F53 := Fld.other W49 F44 (Or.inl ne_a_a34)
    have E54 := Exa.wr W49 E45
    have Z56 : n0 ≤ h49.size := by rw [W49.size]; exact Z47
    refine gAloadN X49 hx (hb hby d7_68) (q := 69) rfl rfl rfl ?_
    refine gGetF X49 hx hZ (host := "") hown (Or.inl (hw _ (List.mem_of_getElem? (i := 51) rfl))) Via.refl e49 F53 (hb hby d7_69) (q := 72) rfl (fun T57 X57 e57 => ?_)
    refine gIconst X57 hx (1 : Int32) (hb hby d7_72) (q := 73) rfl (by decide) ?_
    refine gLloadN X57 hx (hb hby d7_73) (q := 74) rfl rfl ?_
    refine gL2i X57 hx (hb hby d7_74) (q := 75) rfl ?_
    refine gIastore X57 hx hZ e57 B49 (hb hby d7_75) (q := 76) rfl (show ¬ (((1 : Int32) : Int32) < 0 ∨ 2 ≤ ((1 : Int32) : Int32).toNatClampNeg) by decide) (fun T58 h58 X58 e58 W58 A58 => ?_)
    have B58 : Ary Z h58 a34 k34 (.int) [(.int ((XT.ushrL x1 (32 : Int32)).toInt32)), (.int (x1.toInt32))] := A58
    have N59 := Fr.snoc X58 N50 le_a34
    have K60 := K51.wr W58 (Or.inr ge_a34)
    have F61 := Fld.other W58 F52 (Or.inl ne_a_a34)
    have F62 := Fld.other W58 F53 (Or.inl ne_a_a34)
    have E63 := Exa.wr W58 E54
    have Z65 : n0 ≤ h58.size := by rw [W58.size]; exact Z56
    exact gRetV X58 hx hlk hret (hb hby d7_76) (by decide) (by decide) (by rw [e58]; exact ⟨rfl, N59, K60, ⟨E63, Or.inr ⟨F61, a34, _, [((XT.ushrL x1 (32 : Int32)).toInt32), (x1.toInt32)], F62, B58, show 1 ≤ 2 by decide, show 2 ≤ 2 by decide⟩⟩⟩)
theorem d6_0 : decode jdk_2097_method_29_code 0 = .ok (.lload_n 0, 1) := by decide +kernel
theorem d6_1 : decode jdk_2097_method_29_code 1 = .ok (.lconst 0, 1) := by decide +kernel
theorem d6_2 : decode jdk_2097_method_29_code 2 = .ok (.lcmp, 1) := by decide +kernel
theorem d6_3 : decode jdk_2097_method_29_code 3 = .ok (.ifCond .ne 7, 3) := by decide +kernel
theorem d6_6 : decode jdk_2097_method_29_code 6 = .ok (.getstatic 22, 3) := by decide +kernel
theorem d6_9 : decode jdk_2097_method_29_code 9 = .ok (.areturn, 1) := by decide +kernel
theorem d6_10 : decode jdk_2097_method_29_code 10 = .ok (.lload_n 0, 1) := by decide +kernel
theorem d6_11 : decode jdk_2097_method_29_code 11 = .ok (.lconst 0, 1) := by decide +kernel
theorem d6_12 : decode jdk_2097_method_29_code 12 = .ok (.lcmp, 1) := by decide +kernel
theorem d6_13 : decode jdk_2097_method_29_code 13 = .ok (.ifCond .le 18, 3) := by decide +kernel
theorem d6_16 : decode jdk_2097_method_29_code 16 = .ok (.lload_n 0, 1) := by decide +kernel
theorem d6_17 : decode jdk_2097_method_29_code 17 = .ok (.ldc2_w 345, 3) := by decide +kernel
theorem d6_20 : decode jdk_2097_method_29_code 20 = .ok (.lcmp, 1) := by decide +kernel
theorem d6_21 : decode jdk_2097_method_29_code 21 = .ok (.ifCond .gt 10, 3) := by decide +kernel
theorem d6_24 : decode jdk_2097_method_29_code 24 = .ok (.getstatic 347, 3) := by decide +kernel
theorem d6_27 : decode jdk_2097_method_29_code 27 = .ok (.lload_n 0, 1) := by decide +kernel
theorem d6_28 : decode jdk_2097_method_29_code 28 = .ok (.l2i, 1) := by decide +kernel
theorem d6_29 : decode jdk_2097_method_29_code 29 = .ok (.aaload, 1) := by decide +kernel
theorem d6_30 : decode jdk_2097_method_29_code 30 = .ok (.areturn, 1) := by decide +kernel
theorem d6_31 : decode jdk_2097_method_29_code 31 = .ok (.lload_n 0, 1) := by decide +kernel
theorem d6_32 : decode jdk_2097_method_29_code 32 = .ok (.lconst 0, 1) := by decide +kernel
theorem d6_33 : decode jdk_2097_method_29_code 33 = .ok (.lcmp, 1) := by decide +kernel
theorem d6_34 : decode jdk_2097_method_29_code 34 = .ok (.ifCond .ge 19, 3) := by decide +kernel
theorem d6_37 : decode jdk_2097_method_29_code 37 = .ok (.lload_n 0, 1) := by decide +kernel
theorem d6_38 : decode jdk_2097_method_29_code 38 = .ok (.ldc2_w 351, 3) := by decide +kernel
theorem d6_41 : decode jdk_2097_method_29_code 41 = .ok (.lcmp, 1) := by decide +kernel
theorem d6_42 : decode jdk_2097_method_29_code 42 = .ok (.ifCond .lt 11, 3) := by decide +kernel
theorem d6_45 : decode jdk_2097_method_29_code 45 = .ok (.getstatic 353, 3) := by decide +kernel
theorem d6_48 : decode jdk_2097_method_29_code 48 = .ok (.lload_n 0, 1) := by decide +kernel
theorem d6_49 : decode jdk_2097_method_29_code 49 = .ok (.lneg, 1) := by decide +kernel
theorem d6_50 : decode jdk_2097_method_29_code 50 = .ok (.l2i, 1) := by decide +kernel
theorem d6_51 : decode jdk_2097_method_29_code 51 = .ok (.aaload, 1) := by decide +kernel
theorem d6_52 : decode jdk_2097_method_29_code 52 = .ok (.areturn, 1) := by decide +kernel
theorem d6_53 : decode jdk_2097_method_29_code 53 = .ok (.new 23, 3) := by decide +kernel
theorem d6_56 : decode jdk_2097_method_29_code 56 = .ok (.dup, 1) := by decide +kernel
theorem d6_57 : decode jdk_2097_method_29_code 57 = .ok (.lload_n 0, 1) := by decide +kernel
theorem d6_58 : decode jdk_2097_method_29_code 58 = .ok (.invokespecial 356, 3) := by decide +kernel
theorem d6_61 : decode jdk_2097_method_29_code 61 = .ok (.areturn, 1) := by decide +kernel
theorem ef2 (m : MethodId) (x0 : Int64) : entryFrame m #[(.long x0)] 2 = mkF m 0 #[.val (.long x0), .second] [] := by first | (simp [entryFrame, mkF, argsToLocals, Value.category]; done) | rfl
def Q_rmVo (Z : State) (rz : Addr) (rp : Addr) (kp : ClassId) (vp : List Value) (x1 : Int64) (h0 : Heap) (n0 : Nat) (v : Option Value) (h : Heap) (L : List Loc) : Prop := ∃ r, v = some (.ref r) ∧ Fr n0 L ∧ Keep h0 h [] ∧ own_BI 2 Z h r
theorem pd1 : parseMethodDescriptor "(J)V" = some ⟨[.long], none⟩ := by decide +kernel
set_option maxRecDepth 65536 in
set_option maxHeartbeats 40000000 in
theorem rmVo (l : Launch) (Z : State) (a0 : Array Value) (hw : ∀ d ∈ tables_1, d.before a0 Z = true) (ws : List Jvm.Cond) (rz : Addr) (rp : Addr) (kp : ClassId) (vp : List Value) (x1 : Int64) (h0 : Heap) (n0 : Nat) (Z0 : n0 ≤ h0.size) (SZ : Sta Z Z.heap "java/math/BigInteger" "ZERO" "Ljava/math/BigInteger;" (.ref rz)) (BZ : own_BI 2 Z Z.heap rz) (SP : Sta Z Z.heap "java/math/BigInteger" "posConst" "[Ljava/math/BigInteger;" (.ref rp)) (AP : Ary Z Z.heap rp kp (.object "java/math/BigInteger") vp) (HP : vp.length = 17 ∧ ∀ j : Nat, 1 ≤ j → j ≤ 16 → ∃ r, vp[j]? = some (.ref r) ∧ own_BI 2 Z Z.heap r) (O0 : Old Z n0 h0) (hx1 : ¬ x1 < (0 : Int64)) :
    Con l Z (⟨"java/math/BigInteger", "valueOf", "(J)Ljava/math/BigInteger;"⟩ : MethodName) jdk_2097_method_29_code 2 (some (.object "java/math/BigInteger")) ws ({ frames := 3, cells := 2, slots := 8, locals := 48 } : Room) #[(.long x1)] h0 (({ frames := 3, cells := 2, slots := 8, locals := 48 } : Room).cells) (({ frames := 3, cells := 2, slots := 8, locals := 48 } : Room).slots) (Q_rmVo Z rz rp kp vp x1 h0 n0) := by
  refine Con.of (plainFor_of_name pn1) ?_
  intro p e s m below meth c s₁ hx hby hml hown hnm hret hlk hZ X0 e0
  have N0 := Fr.nil n0
  refine goE (L := #[.val (.long x1), .second]) (ef2 m x1) ?_
  refine gLloadN X0 hx (hb hby d6_0) (q := 1) rfl rfl ?_
  refine gLconst X0 hx (0 : Int64) (hb hby d6_1) (q := 2) rfl (by decide) ?_
  refine gLcmp X0 hx (hb hby d6_2) (q := 3) rfl ?_
  by_cases c1 : x1 = (0 : Int64)
  · refine gIfN X0 hx (hb hby d6_3) (q := 6) rfl (XT.ll_ne_f c1) ?_
    refine gGetS X0 hx hZ hown (hw _ (List.mem_of_getElem? (i := 73) rfl)) Via.refl e0 (Sta.ext O0.2 SZ) (hb hby d6_6) (q := 9) rfl (fun T2 X2 e2 => ?_)
    exact gRetA X2 hx hlk hret rfl rfl (hb hby d6_9) (by decide) (by decide) (by rw [e2]; exact ⟨_, rfl, N0, (Keep.refl h0 []), own_BI.ext O0.2 BZ⟩)
  · refine gIfY X0 hx (hb hby d6_3) (q := 10) (by decide) (by decide) (XT.ll_ne_t c1) ?_
    have hpos := own_pos c1 hx1
    refine gLloadN X0 hx (hb hby d6_10) (q := 11) rfl rfl ?_
    refine gLconst X0 hx (0 : Int64) (hb hby d6_11) (q := 12) rfl (by decide) ?_
    refine gLcmp X0 hx (hb hby d6_12) (q := 13) rfl ?_
    refine gIfN X0 hx (hb hby d6_13) (q := 16) rfl (XT.ll_le_f hpos) ?_
    refine gLloadN X0 hx (hb hby d6_16) (q := 17) rfl rfl ?_
    refine gLdc2 X0 hx hZ hown (hw _ (List.mem_of_getElem? (i := 34) rfl)) (hb hby d6_17) (q := 20) rfl ?_
    refine gLcmp X0 hx (hb hby d6_20) (q := 21) rfl ?_
    by_cases c3 : (16 : Int64) < x1
    · refine gIfY X0 hx (hb hby d6_21) (q := 31) (by decide) (by decide) (XT.ll_gt_t c3) ?_
      refine gLloadN X0 hx (hb hby d6_31) (q := 32) rfl rfl ?_
      refine gLconst X0 hx (0 : Int64) (hb hby d6_32) (q := 33) rfl (by decide) ?_
      refine gLcmp X0 hx (hb hby d6_33) (q := 34) rfl ?_
      refine gIfY X0 hx (hb hby d6_34) (q := 53) (by decide) (by decide) (XT.ll_ge_t hx1) ?_
      refine gNewO X0 hx hZ hown (hw _ (List.mem_of_getElem? (i := 35) rfl)) (hw _ (List.mem_of_getElem? (i := 36) rfl)) (hw _ (List.mem_of_getElem? (i := 32) rfl)) e0 (hb hby d6_53) (q := 56) rfl (by decide) (by decide) (fun T4 h4 a4 X4 e4 g4 E4 A4 D4 => ?_)
      have O5 := O0.ext E4
      have ge_a4 : h0.size ≤ a4 := by rw [g4]; exact (Keep.refl h0 []).1
      have K6 := (Keep.refl h0 []).ext E4
      have le_a4 : n0 ≤ a4 := by rw [g4]; exact Z0
      have Z7 := Nat.le_trans Z0 E4.1
      have F8 : Fld Z h4 a4 "java/math/BigInteger" "signum" "I" (.int (0 : Int32)) := D4 (Or.inr (hw _ (List.mem_of_getElem? (i := 49) rfl))) (ty := .int) (by decide)
      have F9 : Fld Z h4 a4 "java/math/BigInteger" "mag" "[I" (.null) := D4 (Or.inr (hw _ (List.mem_of_getElem? (i := 52) rfl))) (ty := .array (.int)) (by decide)
      clear D4
      refine gDup X4 hx (hb hby d6_56) (q := 57) rfl rfl ?_
      refine gLloadN X4 hx (hb hby d6_57) (q := 58) rfl rfl ?_
      refine gCallN X4 hx hZ rfl hown (hw _ (List.mem_of_getElem? (i := 37) rfl)) (hw _ (List.mem_of_getElem? (i := 38) rfl)) (hw _ (List.mem_of_getElem? (i := 32) rfl)) (hw _ (List.mem_of_getElem? (i := 40) rfl)) (by decide) (rmBJ l Z a0 hw [] a4 x1 h4 n0 Z7 F8 F9 A4 le_a4 hx1) (W := 1) (by decide) (by decide) e4 (by rw [hml]; rfl) [(.long x1)] (lenOf pd1 rfl) rfl (S := [(.ref a4)]) rfl (Nat.le_of_eq rfl) (hb hby d6_58) (q := 61) rfl (by decide) (by decide) (fun r10 T10 M10 X10 q10 => ?_)
      obtain ⟨rfl, M10n, K10, BN10⟩ := q10
      have N11 := Fr.app N0 M10n
      have E12 := Exa.keep A4 K10
      have O15 := O5.keep K10 (allS le_a4 all0)
      have Z16 := Nat.le_trans Z7 K10.1
      have KK17 := K6.trans K10 (allS (Or.inr ge_a4) all0)
      dsimp only [Option.toList, List.cons_append, List.nil_append]
      exact gRetA X10 hx hlk hret rfl rfl (hb hby d6_61) (by decide) (by decide) (by exact ⟨_, rfl, N11, KK17, BN10⟩)
    · refine gIfN X0 hx (hb hby d6_21) (q := 24) rfl (XT.ll_gt_f c3) ?_
      refine gGetS X0 hx hZ hown (hw _ (List.mem_of_getElem? (i := 72) rfl)) Via.refl e0 (Sta.ext O0.2 SP) (hb hby d6_24) (q := 27) rfl (fun T18 X18 e18 => ?_)
      refine gLloadN X18 hx (hb hby d6_27) (q := 28) rfl rfl ?_
      refine gL2i X18 hx (hb hby d6_28) (q := 29) rfl ?_
      obtain ⟨jj, hj1, hj2, hj3, hj4⟩ := own_pidx hpos c3
      obtain ⟨rr, hrr, BR⟩ := HP.2 jj hj1 hj2
      refine gAaload X18 hx hZ e18 (Ary.ext O0.2 AP) rfl (hb hby d6_29) (q := 30) rfl (fun z => z.elim hj3 fun y => by rw [HP.1, hj4] at y; omega) (by rw [hj4]; exact hrr) ?_
      exact gRetA X18 hx hlk hret rfl rfl (hb hby d6_30) (by decide) (by decide) (by rw [e18]; exact ⟨_, rfl, N0, (Keep.refl h0 []), own_BI.ext O0.2 BR⟩)
theorem d10_0 : decode jdk_2097_method_35_code 0 = .ok (.aload_n 0, 1) := by decide +kernel
theorem d10_1 : decode jdk_2097_method_35_code 1 = .ok (.arraylength, 1) := by decide +kernel
theorem d10_2 : decode jdk_2097_method_35_code 2 = .ok (.aload_n 1, 1) := by decide +kernel
theorem d10_3 : decode jdk_2097_method_35_code 3 = .ok (.arraylength, 1) := by decide +kernel
theorem d10_4 : decode jdk_2097_method_35_code 4 = .ok (.if_icmp .ge 9, 3) := by decide +kernel
theorem d10_7 : decode jdk_2097_method_35_code 7 = .ok (.aload_n 0, 1) := by decide +kernel
theorem d10_8 : decode jdk_2097_method_35_code 8 = .ok (.astore_n 2, 1) := by decide +kernel
theorem d10_9 : decode jdk_2097_method_35_code 9 = .ok (.aload_n 1, 1) := by decide +kernel
theorem d10_10 : decode jdk_2097_method_35_code 10 = .ok (.astore_n 0, 1) := by decide +kernel
theorem d10_11 : decode jdk_2097_method_35_code 11 = .ok (.aload_n 2, 1) := by decide +kernel
theorem d10_12 : decode jdk_2097_method_35_code 12 = .ok (.astore_n 1, 1) := by decide +kernel
theorem d10_13 : decode jdk_2097_method_35_code 13 = .ok (.aload_n 0, 1) := by decide +kernel
theorem d10_14 : decode jdk_2097_method_35_code 14 = .ok (.arraylength, 1) := by decide +kernel
theorem d10_15 : decode jdk_2097_method_35_code 15 = .ok (.istore_n 2, 1) := by decide +kernel
theorem d10_16 : decode jdk_2097_method_35_code 16 = .ok (.aload_n 1, 1) := by decide +kernel
theorem d10_17 : decode jdk_2097_method_35_code 17 = .ok (.arraylength, 1) := by decide +kernel
theorem d10_18 : decode jdk_2097_method_35_code 18 = .ok (.istore_n 3, 1) := by decide +kernel
theorem d10_19 : decode jdk_2097_method_35_code 19 = .ok (.iload_n 2, 1) := by decide +kernel
theorem d10_20 : decode jdk_2097_method_35_code 20 = .ok (.newarray .int, 2) := by decide +kernel
theorem d10_22 : decode jdk_2097_method_35_code 22 = .ok (.astore 4, 2) := by decide +kernel
theorem d10_24 : decode jdk_2097_method_35_code 24 = .ok (.lconst 0, 1) := by decide +kernel
theorem d10_25 : decode jdk_2097_method_35_code 25 = .ok (.lstore 5, 2) := by decide +kernel
theorem d10_27 : decode jdk_2097_method_35_code 27 = .ok (.iload_n 3, 1) := by decide +kernel
theorem d10_28 : decode jdk_2097_method_35_code 28 = .ok (.iconst 1, 1) := by decide +kernel
theorem d10_29 : decode jdk_2097_method_35_code 29 = .ok (.if_icmp .ne 35, 3) := by decide +kernel
theorem d10_32 : decode jdk_2097_method_35_code 32 = .ok (.aload_n 0, 1) := by decide +kernel
theorem d10_33 : decode jdk_2097_method_35_code 33 = .ok (.iinc 2 (-1), 3) := by decide +kernel
theorem d10_36 : decode jdk_2097_method_35_code 36 = .ok (.iload_n 2, 1) := by decide +kernel
theorem d10_37 : decode jdk_2097_method_35_code 37 = .ok (.iaload, 1) := by decide +kernel
theorem d10_38 : decode jdk_2097_method_35_code 38 = .ok (.i2l, 1) := by decide +kernel
theorem d10_39 : decode jdk_2097_method_35_code 39 = .ok (.ldc2_w 130, 3) := by decide +kernel
theorem d10_42 : decode jdk_2097_method_35_code 42 = .ok (.land, 1) := by decide +kernel
theorem d10_43 : decode jdk_2097_method_35_code 43 = .ok (.aload_n 1, 1) := by decide +kernel
theorem d10_44 : decode jdk_2097_method_35_code 44 = .ok (.iconst 0, 1) := by decide +kernel
theorem d10_45 : decode jdk_2097_method_35_code 45 = .ok (.iaload, 1) := by decide +kernel
theorem d10_46 : decode jdk_2097_method_35_code 46 = .ok (.i2l, 1) := by decide +kernel
theorem d10_47 : decode jdk_2097_method_35_code 47 = .ok (.ldc2_w 130, 3) := by decide +kernel
theorem d10_50 : decode jdk_2097_method_35_code 50 = .ok (.land, 1) := by decide +kernel
theorem d10_51 : decode jdk_2097_method_35_code 51 = .ok (.ladd, 1) := by decide +kernel
theorem d10_52 : decode jdk_2097_method_35_code 52 = .ok (.lstore 5, 2) := by decide +kernel
theorem d10_54 : decode jdk_2097_method_35_code 54 = .ok (.aload 4, 2) := by decide +kernel
theorem d10_56 : decode jdk_2097_method_35_code 56 = .ok (.iload_n 2, 1) := by decide +kernel
theorem d10_57 : decode jdk_2097_method_35_code 57 = .ok (.lload 5, 2) := by decide +kernel
theorem d10_59 : decode jdk_2097_method_35_code 59 = .ok (.l2i, 1) := by decide +kernel
theorem d10_60 : decode jdk_2097_method_35_code 60 = .ok (.iastore, 1) := by decide +kernel
theorem d10_61 : decode jdk_2097_method_35_code 61 = .ok (.goto 48, 3) := by decide +kernel
theorem d10_64 : decode jdk_2097_method_35_code 64 = .ok (.iload_n 3, 1) := by decide +kernel
theorem d10_65 : decode jdk_2097_method_35_code 65 = .ok (.ifCond .le 44, 3) := by decide +kernel
theorem d10_68 : decode jdk_2097_method_35_code 68 = .ok (.aload_n 0, 1) := by decide +kernel
theorem d10_69 : decode jdk_2097_method_35_code 69 = .ok (.iinc 2 (-1), 3) := by decide +kernel
theorem d10_72 : decode jdk_2097_method_35_code 72 = .ok (.iload_n 2, 1) := by decide +kernel
theorem d10_73 : decode jdk_2097_method_35_code 73 = .ok (.iaload, 1) := by decide +kernel
theorem d10_74 : decode jdk_2097_method_35_code 74 = .ok (.i2l, 1) := by decide +kernel
theorem d10_75 : decode jdk_2097_method_35_code 75 = .ok (.ldc2_w 130, 3) := by decide +kernel
theorem d10_78 : decode jdk_2097_method_35_code 78 = .ok (.land, 1) := by decide +kernel
theorem d10_79 : decode jdk_2097_method_35_code 79 = .ok (.aload_n 1, 1) := by decide +kernel
theorem d10_80 : decode jdk_2097_method_35_code 80 = .ok (.iinc 3 (-1), 3) := by decide +kernel
theorem d10_83 : decode jdk_2097_method_35_code 83 = .ok (.iload_n 3, 1) := by decide +kernel
theorem d10_84 : decode jdk_2097_method_35_code 84 = .ok (.iaload, 1) := by decide +kernel
theorem d10_85 : decode jdk_2097_method_35_code 85 = .ok (.i2l, 1) := by decide +kernel
theorem d10_86 : decode jdk_2097_method_35_code 86 = .ok (.ldc2_w 130, 3) := by decide +kernel
theorem d10_89 : decode jdk_2097_method_35_code 89 = .ok (.land, 1) := by decide +kernel
theorem d10_90 : decode jdk_2097_method_35_code 90 = .ok (.ladd, 1) := by decide +kernel
theorem d10_91 : decode jdk_2097_method_35_code 91 = .ok (.lload 5, 2) := by decide +kernel
theorem d10_93 : decode jdk_2097_method_35_code 93 = .ok (.bipush 32, 2) := by decide +kernel
theorem d10_95 : decode jdk_2097_method_35_code 95 = .ok (.lushr, 1) := by decide +kernel
theorem d10_96 : decode jdk_2097_method_35_code 96 = .ok (.ladd, 1) := by decide +kernel
theorem d10_97 : decode jdk_2097_method_35_code 97 = .ok (.lstore 5, 2) := by decide +kernel
theorem d10_99 : decode jdk_2097_method_35_code 99 = .ok (.aload 4, 2) := by decide +kernel
theorem d10_101 : decode jdk_2097_method_35_code 101 = .ok (.iload_n 2, 1) := by decide +kernel
theorem d10_102 : decode jdk_2097_method_35_code 102 = .ok (.lload 5, 2) := by decide +kernel
theorem d10_104 : decode jdk_2097_method_35_code 104 = .ok (.l2i, 1) := by decide +kernel
theorem d10_105 : decode jdk_2097_method_35_code 105 = .ok (.iastore, 1) := by decide +kernel
theorem d10_106 : decode jdk_2097_method_35_code 106 = .ok (.goto (-42), 3) := by decide +kernel
theorem d10_109 : decode jdk_2097_method_35_code 109 = .ok (.lload 5, 2) := by decide +kernel
theorem d10_111 : decode jdk_2097_method_35_code 111 = .ok (.bipush 32, 2) := by decide +kernel
theorem d10_113 : decode jdk_2097_method_35_code 113 = .ok (.lushr, 1) := by decide +kernel
theorem d10_114 : decode jdk_2097_method_35_code 114 = .ok (.lconst 0, 1) := by decide +kernel
theorem d10_115 : decode jdk_2097_method_35_code 115 = .ok (.lcmp, 1) := by decide +kernel
theorem d10_116 : decode jdk_2097_method_35_code 116 = .ok (.ifCond .eq 7, 3) := by decide +kernel
theorem d10_119 : decode jdk_2097_method_35_code 119 = .ok (.iconst 1, 1) := by decide +kernel
theorem d10_120 : decode jdk_2097_method_35_code 120 = .ok (.goto 4, 3) := by decide +kernel
theorem d10_123 : decode jdk_2097_method_35_code 123 = .ok (.iconst 0, 1) := by decide +kernel
theorem d10_124 : decode jdk_2097_method_35_code 124 = .ok (.istore 7, 2) := by decide +kernel
theorem d10_126 : decode jdk_2097_method_35_code 126 = .ok (.iload_n 2, 1) := by decide +kernel
theorem d10_127 : decode jdk_2097_method_35_code 127 = .ok (.ifCond .le 34, 3) := by decide +kernel
theorem d10_130 : decode jdk_2097_method_35_code 130 = .ok (.iload 7, 2) := by decide +kernel
theorem d10_132 : decode jdk_2097_method_35_code 132 = .ok (.ifCond .eq 29, 3) := by decide +kernel
theorem d10_135 : decode jdk_2097_method_35_code 135 = .ok (.aload 4, 2) := by decide +kernel
theorem d10_137 : decode jdk_2097_method_35_code 137 = .ok (.iinc 2 (-1), 3) := by decide +kernel
theorem d10_140 : decode jdk_2097_method_35_code 140 = .ok (.iload_n 2, 1) := by decide +kernel
theorem d10_141 : decode jdk_2097_method_35_code 141 = .ok (.aload_n 0, 1) := by decide +kernel
theorem d10_142 : decode jdk_2097_method_35_code 142 = .ok (.iload_n 2, 1) := by decide +kernel
theorem d10_143 : decode jdk_2097_method_35_code 143 = .ok (.iaload, 1) := by decide +kernel
theorem d10_144 : decode jdk_2097_method_35_code 144 = .ok (.iconst 1, 1) := by decide +kernel
theorem d10_145 : decode jdk_2097_method_35_code 145 = .ok (.iadd, 1) := by decide +kernel
theorem d10_146 : decode jdk_2097_method_35_code 146 = .ok (.dup_x2, 1) := by decide +kernel
theorem d10_147 : decode jdk_2097_method_35_code 147 = .ok (.iastore, 1) := by decide +kernel
theorem d10_148 : decode jdk_2097_method_35_code 148 = .ok (.ifCond .ne 7, 3) := by decide +kernel
theorem d10_151 : decode jdk_2097_method_35_code 151 = .ok (.iconst 1, 1) := by decide +kernel
theorem d10_152 : decode jdk_2097_method_35_code 152 = .ok (.goto 4, 3) := by decide +kernel
theorem d10_155 : decode jdk_2097_method_35_code 155 = .ok (.iconst 0, 1) := by decide +kernel
theorem d10_156 : decode jdk_2097_method_35_code 156 = .ok (.istore 7, 2) := by decide +kernel
theorem d10_158 : decode jdk_2097_method_35_code 158 = .ok (.goto (-32), 3) := by decide +kernel
theorem d10_161 : decode jdk_2097_method_35_code 161 = .ok (.iload_n 2, 1) := by decide +kernel
theorem d10_162 : decode jdk_2097_method_35_code 162 = .ok (.ifCond .le 16, 3) := by decide +kernel
theorem d10_165 : decode jdk_2097_method_35_code 165 = .ok (.aload 4, 2) := by decide +kernel
theorem d10_167 : decode jdk_2097_method_35_code 167 = .ok (.iinc 2 (-1), 3) := by decide +kernel
theorem d10_170 : decode jdk_2097_method_35_code 170 = .ok (.iload_n 2, 1) := by decide +kernel
theorem d10_171 : decode jdk_2097_method_35_code 171 = .ok (.aload_n 0, 1) := by decide +kernel
theorem d10_172 : decode jdk_2097_method_35_code 172 = .ok (.iload_n 2, 1) := by decide +kernel
theorem d10_173 : decode jdk_2097_method_35_code 173 = .ok (.iaload, 1) := by decide +kernel
theorem d10_174 : decode jdk_2097_method_35_code 174 = .ok (.iastore, 1) := by decide +kernel
theorem d10_175 : decode jdk_2097_method_35_code 175 = .ok (.goto (-14), 3) := by decide +kernel
theorem d10_178 : decode jdk_2097_method_35_code 178 = .ok (.iload 7, 2) := by decide +kernel
theorem d10_180 : decode jdk_2097_method_35_code 180 = .ok (.ifCond .eq 32, 3) := by decide +kernel
theorem d10_183 : decode jdk_2097_method_35_code 183 = .ok (.aload 4, 2) := by decide +kernel
theorem d10_185 : decode jdk_2097_method_35_code 185 = .ok (.arraylength, 1) := by decide +kernel
theorem d10_186 : decode jdk_2097_method_35_code 186 = .ok (.iconst 1, 1) := by decide +kernel
theorem d10_187 : decode jdk_2097_method_35_code 187 = .ok (.iadd, 1) := by decide +kernel
theorem d10_188 : decode jdk_2097_method_35_code 188 = .ok (.newarray .int, 2) := by decide +kernel
theorem d10_190 : decode jdk_2097_method_35_code 190 = .ok (.astore 8, 2) := by decide +kernel
theorem d10_192 : decode jdk_2097_method_35_code 192 = .ok (.aload 4, 2) := by decide +kernel
theorem d10_194 : decode jdk_2097_method_35_code 194 = .ok (.iconst 0, 1) := by decide +kernel
theorem d10_195 : decode jdk_2097_method_35_code 195 = .ok (.aload 8, 2) := by decide +kernel
theorem d10_197 : decode jdk_2097_method_35_code 197 = .ok (.iconst 1, 1) := by decide +kernel
theorem d10_198 : decode jdk_2097_method_35_code 198 = .ok (.aload 4, 2) := by decide +kernel
theorem d10_200 : decode jdk_2097_method_35_code 200 = .ok (.arraylength, 1) := by decide +kernel
theorem d10_201 : decode jdk_2097_method_35_code 201 = .ok (.invokestatic 388, 3) := by decide +kernel
theorem d10_204 : decode jdk_2097_method_35_code 204 = .ok (.aload 8, 2) := by decide +kernel
theorem d10_206 : decode jdk_2097_method_35_code 206 = .ok (.iconst 0, 1) := by decide +kernel
theorem d10_207 : decode jdk_2097_method_35_code 207 = .ok (.iconst 1, 1) := by decide +kernel
theorem d10_208 : decode jdk_2097_method_35_code 208 = .ok (.iastore, 1) := by decide +kernel
theorem d10_209 : decode jdk_2097_method_35_code 209 = .ok (.aload 8, 2) := by decide +kernel
theorem d10_211 : decode jdk_2097_method_35_code 211 = .ok (.areturn, 1) := by decide +kernel
theorem d10_212 : decode jdk_2097_method_35_code 212 = .ok (.aload 4, 2) := by decide +kernel
theorem d10_214 : decode jdk_2097_method_35_code 214 = .ok (.areturn, 1) := by decide +kernel
theorem ef3 (m : MethodId) (x0 : Addr) (x1 : Addr) : entryFrame m #[(.ref x0), (.ref x1)] 9 = mkF m 0 #[.val (.ref x0), .val (.ref x1), .unset, .unset, .unset, .unset, .unset, .unset, .unset] [] := by first | (simp [entryFrame, mkF, argsToLocals, Value.category]; done) | rfl
def Q_rmAA11 (Z : State) (kx1 : Addr) (kx2 : Addr) (kc : ClassId) (kd : ClassId) (u0 : Int32) (w0 : Int32) (h0 : Heap) (n0 : Nat) (v : Option Value) (h : Heap) (L : List Loc) : Prop := ∃ r kr xs, v = some (.ref r) ∧ Fr n0 L ∧ Keep h0 h [] ∧ Ary Z h r kr .int (List.map Value.int xs) ∧ (xs.length = 1 ∨ xs.length = 2) ∧ h0.size ≤ r
set_option maxRecDepth 65536 in
set_option maxHeartbeats 40000000 in
theorem rmAA11 (l : Launch) (Z : State) (a0 : Array Value) (hw : ∀ d ∈ tables_1, d.before a0 Z = true) (ws : List Jvm.Cond) (kx1 : Addr) (kx2 : Addr) (kc : ClassId) (kd : ClassId) (u0 : Int32) (w0 : Int32) (h0 : Heap) (n0 : Nat) (Z0 : n0 ≤ h0.size) (pA1 : Ary Z h0 kx1 kc .int [(.int u0)]) (pA2 : Ary Z h0 kx2 kd .int [(.int w0)]) :
    Con l Z (⟨"java/math/BigInteger", "add", "([I[I)[I"⟩ : MethodName) jdk_2097_method_35_code 9 (some (.array (.int))) ws ({ frames := 1, cells := 2, slots := 7, locals := 32 } : Room) #[(.ref kx1), (.ref kx2)] h0 (({ frames := 1, cells := 2, slots := 7, locals := 32 } : Room).cells) (({ frames := 1, cells := 2, slots := 7, locals := 32 } : Room).slots) (Q_rmAA11 Z kx1 kx2 kc kd u0 w0 h0 n0) := by
  refine Con.of (plainFor_of_name pn1) ?_
  intro p e s m below meth c s₁ hx hby hml hown hnm hret hlk hZ X0 e0
  have N0 := Fr.nil n0
  refine goE (L := #[.val (.ref kx1), .val (.ref kx2), .unset, .unset, .unset, .unset, .unset, .unset, .unset]) (ef3 m kx1 kx2) ?_
  refine gAloadN X0 hx (hb hby d10_0) (q := 1) rfl rfl rfl ?_
  refine gLen X0 hx hZ e0 pA1 (n := (1 : Int32)) rfl (hb hby d10_1) (q := 2) rfl ?_
  refine gAloadN X0 hx (hb hby d10_2) (q := 3) rfl rfl rfl ?_
  refine gLen X0 hx hZ e0 pA2 (n := (1 : Int32)) rfl (hb hby d10_3) (q := 4) rfl ?_
  refine gIcmpY X0 hx (hb hby d10_4) (q := 13) (by decide) (by decide) (XT.ii_ge_t (by decide)) ?_
  refine gAloadN X0 hx (hb hby d10_13) (q := 14) rfl rfl rfl ?_
  refine gLen X0 hx hZ e0 pA1 (n := (1 : Int32)) rfl (hb hby d10_14) (q := 15) rfl ?_
  refine gIstoreN X0 hx (hb hby d10_15) (q := 16) rfl (L' := #[.val (.ref kx1), .val (.ref kx2), .val (.int (1 : Int32)), .unset, .unset, .unset, .unset, .unset, .unset]) rfl ?_
  refine gAloadN X0 hx (hb hby d10_16) (q := 17) rfl rfl rfl ?_
  refine gLen X0 hx hZ e0 pA2 (n := (1 : Int32)) rfl (hb hby d10_17) (q := 18) rfl ?_
  refine gIstoreN X0 hx (hb hby d10_18) (q := 19) rfl (L' := #[.val (.ref kx1), .val (.ref kx2), .val (.int (1 : Int32)), .val (.int (1 : Int32)), .unset, .unset, .unset, .unset, .unset]) rfl ?_
  refine gIloadN X0 hx (hb hby d10_19) (q := 20) rfl rfl ?_
  refine gNewP X0 hx hZ (hw _ (List.mem_of_getElem? (i := 50) rfl)) e0 (hb hby d10_20) (q := 22) rfl (by decide) (cap := 1) (by decide) (by decide) (by decide) (by decide) (fun T1 h1 a1 k1 X1 e1 g1 E1 A1 => ?_)
  have A2 := Ary.ext E1 pA1
  have A3 := Ary.ext E1 pA2
  have ge_a1 : h0.size ≤ a1 := by rw [g1]; exact (Keep.refl h0 []).1
  have K4 := (Keep.refl h0 []).ext E1
  have le_a1 : n0 ≤ a1 := by rw [g1]; exact Z0
  have ne_kx1_a1 : kx1 ≠ a1 := by rw [g1]; exact Nat.ne_of_lt pA1.lt
  have ne_kx2_a1 : kx2 ≠ a1 := by rw [g1]; exact Nat.ne_of_lt pA2.lt
  have Z5 := Nat.le_trans Z0 E1.1
  have B1 : Ary Z h1 a1 k1 (.int) [(.int (0 : Int32))] := A1
  refine gAstore X1 hx (hb hby d10_22) (q := 24) rfl rfl (L' := #[.val (.ref kx1), .val (.ref kx2), .val (.int (1 : Int32)), .val (.int (1 : Int32)), .val (.ref a1), .unset, .unset, .unset, .unset]) rfl ?_
  refine gLconst X1 hx (0 : Int64) (hb hby d10_24) (q := 25) rfl (by decide) ?_
  refine gLstore X1 hx (hb hby d10_25) (q := 27) rfl (L' := #[.val (.ref kx1), .val (.ref kx2), .val (.int (1 : Int32)), .val (.int (1 : Int32)), .val (.ref a1), .val (.long (0 : Int64)), .second, .unset, .unset]) rfl ?_
  refine gIloadN X1 hx (hb hby d10_27) (q := 28) rfl rfl ?_
  refine gIconst X1 hx (1 : Int32) (hb hby d10_28) (q := 29) rfl (by decide) ?_
  refine gIcmpN X1 hx (hb hby d10_29) (q := 32) rfl (XT.ii_ne_f (by decide)) ?_
  refine gAloadN X1 hx (hb hby d10_32) (q := 33) rfl rfl rfl ?_
  refine gIinc X1 hx (-1 : Int32) (hb hby d10_33) (q := 36) rfl (by decide) rfl (L' := #[.val (.ref kx1), .val (.ref kx2), .val (.int (0 : Int32)), .val (.int (1 : Int32)), .val (.ref a1), .val (.long (0 : Int64)), .second, .unset, .unset]) rfl ?_
  refine gIloadN X1 hx (hb hby d10_36) (q := 37) rfl rfl ?_
  refine gIaload X1 hx hZ e1 A2 (hb hby d10_37) (q := 38) rfl (show ¬ (((0 : Int32) : Int32) < 0 ∨ 1 ≤ ((0 : Int32) : Int32).toNatClampNeg) by decide) (v := .int u0) rfl ?_
  refine gI2l X1 hx (hb hby d10_38) (q := 39) rfl ?_
  refine gLdc2 X1 hx hZ hown (hw _ (List.mem_of_getElem? (i := 61) rfl)) (hb hby d10_39) (q := 42) rfl ?_
  refine gLand X1 hx (hb hby d10_42) (q := 43) rfl ?_
  refine gAloadN X1 hx (hb hby d10_43) (q := 44) rfl rfl rfl ?_
  refine gIconst X1 hx (0 : Int32) (hb hby d10_44) (q := 45) rfl (by decide) ?_
  refine gIaload X1 hx hZ e1 A3 (hb hby d10_45) (q := 46) rfl (show ¬ (((0 : Int32) : Int32) < 0 ∨ 1 ≤ ((0 : Int32) : Int32).toNatClampNeg) by decide) (v := .int w0) rfl ?_
  refine gI2l X1 hx (hb hby d10_46) (q := 47) rfl ?_
  refine gLdc2 X1 hx hZ hown (hw _ (List.mem_of_getElem? (i := 61) rfl)) (hb hby d10_47) (q := 50) rfl ?_
  refine gLand X1 hx (hb hby d10_50) (q := 51) rfl ?_
  refine gLadd X1 hx (hb hby d10_51) (q := 52) rfl ?_
  refine gLstore X1 hx (hb hby d10_52) (q := 54) rfl (L' := #[.val (.ref kx1), .val (.ref kx2), .val (.int (0 : Int32)), .val (.int (1 : Int32)), .val (.ref a1), .val (.long (((u0.toInt64) &&& (4294967295 : Int64)) + ((w0.toInt64) &&& (4294967295 : Int64)))), .second, .unset, .unset]) rfl ?_
  refine gAload X1 hx (hb hby d10_54) (q := 56) rfl rfl rfl ?_
  refine gIloadN X1 hx (hb hby d10_56) (q := 57) rfl rfl ?_
  refine gLload X1 hx (hb hby d10_57) (q := 59) rfl rfl ?_
  refine gL2i X1 hx (hb hby d10_59) (q := 60) rfl ?_
  refine gIastore X1 hx hZ e1 B1 (hb hby d10_60) (q := 61) rfl (show ¬ (((0 : Int32) : Int32) < 0 ∨ 1 ≤ ((0 : Int32) : Int32).toNatClampNeg) by decide) (fun T6 h6 X6 e6 W6 A6 => ?_)
  have B6 : Ary Z h6 a1 k1 (.int) [(.int ((((u0.toInt64) &&& (4294967295 : Int64)) + ((w0.toInt64) &&& (4294967295 : Int64))).toInt32))] := A6
  have N7 := Fr.snoc X6 N0 le_a1
  have K8 := K4.wr W6 (Or.inr ge_a1)
  have A9 := Ary.other W6 A2 ne_kx1_a1
  have A10 := Ary.other W6 A3 ne_kx2_a1
  have Z12 : n0 ≤ h6.size := by rw [W6.size]; exact Z5
  refine gGoto X6 hx (hb hby d10_61) (q := 109) (by decide) (by decide) ?_
  refine gLload X6 hx (hb hby d10_109) (q := 111) rfl rfl ?_
  refine gBipush X6 hx (32 : Int32) (hb hby d10_111) (q := 113) rfl (by decide) ?_
  refine gLushr X6 hx (hb hby d10_113) (q := 114) rfl ?_
  refine gLconst X6 hx (0 : Int64) (hb hby d10_114) (q := 115) rfl (by decide) ?_
  refine gLcmp X6 hx (hb hby d10_115) (q := 116) rfl ?_
  by_cases c13 : (XT.ushrL (((u0.toInt64) &&& (4294967295 : Int64)) + ((w0.toInt64) &&& (4294967295 : Int64))) (32 : Int32)) = (0 : Int64)
  · refine gIfY X6 hx (hb hby d10_116) (q := 123) (by decide) (by decide) (XT.ll_eq_t c13) ?_
    refine gIconst X6 hx (0 : Int32) (hb hby d10_123) (q := 124) rfl (by decide) ?_
    refine gIstore X6 hx (hb hby d10_124) (q := 126) rfl (L' := #[.val (.ref kx1), .val (.ref kx2), .val (.int (0 : Int32)), .val (.int (1 : Int32)), .val (.ref a1), .val (.long (((u0.toInt64) &&& (4294967295 : Int64)) + ((w0.toInt64) &&& (4294967295 : Int64)))), .second, .val (.int (0 : Int32)), .unset]) rfl ?_
    refine gIloadN X6 hx (hb hby d10_126) (q := 127) rfl rfl ?_
    refine gIfY X6 hx (hb hby d10_127) (q := 161) (by decide) (by decide) (XT.i0_le_t (by decide)) ?_
    refine gIloadN X6 hx (hb hby d10_161) (q := 162) rfl rfl ?_
    refine gIfY X6 hx (hb hby d10_162) (q := 178) (by decide) (by decide) (XT.i0_le_t (by decide)) ?_
    refine gIload X6 hx (hb hby d10_178) (q := 180) rfl rfl ?_
    refine gIfY X6 hx (hb hby d10_180) (q := 212) (by decide) (by decide) (XT.i0_eq_t (by decide)) ?_
    refine gAload X6 hx (hb hby d10_212) (q := 214) rfl rfl rfl ?_
    exact gRetA X6 hx hlk hret rfl rfl (hb hby d10_214) (by decide) (by decide) (by rw [e6]; exact ⟨_, _, [((((u0.toInt64) &&& (4294967295 : Int64)) + ((w0.toInt64) &&& (4294967295 : Int64))).toInt32)], rfl, N7, K8, B6, Or.inl rfl, ge_a1⟩)
  · refine gIfN X6 hx (hb hby d10_116) (q := 119) rfl (XT.ll_eq_f c13) ?_
    refine gIconst X6 hx (1 : Int32) (hb hby d10_119) (q := 120) rfl (by decide) ?_
    refine gGoto X6 hx (hb hby d10_120) (q := 124) (by decide) (by decide) ?_
    refine gIstore X6 hx (hb hby d10_124) (q := 126) rfl (L' := #[.val (.ref kx1), .val (.ref kx2), .val (.int (0 : Int32)), .val (.int (1 : Int32)), .val (.ref a1), .val (.long (((u0.toInt64) &&& (4294967295 : Int64)) + ((w0.toInt64) &&& (4294967295 : Int64)))), .second, .val (.int (1 : Int32)), .unset]) rfl ?_
    refine gIloadN X6 hx (hb hby d10_126) (q := 127) rfl rfl ?_
    refine gIfY X6 hx (hb hby d10_127) (q := 161) (by decide) (by decide) (XT.i0_le_t (by decide)) ?_
    refine gIloadN X6 hx (hb hby d10_161) (q := 162) rfl rfl ?_
    refine gIfY X6 hx (hb hby d10_162) (q := 178) (by decide) (by decide) (XT.i0_le_t (by decide)) ?_
    refine gIload X6 hx (hb hby d10_178) (q := 180) rfl rfl ?_
    refine gIfN X6 hx (hb hby d10_180) (q := 183) rfl (XT.i0_eq_f (by decide)) ?_
    refine gAload X6 hx (hb hby d10_183) (q := 185) rfl rfl rfl ?_
    refine gLen X6 hx hZ e6 B6 (n := (1 : Int32)) rfl (hb hby d10_185) (q := 186) rfl ?_
    refine gIconst X6 hx (1 : Int32) (hb hby d10_186) (q := 187) rfl (by decide) ?_
    refine gIadd X6 hx (hb hby d10_187) (q := 188) rfl ?_
    rw [show ((1 : Int32) + (1 : Int32)) = (2 : Int32) from by decide]
    refine gNewP X6 hx hZ (hw _ (List.mem_of_getElem? (i := 50) rfl)) e6 (hb hby d10_188) (q := 190) rfl (by decide) (cap := 2) (by decide) (by decide) (by decide) (by decide) (fun T14 h14 a14 k14 X14 e14 g14 E14 A14 => ?_)
    have A15 := Ary.ext E14 A9
    have A16 := Ary.ext E14 A10
    have A17 := Ary.ext E14 B6
    have ge_a14 : h0.size ≤ a14 := by rw [g14]; exact K8.1
    have K18 := K8.ext E14
    have le_a14 : n0 ≤ a14 := by rw [g14]; exact Z12
    have ne_kx1_a14 : kx1 ≠ a14 := by rw [g14]; exact Nat.ne_of_lt A9.lt
    have ne_kx2_a14 : kx2 ≠ a14 := by rw [g14]; exact Nat.ne_of_lt A10.lt
    have ne_a1_a14 : a1 ≠ a14 := by rw [g14]; exact Nat.ne_of_lt B6.lt
    have Z19 := Nat.le_trans Z12 E14.1
    have B14 : Ary Z h14 a14 k14 (.int) [(.int (0 : Int32)), (.int (0 : Int32))] := A14
    refine gAstore X14 hx (hb hby d10_190) (q := 192) rfl rfl (L' := #[.val (.ref kx1), .val (.ref kx2), .val (.int (0 : Int32)), .val (.int (1 : Int32)), .val (.ref a1), .val (.long (((u0.toInt64) &&& (4294967295 : Int64)) + ((w0.toInt64) &&& (4294967295 : Int64)))), .second, .val (.int (1 : Int32)), .val (.ref a14)]) rfl ?_
    refine gAload X14 hx (hb hby d10_192) (q := 194) rfl rfl rfl ?_
    refine gIconst X14 hx (0 : Int32) (hb hby d10_194) (q := 195) rfl (by decide) ?_
    refine gAload X14 hx (hb hby d10_195) (q := 197) rfl rfl rfl ?_
    refine gIconst X14 hx (1 : Int32) (hb hby d10_197) (q := 198) rfl (by decide) ?_
    refine gAload X14 hx (hb hby d10_198) (q := 200) rfl rfl rfl ?_
    refine gLen X14 hx hZ e14 A17 (n := (1 : Int32)) rfl (hb hby d10_200) (q := 201) rfl ?_
    refine gCopyI X14 hx hZ hown (hw _ (List.mem_of_getElem? (i := 67) rfl)) (hw _ (List.mem_of_getElem? (i := 70) rfl)) (hw _ (List.mem_of_getElem? (i := 68) rfl)) (hw _ (List.mem_of_getElem? (i := 69) rfl)) e14 A17 B14 (by intro v hv; simp only [List.mem_cons, List.not_mem_nil, or_false] at hv; rcases hv with rfl <;> rfl) (by intro v hv; simp only [List.mem_cons, List.not_mem_nil, or_false] at hv; rcases hv with rfl | rfl <;> rfl) (j1 := (0 : Int32)) (j2 := (1 : Int32)) (n := (1 : Int32)) (by decide) (by decide) (by decide) (show ¬ ((0 : Int32) : Int32).toInt + ((1 : Int32) : Int32).toInt > ((1 : Nat) : Int) by decide) (show ¬ ((1 : Int32) : Int32).toInt + ((1 : Int32) : Int32).toInt > ((2 : Nat) : Int) by decide) (show ((0 : Int32) : Int32).toNatClampNeg + ((1 : Int32) : Int32).toNatClampNeg ≤ 1 by decide) (show ((1 : Int32) : Int32).toNatClampNeg + ((1 : Int32) : Int32).toNatClampNeg ≤ 2 by decide) (by rw [hml]; rfl) (hb hby d10_201) (q := 204) rfl (by decide) (W := 0) (Nat.le_of_eq rfl) (by decide) (fun T20 h20 xs20 X20 e20 K20 l20 A20 => ?_)
    obtain ⟨z20_0, z20_1, rfl⟩ := own_l2 l20
    have B20 : Ary Z h20 a14 k14 (.int) [(.int z20_0), (.int z20_1)] := A20
    have N21 := Fr.app N7 (fun y hy => by rw [copyLocs_base hy]; exact le_a14 : Fr n0 (copyLocs a14 ((1 : Int32) : Int32).toNatClampNeg ((1 : Int32) : Int32).toNatClampNeg))
    have A22 := Ary.keep A15 K20 (ninS ne_kx1_a14 nin0)
    have A23 := Ary.keep A16 K20 (ninS ne_kx2_a14 nin0)
    have A24 := Ary.keep A17 K20 (ninS ne_a1_a14 nin0)
    have Z25 := Nat.le_trans Z19 K20.1
    have KK26 := K18.trans K20 (allS (Or.inr ge_a14) all0)
    refine gAload X20 hx (hb hby d10_204) (q := 206) rfl rfl rfl ?_
    refine gIconst X20 hx (0 : Int32) (hb hby d10_206) (q := 207) rfl (by decide) ?_
    refine gIconst X20 hx (1 : Int32) (hb hby d10_207) (q := 208) rfl (by decide) ?_
    refine gIastore X20 hx hZ e20 B20 (hb hby d10_208) (q := 209) rfl (show ¬ (((0 : Int32) : Int32) < 0 ∨ 2 ≤ ((0 : Int32) : Int32).toNatClampNeg) by decide) (fun T27 h27 X27 e27 W27 A27 => ?_)
    have B27 : Ary Z h27 a14 k14 (.int) [(.int (1 : Int32)), (.int z20_1)] := A27
    have N28 := Fr.snoc X27 N21 le_a14
    have K29 := KK26.wr W27 (Or.inr ge_a14)
    have A30 := Ary.other W27 A22 ne_kx1_a14
    have A31 := Ary.other W27 A23 ne_kx2_a14
    have A32 := Ary.other W27 A24 ne_a1_a14
    have Z34 : n0 ≤ h27.size := by rw [W27.size]; exact Z25
    refine gAload X27 hx (hb hby d10_209) (q := 211) rfl rfl rfl ?_
    exact gRetA X27 hx hlk hret rfl rfl (hb hby d10_211) (by decide) (by decide) (by rw [e27]; exact ⟨_, _, [(1 : Int32), z20_1], rfl, N28, K29, B27, Or.inr rfl, ge_a14⟩)
theorem ef4 (m : MethodId) (x0 : Addr) (x1 : Addr) : entryFrame m #[(.ref x0), (.ref x1)] 9 = mkF m 0 #[.val (.ref x0), .val (.ref x1), .unset, .unset, .unset, .unset, .unset, .unset, .unset] [] := by first | (simp [entryFrame, mkF, argsToLocals, Value.category]; done) | rfl
def Q_rmAA12 (Z : State) (kx1 : Addr) (kx2 : Addr) (kc : ClassId) (kd : ClassId) (u0 : Int32) (w0 : Int32) (w1 : Int32) (h0 : Heap) (n0 : Nat) (v : Option Value) (h : Heap) (L : List Loc) : Prop := ∃ r kr xs, v = some (.ref r) ∧ Fr n0 L ∧ Keep h0 h [] ∧ Ary Z h r kr .int (List.map Value.int xs) ∧ (xs.length = 2 ∨ xs.length = 3) ∧ h0.size ≤ r
set_option maxRecDepth 65536 in
set_option maxHeartbeats 40000000 in
theorem rmAA12 (l : Launch) (Z : State) (a0 : Array Value) (hw : ∀ d ∈ tables_1, d.before a0 Z = true) (ws : List Jvm.Cond) (kx1 : Addr) (kx2 : Addr) (kc : ClassId) (kd : ClassId) (u0 : Int32) (w0 : Int32) (w1 : Int32) (h0 : Heap) (n0 : Nat) (Z0 : n0 ≤ h0.size) (pA1 : Ary Z h0 kx1 kc .int [(.int u0)]) (pA2 : Ary Z h0 kx2 kd .int [(.int w0), (.int w1)]) :
    Con l Z (⟨"java/math/BigInteger", "add", "([I[I)[I"⟩ : MethodName) jdk_2097_method_35_code 9 (some (.array (.int))) ws ({ frames := 1, cells := 2, slots := 7, locals := 32 } : Room) #[(.ref kx1), (.ref kx2)] h0 (({ frames := 1, cells := 2, slots := 7, locals := 32 } : Room).cells) (({ frames := 1, cells := 2, slots := 7, locals := 32 } : Room).slots) (Q_rmAA12 Z kx1 kx2 kc kd u0 w0 w1 h0 n0) := by
  refine Con.of (plainFor_of_name pn1) ?_
  intro p e s m below meth c s₁ hx hby hml hown hnm hret hlk hZ X0 e0
  have N0 := Fr.nil n0
  refine goE (L := #[.val (.ref kx1), .val (.ref kx2), .unset, .unset, .unset, .unset, .unset, .unset, .unset]) (ef4 m kx1 kx2) ?_
  refine gAloadN X0 hx (hb hby d10_0) (q := 1) rfl rfl rfl ?_
  refine gLen X0 hx hZ e0 pA1 (n := (1 : Int32)) rfl (hb hby d10_1) (q := 2) rfl ?_
  refine gAloadN X0 hx (hb hby d10_2) (q := 3) rfl rfl rfl ?_
  refine gLen X0 hx hZ e0 pA2 (n := (2 : Int32)) rfl (hb hby d10_3) (q := 4) rfl ?_
  refine gIcmpN X0 hx (hb hby d10_4) (q := 7) rfl (XT.ii_ge_f (by decide)) ?_
  refine gAloadN X0 hx (hb hby d10_7) (q := 8) rfl rfl rfl ?_
  refine gAstoreN X0 hx (hb hby d10_8) (q := 9) rfl rfl (L' := #[.val (.ref kx1), .val (.ref kx2), .val (.ref kx1), .unset, .unset, .unset, .unset, .unset, .unset]) rfl ?_
  refine gAloadN X0 hx (hb hby d10_9) (q := 10) rfl rfl rfl ?_
  refine gAstoreN X0 hx (hb hby d10_10) (q := 11) rfl rfl (L' := #[.val (.ref kx2), .val (.ref kx2), .val (.ref kx1), .unset, .unset, .unset, .unset, .unset, .unset]) rfl ?_
  refine gAloadN X0 hx (hb hby d10_11) (q := 12) rfl rfl rfl ?_
  refine gAstoreN X0 hx (hb hby d10_12) (q := 13) rfl rfl (L' := #[.val (.ref kx2), .val (.ref kx1), .val (.ref kx1), .unset, .unset, .unset, .unset, .unset, .unset]) rfl ?_
  refine gAloadN X0 hx (hb hby d10_13) (q := 14) rfl rfl rfl ?_
  refine gLen X0 hx hZ e0 pA2 (n := (2 : Int32)) rfl (hb hby d10_14) (q := 15) rfl ?_
  refine gIstoreN X0 hx (hb hby d10_15) (q := 16) rfl (L' := #[.val (.ref kx2), .val (.ref kx1), .val (.int (2 : Int32)), .unset, .unset, .unset, .unset, .unset, .unset]) rfl ?_
  refine gAloadN X0 hx (hb hby d10_16) (q := 17) rfl rfl rfl ?_
  refine gLen X0 hx hZ e0 pA1 (n := (1 : Int32)) rfl (hb hby d10_17) (q := 18) rfl ?_
  refine gIstoreN X0 hx (hb hby d10_18) (q := 19) rfl (L' := #[.val (.ref kx2), .val (.ref kx1), .val (.int (2 : Int32)), .val (.int (1 : Int32)), .unset, .unset, .unset, .unset, .unset]) rfl ?_
  refine gIloadN X0 hx (hb hby d10_19) (q := 20) rfl rfl ?_
  refine gNewP X0 hx hZ (hw _ (List.mem_of_getElem? (i := 50) rfl)) e0 (hb hby d10_20) (q := 22) rfl (by decide) (cap := 2) (by decide) (by decide) (by decide) (by decide) (fun T1 h1 a1 k1 X1 e1 g1 E1 A1 => ?_)
  have A2 := Ary.ext E1 pA1
  have A3 := Ary.ext E1 pA2
  have ge_a1 : h0.size ≤ a1 := by rw [g1]; exact (Keep.refl h0 []).1
  have K4 := (Keep.refl h0 []).ext E1
  have le_a1 : n0 ≤ a1 := by rw [g1]; exact Z0
  have ne_kx1_a1 : kx1 ≠ a1 := by rw [g1]; exact Nat.ne_of_lt pA1.lt
  have ne_kx2_a1 : kx2 ≠ a1 := by rw [g1]; exact Nat.ne_of_lt pA2.lt
  have Z5 := Nat.le_trans Z0 E1.1
  have B1 : Ary Z h1 a1 k1 (.int) [(.int (0 : Int32)), (.int (0 : Int32))] := A1
  refine gAstore X1 hx (hb hby d10_22) (q := 24) rfl rfl (L' := #[.val (.ref kx2), .val (.ref kx1), .val (.int (2 : Int32)), .val (.int (1 : Int32)), .val (.ref a1), .unset, .unset, .unset, .unset]) rfl ?_
  refine gLconst X1 hx (0 : Int64) (hb hby d10_24) (q := 25) rfl (by decide) ?_
  refine gLstore X1 hx (hb hby d10_25) (q := 27) rfl (L' := #[.val (.ref kx2), .val (.ref kx1), .val (.int (2 : Int32)), .val (.int (1 : Int32)), .val (.ref a1), .val (.long (0 : Int64)), .second, .unset, .unset]) rfl ?_
  refine gIloadN X1 hx (hb hby d10_27) (q := 28) rfl rfl ?_
  refine gIconst X1 hx (1 : Int32) (hb hby d10_28) (q := 29) rfl (by decide) ?_
  refine gIcmpN X1 hx (hb hby d10_29) (q := 32) rfl (XT.ii_ne_f (by decide)) ?_
  refine gAloadN X1 hx (hb hby d10_32) (q := 33) rfl rfl rfl ?_
  refine gIinc X1 hx (-1 : Int32) (hb hby d10_33) (q := 36) rfl (by decide) rfl (L' := #[.val (.ref kx2), .val (.ref kx1), .val (.int (1 : Int32)), .val (.int (1 : Int32)), .val (.ref a1), .val (.long (0 : Int64)), .second, .unset, .unset]) rfl ?_
  refine gIloadN X1 hx (hb hby d10_36) (q := 37) rfl rfl ?_
  refine gIaload X1 hx hZ e1 A3 (hb hby d10_37) (q := 38) rfl (show ¬ (((1 : Int32) : Int32) < 0 ∨ 2 ≤ ((1 : Int32) : Int32).toNatClampNeg) by decide) (v := .int w1) rfl ?_
  refine gI2l X1 hx (hb hby d10_38) (q := 39) rfl ?_
  refine gLdc2 X1 hx hZ hown (hw _ (List.mem_of_getElem? (i := 61) rfl)) (hb hby d10_39) (q := 42) rfl ?_
  refine gLand X1 hx (hb hby d10_42) (q := 43) rfl ?_
  refine gAloadN X1 hx (hb hby d10_43) (q := 44) rfl rfl rfl ?_
  refine gIconst X1 hx (0 : Int32) (hb hby d10_44) (q := 45) rfl (by decide) ?_
  refine gIaload X1 hx hZ e1 A2 (hb hby d10_45) (q := 46) rfl (show ¬ (((0 : Int32) : Int32) < 0 ∨ 1 ≤ ((0 : Int32) : Int32).toNatClampNeg) by decide) (v := .int u0) rfl ?_
  refine gI2l X1 hx (hb hby d10_46) (q := 47) rfl ?_
  refine gLdc2 X1 hx hZ hown (hw _ (List.mem_of_getElem? (i := 61) rfl)) (hb hby d10_47) (q := 50) rfl ?_
  refine gLand X1 hx (hb hby d10_50) (q := 51) rfl ?_
  refine gLadd X1 hx (hb hby d10_51) (q := 52) rfl ?_
  refine gLstore X1 hx (hb hby d10_52) (q := 54) rfl (L' := #[.val (.ref kx2), .val (.ref kx1), .val (.int (1 : Int32)), .val (.int (1 : Int32)), .val (.ref a1), .val (.long (((w1.toInt64) &&& (4294967295 : Int64)) + ((u0.toInt64) &&& (4294967295 : Int64)))), .second, .unset, .unset]) rfl ?_
  refine gAload X1 hx (hb hby d10_54) (q := 56) rfl rfl rfl ?_
  refine gIloadN X1 hx (hb hby d10_56) (q := 57) rfl rfl ?_
  refine gLload X1 hx (hb hby d10_57) (q := 59) rfl rfl ?_
  refine gL2i X1 hx (hb hby d10_59) (q := 60) rfl ?_
  refine gIastore X1 hx hZ e1 B1 (hb hby d10_60) (q := 61) rfl (show ¬ (((1 : Int32) : Int32) < 0 ∨ 2 ≤ ((1 : Int32) : Int32).toNatClampNeg) by decide) (fun T6 h6 X6 e6 W6 A6 => ?_)
  have B6 : Ary Z h6 a1 k1 (.int) [(.int (0 : Int32)), (.int ((((w1.toInt64) &&& (4294967295 : Int64)) + ((u0.toInt64) &&& (4294967295 : Int64))).toInt32))] := A6
  have N7 := Fr.snoc X6 N0 le_a1
  have K8 := K4.wr W6 (Or.inr ge_a1)
  have A9 := Ary.other W6 A2 ne_kx1_a1
  have A10 := Ary.other W6 A3 ne_kx2_a1
  have Z12 : n0 ≤ h6.size := by rw [W6.size]; exact Z5
  refine gGoto X6 hx (hb hby d10_61) (q := 109) (by decide) (by decide) ?_
  refine gLload X6 hx (hb hby d10_109) (q := 111) rfl rfl ?_
  refine gBipush X6 hx (32 : Int32) (hb hby d10_111) (q := 113) rfl (by decide) ?_
  refine gLushr X6 hx (hb hby d10_113) (q := 114) rfl ?_
  refine gLconst X6 hx (0 : Int64) (hb hby d10_114) (q := 115) rfl (by decide) ?_
  refine gLcmp X6 hx (hb hby d10_115) (q := 116) rfl ?_
  by_cases c13 : (XT.ushrL (((w1.toInt64) &&& (4294967295 : Int64)) + ((u0.toInt64) &&& (4294967295 : Int64))) (32 : Int32)) = (0 : Int64)
  · refine gIfY X6 hx (hb hby d10_116) (q := 123) (by decide) (by decide) (XT.ll_eq_t c13) ?_
    refine gIconst X6 hx (0 : Int32) (hb hby d10_123) (q := 124) rfl (by decide) ?_
    refine gIstore X6 hx (hb hby d10_124) (q := 126) rfl (L' := #[.val (.ref kx2), .val (.ref kx1), .val (.int (1 : Int32)), .val (.int (1 : Int32)), .val (.ref a1), .val (.long (((w1.toInt64) &&& (4294967295 : Int64)) + ((u0.toInt64) &&& (4294967295 : Int64)))), .second, .val (.int (0 : Int32)), .unset]) rfl ?_
    refine gIloadN X6 hx (hb hby d10_126) (q := 127) rfl rfl ?_
    refine gIfN X6 hx (hb hby d10_127) (q := 130) rfl (XT.i0_le_f (by decide)) ?_
    refine gIload X6 hx (hb hby d10_130) (q := 132) rfl rfl ?_
    refine gIfY X6 hx (hb hby d10_132) (q := 161) (by decide) (by decide) (XT.i0_eq_t (by decide)) ?_
    refine gIloadN X6 hx (hb hby d10_161) (q := 162) rfl rfl ?_
    refine gIfN X6 hx (hb hby d10_162) (q := 165) rfl (XT.i0_le_f (by decide)) ?_
    refine gAload X6 hx (hb hby d10_165) (q := 167) rfl rfl rfl ?_
    refine gIinc X6 hx (-1 : Int32) (hb hby d10_167) (q := 170) rfl (by decide) rfl (L' := #[.val (.ref kx2), .val (.ref kx1), .val (.int (0 : Int32)), .val (.int (1 : Int32)), .val (.ref a1), .val (.long (((w1.toInt64) &&& (4294967295 : Int64)) + ((u0.toInt64) &&& (4294967295 : Int64)))), .second, .val (.int (0 : Int32)), .unset]) rfl ?_
    refine gIloadN X6 hx (hb hby d10_170) (q := 171) rfl rfl ?_
    refine gAloadN X6 hx (hb hby d10_171) (q := 172) rfl rfl rfl ?_
    refine gIloadN X6 hx (hb hby d10_172) (q := 173) rfl rfl ?_
    refine gIaload X6 hx hZ e6 A10 (hb hby d10_173) (q := 174) rfl (show ¬ (((0 : Int32) : Int32) < 0 ∨ 2 ≤ ((0 : Int32) : Int32).toNatClampNeg) by decide) (v := .int w0) rfl ?_
    refine gIastore X6 hx hZ e6 B6 (hb hby d10_174) (q := 175) rfl (show ¬ (((0 : Int32) : Int32) < 0 ∨ 2 ≤ ((0 : Int32) : Int32).toNatClampNeg) by decide) (fun T14 h14 X14 e14 W14 A14 => ?_)
    have B14 : Ary Z h14 a1 k1 (.int) [(.int w0), (.int ((((w1.toInt64) &&& (4294967295 : Int64)) + ((u0.toInt64) &&& (4294967295 : Int64))).toInt32))] := A14
    have N15 := Fr.snoc X14 N7 le_a1
    have K16 := K8.wr W14 (Or.inr ge_a1)
    have A17 := Ary.other W14 A9 ne_kx1_a1
    have A18 := Ary.other W14 A10 ne_kx2_a1
    have Z20 : n0 ≤ h14.size := by rw [W14.size]; exact Z12
    refine gGoto X14 hx (hb hby d10_175) (q := 161) (by decide) (by decide) ?_
    refine gIloadN X14 hx (hb hby d10_161) (q := 162) rfl rfl ?_
    refine gIfY X14 hx (hb hby d10_162) (q := 178) (by decide) (by decide) (XT.i0_le_t (by decide)) ?_
    refine gIload X14 hx (hb hby d10_178) (q := 180) rfl rfl ?_
    refine gIfY X14 hx (hb hby d10_180) (q := 212) (by decide) (by decide) (XT.i0_eq_t (by decide)) ?_
    refine gAload X14 hx (hb hby d10_212) (q := 214) rfl rfl rfl ?_
    exact gRetA X14 hx hlk hret rfl rfl (hb hby d10_214) (by decide) (by decide) (by rw [e14]; exact ⟨_, _, [w0, ((((w1.toInt64) &&& (4294967295 : Int64)) + ((u0.toInt64) &&& (4294967295 : Int64))).toInt32)], rfl, N15, K16, B14, Or.inl rfl, ge_a1⟩)
  · refine gIfN X6 hx (hb hby d10_116) (q := 119) rfl (XT.ll_eq_f c13) ?_
    refine gIconst X6 hx (1 : Int32) (hb hby d10_119) (q := 120) rfl (by decide) ?_
    refine gGoto X6 hx (hb hby d10_120) (q := 124) (by decide) (by decide) ?_
    refine gIstore X6 hx (hb hby d10_124) (q := 126) rfl (L' := #[.val (.ref kx2), .val (.ref kx1), .val (.int (1 : Int32)), .val (.int (1 : Int32)), .val (.ref a1), .val (.long (((w1.toInt64) &&& (4294967295 : Int64)) + ((u0.toInt64) &&& (4294967295 : Int64)))), .second, .val (.int (1 : Int32)), .unset]) rfl ?_
    refine gIloadN X6 hx (hb hby d10_126) (q := 127) rfl rfl ?_
    refine gIfN X6 hx (hb hby d10_127) (q := 130) rfl (XT.i0_le_f (by decide)) ?_
    refine gIload X6 hx (hb hby d10_130) (q := 132) rfl rfl ?_
    refine gIfN X6 hx (hb hby d10_132) (q := 135) rfl (XT.i0_eq_f (by decide)) ?_
    refine gAload X6 hx (hb hby d10_135) (q := 137) rfl rfl rfl ?_
    refine gIinc X6 hx (-1 : Int32) (hb hby d10_137) (q := 140) rfl (by decide) rfl (L' := #[.val (.ref kx2), .val (.ref kx1), .val (.int (0 : Int32)), .val (.int (1 : Int32)), .val (.ref a1), .val (.long (((w1.toInt64) &&& (4294967295 : Int64)) + ((u0.toInt64) &&& (4294967295 : Int64)))), .second, .val (.int (1 : Int32)), .unset]) rfl ?_
    refine gIloadN X6 hx (hb hby d10_140) (q := 141) rfl rfl ?_
    refine gAloadN X6 hx (hb hby d10_141) (q := 142) rfl rfl rfl ?_
    refine gIloadN X6 hx (hb hby d10_142) (q := 143) rfl rfl ?_
    refine gIaload X6 hx hZ e6 A10 (hb hby d10_143) (q := 144) rfl (show ¬ (((0 : Int32) : Int32) < 0 ∨ 2 ≤ ((0 : Int32) : Int32).toNatClampNeg) by decide) (v := .int w0) rfl ?_
    refine gIconst X6 hx (1 : Int32) (hb hby d10_144) (q := 145) rfl (by decide) ?_
    refine gIadd X6 hx (hb hby d10_145) (q := 146) rfl ?_
    refine gDupX2 X6 hx (hb hby d10_146) (q := 147) rfl rfl rfl rfl ?_
    refine gIastore X6 hx hZ e6 B6 (hb hby d10_147) (q := 148) rfl (show ¬ (((0 : Int32) : Int32) < 0 ∨ 2 ≤ ((0 : Int32) : Int32).toNatClampNeg) by decide) (fun T21 h21 X21 e21 W21 A21 => ?_)
    have B21 : Ary Z h21 a1 k1 (.int) [(.int (w0 + (1 : Int32))), (.int ((((w1.toInt64) &&& (4294967295 : Int64)) + ((u0.toInt64) &&& (4294967295 : Int64))).toInt32))] := A21
    have N22 := Fr.snoc X21 N7 le_a1
    have K23 := K8.wr W21 (Or.inr ge_a1)
    have A24 := Ary.other W21 A9 ne_kx1_a1
    have A25 := Ary.other W21 A10 ne_kx2_a1
    have Z27 : n0 ≤ h21.size := by rw [W21.size]; exact Z12
    by_cases c28 : (w0 + (1 : Int32)) = (0 : Int32)
    · refine gIfN X21 hx (hb hby d10_148) (q := 151) rfl (XT.i0_ne_f c28) ?_
      refine gIconst X21 hx (1 : Int32) (hb hby d10_151) (q := 152) rfl (by decide) ?_
      refine gGoto X21 hx (hb hby d10_152) (q := 156) (by decide) (by decide) ?_
      refine gIstore X21 hx (hb hby d10_156) (q := 158) rfl (L' := #[.val (.ref kx2), .val (.ref kx1), .val (.int (0 : Int32)), .val (.int (1 : Int32)), .val (.ref a1), .val (.long (((w1.toInt64) &&& (4294967295 : Int64)) + ((u0.toInt64) &&& (4294967295 : Int64)))), .second, .val (.int (1 : Int32)), .unset]) rfl ?_
      refine gGoto X21 hx (hb hby d10_158) (q := 126) (by decide) (by decide) ?_
      refine gIloadN X21 hx (hb hby d10_126) (q := 127) rfl rfl ?_
      refine gIfY X21 hx (hb hby d10_127) (q := 161) (by decide) (by decide) (XT.i0_le_t (by decide)) ?_
      refine gIloadN X21 hx (hb hby d10_161) (q := 162) rfl rfl ?_
      refine gIfY X21 hx (hb hby d10_162) (q := 178) (by decide) (by decide) (XT.i0_le_t (by decide)) ?_
      refine gIload X21 hx (hb hby d10_178) (q := 180) rfl rfl ?_
      refine gIfN X21 hx (hb hby d10_180) (q := 183) rfl (XT.i0_eq_f (by decide)) ?_
      refine gAload X21 hx (hb hby d10_183) (q := 185) rfl rfl rfl ?_
      refine gLen X21 hx hZ e21 B21 (n := (2 : Int32)) rfl (hb hby d10_185) (q := 186) rfl ?_
      refine gIconst X21 hx (1 : Int32) (hb hby d10_186) (q := 187) rfl (by decide) ?_
      refine gIadd X21 hx (hb hby d10_187) (q := 188) rfl ?_
      rw [show ((2 : Int32) + (1 : Int32)) = (3 : Int32) from by decide]
      refine gNewP X21 hx hZ (hw _ (List.mem_of_getElem? (i := 50) rfl)) e21 (hb hby d10_188) (q := 190) rfl (by decide) (cap := 3) (by decide) (by decide) (by decide) (by decide) (fun T29 h29 a29 k29 X29 e29 g29 E29 A29 => ?_)
      have A30 := Ary.ext E29 A24
      have A31 := Ary.ext E29 A25
      have A32 := Ary.ext E29 B21
      have ge_a29 : h0.size ≤ a29 := by rw [g29]; exact K23.1
      have K33 := K23.ext E29
      have le_a29 : n0 ≤ a29 := by rw [g29]; exact Z27
      have ne_kx1_a29 : kx1 ≠ a29 := by rw [g29]; exact Nat.ne_of_lt A24.lt
      have ne_kx2_a29 : kx2 ≠ a29 := by rw [g29]; exact Nat.ne_of_lt A25.lt
      have ne_a1_a29 : a1 ≠ a29 := by rw [g29]; exact Nat.ne_of_lt B21.lt
      have Z34 := Nat.le_trans Z27 E29.1
      have B29 : Ary Z h29 a29 k29 (.int) [(.int (0 : Int32)), (.int (0 : Int32)), (.int (0 : Int32))] := A29
      refine gAstore X29 hx (hb hby d10_190) (q := 192) rfl rfl (L' := #[.val (.ref kx2), .val (.ref kx1), .val (.int (0 : Int32)), .val (.int (1 : Int32)), .val (.ref a1), .val (.long (((w1.toInt64) &&& (4294967295 : Int64)) + ((u0.toInt64) &&& (4294967295 : Int64)))), .second, .val (.int (1 : Int32)), .val (.ref a29)]) rfl ?_
      refine gAload X29 hx (hb hby d10_192) (q := 194) rfl rfl rfl ?_
      refine gIconst X29 hx (0 : Int32) (hb hby d10_194) (q := 195) rfl (by decide) ?_
      refine gAload X29 hx (hb hby d10_195) (q := 197) rfl rfl rfl ?_
      refine gIconst X29 hx (1 : Int32) (hb hby d10_197) (q := 198) rfl (by decide) ?_
      refine gAload X29 hx (hb hby d10_198) (q := 200) rfl rfl rfl ?_
      refine gLen X29 hx hZ e29 A32 (n := (2 : Int32)) rfl (hb hby d10_200) (q := 201) rfl ?_
      refine gCopyI X29 hx hZ hown (hw _ (List.mem_of_getElem? (i := 67) rfl)) (hw _ (List.mem_of_getElem? (i := 70) rfl)) (hw _ (List.mem_of_getElem? (i := 68) rfl)) (hw _ (List.mem_of_getElem? (i := 69) rfl)) e29 A32 B29 (by intro v hv; simp only [List.mem_cons, List.not_mem_nil, or_false] at hv; rcases hv with rfl | rfl <;> rfl) (by intro v hv; simp only [List.mem_cons, List.not_mem_nil, or_false] at hv; rcases hv with rfl | rfl | rfl <;> rfl) (j1 := (0 : Int32)) (j2 := (1 : Int32)) (n := (2 : Int32)) (by decide) (by decide) (by decide) (show ¬ ((0 : Int32) : Int32).toInt + ((2 : Int32) : Int32).toInt > ((2 : Nat) : Int) by decide) (show ¬ ((1 : Int32) : Int32).toInt + ((2 : Int32) : Int32).toInt > ((3 : Nat) : Int) by decide) (show ((0 : Int32) : Int32).toNatClampNeg + ((2 : Int32) : Int32).toNatClampNeg ≤ 2 by decide) (show ((1 : Int32) : Int32).toNatClampNeg + ((2 : Int32) : Int32).toNatClampNeg ≤ 3 by decide) (by rw [hml]; rfl) (hb hby d10_201) (q := 204) rfl (by decide) (W := 0) (Nat.le_of_eq rfl) (by decide) (fun T35 h35 xs35 X35 e35 K35 l35 A35 => ?_)
      obtain ⟨z35_0, z35_1, z35_2, rfl⟩ := own_l3 l35
      have B35 : Ary Z h35 a29 k29 (.int) [(.int z35_0), (.int z35_1), (.int z35_2)] := A35
      have N36 := Fr.app N22 (fun y hy => by rw [copyLocs_base hy]; exact le_a29 : Fr n0 (copyLocs a29 ((1 : Int32) : Int32).toNatClampNeg ((2 : Int32) : Int32).toNatClampNeg))
      have A37 := Ary.keep A30 K35 (ninS ne_kx1_a29 nin0)
      have A38 := Ary.keep A31 K35 (ninS ne_kx2_a29 nin0)
      have A39 := Ary.keep A32 K35 (ninS ne_a1_a29 nin0)
      have Z40 := Nat.le_trans Z34 K35.1
      have KK41 := K33.trans K35 (allS (Or.inr ge_a29) all0)
      refine gAload X35 hx (hb hby d10_204) (q := 206) rfl rfl rfl ?_
      refine gIconst X35 hx (0 : Int32) (hb hby d10_206) (q := 207) rfl (by decide) ?_
      refine gIconst X35 hx (1 : Int32) (hb hby d10_207) (q := 208) rfl (by decide) ?_
      refine gIastore X35 hx hZ e35 B35 (hb hby d10_208) (q := 209) rfl (show ¬ (((0 : Int32) : Int32) < 0 ∨ 3 ≤ ((0 : Int32) : Int32).toNatClampNeg) by decide) (fun T42 h42 X42 e42 W42 A42 => ?_)
      have B42 : Ary Z h42 a29 k29 (.int) [(.int (1 : Int32)), (.int z35_1), (.int z35_2)] := A42
      have N43 := Fr.snoc X42 N36 le_a29
      have K44 := KK41.wr W42 (Or.inr ge_a29)
      have A45 := Ary.other W42 A37 ne_kx1_a29
      have A46 := Ary.other W42 A38 ne_kx2_a29
      have A47 := Ary.other W42 A39 ne_a1_a29
      have Z49 : n0 ≤ h42.size := by rw [W42.size]; exact Z40
      refine gAload X42 hx (hb hby d10_209) (q := 211) rfl rfl rfl ?_
      exact gRetA X42 hx hlk hret rfl rfl (hb hby d10_211) (by decide) (by decide) (by rw [e42]; exact ⟨_, _, [(1 : Int32), z35_1, z35_2], rfl, N43, K44, B42, Or.inr rfl, ge_a29⟩)
    · refine gIfY X21 hx (hb hby d10_148) (q := 155) (by decide) (by decide) (XT.i0_ne_t c28) ?_
      refine gIconst X21 hx (0 : Int32) (hb hby d10_155) (q := 156) rfl (by decide) ?_
      refine gIstore X21 hx (hb hby d10_156) (q := 158) rfl (L' := #[.val (.ref kx2), .val (.ref kx1), .val (.int (0 : Int32)), .val (.int (1 : Int32)), .val (.ref a1), .val (.long (((w1.toInt64) &&& (4294967295 : Int64)) + ((u0.toInt64) &&& (4294967295 : Int64)))), .second, .val (.int (0 : Int32)), .unset]) rfl ?_
      refine gGoto X21 hx (hb hby d10_158) (q := 126) (by decide) (by decide) ?_
      refine gIloadN X21 hx (hb hby d10_126) (q := 127) rfl rfl ?_
      refine gIfY X21 hx (hb hby d10_127) (q := 161) (by decide) (by decide) (XT.i0_le_t (by decide)) ?_
      refine gIloadN X21 hx (hb hby d10_161) (q := 162) rfl rfl ?_
      refine gIfY X21 hx (hb hby d10_162) (q := 178) (by decide) (by decide) (XT.i0_le_t (by decide)) ?_
      refine gIload X21 hx (hb hby d10_178) (q := 180) rfl rfl ?_
      refine gIfY X21 hx (hb hby d10_180) (q := 212) (by decide) (by decide) (XT.i0_eq_t (by decide)) ?_
      refine gAload X21 hx (hb hby d10_212) (q := 214) rfl rfl rfl ?_
      exact gRetA X21 hx hlk hret rfl rfl (hb hby d10_214) (by decide) (by decide) (by rw [e21]; exact ⟨_, _, [(w0 + (1 : Int32)), ((((w1.toInt64) &&& (4294967295 : Int64)) + ((u0.toInt64) &&& (4294967295 : Int64))).toInt32)], rfl, N22, K23, B21, Or.inl rfl, ge_a1⟩)
theorem ef5 (m : MethodId) (x0 : Addr) (x1 : Addr) : entryFrame m #[(.ref x0), (.ref x1)] 9 = mkF m 0 #[.val (.ref x0), .val (.ref x1), .unset, .unset, .unset, .unset, .unset, .unset, .unset] [] := by first | (simp [entryFrame, mkF, argsToLocals, Value.category]; done) | rfl
def Q_rmAA21 (Z : State) (kx1 : Addr) (kx2 : Addr) (kc : ClassId) (kd : ClassId) (u0 : Int32) (u1 : Int32) (w0 : Int32) (h0 : Heap) (n0 : Nat) (v : Option Value) (h : Heap) (L : List Loc) : Prop := ∃ r kr xs, v = some (.ref r) ∧ Fr n0 L ∧ Keep h0 h [] ∧ Ary Z h r kr .int (List.map Value.int xs) ∧ (xs.length = 2 ∨ xs.length = 3) ∧ h0.size ≤ r
set_option maxRecDepth 65536 in
set_option maxHeartbeats 40000000 in
theorem rmAA21 (l : Launch) (Z : State) (a0 : Array Value) (hw : ∀ d ∈ tables_1, d.before a0 Z = true) (ws : List Jvm.Cond) (kx1 : Addr) (kx2 : Addr) (kc : ClassId) (kd : ClassId) (u0 : Int32) (u1 : Int32) (w0 : Int32) (h0 : Heap) (n0 : Nat) (Z0 : n0 ≤ h0.size) (pA1 : Ary Z h0 kx1 kc .int [(.int u0), (.int u1)]) (pA2 : Ary Z h0 kx2 kd .int [(.int w0)]) :
    Con l Z (⟨"java/math/BigInteger", "add", "([I[I)[I"⟩ : MethodName) jdk_2097_method_35_code 9 (some (.array (.int))) ws ({ frames := 1, cells := 2, slots := 7, locals := 32 } : Room) #[(.ref kx1), (.ref kx2)] h0 (({ frames := 1, cells := 2, slots := 7, locals := 32 } : Room).cells) (({ frames := 1, cells := 2, slots := 7, locals := 32 } : Room).slots) (Q_rmAA21 Z kx1 kx2 kc kd u0 u1 w0 h0 n0) := by
  refine Con.of (plainFor_of_name pn1) ?_
  intro p e s m below meth c s₁ hx hby hml hown hnm hret hlk hZ X0 e0
  have N0 := Fr.nil n0
  refine goE (L := #[.val (.ref kx1), .val (.ref kx2), .unset, .unset, .unset, .unset, .unset, .unset, .unset]) (ef5 m kx1 kx2) ?_
  refine gAloadN X0 hx (hb hby d10_0) (q := 1) rfl rfl rfl ?_
  refine gLen X0 hx hZ e0 pA1 (n := (2 : Int32)) rfl (hb hby d10_1) (q := 2) rfl ?_
  refine gAloadN X0 hx (hb hby d10_2) (q := 3) rfl rfl rfl ?_
  refine gLen X0 hx hZ e0 pA2 (n := (1 : Int32)) rfl (hb hby d10_3) (q := 4) rfl ?_
  refine gIcmpY X0 hx (hb hby d10_4) (q := 13) (by decide) (by decide) (XT.ii_ge_t (by decide)) ?_
  refine gAloadN X0 hx (hb hby d10_13) (q := 14) rfl rfl rfl ?_
  refine gLen X0 hx hZ e0 pA1 (n := (2 : Int32)) rfl (hb hby d10_14) (q := 15) rfl ?_
  refine gIstoreN X0 hx (hb hby d10_15) (q := 16) rfl (L' := #[.val (.ref kx1), .val (.ref kx2), .val (.int (2 : Int32)), .unset, .unset, .unset, .unset, .unset, .unset]) rfl ?_
  refine gAloadN X0 hx (hb hby d10_16) (q := 17) rfl rfl rfl ?_
  refine gLen X0 hx hZ e0 pA2 (n := (1 : Int32)) rfl (hb hby d10_17) (q := 18) rfl ?_
  refine gIstoreN X0 hx (hb hby d10_18) (q := 19) rfl (L' := #[.val (.ref kx1), .val (.ref kx2), .val (.int (2 : Int32)), .val (.int (1 : Int32)), .unset, .unset, .unset, .unset, .unset]) rfl ?_
  refine gIloadN X0 hx (hb hby d10_19) (q := 20) rfl rfl ?_
  refine gNewP X0 hx hZ (hw _ (List.mem_of_getElem? (i := 50) rfl)) e0 (hb hby d10_20) (q := 22) rfl (by decide) (cap := 2) (by decide) (by decide) (by decide) (by decide) (fun T1 h1 a1 k1 X1 e1 g1 E1 A1 => ?_)
  have A2 := Ary.ext E1 pA1
  have A3 := Ary.ext E1 pA2
  have ge_a1 : h0.size ≤ a1 := by rw [g1]; exact (Keep.refl h0 []).1
  have K4 := (Keep.refl h0 []).ext E1
  have le_a1 : n0 ≤ a1 := by rw [g1]; exact Z0
  have ne_kx1_a1 : kx1 ≠ a1 := by rw [g1]; exact Nat.ne_of_lt pA1.lt
  have ne_kx2_a1 : kx2 ≠ a1 := by rw [g1]; exact Nat.ne_of_lt pA2.lt
  have Z5 := Nat.le_trans Z0 E1.1
  have B1 : Ary Z h1 a1 k1 (.int) [(.int (0 : Int32)), (.int (0 : Int32))] := A1
  refine gAstore X1 hx (hb hby d10_22) (q := 24) rfl rfl (L' := #[.val (.ref kx1), .val (.ref kx2), .val (.int (2 : Int32)), .val (.int (1 : Int32)), .val (.ref a1), .unset, .unset, .unset, .unset]) rfl ?_
  refine gLconst X1 hx (0 : Int64) (hb hby d10_24) (q := 25) rfl (by decide) ?_
  refine gLstore X1 hx (hb hby d10_25) (q := 27) rfl (L' := #[.val (.ref kx1), .val (.ref kx2), .val (.int (2 : Int32)), .val (.int (1 : Int32)), .val (.ref a1), .val (.long (0 : Int64)), .second, .unset, .unset]) rfl ?_
  refine gIloadN X1 hx (hb hby d10_27) (q := 28) rfl rfl ?_
  refine gIconst X1 hx (1 : Int32) (hb hby d10_28) (q := 29) rfl (by decide) ?_
  refine gIcmpN X1 hx (hb hby d10_29) (q := 32) rfl (XT.ii_ne_f (by decide)) ?_
  refine gAloadN X1 hx (hb hby d10_32) (q := 33) rfl rfl rfl ?_
  refine gIinc X1 hx (-1 : Int32) (hb hby d10_33) (q := 36) rfl (by decide) rfl (L' := #[.val (.ref kx1), .val (.ref kx2), .val (.int (1 : Int32)), .val (.int (1 : Int32)), .val (.ref a1), .val (.long (0 : Int64)), .second, .unset, .unset]) rfl ?_
  refine gIloadN X1 hx (hb hby d10_36) (q := 37) rfl rfl ?_
  refine gIaload X1 hx hZ e1 A2 (hb hby d10_37) (q := 38) rfl (show ¬ (((1 : Int32) : Int32) < 0 ∨ 2 ≤ ((1 : Int32) : Int32).toNatClampNeg) by decide) (v := .int u1) rfl ?_
  refine gI2l X1 hx (hb hby d10_38) (q := 39) rfl ?_
  refine gLdc2 X1 hx hZ hown (hw _ (List.mem_of_getElem? (i := 61) rfl)) (hb hby d10_39) (q := 42) rfl ?_
  refine gLand X1 hx (hb hby d10_42) (q := 43) rfl ?_
  refine gAloadN X1 hx (hb hby d10_43) (q := 44) rfl rfl rfl ?_
  refine gIconst X1 hx (0 : Int32) (hb hby d10_44) (q := 45) rfl (by decide) ?_
  refine gIaload X1 hx hZ e1 A3 (hb hby d10_45) (q := 46) rfl (show ¬ (((0 : Int32) : Int32) < 0 ∨ 1 ≤ ((0 : Int32) : Int32).toNatClampNeg) by decide) (v := .int w0) rfl ?_
  refine gI2l X1 hx (hb hby d10_46) (q := 47) rfl ?_
  refine gLdc2 X1 hx hZ hown (hw _ (List.mem_of_getElem? (i := 61) rfl)) (hb hby d10_47) (q := 50) rfl ?_
  refine gLand X1 hx (hb hby d10_50) (q := 51) rfl ?_
  refine gLadd X1 hx (hb hby d10_51) (q := 52) rfl ?_
  refine gLstore X1 hx (hb hby d10_52) (q := 54) rfl (L' := #[.val (.ref kx1), .val (.ref kx2), .val (.int (1 : Int32)), .val (.int (1 : Int32)), .val (.ref a1), .val (.long (((u1.toInt64) &&& (4294967295 : Int64)) + ((w0.toInt64) &&& (4294967295 : Int64)))), .second, .unset, .unset]) rfl ?_
  refine gAload X1 hx (hb hby d10_54) (q := 56) rfl rfl rfl ?_
  refine gIloadN X1 hx (hb hby d10_56) (q := 57) rfl rfl ?_
  refine gLload X1 hx (hb hby d10_57) (q := 59) rfl rfl ?_
  refine gL2i X1 hx (hb hby d10_59) (q := 60) rfl ?_
  refine gIastore X1 hx hZ e1 B1 (hb hby d10_60) (q := 61) rfl (show ¬ (((1 : Int32) : Int32) < 0 ∨ 2 ≤ ((1 : Int32) : Int32).toNatClampNeg) by decide) (fun T6 h6 X6 e6 W6 A6 => ?_)
  have B6 : Ary Z h6 a1 k1 (.int) [(.int (0 : Int32)), (.int ((((u1.toInt64) &&& (4294967295 : Int64)) + ((w0.toInt64) &&& (4294967295 : Int64))).toInt32))] := A6
  have N7 := Fr.snoc X6 N0 le_a1
  have K8 := K4.wr W6 (Or.inr ge_a1)
  have A9 := Ary.other W6 A2 ne_kx1_a1
  have A10 := Ary.other W6 A3 ne_kx2_a1
  have Z12 : n0 ≤ h6.size := by rw [W6.size]; exact Z5
  refine gGoto X6 hx (hb hby d10_61) (q := 109) (by decide) (by decide) ?_
  refine gLload X6 hx (hb hby d10_109) (q := 111) rfl rfl ?_
  refine gBipush X6 hx (32 : Int32) (hb hby d10_111) (q := 113) rfl (by decide) ?_
  refine gLushr X6 hx (hb hby d10_113) (q := 114) rfl ?_
  refine gLconst X6 hx (0 : Int64) (hb hby d10_114) (q := 115) rfl (by decide) ?_
  refine gLcmp X6 hx (hb hby d10_115) (q := 116) rfl ?_
  by_cases c13 : (XT.ushrL (((u1.toInt64) &&& (4294967295 : Int64)) + ((w0.toInt64) &&& (4294967295 : Int64))) (32 : Int32)) = (0 : Int64)
  · refine gIfY X6 hx (hb hby d10_116) (q := 123) (by decide) (by decide) (XT.ll_eq_t c13) ?_
    refine gIconst X6 hx (0 : Int32) (hb hby d10_123) (q := 124) rfl (by decide) ?_
    refine gIstore X6 hx (hb hby d10_124) (q := 126) rfl (L' := #[.val (.ref kx1), .val (.ref kx2), .val (.int (1 : Int32)), .val (.int (1 : Int32)), .val (.ref a1), .val (.long (((u1.toInt64) &&& (4294967295 : Int64)) + ((w0.toInt64) &&& (4294967295 : Int64)))), .second, .val (.int (0 : Int32)), .unset]) rfl ?_
    refine gIloadN X6 hx (hb hby d10_126) (q := 127) rfl rfl ?_
    refine gIfN X6 hx (hb hby d10_127) (q := 130) rfl (XT.i0_le_f (by decide)) ?_
    refine gIload X6 hx (hb hby d10_130) (q := 132) rfl rfl ?_
    refine gIfY X6 hx (hb hby d10_132) (q := 161) (by decide) (by decide) (XT.i0_eq_t (by decide)) ?_
    refine gIloadN X6 hx (hb hby d10_161) (q := 162) rfl rfl ?_
    refine gIfN X6 hx (hb hby d10_162) (q := 165) rfl (XT.i0_le_f (by decide)) ?_
    refine gAload X6 hx (hb hby d10_165) (q := 167) rfl rfl rfl ?_
    refine gIinc X6 hx (-1 : Int32) (hb hby d10_167) (q := 170) rfl (by decide) rfl (L' := #[.val (.ref kx1), .val (.ref kx2), .val (.int (0 : Int32)), .val (.int (1 : Int32)), .val (.ref a1), .val (.long (((u1.toInt64) &&& (4294967295 : Int64)) + ((w0.toInt64) &&& (4294967295 : Int64)))), .second, .val (.int (0 : Int32)), .unset]) rfl ?_
    refine gIloadN X6 hx (hb hby d10_170) (q := 171) rfl rfl ?_
    refine gAloadN X6 hx (hb hby d10_171) (q := 172) rfl rfl rfl ?_
    refine gIloadN X6 hx (hb hby d10_172) (q := 173) rfl rfl ?_
    refine gIaload X6 hx hZ e6 A9 (hb hby d10_173) (q := 174) rfl (show ¬ (((0 : Int32) : Int32) < 0 ∨ 2 ≤ ((0 : Int32) : Int32).toNatClampNeg) by decide) (v := .int u0) rfl ?_
    refine gIastore X6 hx hZ e6 B6 (hb hby d10_174) (q := 175) rfl (show ¬ (((0 : Int32) : Int32) < 0 ∨ 2 ≤ ((0 : Int32) : Int32).toNatClampNeg) by decide) (fun T14 h14 X14 e14 W14 A14 => ?_)
    have B14 : Ary Z h14 a1 k1 (.int) [(.int u0), (.int ((((u1.toInt64) &&& (4294967295 : Int64)) + ((w0.toInt64) &&& (4294967295 : Int64))).toInt32))] := A14
    have N15 := Fr.snoc X14 N7 le_a1
    have K16 := K8.wr W14 (Or.inr ge_a1)
    have A17 := Ary.other W14 A9 ne_kx1_a1
    have A18 := Ary.other W14 A10 ne_kx2_a1
    have Z20 : n0 ≤ h14.size := by rw [W14.size]; exact Z12
    refine gGoto X14 hx (hb hby d10_175) (q := 161) (by decide) (by decide) ?_
    refine gIloadN X14 hx (hb hby d10_161) (q := 162) rfl rfl ?_
    refine gIfY X14 hx (hb hby d10_162) (q := 178) (by decide) (by decide) (XT.i0_le_t (by decide)) ?_
    refine gIload X14 hx (hb hby d10_178) (q := 180) rfl rfl ?_
    refine gIfY X14 hx (hb hby d10_180) (q := 212) (by decide) (by decide) (XT.i0_eq_t (by decide)) ?_
    refine gAload X14 hx (hb hby d10_212) (q := 214) rfl rfl rfl ?_
    exact gRetA X14 hx hlk hret rfl rfl (hb hby d10_214) (by decide) (by decide) (by rw [e14]; exact ⟨_, _, [u0, ((((u1.toInt64) &&& (4294967295 : Int64)) + ((w0.toInt64) &&& (4294967295 : Int64))).toInt32)], rfl, N15, K16, B14, Or.inl rfl, ge_a1⟩)
  · refine gIfN X6 hx (hb hby d10_116) (q := 119) rfl (XT.ll_eq_f c13) ?_
    refine gIconst X6 hx (1 : Int32) (hb hby d10_119) (q := 120) rfl (by decide) ?_
    refine gGoto X6 hx (hb hby d10_120) (q := 124) (by decide) (by decide) ?_
    refine gIstore X6 hx (hb hby d10_124) (q := 126) rfl (L' := #[.val (.ref kx1), .val (.ref kx2), .val (.int (1 : Int32)), .val (.int (1 : Int32)), .val (.ref a1), .val (.long (((u1.toInt64) &&& (4294967295 : Int64)) + ((w0.toInt64) &&& (4294967295 : Int64)))), .second, .val (.int (1 : Int32)), .unset]) rfl ?_
    refine gIloadN X6 hx (hb hby d10_126) (q := 127) rfl rfl ?_
    refine gIfN X6 hx (hb hby d10_127) (q := 130) rfl (XT.i0_le_f (by decide)) ?_
    refine gIload X6 hx (hb hby d10_130) (q := 132) rfl rfl ?_
    refine gIfN X6 hx (hb hby d10_132) (q := 135) rfl (XT.i0_eq_f (by decide)) ?_
    refine gAload X6 hx (hb hby d10_135) (q := 137) rfl rfl rfl ?_
    refine gIinc X6 hx (-1 : Int32) (hb hby d10_137) (q := 140) rfl (by decide) rfl (L' := #[.val (.ref kx1), .val (.ref kx2), .val (.int (0 : Int32)), .val (.int (1 : Int32)), .val (.ref a1), .val (.long (((u1.toInt64) &&& (4294967295 : Int64)) + ((w0.toInt64) &&& (4294967295 : Int64)))), .second, .val (.int (1 : Int32)), .unset]) rfl ?_
    refine gIloadN X6 hx (hb hby d10_140) (q := 141) rfl rfl ?_
    refine gAloadN X6 hx (hb hby d10_141) (q := 142) rfl rfl rfl ?_
    refine gIloadN X6 hx (hb hby d10_142) (q := 143) rfl rfl ?_
    refine gIaload X6 hx hZ e6 A9 (hb hby d10_143) (q := 144) rfl (show ¬ (((0 : Int32) : Int32) < 0 ∨ 2 ≤ ((0 : Int32) : Int32).toNatClampNeg) by decide) (v := .int u0) rfl ?_
    refine gIconst X6 hx (1 : Int32) (hb hby d10_144) (q := 145) rfl (by decide) ?_
    refine gIadd X6 hx (hb hby d10_145) (q := 146) rfl ?_
    refine gDupX2 X6 hx (hb hby d10_146) (q := 147) rfl rfl rfl rfl ?_
    refine gIastore X6 hx hZ e6 B6 (hb hby d10_147) (q := 148) rfl (show ¬ (((0 : Int32) : Int32) < 0 ∨ 2 ≤ ((0 : Int32) : Int32).toNatClampNeg) by decide) (fun T21 h21 X21 e21 W21 A21 => ?_)
    have B21 : Ary Z h21 a1 k1 (.int) [(.int (u0 + (1 : Int32))), (.int ((((u1.toInt64) &&& (4294967295 : Int64)) + ((w0.toInt64) &&& (4294967295 : Int64))).toInt32))] := A21
    have N22 := Fr.snoc X21 N7 le_a1
    have K23 := K8.wr W21 (Or.inr ge_a1)
    have A24 := Ary.other W21 A9 ne_kx1_a1
    have A25 := Ary.other W21 A10 ne_kx2_a1
    have Z27 : n0 ≤ h21.size := by rw [W21.size]; exact Z12
    by_cases c28 : (u0 + (1 : Int32)) = (0 : Int32)
    · refine gIfN X21 hx (hb hby d10_148) (q := 151) rfl (XT.i0_ne_f c28) ?_
      refine gIconst X21 hx (1 : Int32) (hb hby d10_151) (q := 152) rfl (by decide) ?_
      refine gGoto X21 hx (hb hby d10_152) (q := 156) (by decide) (by decide) ?_
      refine gIstore X21 hx (hb hby d10_156) (q := 158) rfl (L' := #[.val (.ref kx1), .val (.ref kx2), .val (.int (0 : Int32)), .val (.int (1 : Int32)), .val (.ref a1), .val (.long (((u1.toInt64) &&& (4294967295 : Int64)) + ((w0.toInt64) &&& (4294967295 : Int64)))), .second, .val (.int (1 : Int32)), .unset]) rfl ?_
      refine gGoto X21 hx (hb hby d10_158) (q := 126) (by decide) (by decide) ?_
      refine gIloadN X21 hx (hb hby d10_126) (q := 127) rfl rfl ?_
      refine gIfY X21 hx (hb hby d10_127) (q := 161) (by decide) (by decide) (XT.i0_le_t (by decide)) ?_
      refine gIloadN X21 hx (hb hby d10_161) (q := 162) rfl rfl ?_
      refine gIfY X21 hx (hb hby d10_162) (q := 178) (by decide) (by decide) (XT.i0_le_t (by decide)) ?_
      refine gIload X21 hx (hb hby d10_178) (q := 180) rfl rfl ?_
      refine gIfN X21 hx (hb hby d10_180) (q := 183) rfl (XT.i0_eq_f (by decide)) ?_
      refine gAload X21 hx (hb hby d10_183) (q := 185) rfl rfl rfl ?_
      refine gLen X21 hx hZ e21 B21 (n := (2 : Int32)) rfl (hb hby d10_185) (q := 186) rfl ?_
      refine gIconst X21 hx (1 : Int32) (hb hby d10_186) (q := 187) rfl (by decide) ?_
      refine gIadd X21 hx (hb hby d10_187) (q := 188) rfl ?_
      rw [show ((2 : Int32) + (1 : Int32)) = (3 : Int32) from by decide]
      refine gNewP X21 hx hZ (hw _ (List.mem_of_getElem? (i := 50) rfl)) e21 (hb hby d10_188) (q := 190) rfl (by decide) (cap := 3) (by decide) (by decide) (by decide) (by decide) (fun T29 h29 a29 k29 X29 e29 g29 E29 A29 => ?_)
      have A30 := Ary.ext E29 A24
      have A31 := Ary.ext E29 A25
      have A32 := Ary.ext E29 B21
      have ge_a29 : h0.size ≤ a29 := by rw [g29]; exact K23.1
      have K33 := K23.ext E29
      have le_a29 : n0 ≤ a29 := by rw [g29]; exact Z27
      have ne_kx1_a29 : kx1 ≠ a29 := by rw [g29]; exact Nat.ne_of_lt A24.lt
      have ne_kx2_a29 : kx2 ≠ a29 := by rw [g29]; exact Nat.ne_of_lt A25.lt
      have ne_a1_a29 : a1 ≠ a29 := by rw [g29]; exact Nat.ne_of_lt B21.lt
      have Z34 := Nat.le_trans Z27 E29.1
      have B29 : Ary Z h29 a29 k29 (.int) [(.int (0 : Int32)), (.int (0 : Int32)), (.int (0 : Int32))] := A29
      refine gAstore X29 hx (hb hby d10_190) (q := 192) rfl rfl (L' := #[.val (.ref kx1), .val (.ref kx2), .val (.int (0 : Int32)), .val (.int (1 : Int32)), .val (.ref a1), .val (.long (((u1.toInt64) &&& (4294967295 : Int64)) + ((w0.toInt64) &&& (4294967295 : Int64)))), .second, .val (.int (1 : Int32)), .val (.ref a29)]) rfl ?_
      refine gAload X29 hx (hb hby d10_192) (q := 194) rfl rfl rfl ?_
      refine gIconst X29 hx (0 : Int32) (hb hby d10_194) (q := 195) rfl (by decide) ?_
      refine gAload X29 hx (hb hby d10_195) (q := 197) rfl rfl rfl ?_
      refine gIconst X29 hx (1 : Int32) (hb hby d10_197) (q := 198) rfl (by decide) ?_
      refine gAload X29 hx (hb hby d10_198) (q := 200) rfl rfl rfl ?_
      refine gLen X29 hx hZ e29 A32 (n := (2 : Int32)) rfl (hb hby d10_200) (q := 201) rfl ?_
      refine gCopyI X29 hx hZ hown (hw _ (List.mem_of_getElem? (i := 67) rfl)) (hw _ (List.mem_of_getElem? (i := 70) rfl)) (hw _ (List.mem_of_getElem? (i := 68) rfl)) (hw _ (List.mem_of_getElem? (i := 69) rfl)) e29 A32 B29 (by intro v hv; simp only [List.mem_cons, List.not_mem_nil, or_false] at hv; rcases hv with rfl | rfl <;> rfl) (by intro v hv; simp only [List.mem_cons, List.not_mem_nil, or_false] at hv; rcases hv with rfl | rfl | rfl <;> rfl) (j1 := (0 : Int32)) (j2 := (1 : Int32)) (n := (2 : Int32)) (by decide) (by decide) (by decide) (show ¬ ((0 : Int32) : Int32).toInt + ((2 : Int32) : Int32).toInt > ((2 : Nat) : Int) by decide) (show ¬ ((1 : Int32) : Int32).toInt + ((2 : Int32) : Int32).toInt > ((3 : Nat) : Int) by decide) (show ((0 : Int32) : Int32).toNatClampNeg + ((2 : Int32) : Int32).toNatClampNeg ≤ 2 by decide) (show ((1 : Int32) : Int32).toNatClampNeg + ((2 : Int32) : Int32).toNatClampNeg ≤ 3 by decide) (by rw [hml]; rfl) (hb hby d10_201) (q := 204) rfl (by decide) (W := 0) (Nat.le_of_eq rfl) (by decide) (fun T35 h35 xs35 X35 e35 K35 l35 A35 => ?_)
      obtain ⟨z35_0, z35_1, z35_2, rfl⟩ := own_l3 l35
      have B35 : Ary Z h35 a29 k29 (.int) [(.int z35_0), (.int z35_1), (.int z35_2)] := A35
      have N36 := Fr.app N22 (fun y hy => by rw [copyLocs_base hy]; exact le_a29 : Fr n0 (copyLocs a29 ((1 : Int32) : Int32).toNatClampNeg ((2 : Int32) : Int32).toNatClampNeg))
      have A37 := Ary.keep A30 K35 (ninS ne_kx1_a29 nin0)
      have A38 := Ary.keep A31 K35 (ninS ne_kx2_a29 nin0)
      have A39 := Ary.keep A32 K35 (ninS ne_a1_a29 nin0)
      have Z40 := Nat.le_trans Z34 K35.1
      have KK41 := K33.trans K35 (allS (Or.inr ge_a29) all0)
      refine gAload X35 hx (hb hby d10_204) (q := 206) rfl rfl rfl ?_
      refine gIconst X35 hx (0 : Int32) (hb hby d10_206) (q := 207) rfl (by decide) ?_
      refine gIconst X35 hx (1 : Int32) (hb hby d10_207) (q := 208) rfl (by decide) ?_
      refine gIastore X35 hx hZ e35 B35 (hb hby d10_208) (q := 209) rfl (show ¬ (((0 : Int32) : Int32) < 0 ∨ 3 ≤ ((0 : Int32) : Int32).toNatClampNeg) by decide) (fun T42 h42 X42 e42 W42 A42 => ?_)
      have B42 : Ary Z h42 a29 k29 (.int) [(.int (1 : Int32)), (.int z35_1), (.int z35_2)] := A42
      have N43 := Fr.snoc X42 N36 le_a29
      have K44 := KK41.wr W42 (Or.inr ge_a29)
      have A45 := Ary.other W42 A37 ne_kx1_a29
      have A46 := Ary.other W42 A38 ne_kx2_a29
      have A47 := Ary.other W42 A39 ne_a1_a29
      have Z49 : n0 ≤ h42.size := by rw [W42.size]; exact Z40
      refine gAload X42 hx (hb hby d10_209) (q := 211) rfl rfl rfl ?_
      exact gRetA X42 hx hlk hret rfl rfl (hb hby d10_211) (by decide) (by decide) (by rw [e42]; exact ⟨_, _, [(1 : Int32), z35_1, z35_2], rfl, N43, K44, B42, Or.inr rfl, ge_a29⟩)
    · refine gIfY X21 hx (hb hby d10_148) (q := 155) (by decide) (by decide) (XT.i0_ne_t c28) ?_
      refine gIconst X21 hx (0 : Int32) (hb hby d10_155) (q := 156) rfl (by decide) ?_
      refine gIstore X21 hx (hb hby d10_156) (q := 158) rfl (L' := #[.val (.ref kx1), .val (.ref kx2), .val (.int (0 : Int32)), .val (.int (1 : Int32)), .val (.ref a1), .val (.long (((u1.toInt64) &&& (4294967295 : Int64)) + ((w0.toInt64) &&& (4294967295 : Int64)))), .second, .val (.int (0 : Int32)), .unset]) rfl ?_
      refine gGoto X21 hx (hb hby d10_158) (q := 126) (by decide) (by decide) ?_
      refine gIloadN X21 hx (hb hby d10_126) (q := 127) rfl rfl ?_
      refine gIfY X21 hx (hb hby d10_127) (q := 161) (by decide) (by decide) (XT.i0_le_t (by decide)) ?_
      refine gIloadN X21 hx (hb hby d10_161) (q := 162) rfl rfl ?_
      refine gIfY X21 hx (hb hby d10_162) (q := 178) (by decide) (by decide) (XT.i0_le_t (by decide)) ?_
      refine gIload X21 hx (hb hby d10_178) (q := 180) rfl rfl ?_
      refine gIfY X21 hx (hb hby d10_180) (q := 212) (by decide) (by decide) (XT.i0_eq_t (by decide)) ?_
      refine gAload X21 hx (hb hby d10_212) (q := 214) rfl rfl rfl ?_
      exact gRetA X21 hx hlk hret rfl rfl (hb hby d10_214) (by decide) (by decide) (by rw [e21]; exact ⟨_, _, [(u0 + (1 : Int32)), ((((u1.toInt64) &&& (4294967295 : Int64)) + ((w0.toInt64) &&& (4294967295 : Int64))).toInt32)], rfl, N22, K23, B21, Or.inl rfl, ge_a1⟩)
theorem ef6 (m : MethodId) (x0 : Addr) (x1 : Addr) : entryFrame m #[(.ref x0), (.ref x1)] 9 = mkF m 0 #[.val (.ref x0), .val (.ref x1), .unset, .unset, .unset, .unset, .unset, .unset, .unset] [] := by first | (simp [entryFrame, mkF, argsToLocals, Value.category]; done) | rfl
def Q_rmAA22 (Z : State) (kx1 : Addr) (kx2 : Addr) (kc : ClassId) (kd : ClassId) (u0 : Int32) (u1 : Int32) (w0 : Int32) (w1 : Int32) (h0 : Heap) (n0 : Nat) (v : Option Value) (h : Heap) (L : List Loc) : Prop := ∃ r kr xs, v = some (.ref r) ∧ Fr n0 L ∧ Keep h0 h [] ∧ Ary Z h r kr .int (List.map Value.int xs) ∧ (xs.length = 2 ∨ xs.length = 3) ∧ h0.size ≤ r
set_option maxRecDepth 65536 in
set_option maxHeartbeats 40000000 in
theorem rmAA22 (l : Launch) (Z : State) (a0 : Array Value) (hw : ∀ d ∈ tables_1, d.before a0 Z = true) (ws : List Jvm.Cond) (kx1 : Addr) (kx2 : Addr) (kc : ClassId) (kd : ClassId) (u0 : Int32) (u1 : Int32) (w0 : Int32) (w1 : Int32) (h0 : Heap) (n0 : Nat) (Z0 : n0 ≤ h0.size) (pA1 : Ary Z h0 kx1 kc .int [(.int u0), (.int u1)]) (pA2 : Ary Z h0 kx2 kd .int [(.int w0), (.int w1)]) :
    Con l Z (⟨"java/math/BigInteger", "add", "([I[I)[I"⟩ : MethodName) jdk_2097_method_35_code 9 (some (.array (.int))) ws ({ frames := 1, cells := 2, slots := 7, locals := 32 } : Room) #[(.ref kx1), (.ref kx2)] h0 (({ frames := 1, cells := 2, slots := 7, locals := 32 } : Room).cells) (({ frames := 1, cells := 2, slots := 7, locals := 32 } : Room).slots) (Q_rmAA22 Z kx1 kx2 kc kd u0 u1 w0 w1 h0 n0) := by
  refine Con.of (plainFor_of_name pn1) ?_
  intro p e s m below meth c s₁ hx hby hml hown hnm hret hlk hZ X0 e0
  have N0 := Fr.nil n0
  refine goE (L := #[.val (.ref kx1), .val (.ref kx2), .unset, .unset, .unset, .unset, .unset, .unset, .unset]) (ef6 m kx1 kx2) ?_
  refine gAloadN X0 hx (hb hby d10_0) (q := 1) rfl rfl rfl ?_
  refine gLen X0 hx hZ e0 pA1 (n := (2 : Int32)) rfl (hb hby d10_1) (q := 2) rfl ?_
  refine gAloadN X0 hx (hb hby d10_2) (q := 3) rfl rfl rfl ?_
  refine gLen X0 hx hZ e0 pA2 (n := (2 : Int32)) rfl (hb hby d10_3) (q := 4) rfl ?_
  refine gIcmpY X0 hx (hb hby d10_4) (q := 13) (by decide) (by decide) (XT.ii_ge_t (by decide)) ?_
  refine gAloadN X0 hx (hb hby d10_13) (q := 14) rfl rfl rfl ?_
  refine gLen X0 hx hZ e0 pA1 (n := (2 : Int32)) rfl (hb hby d10_14) (q := 15) rfl ?_
  refine gIstoreN X0 hx (hb hby d10_15) (q := 16) rfl (L' := #[.val (.ref kx1), .val (.ref kx2), .val (.int (2 : Int32)), .unset, .unset, .unset, .unset, .unset, .unset]) rfl ?_
  refine gAloadN X0 hx (hb hby d10_16) (q := 17) rfl rfl rfl ?_
  refine gLen X0 hx hZ e0 pA2 (n := (2 : Int32)) rfl (hb hby d10_17) (q := 18) rfl ?_
  refine gIstoreN X0 hx (hb hby d10_18) (q := 19) rfl (L' := #[.val (.ref kx1), .val (.ref kx2), .val (.int (2 : Int32)), .val (.int (2 : Int32)), .unset, .unset, .unset, .unset, .unset]) rfl ?_
  refine gIloadN X0 hx (hb hby d10_19) (q := 20) rfl rfl ?_
  refine gNewP X0 hx hZ (hw _ (List.mem_of_getElem? (i := 50) rfl)) e0 (hb hby d10_20) (q := 22) rfl (by decide) (cap := 2) (by decide) (by decide) (by decide) (by decide) (fun T1 h1 a1 k1 X1 e1 g1 E1 A1 => ?_)
  have A2 := Ary.ext E1 pA1
  have A3 := Ary.ext E1 pA2
  have ge_a1 : h0.size ≤ a1 := by rw [g1]; exact (Keep.refl h0 []).1
  have K4 := (Keep.refl h0 []).ext E1
  have le_a1 : n0 ≤ a1 := by rw [g1]; exact Z0
  have ne_kx1_a1 : kx1 ≠ a1 := by rw [g1]; exact Nat.ne_of_lt pA1.lt
  have ne_kx2_a1 : kx2 ≠ a1 := by rw [g1]; exact Nat.ne_of_lt pA2.lt
  have Z5 := Nat.le_trans Z0 E1.1
  have B1 : Ary Z h1 a1 k1 (.int) [(.int (0 : Int32)), (.int (0 : Int32))] := A1
  refine gAstore X1 hx (hb hby d10_22) (q := 24) rfl rfl (L' := #[.val (.ref kx1), .val (.ref kx2), .val (.int (2 : Int32)), .val (.int (2 : Int32)), .val (.ref a1), .unset, .unset, .unset, .unset]) rfl ?_
  refine gLconst X1 hx (0 : Int64) (hb hby d10_24) (q := 25) rfl (by decide) ?_
  refine gLstore X1 hx (hb hby d10_25) (q := 27) rfl (L' := #[.val (.ref kx1), .val (.ref kx2), .val (.int (2 : Int32)), .val (.int (2 : Int32)), .val (.ref a1), .val (.long (0 : Int64)), .second, .unset, .unset]) rfl ?_
  refine gIloadN X1 hx (hb hby d10_27) (q := 28) rfl rfl ?_
  refine gIconst X1 hx (1 : Int32) (hb hby d10_28) (q := 29) rfl (by decide) ?_
  refine gIcmpY X1 hx (hb hby d10_29) (q := 64) (by decide) (by decide) (XT.ii_ne_t (by decide)) ?_
  refine gIloadN X1 hx (hb hby d10_64) (q := 65) rfl rfl ?_
  refine gIfN X1 hx (hb hby d10_65) (q := 68) rfl (XT.i0_le_f (by decide)) ?_
  refine gAloadN X1 hx (hb hby d10_68) (q := 69) rfl rfl rfl ?_
  refine gIinc X1 hx (-1 : Int32) (hb hby d10_69) (q := 72) rfl (by decide) rfl (L' := #[.val (.ref kx1), .val (.ref kx2), .val (.int (1 : Int32)), .val (.int (2 : Int32)), .val (.ref a1), .val (.long (0 : Int64)), .second, .unset, .unset]) rfl ?_
  refine gIloadN X1 hx (hb hby d10_72) (q := 73) rfl rfl ?_
  refine gIaload X1 hx hZ e1 A2 (hb hby d10_73) (q := 74) rfl (show ¬ (((1 : Int32) : Int32) < 0 ∨ 2 ≤ ((1 : Int32) : Int32).toNatClampNeg) by decide) (v := .int u1) rfl ?_
  refine gI2l X1 hx (hb hby d10_74) (q := 75) rfl ?_
  refine gLdc2 X1 hx hZ hown (hw _ (List.mem_of_getElem? (i := 61) rfl)) (hb hby d10_75) (q := 78) rfl ?_
  refine gLand X1 hx (hb hby d10_78) (q := 79) rfl ?_
  refine gAloadN X1 hx (hb hby d10_79) (q := 80) rfl rfl rfl ?_
  refine gIinc X1 hx (-1 : Int32) (hb hby d10_80) (q := 83) rfl (by decide) rfl (L' := #[.val (.ref kx1), .val (.ref kx2), .val (.int (1 : Int32)), .val (.int (1 : Int32)), .val (.ref a1), .val (.long (0 : Int64)), .second, .unset, .unset]) rfl ?_
  refine gIloadN X1 hx (hb hby d10_83) (q := 84) rfl rfl ?_
  refine gIaload X1 hx hZ e1 A3 (hb hby d10_84) (q := 85) rfl (show ¬ (((1 : Int32) : Int32) < 0 ∨ 2 ≤ ((1 : Int32) : Int32).toNatClampNeg) by decide) (v := .int w1) rfl ?_
  refine gI2l X1 hx (hb hby d10_85) (q := 86) rfl ?_
  refine gLdc2 X1 hx hZ hown (hw _ (List.mem_of_getElem? (i := 61) rfl)) (hb hby d10_86) (q := 89) rfl ?_
  refine gLand X1 hx (hb hby d10_89) (q := 90) rfl ?_
  refine gLadd X1 hx (hb hby d10_90) (q := 91) rfl ?_
  refine gLload X1 hx (hb hby d10_91) (q := 93) rfl rfl ?_
  refine gBipush X1 hx (32 : Int32) (hb hby d10_93) (q := 95) rfl (by decide) ?_
  refine gLushr X1 hx (hb hby d10_95) (q := 96) rfl ?_
  refine gLadd X1 hx (hb hby d10_96) (q := 97) rfl ?_
  refine gLstore X1 hx (hb hby d10_97) (q := 99) rfl (L' := #[.val (.ref kx1), .val (.ref kx2), .val (.int (1 : Int32)), .val (.int (1 : Int32)), .val (.ref a1), .val (.long ((((u1.toInt64) &&& (4294967295 : Int64)) + ((w1.toInt64) &&& (4294967295 : Int64))) + (XT.ushrL (0 : Int64) (32 : Int32)))), .second, .unset, .unset]) rfl ?_
  refine gAload X1 hx (hb hby d10_99) (q := 101) rfl rfl rfl ?_
  refine gIloadN X1 hx (hb hby d10_101) (q := 102) rfl rfl ?_
  refine gLload X1 hx (hb hby d10_102) (q := 104) rfl rfl ?_
  refine gL2i X1 hx (hb hby d10_104) (q := 105) rfl ?_
  refine gIastore X1 hx hZ e1 B1 (hb hby d10_105) (q := 106) rfl (show ¬ (((1 : Int32) : Int32) < 0 ∨ 2 ≤ ((1 : Int32) : Int32).toNatClampNeg) by decide) (fun T6 h6 X6 e6 W6 A6 => ?_)
  have B6 : Ary Z h6 a1 k1 (.int) [(.int (0 : Int32)), (.int (((((u1.toInt64) &&& (4294967295 : Int64)) + ((w1.toInt64) &&& (4294967295 : Int64))) + (XT.ushrL (0 : Int64) (32 : Int32))).toInt32))] := A6
  have N7 := Fr.snoc X6 N0 le_a1
  have K8 := K4.wr W6 (Or.inr ge_a1)
  have A9 := Ary.other W6 A2 ne_kx1_a1
  have A10 := Ary.other W6 A3 ne_kx2_a1
  have Z12 : n0 ≤ h6.size := by rw [W6.size]; exact Z5
  refine gGoto X6 hx (hb hby d10_106) (q := 64) (by decide) (by decide) ?_
  refine gIloadN X6 hx (hb hby d10_64) (q := 65) rfl rfl ?_
  refine gIfN X6 hx (hb hby d10_65) (q := 68) rfl (XT.i0_le_f (by decide)) ?_
  refine gAloadN X6 hx (hb hby d10_68) (q := 69) rfl rfl rfl ?_
  refine gIinc X6 hx (-1 : Int32) (hb hby d10_69) (q := 72) rfl (by decide) rfl (L' := #[.val (.ref kx1), .val (.ref kx2), .val (.int (0 : Int32)), .val (.int (1 : Int32)), .val (.ref a1), .val (.long ((((u1.toInt64) &&& (4294967295 : Int64)) + ((w1.toInt64) &&& (4294967295 : Int64))) + (XT.ushrL (0 : Int64) (32 : Int32)))), .second, .unset, .unset]) rfl ?_
  refine gIloadN X6 hx (hb hby d10_72) (q := 73) rfl rfl ?_
  refine gIaload X6 hx hZ e6 A9 (hb hby d10_73) (q := 74) rfl (show ¬ (((0 : Int32) : Int32) < 0 ∨ 2 ≤ ((0 : Int32) : Int32).toNatClampNeg) by decide) (v := .int u0) rfl ?_
  refine gI2l X6 hx (hb hby d10_74) (q := 75) rfl ?_
  refine gLdc2 X6 hx hZ hown (hw _ (List.mem_of_getElem? (i := 61) rfl)) (hb hby d10_75) (q := 78) rfl ?_
  refine gLand X6 hx (hb hby d10_78) (q := 79) rfl ?_
  refine gAloadN X6 hx (hb hby d10_79) (q := 80) rfl rfl rfl ?_
  refine gIinc X6 hx (-1 : Int32) (hb hby d10_80) (q := 83) rfl (by decide) rfl (L' := #[.val (.ref kx1), .val (.ref kx2), .val (.int (0 : Int32)), .val (.int (0 : Int32)), .val (.ref a1), .val (.long ((((u1.toInt64) &&& (4294967295 : Int64)) + ((w1.toInt64) &&& (4294967295 : Int64))) + (XT.ushrL (0 : Int64) (32 : Int32)))), .second, .unset, .unset]) rfl ?_
  refine gIloadN X6 hx (hb hby d10_83) (q := 84) rfl rfl ?_
  refine gIaload X6 hx hZ e6 A10 (hb hby d10_84) (q := 85) rfl (show ¬ (((0 : Int32) : Int32) < 0 ∨ 2 ≤ ((0 : Int32) : Int32).toNatClampNeg) by decide) (v := .int w0) rfl ?_
  refine gI2l X6 hx (hb hby d10_85) (q := 86) rfl ?_
  refine gLdc2 X6 hx hZ hown (hw _ (List.mem_of_getElem? (i := 61) rfl)) (hb hby d10_86) (q := 89) rfl ?_
  refine gLand X6 hx (hb hby d10_89) (q := 90) rfl ?_
  refine gLadd X6 hx (hb hby d10_90) (q := 91) rfl ?_
  refine gLload X6 hx (hb hby d10_91) (q := 93) rfl rfl ?_
  refine gBipush X6 hx (32 : Int32) (hb hby d10_93) (q := 95) rfl (by decide) ?_
  refine gLushr X6 hx (hb hby d10_95) (q := 96) rfl ?_
  refine gLadd X6 hx (hb hby d10_96) (q := 97) rfl ?_
  refine gLstore X6 hx (hb hby d10_97) (q := 99) rfl (L' := #[.val (.ref kx1), .val (.ref kx2), .val (.int (0 : Int32)), .val (.int (0 : Int32)), .val (.ref a1), .val (.long ((((u0.toInt64) &&& (4294967295 : Int64)) + ((w0.toInt64) &&& (4294967295 : Int64))) + (XT.ushrL ((((u1.toInt64) &&& (4294967295 : Int64)) + ((w1.toInt64) &&& (4294967295 : Int64))) + (XT.ushrL (0 : Int64) (32 : Int32))) (32 : Int32)))), .second, .unset, .unset]) rfl ?_
  refine gAload X6 hx (hb hby d10_99) (q := 101) rfl rfl rfl ?_
  refine gIloadN X6 hx (hb hby d10_101) (q := 102) rfl rfl ?_
  refine gLload X6 hx (hb hby d10_102) (q := 104) rfl rfl ?_
  refine gL2i X6 hx (hb hby d10_104) (q := 105) rfl ?_
  refine gIastore X6 hx hZ e6 B6 (hb hby d10_105) (q := 106) rfl (show ¬ (((0 : Int32) : Int32) < 0 ∨ 2 ≤ ((0 : Int32) : Int32).toNatClampNeg) by decide) (fun T13 h13 X13 e13 W13 A13 => ?_)
  have B13 : Ary Z h13 a1 k1 (.int) [(.int (((((u0.toInt64) &&& (4294967295 : Int64)) + ((w0.toInt64) &&& (4294967295 : Int64))) + (XT.ushrL ((((u1.toInt64) &&& (4294967295 : Int64)) + ((w1.toInt64) &&& (4294967295 : Int64))) + (XT.ushrL (0 : Int64) (32 : Int32))) (32 : Int32))).toInt32)), (.int (((((u1.toInt64) &&& (4294967295 : Int64)) + ((w1.toInt64) &&& (4294967295 : Int64))) + (XT.ushrL (0 : Int64) (32 : Int32))).toInt32))] := A13
  have N14 := Fr.snoc X13 N7 le_a1
  have K15 := K8.wr W13 (Or.inr ge_a1)
  have A16 := Ary.other W13 A9 ne_kx1_a1
  have A17 := Ary.other W13 A10 ne_kx2_a1
  have Z19 : n0 ≤ h13.size := by rw [W13.size]; exact Z12
  refine gGoto X13 hx (hb hby d10_106) (q := 64) (by decide) (by decide) ?_
  refine gIloadN X13 hx (hb hby d10_64) (q := 65) rfl rfl ?_
  refine gIfY X13 hx (hb hby d10_65) (q := 109) (by decide) (by decide) (XT.i0_le_t (by decide)) ?_
  refine gLload X13 hx (hb hby d10_109) (q := 111) rfl rfl ?_
  refine gBipush X13 hx (32 : Int32) (hb hby d10_111) (q := 113) rfl (by decide) ?_
  refine gLushr X13 hx (hb hby d10_113) (q := 114) rfl ?_
  refine gLconst X13 hx (0 : Int64) (hb hby d10_114) (q := 115) rfl (by decide) ?_
  refine gLcmp X13 hx (hb hby d10_115) (q := 116) rfl ?_
  by_cases c20 : (XT.ushrL ((((u0.toInt64) &&& (4294967295 : Int64)) + ((w0.toInt64) &&& (4294967295 : Int64))) + (XT.ushrL ((((u1.toInt64) &&& (4294967295 : Int64)) + ((w1.toInt64) &&& (4294967295 : Int64))) + (XT.ushrL (0 : Int64) (32 : Int32))) (32 : Int32))) (32 : Int32)) = (0 : Int64)
  · refine gIfY X13 hx (hb hby d10_116) (q := 123) (by decide) (by decide) (XT.ll_eq_t c20) ?_
    refine gIconst X13 hx (0 : Int32) (hb hby d10_123) (q := 124) rfl (by decide) ?_
    refine gIstore X13 hx (hb hby d10_124) (q := 126) rfl (L' := #[.val (.ref kx1), .val (.ref kx2), .val (.int (0 : Int32)), .val (.int (0 : Int32)), .val (.ref a1), .val (.long ((((u0.toInt64) &&& (4294967295 : Int64)) + ((w0.toInt64) &&& (4294967295 : Int64))) + (XT.ushrL ((((u1.toInt64) &&& (4294967295 : Int64)) + ((w1.toInt64) &&& (4294967295 : Int64))) + (XT.ushrL (0 : Int64) (32 : Int32))) (32 : Int32)))), .second, .val (.int (0 : Int32)), .unset]) rfl ?_
    refine gIloadN X13 hx (hb hby d10_126) (q := 127) rfl rfl ?_
    refine gIfY X13 hx (hb hby d10_127) (q := 161) (by decide) (by decide) (XT.i0_le_t (by decide)) ?_
    refine gIloadN X13 hx (hb hby d10_161) (q := 162) rfl rfl ?_
    refine gIfY X13 hx (hb hby d10_162) (q := 178) (by decide) (by decide) (XT.i0_le_t (by decide)) ?_
    refine gIload X13 hx (hb hby d10_178) (q := 180) rfl rfl ?_
    refine gIfY X13 hx (hb hby d10_180) (q := 212) (by decide) (by decide) (XT.i0_eq_t (by decide)) ?_
    refine gAload X13 hx (hb hby d10_212) (q := 214) rfl rfl rfl ?_
    exact gRetA X13 hx hlk hret rfl rfl (hb hby d10_214) (by decide) (by decide) (by rw [e13]; exact ⟨_, _, [(((((u0.toInt64) &&& (4294967295 : Int64)) + ((w0.toInt64) &&& (4294967295 : Int64))) + (XT.ushrL ((((u1.toInt64) &&& (4294967295 : Int64)) + ((w1.toInt64) &&& (4294967295 : Int64))) + (XT.ushrL (0 : Int64) (32 : Int32))) (32 : Int32))).toInt32), (((((u1.toInt64) &&& (4294967295 : Int64)) + ((w1.toInt64) &&& (4294967295 : Int64))) + (XT.ushrL (0 : Int64) (32 : Int32))).toInt32)], rfl, N14, K15, B13, Or.inl rfl, ge_a1⟩)
  · refine gIfN X13 hx (hb hby d10_116) (q := 119) rfl (XT.ll_eq_f c20) ?_
    refine gIconst X13 hx (1 : Int32) (hb hby d10_119) (q := 120) rfl (by decide) ?_
    refine gGoto X13 hx (hb hby d10_120) (q := 124) (by decide) (by decide) ?_
    refine gIstore X13 hx (hb hby d10_124) (q := 126) rfl (L' := #[.val (.ref kx1), .val (.ref kx2), .val (.int (0 : Int32)), .val (.int (0 : Int32)), .val (.ref a1), .val (.long ((((u0.toInt64) &&& (4294967295 : Int64)) + ((w0.toInt64) &&& (4294967295 : Int64))) + (XT.ushrL ((((u1.toInt64) &&& (4294967295 : Int64)) + ((w1.toInt64) &&& (4294967295 : Int64))) + (XT.ushrL (0 : Int64) (32 : Int32))) (32 : Int32)))), .second, .val (.int (1 : Int32)), .unset]) rfl ?_
    refine gIloadN X13 hx (hb hby d10_126) (q := 127) rfl rfl ?_
    refine gIfY X13 hx (hb hby d10_127) (q := 161) (by decide) (by decide) (XT.i0_le_t (by decide)) ?_
    refine gIloadN X13 hx (hb hby d10_161) (q := 162) rfl rfl ?_
    refine gIfY X13 hx (hb hby d10_162) (q := 178) (by decide) (by decide) (XT.i0_le_t (by decide)) ?_
    refine gIload X13 hx (hb hby d10_178) (q := 180) rfl rfl ?_
    refine gIfN X13 hx (hb hby d10_180) (q := 183) rfl (XT.i0_eq_f (by decide)) ?_
    refine gAload X13 hx (hb hby d10_183) (q := 185) rfl rfl rfl ?_
    refine gLen X13 hx hZ e13 B13 (n := (2 : Int32)) rfl (hb hby d10_185) (q := 186) rfl ?_
    refine gIconst X13 hx (1 : Int32) (hb hby d10_186) (q := 187) rfl (by decide) ?_
    refine gIadd X13 hx (hb hby d10_187) (q := 188) rfl ?_
    rw [show ((2 : Int32) + (1 : Int32)) = (3 : Int32) from by decide]
    refine gNewP X13 hx hZ (hw _ (List.mem_of_getElem? (i := 50) rfl)) e13 (hb hby d10_188) (q := 190) rfl (by decide) (cap := 3) (by decide) (by decide) (by decide) (by decide) (fun T21 h21 a21 k21 X21 e21 g21 E21 A21 => ?_)
    have A22 := Ary.ext E21 A16
    have A23 := Ary.ext E21 A17
    have A24 := Ary.ext E21 B13
    have ge_a21 : h0.size ≤ a21 := by rw [g21]; exact K15.1
    have K25 := K15.ext E21
    have le_a21 : n0 ≤ a21 := by rw [g21]; exact Z19
    have ne_kx1_a21 : kx1 ≠ a21 := by rw [g21]; exact Nat.ne_of_lt A16.lt
    have ne_kx2_a21 : kx2 ≠ a21 := by rw [g21]; exact Nat.ne_of_lt A17.lt
    have ne_a1_a21 : a1 ≠ a21 := by rw [g21]; exact Nat.ne_of_lt B13.lt
    have Z26 := Nat.le_trans Z19 E21.1
    have B21 : Ary Z h21 a21 k21 (.int) [(.int (0 : Int32)), (.int (0 : Int32)), (.int (0 : Int32))] := A21
    refine gAstore X21 hx (hb hby d10_190) (q := 192) rfl rfl (L' := #[.val (.ref kx1), .val (.ref kx2), .val (.int (0 : Int32)), .val (.int (0 : Int32)), .val (.ref a1), .val (.long ((((u0.toInt64) &&& (4294967295 : Int64)) + ((w0.toInt64) &&& (4294967295 : Int64))) + (XT.ushrL ((((u1.toInt64) &&& (4294967295 : Int64)) + ((w1.toInt64) &&& (4294967295 : Int64))) + (XT.ushrL (0 : Int64) (32 : Int32))) (32 : Int32)))), .second, .val (.int (1 : Int32)), .val (.ref a21)]) rfl ?_
    refine gAload X21 hx (hb hby d10_192) (q := 194) rfl rfl rfl ?_
    refine gIconst X21 hx (0 : Int32) (hb hby d10_194) (q := 195) rfl (by decide) ?_
    refine gAload X21 hx (hb hby d10_195) (q := 197) rfl rfl rfl ?_
    refine gIconst X21 hx (1 : Int32) (hb hby d10_197) (q := 198) rfl (by decide) ?_
    refine gAload X21 hx (hb hby d10_198) (q := 200) rfl rfl rfl ?_
    refine gLen X21 hx hZ e21 A24 (n := (2 : Int32)) rfl (hb hby d10_200) (q := 201) rfl ?_
    refine gCopyI X21 hx hZ hown (hw _ (List.mem_of_getElem? (i := 67) rfl)) (hw _ (List.mem_of_getElem? (i := 70) rfl)) (hw _ (List.mem_of_getElem? (i := 68) rfl)) (hw _ (List.mem_of_getElem? (i := 69) rfl)) e21 A24 B21 (by intro v hv; simp only [List.mem_cons, List.not_mem_nil, or_false] at hv; rcases hv with rfl | rfl <;> rfl) (by intro v hv; simp only [List.mem_cons, List.not_mem_nil, or_false] at hv; rcases hv with rfl | rfl | rfl <;> rfl) (j1 := (0 : Int32)) (j2 := (1 : Int32)) (n := (2 : Int32)) (by decide) (by decide) (by decide) (show ¬ ((0 : Int32) : Int32).toInt + ((2 : Int32) : Int32).toInt > ((2 : Nat) : Int) by decide) (show ¬ ((1 : Int32) : Int32).toInt + ((2 : Int32) : Int32).toInt > ((3 : Nat) : Int) by decide) (show ((0 : Int32) : Int32).toNatClampNeg + ((2 : Int32) : Int32).toNatClampNeg ≤ 2 by decide) (show ((1 : Int32) : Int32).toNatClampNeg + ((2 : Int32) : Int32).toNatClampNeg ≤ 3 by decide) (by rw [hml]; rfl) (hb hby d10_201) (q := 204) rfl (by decide) (W := 0) (Nat.le_of_eq rfl) (by decide) (fun T27 h27 xs27 X27 e27 K27 l27 A27 => ?_)
    obtain ⟨z27_0, z27_1, z27_2, rfl⟩ := own_l3 l27
    have B27 : Ary Z h27 a21 k21 (.int) [(.int z27_0), (.int z27_1), (.int z27_2)] := A27
    have N28 := Fr.app N14 (fun y hy => by rw [copyLocs_base hy]; exact le_a21 : Fr n0 (copyLocs a21 ((1 : Int32) : Int32).toNatClampNeg ((2 : Int32) : Int32).toNatClampNeg))
    have A29 := Ary.keep A22 K27 (ninS ne_kx1_a21 nin0)
    have A30 := Ary.keep A23 K27 (ninS ne_kx2_a21 nin0)
    have A31 := Ary.keep A24 K27 (ninS ne_a1_a21 nin0)
    have Z32 := Nat.le_trans Z26 K27.1
    have KK33 := K25.trans K27 (allS (Or.inr ge_a21) all0)
    refine gAload X27 hx (hb hby d10_204) (q := 206) rfl rfl rfl ?_
    refine gIconst X27 hx (0 : Int32) (hb hby d10_206) (q := 207) rfl (by decide) ?_
    refine gIconst X27 hx (1 : Int32) (hb hby d10_207) (q := 208) rfl (by decide) ?_
    refine gIastore X27 hx hZ e27 B27 (hb hby d10_208) (q := 209) rfl (show ¬ (((0 : Int32) : Int32) < 0 ∨ 3 ≤ ((0 : Int32) : Int32).toNatClampNeg) by decide) (fun T34 h34 X34 e34 W34 A34 => ?_)
    have B34 : Ary Z h34 a21 k21 (.int) [(.int (1 : Int32)), (.int z27_1), (.int z27_2)] := A34
    have N35 := Fr.snoc X34 N28 le_a21
    have K36 := KK33.wr W34 (Or.inr ge_a21)
    have A37 := Ary.other W34 A29 ne_kx1_a21
    have A38 := Ary.other W34 A30 ne_kx2_a21
    have A39 := Ary.other W34 A31 ne_a1_a21
    have Z41 : n0 ≤ h34.size := by rw [W34.size]; exact Z32
    refine gAload X34 hx (hb hby d10_209) (q := 211) rfl rfl rfl ?_
    exact gRetA X34 hx hlk hret rfl rfl (hb hby d10_211) (by decide) (by decide) (by rw [e34]; exact ⟨_, _, [(1 : Int32), z27_1, z27_2], rfl, N35, K36, B34, Or.inr rfl, ge_a21⟩)
theorem ef7 (m : MethodId) (x0 : Addr) (x1 : Addr) : entryFrame m #[(.ref x0), (.ref x1)] 9 = mkF m 0 #[.val (.ref x0), .val (.ref x1), .unset, .unset, .unset, .unset, .unset, .unset, .unset] [] := by first | (simp [entryFrame, mkF, argsToLocals, Value.category]; done) | rfl
def Q_rmAA31 (Z : State) (kx1 : Addr) (kx2 : Addr) (kc : ClassId) (kd : ClassId) (u0 : Int32) (u1 : Int32) (u2 : Int32) (w0 : Int32) (h0 : Heap) (n0 : Nat) (v : Option Value) (h : Heap) (L : List Loc) : Prop := ∃ r kr xs, v = some (.ref r) ∧ Fr n0 L ∧ Keep h0 h [] ∧ Ary Z h r kr .int (List.map Value.int xs) ∧ (xs.length = 3 ∨ xs.length = 4) ∧ h0.size ≤ r
set_option maxRecDepth 65536 in
set_option maxHeartbeats 40000000 in
theorem rmAA31 (l : Launch) (Z : State) (a0 : Array Value) (hw : ∀ d ∈ tables_1, d.before a0 Z = true) (ws : List Jvm.Cond) (kx1 : Addr) (kx2 : Addr) (kc : ClassId) (kd : ClassId) (u0 : Int32) (u1 : Int32) (u2 : Int32) (w0 : Int32) (h0 : Heap) (n0 : Nat) (Z0 : n0 ≤ h0.size) (pA1 : Ary Z h0 kx1 kc .int [(.int u0), (.int u1), (.int u2)]) (pA2 : Ary Z h0 kx2 kd .int [(.int w0)]) :
    Con l Z (⟨"java/math/BigInteger", "add", "([I[I)[I"⟩ : MethodName) jdk_2097_method_35_code 9 (some (.array (.int))) ws ({ frames := 1, cells := 2, slots := 7, locals := 32 } : Room) #[(.ref kx1), (.ref kx2)] h0 (({ frames := 1, cells := 2, slots := 7, locals := 32 } : Room).cells) (({ frames := 1, cells := 2, slots := 7, locals := 32 } : Room).slots) (Q_rmAA31 Z kx1 kx2 kc kd u0 u1 u2 w0 h0 n0) := by
  refine Con.of (plainFor_of_name pn1) ?_
  intro p e s m below meth c s₁ hx hby hml hown hnm hret hlk hZ X0 e0
  have N0 := Fr.nil n0
  refine goE (L := #[.val (.ref kx1), .val (.ref kx2), .unset, .unset, .unset, .unset, .unset, .unset, .unset]) (ef7 m kx1 kx2) ?_
  refine gAloadN X0 hx (hb hby d10_0) (q := 1) rfl rfl rfl ?_
  refine gLen X0 hx hZ e0 pA1 (n := (3 : Int32)) rfl (hb hby d10_1) (q := 2) rfl ?_
  refine gAloadN X0 hx (hb hby d10_2) (q := 3) rfl rfl rfl ?_
  refine gLen X0 hx hZ e0 pA2 (n := (1 : Int32)) rfl (hb hby d10_3) (q := 4) rfl ?_
  refine gIcmpY X0 hx (hb hby d10_4) (q := 13) (by decide) (by decide) (XT.ii_ge_t (by decide)) ?_
  refine gAloadN X0 hx (hb hby d10_13) (q := 14) rfl rfl rfl ?_
  refine gLen X0 hx hZ e0 pA1 (n := (3 : Int32)) rfl (hb hby d10_14) (q := 15) rfl ?_
  refine gIstoreN X0 hx (hb hby d10_15) (q := 16) rfl (L' := #[.val (.ref kx1), .val (.ref kx2), .val (.int (3 : Int32)), .unset, .unset, .unset, .unset, .unset, .unset]) rfl ?_
  refine gAloadN X0 hx (hb hby d10_16) (q := 17) rfl rfl rfl ?_
  refine gLen X0 hx hZ e0 pA2 (n := (1 : Int32)) rfl (hb hby d10_17) (q := 18) rfl ?_
  refine gIstoreN X0 hx (hb hby d10_18) (q := 19) rfl (L' := #[.val (.ref kx1), .val (.ref kx2), .val (.int (3 : Int32)), .val (.int (1 : Int32)), .unset, .unset, .unset, .unset, .unset]) rfl ?_
  refine gIloadN X0 hx (hb hby d10_19) (q := 20) rfl rfl ?_
  refine gNewP X0 hx hZ (hw _ (List.mem_of_getElem? (i := 50) rfl)) e0 (hb hby d10_20) (q := 22) rfl (by decide) (cap := 3) (by decide) (by decide) (by decide) (by decide) (fun T1 h1 a1 k1 X1 e1 g1 E1 A1 => ?_)
  have A2 := Ary.ext E1 pA1
  have A3 := Ary.ext E1 pA2
  have ge_a1 : h0.size ≤ a1 := by rw [g1]; exact (Keep.refl h0 []).1
  have K4 := (Keep.refl h0 []).ext E1
  have le_a1 : n0 ≤ a1 := by rw [g1]; exact Z0
  have ne_kx1_a1 : kx1 ≠ a1 := by rw [g1]; exact Nat.ne_of_lt pA1.lt
  have ne_kx2_a1 : kx2 ≠ a1 := by rw [g1]; exact Nat.ne_of_lt pA2.lt
  have Z5 := Nat.le_trans Z0 E1.1
  have B1 : Ary Z h1 a1 k1 (.int) [(.int (0 : Int32)), (.int (0 : Int32)), (.int (0 : Int32))] := A1
  refine gAstore X1 hx (hb hby d10_22) (q := 24) rfl rfl (L' := #[.val (.ref kx1), .val (.ref kx2), .val (.int (3 : Int32)), .val (.int (1 : Int32)), .val (.ref a1), .unset, .unset, .unset, .unset]) rfl ?_
  refine gLconst X1 hx (0 : Int64) (hb hby d10_24) (q := 25) rfl (by decide) ?_
  refine gLstore X1 hx (hb hby d10_25) (q := 27) rfl (L' := #[.val (.ref kx1), .val (.ref kx2), .val (.int (3 : Int32)), .val (.int (1 : Int32)), .val (.ref a1), .val (.long (0 : Int64)), .second, .unset, .unset]) rfl ?_
  refine gIloadN X1 hx (hb hby d10_27) (q := 28) rfl rfl ?_
  refine gIconst X1 hx (1 : Int32) (hb hby d10_28) (q := 29) rfl (by decide) ?_
  refine gIcmpN X1 hx (hb hby d10_29) (q := 32) rfl (XT.ii_ne_f (by decide)) ?_
  refine gAloadN X1 hx (hb hby d10_32) (q := 33) rfl rfl rfl ?_
  refine gIinc X1 hx (-1 : Int32) (hb hby d10_33) (q := 36) rfl (by decide) rfl (L' := #[.val (.ref kx1), .val (.ref kx2), .val (.int (2 : Int32)), .val (.int (1 : Int32)), .val (.ref a1), .val (.long (0 : Int64)), .second, .unset, .unset]) rfl ?_
  refine gIloadN X1 hx (hb hby d10_36) (q := 37) rfl rfl ?_
  refine gIaload X1 hx hZ e1 A2 (hb hby d10_37) (q := 38) rfl (show ¬ (((2 : Int32) : Int32) < 0 ∨ 3 ≤ ((2 : Int32) : Int32).toNatClampNeg) by decide) (v := .int u2) rfl ?_
  refine gI2l X1 hx (hb hby d10_38) (q := 39) rfl ?_
  refine gLdc2 X1 hx hZ hown (hw _ (List.mem_of_getElem? (i := 61) rfl)) (hb hby d10_39) (q := 42) rfl ?_
  refine gLand X1 hx (hb hby d10_42) (q := 43) rfl ?_
  refine gAloadN X1 hx (hb hby d10_43) (q := 44) rfl rfl rfl ?_
  refine gIconst X1 hx (0 : Int32) (hb hby d10_44) (q := 45) rfl (by decide) ?_
  refine gIaload X1 hx hZ e1 A3 (hb hby d10_45) (q := 46) rfl (show ¬ (((0 : Int32) : Int32) < 0 ∨ 1 ≤ ((0 : Int32) : Int32).toNatClampNeg) by decide) (v := .int w0) rfl ?_
  refine gI2l X1 hx (hb hby d10_46) (q := 47) rfl ?_
  refine gLdc2 X1 hx hZ hown (hw _ (List.mem_of_getElem? (i := 61) rfl)) (hb hby d10_47) (q := 50) rfl ?_
  refine gLand X1 hx (hb hby d10_50) (q := 51) rfl ?_
  refine gLadd X1 hx (hb hby d10_51) (q := 52) rfl ?_
  refine gLstore X1 hx (hb hby d10_52) (q := 54) rfl (L' := #[.val (.ref kx1), .val (.ref kx2), .val (.int (2 : Int32)), .val (.int (1 : Int32)), .val (.ref a1), .val (.long (((u2.toInt64) &&& (4294967295 : Int64)) + ((w0.toInt64) &&& (4294967295 : Int64)))), .second, .unset, .unset]) rfl ?_
  refine gAload X1 hx (hb hby d10_54) (q := 56) rfl rfl rfl ?_
  refine gIloadN X1 hx (hb hby d10_56) (q := 57) rfl rfl ?_
  refine gLload X1 hx (hb hby d10_57) (q := 59) rfl rfl ?_
  refine gL2i X1 hx (hb hby d10_59) (q := 60) rfl ?_
  refine gIastore X1 hx hZ e1 B1 (hb hby d10_60) (q := 61) rfl (show ¬ (((2 : Int32) : Int32) < 0 ∨ 3 ≤ ((2 : Int32) : Int32).toNatClampNeg) by decide) (fun T6 h6 X6 e6 W6 A6 => ?_)
  have B6 : Ary Z h6 a1 k1 (.int) [(.int (0 : Int32)), (.int (0 : Int32)), (.int ((((u2.toInt64) &&& (4294967295 : Int64)) + ((w0.toInt64) &&& (4294967295 : Int64))).toInt32))] := A6
  have N7 := Fr.snoc X6 N0 le_a1
  have K8 := K4.wr W6 (Or.inr ge_a1)
  have A9 := Ary.other W6 A2 ne_kx1_a1
  have A10 := Ary.other W6 A3 ne_kx2_a1
  have Z12 : n0 ≤ h6.size := by rw [W6.size]; exact Z5
  refine gGoto X6 hx (hb hby d10_61) (q := 109) (by decide) (by decide) ?_
  refine gLload X6 hx (hb hby d10_109) (q := 111) rfl rfl ?_
  refine gBipush X6 hx (32 : Int32) (hb hby d10_111) (q := 113) rfl (by decide) ?_
  refine gLushr X6 hx (hb hby d10_113) (q := 114) rfl ?_
  refine gLconst X6 hx (0 : Int64) (hb hby d10_114) (q := 115) rfl (by decide) ?_
  refine gLcmp X6 hx (hb hby d10_115) (q := 116) rfl ?_
  by_cases c13 : (XT.ushrL (((u2.toInt64) &&& (4294967295 : Int64)) + ((w0.toInt64) &&& (4294967295 : Int64))) (32 : Int32)) = (0 : Int64)
  · refine gIfY X6 hx (hb hby d10_116) (q := 123) (by decide) (by decide) (XT.ll_eq_t c13) ?_
    refine gIconst X6 hx (0 : Int32) (hb hby d10_123) (q := 124) rfl (by decide) ?_
    refine gIstore X6 hx (hb hby d10_124) (q := 126) rfl (L' := #[.val (.ref kx1), .val (.ref kx2), .val (.int (2 : Int32)), .val (.int (1 : Int32)), .val (.ref a1), .val (.long (((u2.toInt64) &&& (4294967295 : Int64)) + ((w0.toInt64) &&& (4294967295 : Int64)))), .second, .val (.int (0 : Int32)), .unset]) rfl ?_
    refine gIloadN X6 hx (hb hby d10_126) (q := 127) rfl rfl ?_
    refine gIfN X6 hx (hb hby d10_127) (q := 130) rfl (XT.i0_le_f (by decide)) ?_
    refine gIload X6 hx (hb hby d10_130) (q := 132) rfl rfl ?_
    refine gIfY X6 hx (hb hby d10_132) (q := 161) (by decide) (by decide) (XT.i0_eq_t (by decide)) ?_
    refine gIloadN X6 hx (hb hby d10_161) (q := 162) rfl rfl ?_
    refine gIfN X6 hx (hb hby d10_162) (q := 165) rfl (XT.i0_le_f (by decide)) ?_
    refine gAload X6 hx (hb hby d10_165) (q := 167) rfl rfl rfl ?_
    refine gIinc X6 hx (-1 : Int32) (hb hby d10_167) (q := 170) rfl (by decide) rfl (L' := #[.val (.ref kx1), .val (.ref kx2), .val (.int (1 : Int32)), .val (.int (1 : Int32)), .val (.ref a1), .val (.long (((u2.toInt64) &&& (4294967295 : Int64)) + ((w0.toInt64) &&& (4294967295 : Int64)))), .second, .val (.int (0 : Int32)), .unset]) rfl ?_
    refine gIloadN X6 hx (hb hby d10_170) (q := 171) rfl rfl ?_
    refine gAloadN X6 hx (hb hby d10_171) (q := 172) rfl rfl rfl ?_
    refine gIloadN X6 hx (hb hby d10_172) (q := 173) rfl rfl ?_
    refine gIaload X6 hx hZ e6 A9 (hb hby d10_173) (q := 174) rfl (show ¬ (((1 : Int32) : Int32) < 0 ∨ 3 ≤ ((1 : Int32) : Int32).toNatClampNeg) by decide) (v := .int u1) rfl ?_
    refine gIastore X6 hx hZ e6 B6 (hb hby d10_174) (q := 175) rfl (show ¬ (((1 : Int32) : Int32) < 0 ∨ 3 ≤ ((1 : Int32) : Int32).toNatClampNeg) by decide) (fun T14 h14 X14 e14 W14 A14 => ?_)
    have B14 : Ary Z h14 a1 k1 (.int) [(.int (0 : Int32)), (.int u1), (.int ((((u2.toInt64) &&& (4294967295 : Int64)) + ((w0.toInt64) &&& (4294967295 : Int64))).toInt32))] := A14
    have N15 := Fr.snoc X14 N7 le_a1
    have K16 := K8.wr W14 (Or.inr ge_a1)
    have A17 := Ary.other W14 A9 ne_kx1_a1
    have A18 := Ary.other W14 A10 ne_kx2_a1
    have Z20 : n0 ≤ h14.size := by rw [W14.size]; exact Z12
    refine gGoto X14 hx (hb hby d10_175) (q := 161) (by decide) (by decide) ?_
    refine gIloadN X14 hx (hb hby d10_161) (q := 162) rfl rfl ?_
    refine gIfN X14 hx (hb hby d10_162) (q := 165) rfl (XT.i0_le_f (by decide)) ?_
    refine gAload X14 hx (hb hby d10_165) (q := 167) rfl rfl rfl ?_
    refine gIinc X14 hx (-1 : Int32) (hb hby d10_167) (q := 170) rfl (by decide) rfl (L' := #[.val (.ref kx1), .val (.ref kx2), .val (.int (0 : Int32)), .val (.int (1 : Int32)), .val (.ref a1), .val (.long (((u2.toInt64) &&& (4294967295 : Int64)) + ((w0.toInt64) &&& (4294967295 : Int64)))), .second, .val (.int (0 : Int32)), .unset]) rfl ?_
    refine gIloadN X14 hx (hb hby d10_170) (q := 171) rfl rfl ?_
    refine gAloadN X14 hx (hb hby d10_171) (q := 172) rfl rfl rfl ?_
    refine gIloadN X14 hx (hb hby d10_172) (q := 173) rfl rfl ?_
    refine gIaload X14 hx hZ e14 A17 (hb hby d10_173) (q := 174) rfl (show ¬ (((0 : Int32) : Int32) < 0 ∨ 3 ≤ ((0 : Int32) : Int32).toNatClampNeg) by decide) (v := .int u0) rfl ?_
    refine gIastore X14 hx hZ e14 B14 (hb hby d10_174) (q := 175) rfl (show ¬ (((0 : Int32) : Int32) < 0 ∨ 3 ≤ ((0 : Int32) : Int32).toNatClampNeg) by decide) (fun T21 h21 X21 e21 W21 A21 => ?_)
    have B21 : Ary Z h21 a1 k1 (.int) [(.int u0), (.int u1), (.int ((((u2.toInt64) &&& (4294967295 : Int64)) + ((w0.toInt64) &&& (4294967295 : Int64))).toInt32))] := A21
    have N22 := Fr.snoc X21 N15 le_a1
    have K23 := K16.wr W21 (Or.inr ge_a1)
    have A24 := Ary.other W21 A17 ne_kx1_a1
    have A25 := Ary.other W21 A18 ne_kx2_a1
    have Z27 : n0 ≤ h21.size := by rw [W21.size]; exact Z20
    refine gGoto X21 hx (hb hby d10_175) (q := 161) (by decide) (by decide) ?_
    refine gIloadN X21 hx (hb hby d10_161) (q := 162) rfl rfl ?_
    refine gIfY X21 hx (hb hby d10_162) (q := 178) (by decide) (by decide) (XT.i0_le_t (by decide)) ?_
    refine gIload X21 hx (hb hby d10_178) (q := 180) rfl rfl ?_
    refine gIfY X21 hx (hb hby d10_180) (q := 212) (by decide) (by decide) (XT.i0_eq_t (by decide)) ?_
    refine gAload X21 hx (hb hby d10_212) (q := 214) rfl rfl rfl ?_
    exact gRetA X21 hx hlk hret rfl rfl (hb hby d10_214) (by decide) (by decide) (by rw [e21]; exact ⟨_, _, [u0, u1, ((((u2.toInt64) &&& (4294967295 : Int64)) + ((w0.toInt64) &&& (4294967295 : Int64))).toInt32)], rfl, N22, K23, B21, Or.inl rfl, ge_a1⟩)
  · refine gIfN X6 hx (hb hby d10_116) (q := 119) rfl (XT.ll_eq_f c13) ?_
    refine gIconst X6 hx (1 : Int32) (hb hby d10_119) (q := 120) rfl (by decide) ?_
    refine gGoto X6 hx (hb hby d10_120) (q := 124) (by decide) (by decide) ?_
    refine gIstore X6 hx (hb hby d10_124) (q := 126) rfl (L' := #[.val (.ref kx1), .val (.ref kx2), .val (.int (2 : Int32)), .val (.int (1 : Int32)), .val (.ref a1), .val (.long (((u2.toInt64) &&& (4294967295 : Int64)) + ((w0.toInt64) &&& (4294967295 : Int64)))), .second, .val (.int (1 : Int32)), .unset]) rfl ?_
    refine gIloadN X6 hx (hb hby d10_126) (q := 127) rfl rfl ?_
    refine gIfN X6 hx (hb hby d10_127) (q := 130) rfl (XT.i0_le_f (by decide)) ?_
    refine gIload X6 hx (hb hby d10_130) (q := 132) rfl rfl ?_
    refine gIfN X6 hx (hb hby d10_132) (q := 135) rfl (XT.i0_eq_f (by decide)) ?_
    refine gAload X6 hx (hb hby d10_135) (q := 137) rfl rfl rfl ?_
    refine gIinc X6 hx (-1 : Int32) (hb hby d10_137) (q := 140) rfl (by decide) rfl (L' := #[.val (.ref kx1), .val (.ref kx2), .val (.int (1 : Int32)), .val (.int (1 : Int32)), .val (.ref a1), .val (.long (((u2.toInt64) &&& (4294967295 : Int64)) + ((w0.toInt64) &&& (4294967295 : Int64)))), .second, .val (.int (1 : Int32)), .unset]) rfl ?_
    refine gIloadN X6 hx (hb hby d10_140) (q := 141) rfl rfl ?_
    refine gAloadN X6 hx (hb hby d10_141) (q := 142) rfl rfl rfl ?_
    refine gIloadN X6 hx (hb hby d10_142) (q := 143) rfl rfl ?_
    refine gIaload X6 hx hZ e6 A9 (hb hby d10_143) (q := 144) rfl (show ¬ (((1 : Int32) : Int32) < 0 ∨ 3 ≤ ((1 : Int32) : Int32).toNatClampNeg) by decide) (v := .int u1) rfl ?_
    refine gIconst X6 hx (1 : Int32) (hb hby d10_144) (q := 145) rfl (by decide) ?_
    refine gIadd X6 hx (hb hby d10_145) (q := 146) rfl ?_
    refine gDupX2 X6 hx (hb hby d10_146) (q := 147) rfl rfl rfl rfl ?_
    refine gIastore X6 hx hZ e6 B6 (hb hby d10_147) (q := 148) rfl (show ¬ (((1 : Int32) : Int32) < 0 ∨ 3 ≤ ((1 : Int32) : Int32).toNatClampNeg) by decide) (fun T28 h28 X28 e28 W28 A28 => ?_)
    have B28 : Ary Z h28 a1 k1 (.int) [(.int (0 : Int32)), (.int (u1 + (1 : Int32))), (.int ((((u2.toInt64) &&& (4294967295 : Int64)) + ((w0.toInt64) &&& (4294967295 : Int64))).toInt32))] := A28
    have N29 := Fr.snoc X28 N7 le_a1
    have K30 := K8.wr W28 (Or.inr ge_a1)
    have A31 := Ary.other W28 A9 ne_kx1_a1
    have A32 := Ary.other W28 A10 ne_kx2_a1
    have Z34 : n0 ≤ h28.size := by rw [W28.size]; exact Z12
    by_cases c35 : (u1 + (1 : Int32)) = (0 : Int32)
    · refine gIfN X28 hx (hb hby d10_148) (q := 151) rfl (XT.i0_ne_f c35) ?_
      refine gIconst X28 hx (1 : Int32) (hb hby d10_151) (q := 152) rfl (by decide) ?_
      refine gGoto X28 hx (hb hby d10_152) (q := 156) (by decide) (by decide) ?_
      refine gIstore X28 hx (hb hby d10_156) (q := 158) rfl (L' := #[.val (.ref kx1), .val (.ref kx2), .val (.int (1 : Int32)), .val (.int (1 : Int32)), .val (.ref a1), .val (.long (((u2.toInt64) &&& (4294967295 : Int64)) + ((w0.toInt64) &&& (4294967295 : Int64)))), .second, .val (.int (1 : Int32)), .unset]) rfl ?_
      refine gGoto X28 hx (hb hby d10_158) (q := 126) (by decide) (by decide) ?_
      refine gIloadN X28 hx (hb hby d10_126) (q := 127) rfl rfl ?_
      refine gIfN X28 hx (hb hby d10_127) (q := 130) rfl (XT.i0_le_f (by decide)) ?_
      refine gIload X28 hx (hb hby d10_130) (q := 132) rfl rfl ?_
      refine gIfN X28 hx (hb hby d10_132) (q := 135) rfl (XT.i0_eq_f (by decide)) ?_
      refine gAload X28 hx (hb hby d10_135) (q := 137) rfl rfl rfl ?_
      refine gIinc X28 hx (-1 : Int32) (hb hby d10_137) (q := 140) rfl (by decide) rfl (L' := #[.val (.ref kx1), .val (.ref kx2), .val (.int (0 : Int32)), .val (.int (1 : Int32)), .val (.ref a1), .val (.long (((u2.toInt64) &&& (4294967295 : Int64)) + ((w0.toInt64) &&& (4294967295 : Int64)))), .second, .val (.int (1 : Int32)), .unset]) rfl ?_
      refine gIloadN X28 hx (hb hby d10_140) (q := 141) rfl rfl ?_
      refine gAloadN X28 hx (hb hby d10_141) (q := 142) rfl rfl rfl ?_
      refine gIloadN X28 hx (hb hby d10_142) (q := 143) rfl rfl ?_
      refine gIaload X28 hx hZ e28 A31 (hb hby d10_143) (q := 144) rfl (show ¬ (((0 : Int32) : Int32) < 0 ∨ 3 ≤ ((0 : Int32) : Int32).toNatClampNeg) by decide) (v := .int u0) rfl ?_
      refine gIconst X28 hx (1 : Int32) (hb hby d10_144) (q := 145) rfl (by decide) ?_
      refine gIadd X28 hx (hb hby d10_145) (q := 146) rfl ?_
      refine gDupX2 X28 hx (hb hby d10_146) (q := 147) rfl rfl rfl rfl ?_
      refine gIastore X28 hx hZ e28 B28 (hb hby d10_147) (q := 148) rfl (show ¬ (((0 : Int32) : Int32) < 0 ∨ 3 ≤ ((0 : Int32) : Int32).toNatClampNeg) by decide) (fun T36 h36 X36 e36 W36 A36 => ?_)
      have B36 : Ary Z h36 a1 k1 (.int) [(.int (u0 + (1 : Int32))), (.int (u1 + (1 : Int32))), (.int ((((u2.toInt64) &&& (4294967295 : Int64)) + ((w0.toInt64) &&& (4294967295 : Int64))).toInt32))] := A36
      have N37 := Fr.snoc X36 N29 le_a1
      have K38 := K30.wr W36 (Or.inr ge_a1)
      have A39 := Ary.other W36 A31 ne_kx1_a1
      have A40 := Ary.other W36 A32 ne_kx2_a1
      have Z42 : n0 ≤ h36.size := by rw [W36.size]; exact Z34
      by_cases c43 : (u0 + (1 : Int32)) = (0 : Int32)
      · refine gIfN X36 hx (hb hby d10_148) (q := 151) rfl (XT.i0_ne_f c43) ?_
        refine gIconst X36 hx (1 : Int32) (hb hby d10_151) (q := 152) rfl (by decide) ?_
        refine gGoto X36 hx (hb hby d10_152) (q := 156) (by decide) (by decide) ?_
        refine gIstore X36 hx (hb hby d10_156) (q := 158) rfl (L' := #[.val (.ref kx1), .val (.ref kx2), .val (.int (0 : Int32)), .val (.int (1 : Int32)), .val (.ref a1), .val (.long (((u2.toInt64) &&& (4294967295 : Int64)) + ((w0.toInt64) &&& (4294967295 : Int64)))), .second, .val (.int (1 : Int32)), .unset]) rfl ?_
        refine gGoto X36 hx (hb hby d10_158) (q := 126) (by decide) (by decide) ?_
        refine gIloadN X36 hx (hb hby d10_126) (q := 127) rfl rfl ?_
        refine gIfY X36 hx (hb hby d10_127) (q := 161) (by decide) (by decide) (XT.i0_le_t (by decide)) ?_
        refine gIloadN X36 hx (hb hby d10_161) (q := 162) rfl rfl ?_
        refine gIfY X36 hx (hb hby d10_162) (q := 178) (by decide) (by decide) (XT.i0_le_t (by decide)) ?_
        refine gIload X36 hx (hb hby d10_178) (q := 180) rfl rfl ?_
        refine gIfN X36 hx (hb hby d10_180) (q := 183) rfl (XT.i0_eq_f (by decide)) ?_
        refine gAload X36 hx (hb hby d10_183) (q := 185) rfl rfl rfl ?_
        refine gLen X36 hx hZ e36 B36 (n := (3 : Int32)) rfl (hb hby d10_185) (q := 186) rfl ?_
        refine gIconst X36 hx (1 : Int32) (hb hby d10_186) (q := 187) rfl (by decide) ?_
        refine gIadd X36 hx (hb hby d10_187) (q := 188) rfl ?_
        rw [show ((3 : Int32) + (1 : Int32)) = (4 : Int32) from by decide]
        refine gNewP X36 hx hZ (hw _ (List.mem_of_getElem? (i := 50) rfl)) e36 (hb hby d10_188) (q := 190) rfl (by decide) (cap := 4) (by decide) (by decide) (by decide) (by decide) (fun T44 h44 a44 k44 X44 e44 g44 E44 A44 => ?_)
        have A45 := Ary.ext E44 A39
        have A46 := Ary.ext E44 A40
        have A47 := Ary.ext E44 B36
        have ge_a44 : h0.size ≤ a44 := by rw [g44]; exact K38.1
        have K48 := K38.ext E44
        have le_a44 : n0 ≤ a44 := by rw [g44]; exact Z42
        have ne_kx1_a44 : kx1 ≠ a44 := by rw [g44]; exact Nat.ne_of_lt A39.lt
        have ne_kx2_a44 : kx2 ≠ a44 := by rw [g44]; exact Nat.ne_of_lt A40.lt
        have ne_a1_a44 : a1 ≠ a44 := by rw [g44]; exact Nat.ne_of_lt B36.lt
        have Z49 := Nat.le_trans Z42 E44.1
        have B44 : Ary Z h44 a44 k44 (.int) [(.int (0 : Int32)), (.int (0 : Int32)), (.int (0 : Int32)), (.int (0 : Int32))] := A44
        refine gAstore X44 hx (hb hby d10_190) (q := 192) rfl rfl (L' := #[.val (.ref kx1), .val (.ref kx2), .val (.int (0 : Int32)), .val (.int (1 : Int32)), .val (.ref a1), .val (.long (((u2.toInt64) &&& (4294967295 : Int64)) + ((w0.toInt64) &&& (4294967295 : Int64)))), .second, .val (.int (1 : Int32)), .val (.ref a44)]) rfl ?_
        refine gAload X44 hx (hb hby d10_192) (q := 194) rfl rfl rfl ?_
        refine gIconst X44 hx (0 : Int32) (hb hby d10_194) (q := 195) rfl (by decide) ?_
        refine gAload X44 hx (hb hby d10_195) (q := 197) rfl rfl rfl ?_
        refine gIconst X44 hx (1 : Int32) (hb hby d10_197) (q := 198) rfl (by decide) ?_
        refine gAload X44 hx (hb hby d10_198) (q := 200) rfl rfl rfl ?_
        refine gLen X44 hx hZ e44 A47 (n := (3 : Int32)) rfl (hb hby d10_200) (q := 201) rfl ?_
        refine gCopyI X44 hx hZ hown (hw _ (List.mem_of_getElem? (i := 67) rfl)) (hw _ (List.mem_of_getElem? (i := 70) rfl)) (hw _ (List.mem_of_getElem? (i := 68) rfl)) (hw _ (List.mem_of_getElem? (i := 69) rfl)) e44 A47 B44 (by intro v hv; simp only [List.mem_cons, List.not_mem_nil, or_false] at hv; rcases hv with rfl | rfl | rfl <;> rfl) (by intro v hv; simp only [List.mem_cons, List.not_mem_nil, or_false] at hv; rcases hv with rfl | rfl | rfl | rfl <;> rfl) (j1 := (0 : Int32)) (j2 := (1 : Int32)) (n := (3 : Int32)) (by decide) (by decide) (by decide) (show ¬ ((0 : Int32) : Int32).toInt + ((3 : Int32) : Int32).toInt > ((3 : Nat) : Int) by decide) (show ¬ ((1 : Int32) : Int32).toInt + ((3 : Int32) : Int32).toInt > ((4 : Nat) : Int) by decide) (show ((0 : Int32) : Int32).toNatClampNeg + ((3 : Int32) : Int32).toNatClampNeg ≤ 3 by decide) (show ((1 : Int32) : Int32).toNatClampNeg + ((3 : Int32) : Int32).toNatClampNeg ≤ 4 by decide) (by rw [hml]; rfl) (hb hby d10_201) (q := 204) rfl (by decide) (W := 0) (Nat.le_of_eq rfl) (by decide) (fun T50 h50 xs50 X50 e50 K50 l50 A50 => ?_)
        obtain ⟨z50_0, z50_1, z50_2, z50_3, rfl⟩ := own_l4 l50
        have B50 : Ary Z h50 a44 k44 (.int) [(.int z50_0), (.int z50_1), (.int z50_2), (.int z50_3)] := A50
        have N51 := Fr.app N37 (fun y hy => by rw [copyLocs_base hy]; exact le_a44 : Fr n0 (copyLocs a44 ((1 : Int32) : Int32).toNatClampNeg ((3 : Int32) : Int32).toNatClampNeg))
        have A52 := Ary.keep A45 K50 (ninS ne_kx1_a44 nin0)
        have A53 := Ary.keep A46 K50 (ninS ne_kx2_a44 nin0)
        have A54 := Ary.keep A47 K50 (ninS ne_a1_a44 nin0)
        have Z55 := Nat.le_trans Z49 K50.1
        have KK56 := K48.trans K50 (allS (Or.inr ge_a44) all0)
        refine gAload X50 hx (hb hby d10_204) (q := 206) rfl rfl rfl ?_
        refine gIconst X50 hx (0 : Int32) (hb hby d10_206) (q := 207) rfl (by decide) ?_
        refine gIconst X50 hx (1 : Int32) (hb hby d10_207) (q := 208) rfl (by decide) ?_
        refine gIastore X50 hx hZ e50 B50 (hb hby d10_208) (q := 209) rfl (show ¬ (((0 : Int32) : Int32) < 0 ∨ 4 ≤ ((0 : Int32) : Int32).toNatClampNeg) by decide) (fun T57 h57 X57 e57 W57 A57 => ?_)
        have B57 : Ary Z h57 a44 k44 (.int) [(.int (1 : Int32)), (.int z50_1), (.int z50_2), (.int z50_3)] := A57
        have N58 := Fr.snoc X57 N51 le_a44
        have K59 := KK56.wr W57 (Or.inr ge_a44)
        have A60 := Ary.other W57 A52 ne_kx1_a44
        have A61 := Ary.other W57 A53 ne_kx2_a44
        have A62 := Ary.other W57 A54 ne_a1_a44
        have Z64 : n0 ≤ h57.size := by rw [W57.size]; exact Z55
        refine gAload X57 hx (hb hby d10_209) (q := 211) rfl rfl rfl ?_
        exact gRetA X57 hx hlk hret rfl rfl (hb hby d10_211) (by decide) (by decide) (by rw [e57]; exact ⟨_, _, [(1 : Int32), z50_1, z50_2, z50_3], rfl, N58, K59, B57, Or.inr rfl, ge_a44⟩)
      · refine gIfY X36 hx (hb hby d10_148) (q := 155) (by decide) (by decide) (XT.i0_ne_t c43) ?_
        refine gIconst X36 hx (0 : Int32) (hb hby d10_155) (q := 156) rfl (by decide) ?_
        refine gIstore X36 hx (hb hby d10_156) (q := 158) rfl (L' := #[.val (.ref kx1), .val (.ref kx2), .val (.int (0 : Int32)), .val (.int (1 : Int32)), .val (.ref a1), .val (.long (((u2.toInt64) &&& (4294967295 : Int64)) + ((w0.toInt64) &&& (4294967295 : Int64)))), .second, .val (.int (0 : Int32)), .unset]) rfl ?_
        refine gGoto X36 hx (hb hby d10_158) (q := 126) (by decide) (by decide) ?_
        refine gIloadN X36 hx (hb hby d10_126) (q := 127) rfl rfl ?_
        refine gIfY X36 hx (hb hby d10_127) (q := 161) (by decide) (by decide) (XT.i0_le_t (by decide)) ?_
        refine gIloadN X36 hx (hb hby d10_161) (q := 162) rfl rfl ?_
        refine gIfY X36 hx (hb hby d10_162) (q := 178) (by decide) (by decide) (XT.i0_le_t (by decide)) ?_
        refine gIload X36 hx (hb hby d10_178) (q := 180) rfl rfl ?_
        refine gIfY X36 hx (hb hby d10_180) (q := 212) (by decide) (by decide) (XT.i0_eq_t (by decide)) ?_
        refine gAload X36 hx (hb hby d10_212) (q := 214) rfl rfl rfl ?_
        exact gRetA X36 hx hlk hret rfl rfl (hb hby d10_214) (by decide) (by decide) (by rw [e36]; exact ⟨_, _, [(u0 + (1 : Int32)), (u1 + (1 : Int32)), ((((u2.toInt64) &&& (4294967295 : Int64)) + ((w0.toInt64) &&& (4294967295 : Int64))).toInt32)], rfl, N37, K38, B36, Or.inl rfl, ge_a1⟩)
    · refine gIfY X28 hx (hb hby d10_148) (q := 155) (by decide) (by decide) (XT.i0_ne_t c35) ?_
      refine gIconst X28 hx (0 : Int32) (hb hby d10_155) (q := 156) rfl (by decide) ?_
      refine gIstore X28 hx (hb hby d10_156) (q := 158) rfl (L' := #[.val (.ref kx1), .val (.ref kx2), .val (.int (1 : Int32)), .val (.int (1 : Int32)), .val (.ref a1), .val (.long (((u2.toInt64) &&& (4294967295 : Int64)) + ((w0.toInt64) &&& (4294967295 : Int64)))), .second, .val (.int (0 : Int32)), .unset]) rfl ?_
      refine gGoto X28 hx (hb hby d10_158) (q := 126) (by decide) (by decide) ?_
      refine gIloadN X28 hx (hb hby d10_126) (q := 127) rfl rfl ?_
      refine gIfN X28 hx (hb hby d10_127) (q := 130) rfl (XT.i0_le_f (by decide)) ?_
      refine gIload X28 hx (hb hby d10_130) (q := 132) rfl rfl ?_
      refine gIfY X28 hx (hb hby d10_132) (q := 161) (by decide) (by decide) (XT.i0_eq_t (by decide)) ?_
      refine gIloadN X28 hx (hb hby d10_161) (q := 162) rfl rfl ?_
      refine gIfN X28 hx (hb hby d10_162) (q := 165) rfl (XT.i0_le_f (by decide)) ?_
      refine gAload X28 hx (hb hby d10_165) (q := 167) rfl rfl rfl ?_
      refine gIinc X28 hx (-1 : Int32) (hb hby d10_167) (q := 170) rfl (by decide) rfl (L' := #[.val (.ref kx1), .val (.ref kx2), .val (.int (0 : Int32)), .val (.int (1 : Int32)), .val (.ref a1), .val (.long (((u2.toInt64) &&& (4294967295 : Int64)) + ((w0.toInt64) &&& (4294967295 : Int64)))), .second, .val (.int (0 : Int32)), .unset]) rfl ?_
      refine gIloadN X28 hx (hb hby d10_170) (q := 171) rfl rfl ?_
      refine gAloadN X28 hx (hb hby d10_171) (q := 172) rfl rfl rfl ?_
      refine gIloadN X28 hx (hb hby d10_172) (q := 173) rfl rfl ?_
      refine gIaload X28 hx hZ e28 A31 (hb hby d10_173) (q := 174) rfl (show ¬ (((0 : Int32) : Int32) < 0 ∨ 3 ≤ ((0 : Int32) : Int32).toNatClampNeg) by decide) (v := .int u0) rfl ?_
      refine gIastore X28 hx hZ e28 B28 (hb hby d10_174) (q := 175) rfl (show ¬ (((0 : Int32) : Int32) < 0 ∨ 3 ≤ ((0 : Int32) : Int32).toNatClampNeg) by decide) (fun T65 h65 X65 e65 W65 A65 => ?_)
      have B65 : Ary Z h65 a1 k1 (.int) [(.int u0), (.int (u1 + (1 : Int32))), (.int ((((u2.toInt64) &&& (4294967295 : Int64)) + ((w0.toInt64) &&& (4294967295 : Int64))).toInt32))] := A65
      have N66 := Fr.snoc X65 N29 le_a1
      have K67 := K30.wr W65 (Or.inr ge_a1)
      have A68 := Ary.other W65 A31 ne_kx1_a1
      have A69 := Ary.other W65 A32 ne_kx2_a1
      have Z71 : n0 ≤ h65.size := by rw [W65.size]; exact Z34
      refine gGoto X65 hx (hb hby d10_175) (q := 161) (by decide) (by decide) ?_
      refine gIloadN X65 hx (hb hby d10_161) (q := 162) rfl rfl ?_
      refine gIfY X65 hx (hb hby d10_162) (q := 178) (by decide) (by decide) (XT.i0_le_t (by decide)) ?_
      refine gIload X65 hx (hb hby d10_178) (q := 180) rfl rfl ?_
      refine gIfY X65 hx (hb hby d10_180) (q := 212) (by decide) (by decide) (XT.i0_eq_t (by decide)) ?_
      refine gAload X65 hx (hb hby d10_212) (q := 214) rfl rfl rfl ?_
      exact gRetA X65 hx hlk hret rfl rfl (hb hby d10_214) (by decide) (by decide) (by rw [e65]; exact ⟨_, _, [u0, (u1 + (1 : Int32)), ((((u2.toInt64) &&& (4294967295 : Int64)) + ((w0.toInt64) &&& (4294967295 : Int64))).toInt32)], rfl, N66, K67, B65, Or.inl rfl, ge_a1⟩)
theorem ef8 (m : MethodId) (x0 : Addr) (x1 : Addr) : entryFrame m #[(.ref x0), (.ref x1)] 9 = mkF m 0 #[.val (.ref x0), .val (.ref x1), .unset, .unset, .unset, .unset, .unset, .unset, .unset] [] := by first | (simp [entryFrame, mkF, argsToLocals, Value.category]; done) | rfl
def Q_rmAA32 (Z : State) (kx1 : Addr) (kx2 : Addr) (kc : ClassId) (kd : ClassId) (u0 : Int32) (u1 : Int32) (u2 : Int32) (w0 : Int32) (w1 : Int32) (h0 : Heap) (n0 : Nat) (v : Option Value) (h : Heap) (L : List Loc) : Prop := ∃ r kr xs, v = some (.ref r) ∧ Fr n0 L ∧ Keep h0 h [] ∧ Ary Z h r kr .int (List.map Value.int xs) ∧ (xs.length = 3 ∨ xs.length = 4) ∧ h0.size ≤ r
set_option maxRecDepth 65536 in
set_option maxHeartbeats 40000000 in
theorem rmAA32 (l : Launch) (Z : State) (a0 : Array Value) (hw : ∀ d ∈ tables_1, d.before a0 Z = true) (ws : List Jvm.Cond) (kx1 : Addr) (kx2 : Addr) (kc : ClassId) (kd : ClassId) (u0 : Int32) (u1 : Int32) (u2 : Int32) (w0 : Int32) (w1 : Int32) (h0 : Heap) (n0 : Nat) (Z0 : n0 ≤ h0.size) (pA1 : Ary Z h0 kx1 kc .int [(.int u0), (.int u1), (.int u2)]) (pA2 : Ary Z h0 kx2 kd .int [(.int w0), (.int w1)]) :
    Con l Z (⟨"java/math/BigInteger", "add", "([I[I)[I"⟩ : MethodName) jdk_2097_method_35_code 9 (some (.array (.int))) ws ({ frames := 1, cells := 2, slots := 7, locals := 32 } : Room) #[(.ref kx1), (.ref kx2)] h0 (({ frames := 1, cells := 2, slots := 7, locals := 32 } : Room).cells) (({ frames := 1, cells := 2, slots := 7, locals := 32 } : Room).slots) (Q_rmAA32 Z kx1 kx2 kc kd u0 u1 u2 w0 w1 h0 n0) := by
  refine Con.of (plainFor_of_name pn1) ?_
  intro p e s m below meth c s₁ hx hby hml hown hnm hret hlk hZ X0 e0
  have N0 := Fr.nil n0
  refine goE (L := #[.val (.ref kx1), .val (.ref kx2), .unset, .unset, .unset, .unset, .unset, .unset, .unset]) (ef8 m kx1 kx2) ?_
  refine gAloadN X0 hx (hb hby d10_0) (q := 1) rfl rfl rfl ?_
  refine gLen X0 hx hZ e0 pA1 (n := (3 : Int32)) rfl (hb hby d10_1) (q := 2) rfl ?_
  refine gAloadN X0 hx (hb hby d10_2) (q := 3) rfl rfl rfl ?_
  refine gLen X0 hx hZ e0 pA2 (n := (2 : Int32)) rfl (hb hby d10_3) (q := 4) rfl ?_
  refine gIcmpY X0 hx (hb hby d10_4) (q := 13) (by decide) (by decide) (XT.ii_ge_t (by decide)) ?_
  refine gAloadN X0 hx (hb hby d10_13) (q := 14) rfl rfl rfl ?_
  refine gLen X0 hx hZ e0 pA1 (n := (3 : Int32)) rfl (hb hby d10_14) (q := 15) rfl ?_
  refine gIstoreN X0 hx (hb hby d10_15) (q := 16) rfl (L' := #[.val (.ref kx1), .val (.ref kx2), .val (.int (3 : Int32)), .unset, .unset, .unset, .unset, .unset, .unset]) rfl ?_
  refine gAloadN X0 hx (hb hby d10_16) (q := 17) rfl rfl rfl ?_
  refine gLen X0 hx hZ e0 pA2 (n := (2 : Int32)) rfl (hb hby d10_17) (q := 18) rfl ?_
  refine gIstoreN X0 hx (hb hby d10_18) (q := 19) rfl (L' := #[.val (.ref kx1), .val (.ref kx2), .val (.int (3 : Int32)), .val (.int (2 : Int32)), .unset, .unset, .unset, .unset, .unset]) rfl ?_
  refine gIloadN X0 hx (hb hby d10_19) (q := 20) rfl rfl ?_
  refine gNewP X0 hx hZ (hw _ (List.mem_of_getElem? (i := 50) rfl)) e0 (hb hby d10_20) (q := 22) rfl (by decide) (cap := 3) (by decide) (by decide) (by decide) (by decide) (fun T1 h1 a1 k1 X1 e1 g1 E1 A1 => ?_)
  have A2 := Ary.ext E1 pA1
  have A3 := Ary.ext E1 pA2
  have ge_a1 : h0.size ≤ a1 := by rw [g1]; exact (Keep.refl h0 []).1
  have K4 := (Keep.refl h0 []).ext E1
  have le_a1 : n0 ≤ a1 := by rw [g1]; exact Z0
  have ne_kx1_a1 : kx1 ≠ a1 := by rw [g1]; exact Nat.ne_of_lt pA1.lt
  have ne_kx2_a1 : kx2 ≠ a1 := by rw [g1]; exact Nat.ne_of_lt pA2.lt
  have Z5 := Nat.le_trans Z0 E1.1
  have B1 : Ary Z h1 a1 k1 (.int) [(.int (0 : Int32)), (.int (0 : Int32)), (.int (0 : Int32))] := A1
  refine gAstore X1 hx (hb hby d10_22) (q := 24) rfl rfl (L' := #[.val (.ref kx1), .val (.ref kx2), .val (.int (3 : Int32)), .val (.int (2 : Int32)), .val (.ref a1), .unset, .unset, .unset, .unset]) rfl ?_
  refine gLconst X1 hx (0 : Int64) (hb hby d10_24) (q := 25) rfl (by decide) ?_
  refine gLstore X1 hx (hb hby d10_25) (q := 27) rfl (L' := #[.val (.ref kx1), .val (.ref kx2), .val (.int (3 : Int32)), .val (.int (2 : Int32)), .val (.ref a1), .val (.long (0 : Int64)), .second, .unset, .unset]) rfl ?_
  refine gIloadN X1 hx (hb hby d10_27) (q := 28) rfl rfl ?_
  refine gIconst X1 hx (1 : Int32) (hb hby d10_28) (q := 29) rfl (by decide) ?_
  refine gIcmpY X1 hx (hb hby d10_29) (q := 64) (by decide) (by decide) (XT.ii_ne_t (by decide)) ?_
  refine gIloadN X1 hx (hb hby d10_64) (q := 65) rfl rfl ?_
  refine gIfN X1 hx (hb hby d10_65) (q := 68) rfl (XT.i0_le_f (by decide)) ?_
  refine gAloadN X1 hx (hb hby d10_68) (q := 69) rfl rfl rfl ?_
  refine gIinc X1 hx (-1 : Int32) (hb hby d10_69) (q := 72) rfl (by decide) rfl (L' := #[.val (.ref kx1), .val (.ref kx2), .val (.int (2 : Int32)), .val (.int (2 : Int32)), .val (.ref a1), .val (.long (0 : Int64)), .second, .unset, .unset]) rfl ?_
  refine gIloadN X1 hx (hb hby d10_72) (q := 73) rfl rfl ?_
  refine gIaload X1 hx hZ e1 A2 (hb hby d10_73) (q := 74) rfl (show ¬ (((2 : Int32) : Int32) < 0 ∨ 3 ≤ ((2 : Int32) : Int32).toNatClampNeg) by decide) (v := .int u2) rfl ?_
  refine gI2l X1 hx (hb hby d10_74) (q := 75) rfl ?_
  refine gLdc2 X1 hx hZ hown (hw _ (List.mem_of_getElem? (i := 61) rfl)) (hb hby d10_75) (q := 78) rfl ?_
  refine gLand X1 hx (hb hby d10_78) (q := 79) rfl ?_
  refine gAloadN X1 hx (hb hby d10_79) (q := 80) rfl rfl rfl ?_
  refine gIinc X1 hx (-1 : Int32) (hb hby d10_80) (q := 83) rfl (by decide) rfl (L' := #[.val (.ref kx1), .val (.ref kx2), .val (.int (2 : Int32)), .val (.int (1 : Int32)), .val (.ref a1), .val (.long (0 : Int64)), .second, .unset, .unset]) rfl ?_
  refine gIloadN X1 hx (hb hby d10_83) (q := 84) rfl rfl ?_
  refine gIaload X1 hx hZ e1 A3 (hb hby d10_84) (q := 85) rfl (show ¬ (((1 : Int32) : Int32) < 0 ∨ 2 ≤ ((1 : Int32) : Int32).toNatClampNeg) by decide) (v := .int w1) rfl ?_
  refine gI2l X1 hx (hb hby d10_85) (q := 86) rfl ?_
  refine gLdc2 X1 hx hZ hown (hw _ (List.mem_of_getElem? (i := 61) rfl)) (hb hby d10_86) (q := 89) rfl ?_
  refine gLand X1 hx (hb hby d10_89) (q := 90) rfl ?_
  refine gLadd X1 hx (hb hby d10_90) (q := 91) rfl ?_
  refine gLload X1 hx (hb hby d10_91) (q := 93) rfl rfl ?_
  refine gBipush X1 hx (32 : Int32) (hb hby d10_93) (q := 95) rfl (by decide) ?_
  refine gLushr X1 hx (hb hby d10_95) (q := 96) rfl ?_
  refine gLadd X1 hx (hb hby d10_96) (q := 97) rfl ?_
  refine gLstore X1 hx (hb hby d10_97) (q := 99) rfl (L' := #[.val (.ref kx1), .val (.ref kx2), .val (.int (2 : Int32)), .val (.int (1 : Int32)), .val (.ref a1), .val (.long ((((u2.toInt64) &&& (4294967295 : Int64)) + ((w1.toInt64) &&& (4294967295 : Int64))) + (XT.ushrL (0 : Int64) (32 : Int32)))), .second, .unset, .unset]) rfl ?_
  refine gAload X1 hx (hb hby d10_99) (q := 101) rfl rfl rfl ?_
  refine gIloadN X1 hx (hb hby d10_101) (q := 102) rfl rfl ?_
  refine gLload X1 hx (hb hby d10_102) (q := 104) rfl rfl ?_
  refine gL2i X1 hx (hb hby d10_104) (q := 105) rfl ?_
  refine gIastore X1 hx hZ e1 B1 (hb hby d10_105) (q := 106) rfl (show ¬ (((2 : Int32) : Int32) < 0 ∨ 3 ≤ ((2 : Int32) : Int32).toNatClampNeg) by decide) (fun T6 h6 X6 e6 W6 A6 => ?_)
  have B6 : Ary Z h6 a1 k1 (.int) [(.int (0 : Int32)), (.int (0 : Int32)), (.int (((((u2.toInt64) &&& (4294967295 : Int64)) + ((w1.toInt64) &&& (4294967295 : Int64))) + (XT.ushrL (0 : Int64) (32 : Int32))).toInt32))] := A6
  have N7 := Fr.snoc X6 N0 le_a1
  have K8 := K4.wr W6 (Or.inr ge_a1)
  have A9 := Ary.other W6 A2 ne_kx1_a1
  have A10 := Ary.other W6 A3 ne_kx2_a1
  have Z12 : n0 ≤ h6.size := by rw [W6.size]; exact Z5
  refine gGoto X6 hx (hb hby d10_106) (q := 64) (by decide) (by decide) ?_
  refine gIloadN X6 hx (hb hby d10_64) (q := 65) rfl rfl ?_
  refine gIfN X6 hx (hb hby d10_65) (q := 68) rfl (XT.i0_le_f (by decide)) ?_
  refine gAloadN X6 hx (hb hby d10_68) (q := 69) rfl rfl rfl ?_
  refine gIinc X6 hx (-1 : Int32) (hb hby d10_69) (q := 72) rfl (by decide) rfl (L' := #[.val (.ref kx1), .val (.ref kx2), .val (.int (1 : Int32)), .val (.int (1 : Int32)), .val (.ref a1), .val (.long ((((u2.toInt64) &&& (4294967295 : Int64)) + ((w1.toInt64) &&& (4294967295 : Int64))) + (XT.ushrL (0 : Int64) (32 : Int32)))), .second, .unset, .unset]) rfl ?_
  refine gIloadN X6 hx (hb hby d10_72) (q := 73) rfl rfl ?_
  refine gIaload X6 hx hZ e6 A9 (hb hby d10_73) (q := 74) rfl (show ¬ (((1 : Int32) : Int32) < 0 ∨ 3 ≤ ((1 : Int32) : Int32).toNatClampNeg) by decide) (v := .int u1) rfl ?_
  refine gI2l X6 hx (hb hby d10_74) (q := 75) rfl ?_
  refine gLdc2 X6 hx hZ hown (hw _ (List.mem_of_getElem? (i := 61) rfl)) (hb hby d10_75) (q := 78) rfl ?_
  refine gLand X6 hx (hb hby d10_78) (q := 79) rfl ?_
  refine gAloadN X6 hx (hb hby d10_79) (q := 80) rfl rfl rfl ?_
  refine gIinc X6 hx (-1 : Int32) (hb hby d10_80) (q := 83) rfl (by decide) rfl (L' := #[.val (.ref kx1), .val (.ref kx2), .val (.int (1 : Int32)), .val (.int (0 : Int32)), .val (.ref a1), .val (.long ((((u2.toInt64) &&& (4294967295 : Int64)) + ((w1.toInt64) &&& (4294967295 : Int64))) + (XT.ushrL (0 : Int64) (32 : Int32)))), .second, .unset, .unset]) rfl ?_
  refine gIloadN X6 hx (hb hby d10_83) (q := 84) rfl rfl ?_
  refine gIaload X6 hx hZ e6 A10 (hb hby d10_84) (q := 85) rfl (show ¬ (((0 : Int32) : Int32) < 0 ∨ 2 ≤ ((0 : Int32) : Int32).toNatClampNeg) by decide) (v := .int w0) rfl ?_
  refine gI2l X6 hx (hb hby d10_85) (q := 86) rfl ?_
  refine gLdc2 X6 hx hZ hown (hw _ (List.mem_of_getElem? (i := 61) rfl)) (hb hby d10_86) (q := 89) rfl ?_
  refine gLand X6 hx (hb hby d10_89) (q := 90) rfl ?_
  refine gLadd X6 hx (hb hby d10_90) (q := 91) rfl ?_
  refine gLload X6 hx (hb hby d10_91) (q := 93) rfl rfl ?_
  refine gBipush X6 hx (32 : Int32) (hb hby d10_93) (q := 95) rfl (by decide) ?_
  refine gLushr X6 hx (hb hby d10_95) (q := 96) rfl ?_
  refine gLadd X6 hx (hb hby d10_96) (q := 97) rfl ?_
  refine gLstore X6 hx (hb hby d10_97) (q := 99) rfl (L' := #[.val (.ref kx1), .val (.ref kx2), .val (.int (1 : Int32)), .val (.int (0 : Int32)), .val (.ref a1), .val (.long ((((u1.toInt64) &&& (4294967295 : Int64)) + ((w0.toInt64) &&& (4294967295 : Int64))) + (XT.ushrL ((((u2.toInt64) &&& (4294967295 : Int64)) + ((w1.toInt64) &&& (4294967295 : Int64))) + (XT.ushrL (0 : Int64) (32 : Int32))) (32 : Int32)))), .second, .unset, .unset]) rfl ?_
  refine gAload X6 hx (hb hby d10_99) (q := 101) rfl rfl rfl ?_
  refine gIloadN X6 hx (hb hby d10_101) (q := 102) rfl rfl ?_
  refine gLload X6 hx (hb hby d10_102) (q := 104) rfl rfl ?_
  refine gL2i X6 hx (hb hby d10_104) (q := 105) rfl ?_
  refine gIastore X6 hx hZ e6 B6 (hb hby d10_105) (q := 106) rfl (show ¬ (((1 : Int32) : Int32) < 0 ∨ 3 ≤ ((1 : Int32) : Int32).toNatClampNeg) by decide) (fun T13 h13 X13 e13 W13 A13 => ?_)
  have B13 : Ary Z h13 a1 k1 (.int) [(.int (0 : Int32)), (.int (((((u1.toInt64) &&& (4294967295 : Int64)) + ((w0.toInt64) &&& (4294967295 : Int64))) + (XT.ushrL ((((u2.toInt64) &&& (4294967295 : Int64)) + ((w1.toInt64) &&& (4294967295 : Int64))) + (XT.ushrL (0 : Int64) (32 : Int32))) (32 : Int32))).toInt32)), (.int (((((u2.toInt64) &&& (4294967295 : Int64)) + ((w1.toInt64) &&& (4294967295 : Int64))) + (XT.ushrL (0 : Int64) (32 : Int32))).toInt32))] := A13
  have N14 := Fr.snoc X13 N7 le_a1
  have K15 := K8.wr W13 (Or.inr ge_a1)
  have A16 := Ary.other W13 A9 ne_kx1_a1
  have A17 := Ary.other W13 A10 ne_kx2_a1
  have Z19 : n0 ≤ h13.size := by rw [W13.size]; exact Z12
  refine gGoto X13 hx (hb hby d10_106) (q := 64) (by decide) (by decide) ?_
  refine gIloadN X13 hx (hb hby d10_64) (q := 65) rfl rfl ?_
  refine gIfY X13 hx (hb hby d10_65) (q := 109) (by decide) (by decide) (XT.i0_le_t (by decide)) ?_
  refine gLload X13 hx (hb hby d10_109) (q := 111) rfl rfl ?_
  refine gBipush X13 hx (32 : Int32) (hb hby d10_111) (q := 113) rfl (by decide) ?_
  refine gLushr X13 hx (hb hby d10_113) (q := 114) rfl ?_
  refine gLconst X13 hx (0 : Int64) (hb hby d10_114) (q := 115) rfl (by decide) ?_
  refine gLcmp X13 hx (hb hby d10_115) (q := 116) rfl ?_
  by_cases c20 : (XT.ushrL ((((u1.toInt64) &&& (4294967295 : Int64)) + ((w0.toInt64) &&& (4294967295 : Int64))) + (XT.ushrL ((((u2.toInt64) &&& (4294967295 : Int64)) + ((w1.toInt64) &&& (4294967295 : Int64))) + (XT.ushrL (0 : Int64) (32 : Int32))) (32 : Int32))) (32 : Int32)) = (0 : Int64)
  · refine gIfY X13 hx (hb hby d10_116) (q := 123) (by decide) (by decide) (XT.ll_eq_t c20) ?_
    refine gIconst X13 hx (0 : Int32) (hb hby d10_123) (q := 124) rfl (by decide) ?_
    refine gIstore X13 hx (hb hby d10_124) (q := 126) rfl (L' := #[.val (.ref kx1), .val (.ref kx2), .val (.int (1 : Int32)), .val (.int (0 : Int32)), .val (.ref a1), .val (.long ((((u1.toInt64) &&& (4294967295 : Int64)) + ((w0.toInt64) &&& (4294967295 : Int64))) + (XT.ushrL ((((u2.toInt64) &&& (4294967295 : Int64)) + ((w1.toInt64) &&& (4294967295 : Int64))) + (XT.ushrL (0 : Int64) (32 : Int32))) (32 : Int32)))), .second, .val (.int (0 : Int32)), .unset]) rfl ?_
    refine gIloadN X13 hx (hb hby d10_126) (q := 127) rfl rfl ?_
    refine gIfN X13 hx (hb hby d10_127) (q := 130) rfl (XT.i0_le_f (by decide)) ?_
    refine gIload X13 hx (hb hby d10_130) (q := 132) rfl rfl ?_
    refine gIfY X13 hx (hb hby d10_132) (q := 161) (by decide) (by decide) (XT.i0_eq_t (by decide)) ?_
    refine gIloadN X13 hx (hb hby d10_161) (q := 162) rfl rfl ?_
    refine gIfN X13 hx (hb hby d10_162) (q := 165) rfl (XT.i0_le_f (by decide)) ?_
    refine gAload X13 hx (hb hby d10_165) (q := 167) rfl rfl rfl ?_
    refine gIinc X13 hx (-1 : Int32) (hb hby d10_167) (q := 170) rfl (by decide) rfl (L' := #[.val (.ref kx1), .val (.ref kx2), .val (.int (0 : Int32)), .val (.int (0 : Int32)), .val (.ref a1), .val (.long ((((u1.toInt64) &&& (4294967295 : Int64)) + ((w0.toInt64) &&& (4294967295 : Int64))) + (XT.ushrL ((((u2.toInt64) &&& (4294967295 : Int64)) + ((w1.toInt64) &&& (4294967295 : Int64))) + (XT.ushrL (0 : Int64) (32 : Int32))) (32 : Int32)))), .second, .val (.int (0 : Int32)), .unset]) rfl ?_
    refine gIloadN X13 hx (hb hby d10_170) (q := 171) rfl rfl ?_
    refine gAloadN X13 hx (hb hby d10_171) (q := 172) rfl rfl rfl ?_
    refine gIloadN X13 hx (hb hby d10_172) (q := 173) rfl rfl ?_
    refine gIaload X13 hx hZ e13 A16 (hb hby d10_173) (q := 174) rfl (show ¬ (((0 : Int32) : Int32) < 0 ∨ 3 ≤ ((0 : Int32) : Int32).toNatClampNeg) by decide) (v := .int u0) rfl ?_
    refine gIastore X13 hx hZ e13 B13 (hb hby d10_174) (q := 175) rfl (show ¬ (((0 : Int32) : Int32) < 0 ∨ 3 ≤ ((0 : Int32) : Int32).toNatClampNeg) by decide) (fun T21 h21 X21 e21 W21 A21 => ?_)
    have B21 : Ary Z h21 a1 k1 (.int) [(.int u0), (.int (((((u1.toInt64) &&& (4294967295 : Int64)) + ((w0.toInt64) &&& (4294967295 : Int64))) + (XT.ushrL ((((u2.toInt64) &&& (4294967295 : Int64)) + ((w1.toInt64) &&& (4294967295 : Int64))) + (XT.ushrL (0 : Int64) (32 : Int32))) (32 : Int32))).toInt32)), (.int (((((u2.toInt64) &&& (4294967295 : Int64)) + ((w1.toInt64) &&& (4294967295 : Int64))) + (XT.ushrL (0 : Int64) (32 : Int32))).toInt32))] := A21
    have N22 := Fr.snoc X21 N14 le_a1
    have K23 := K15.wr W21 (Or.inr ge_a1)
    have A24 := Ary.other W21 A16 ne_kx1_a1
    have A25 := Ary.other W21 A17 ne_kx2_a1
    have Z27 : n0 ≤ h21.size := by rw [W21.size]; exact Z19
    refine gGoto X21 hx (hb hby d10_175) (q := 161) (by decide) (by decide) ?_
    refine gIloadN X21 hx (hb hby d10_161) (q := 162) rfl rfl ?_
    refine gIfY X21 hx (hb hby d10_162) (q := 178) (by decide) (by decide) (XT.i0_le_t (by decide)) ?_
    refine gIload X21 hx (hb hby d10_178) (q := 180) rfl rfl ?_
    refine gIfY X21 hx (hb hby d10_180) (q := 212) (by decide) (by decide) (XT.i0_eq_t (by decide)) ?_
    refine gAload X21 hx (hb hby d10_212) (q := 214) rfl rfl rfl ?_
    exact gRetA X21 hx hlk hret rfl rfl (hb hby d10_214) (by decide) (by decide) (by rw [e21]; exact ⟨_, _, [u0, (((((u1.toInt64) &&& (4294967295 : Int64)) + ((w0.toInt64) &&& (4294967295 : Int64))) + (XT.ushrL ((((u2.toInt64) &&& (4294967295 : Int64)) + ((w1.toInt64) &&& (4294967295 : Int64))) + (XT.ushrL (0 : Int64) (32 : Int32))) (32 : Int32))).toInt32), (((((u2.toInt64) &&& (4294967295 : Int64)) + ((w1.toInt64) &&& (4294967295 : Int64))) + (XT.ushrL (0 : Int64) (32 : Int32))).toInt32)], rfl, N22, K23, B21, Or.inl rfl, ge_a1⟩)
  · refine gIfN X13 hx (hb hby d10_116) (q := 119) rfl (XT.ll_eq_f c20) ?_
    refine gIconst X13 hx (1 : Int32) (hb hby d10_119) (q := 120) rfl (by decide) ?_
    refine gGoto X13 hx (hb hby d10_120) (q := 124) (by decide) (by decide) ?_
    refine gIstore X13 hx (hb hby d10_124) (q := 126) rfl (L' := #[.val (.ref kx1), .val (.ref kx2), .val (.int (1 : Int32)), .val (.int (0 : Int32)), .val (.ref a1), .val (.long ((((u1.toInt64) &&& (4294967295 : Int64)) + ((w0.toInt64) &&& (4294967295 : Int64))) + (XT.ushrL ((((u2.toInt64) &&& (4294967295 : Int64)) + ((w1.toInt64) &&& (4294967295 : Int64))) + (XT.ushrL (0 : Int64) (32 : Int32))) (32 : Int32)))), .second, .val (.int (1 : Int32)), .unset]) rfl ?_
    refine gIloadN X13 hx (hb hby d10_126) (q := 127) rfl rfl ?_
    refine gIfN X13 hx (hb hby d10_127) (q := 130) rfl (XT.i0_le_f (by decide)) ?_
    refine gIload X13 hx (hb hby d10_130) (q := 132) rfl rfl ?_
    refine gIfN X13 hx (hb hby d10_132) (q := 135) rfl (XT.i0_eq_f (by decide)) ?_
    refine gAload X13 hx (hb hby d10_135) (q := 137) rfl rfl rfl ?_
    refine gIinc X13 hx (-1 : Int32) (hb hby d10_137) (q := 140) rfl (by decide) rfl (L' := #[.val (.ref kx1), .val (.ref kx2), .val (.int (0 : Int32)), .val (.int (0 : Int32)), .val (.ref a1), .val (.long ((((u1.toInt64) &&& (4294967295 : Int64)) + ((w0.toInt64) &&& (4294967295 : Int64))) + (XT.ushrL ((((u2.toInt64) &&& (4294967295 : Int64)) + ((w1.toInt64) &&& (4294967295 : Int64))) + (XT.ushrL (0 : Int64) (32 : Int32))) (32 : Int32)))), .second, .val (.int (1 : Int32)), .unset]) rfl ?_
    refine gIloadN X13 hx (hb hby d10_140) (q := 141) rfl rfl ?_
    refine gAloadN X13 hx (hb hby d10_141) (q := 142) rfl rfl rfl ?_
    refine gIloadN X13 hx (hb hby d10_142) (q := 143) rfl rfl ?_
    refine gIaload X13 hx hZ e13 A16 (hb hby d10_143) (q := 144) rfl (show ¬ (((0 : Int32) : Int32) < 0 ∨ 3 ≤ ((0 : Int32) : Int32).toNatClampNeg) by decide) (v := .int u0) rfl ?_
    refine gIconst X13 hx (1 : Int32) (hb hby d10_144) (q := 145) rfl (by decide) ?_
    refine gIadd X13 hx (hb hby d10_145) (q := 146) rfl ?_
    refine gDupX2 X13 hx (hb hby d10_146) (q := 147) rfl rfl rfl rfl ?_
    refine gIastore X13 hx hZ e13 B13 (hb hby d10_147) (q := 148) rfl (show ¬ (((0 : Int32) : Int32) < 0 ∨ 3 ≤ ((0 : Int32) : Int32).toNatClampNeg) by decide) (fun T28 h28 X28 e28 W28 A28 => ?_)
    have B28 : Ary Z h28 a1 k1 (.int) [(.int (u0 + (1 : Int32))), (.int (((((u1.toInt64) &&& (4294967295 : Int64)) + ((w0.toInt64) &&& (4294967295 : Int64))) + (XT.ushrL ((((u2.toInt64) &&& (4294967295 : Int64)) + ((w1.toInt64) &&& (4294967295 : Int64))) + (XT.ushrL (0 : Int64) (32 : Int32))) (32 : Int32))).toInt32)), (.int (((((u2.toInt64) &&& (4294967295 : Int64)) + ((w1.toInt64) &&& (4294967295 : Int64))) + (XT.ushrL (0 : Int64) (32 : Int32))).toInt32))] := A28
    have N29 := Fr.snoc X28 N14 le_a1
    have K30 := K15.wr W28 (Or.inr ge_a1)
    have A31 := Ary.other W28 A16 ne_kx1_a1
    have A32 := Ary.other W28 A17 ne_kx2_a1
    have Z34 : n0 ≤ h28.size := by rw [W28.size]; exact Z19
    by_cases c35 : (u0 + (1 : Int32)) = (0 : Int32)
    · refine gIfN X28 hx (hb hby d10_148) (q := 151) rfl (XT.i0_ne_f c35) ?_
      refine gIconst X28 hx (1 : Int32) (hb hby d10_151) (q := 152) rfl (by decide) ?_
      refine gGoto X28 hx (hb hby d10_152) (q := 156) (by decide) (by decide) ?_
      refine gIstore X28 hx (hb hby d10_156) (q := 158) rfl (L' := #[.val (.ref kx1), .val (.ref kx2), .val (.int (0 : Int32)), .val (.int (0 : Int32)), .val (.ref a1), .val (.long ((((u1.toInt64) &&& (4294967295 : Int64)) + ((w0.toInt64) &&& (4294967295 : Int64))) + (XT.ushrL ((((u2.toInt64) &&& (4294967295 : Int64)) + ((w1.toInt64) &&& (4294967295 : Int64))) + (XT.ushrL (0 : Int64) (32 : Int32))) (32 : Int32)))), .second, .val (.int (1 : Int32)), .unset]) rfl ?_
      refine gGoto X28 hx (hb hby d10_158) (q := 126) (by decide) (by decide) ?_
      refine gIloadN X28 hx (hb hby d10_126) (q := 127) rfl rfl ?_
      refine gIfY X28 hx (hb hby d10_127) (q := 161) (by decide) (by decide) (XT.i0_le_t (by decide)) ?_
      refine gIloadN X28 hx (hb hby d10_161) (q := 162) rfl rfl ?_
      refine gIfY X28 hx (hb hby d10_162) (q := 178) (by decide) (by decide) (XT.i0_le_t (by decide)) ?_
      refine gIload X28 hx (hb hby d10_178) (q := 180) rfl rfl ?_
      refine gIfN X28 hx (hb hby d10_180) (q := 183) rfl (XT.i0_eq_f (by decide)) ?_
      refine gAload X28 hx (hb hby d10_183) (q := 185) rfl rfl rfl ?_
      refine gLen X28 hx hZ e28 B28 (n := (3 : Int32)) rfl (hb hby d10_185) (q := 186) rfl ?_
      refine gIconst X28 hx (1 : Int32) (hb hby d10_186) (q := 187) rfl (by decide) ?_
      refine gIadd X28 hx (hb hby d10_187) (q := 188) rfl ?_
      rw [show ((3 : Int32) + (1 : Int32)) = (4 : Int32) from by decide]
      refine gNewP X28 hx hZ (hw _ (List.mem_of_getElem? (i := 50) rfl)) e28 (hb hby d10_188) (q := 190) rfl (by decide) (cap := 4) (by decide) (by decide) (by decide) (by decide) (fun T36 h36 a36 k36 X36 e36 g36 E36 A36 => ?_)
      have A37 := Ary.ext E36 A31
      have A38 := Ary.ext E36 A32
      have A39 := Ary.ext E36 B28
      have ge_a36 : h0.size ≤ a36 := by rw [g36]; exact K30.1
      have K40 := K30.ext E36
      have le_a36 : n0 ≤ a36 := by rw [g36]; exact Z34
      have ne_kx1_a36 : kx1 ≠ a36 := by rw [g36]; exact Nat.ne_of_lt A31.lt
      have ne_kx2_a36 : kx2 ≠ a36 := by rw [g36]; exact Nat.ne_of_lt A32.lt
      have ne_a1_a36 : a1 ≠ a36 := by rw [g36]; exact Nat.ne_of_lt B28.lt
      have Z41 := Nat.le_trans Z34 E36.1
      have B36 : Ary Z h36 a36 k36 (.int) [(.int (0 : Int32)), (.int (0 : Int32)), (.int (0 : Int32)), (.int (0 : Int32))] := A36
      refine gAstore X36 hx (hb hby d10_190) (q := 192) rfl rfl (L' := #[.val (.ref kx1), .val (.ref kx2), .val (.int (0 : Int32)), .val (.int (0 : Int32)), .val (.ref a1), .val (.long ((((u1.toInt64) &&& (4294967295 : Int64)) + ((w0.toInt64) &&& (4294967295 : Int64))) + (XT.ushrL ((((u2.toInt64) &&& (4294967295 : Int64)) + ((w1.toInt64) &&& (4294967295 : Int64))) + (XT.ushrL (0 : Int64) (32 : Int32))) (32 : Int32)))), .second, .val (.int (1 : Int32)), .val (.ref a36)]) rfl ?_
      refine gAload X36 hx (hb hby d10_192) (q := 194) rfl rfl rfl ?_
      refine gIconst X36 hx (0 : Int32) (hb hby d10_194) (q := 195) rfl (by decide) ?_
      refine gAload X36 hx (hb hby d10_195) (q := 197) rfl rfl rfl ?_
      refine gIconst X36 hx (1 : Int32) (hb hby d10_197) (q := 198) rfl (by decide) ?_
      refine gAload X36 hx (hb hby d10_198) (q := 200) rfl rfl rfl ?_
      refine gLen X36 hx hZ e36 A39 (n := (3 : Int32)) rfl (hb hby d10_200) (q := 201) rfl ?_
      refine gCopyI X36 hx hZ hown (hw _ (List.mem_of_getElem? (i := 67) rfl)) (hw _ (List.mem_of_getElem? (i := 70) rfl)) (hw _ (List.mem_of_getElem? (i := 68) rfl)) (hw _ (List.mem_of_getElem? (i := 69) rfl)) e36 A39 B36 (by intro v hv; simp only [List.mem_cons, List.not_mem_nil, or_false] at hv; rcases hv with rfl | rfl | rfl <;> rfl) (by intro v hv; simp only [List.mem_cons, List.not_mem_nil, or_false] at hv; rcases hv with rfl | rfl | rfl | rfl <;> rfl) (j1 := (0 : Int32)) (j2 := (1 : Int32)) (n := (3 : Int32)) (by decide) (by decide) (by decide) (show ¬ ((0 : Int32) : Int32).toInt + ((3 : Int32) : Int32).toInt > ((3 : Nat) : Int) by decide) (show ¬ ((1 : Int32) : Int32).toInt + ((3 : Int32) : Int32).toInt > ((4 : Nat) : Int) by decide) (show ((0 : Int32) : Int32).toNatClampNeg + ((3 : Int32) : Int32).toNatClampNeg ≤ 3 by decide) (show ((1 : Int32) : Int32).toNatClampNeg + ((3 : Int32) : Int32).toNatClampNeg ≤ 4 by decide) (by rw [hml]; rfl) (hb hby d10_201) (q := 204) rfl (by decide) (W := 0) (Nat.le_of_eq rfl) (by decide) (fun T42 h42 xs42 X42 e42 K42 l42 A42 => ?_)
      obtain ⟨z42_0, z42_1, z42_2, z42_3, rfl⟩ := own_l4 l42
      have B42 : Ary Z h42 a36 k36 (.int) [(.int z42_0), (.int z42_1), (.int z42_2), (.int z42_3)] := A42
      have N43 := Fr.app N29 (fun y hy => by rw [copyLocs_base hy]; exact le_a36 : Fr n0 (copyLocs a36 ((1 : Int32) : Int32).toNatClampNeg ((3 : Int32) : Int32).toNatClampNeg))
      have A44 := Ary.keep A37 K42 (ninS ne_kx1_a36 nin0)
      have A45 := Ary.keep A38 K42 (ninS ne_kx2_a36 nin0)
      have A46 := Ary.keep A39 K42 (ninS ne_a1_a36 nin0)
      have Z47 := Nat.le_trans Z41 K42.1
      have KK48 := K40.trans K42 (allS (Or.inr ge_a36) all0)
      refine gAload X42 hx (hb hby d10_204) (q := 206) rfl rfl rfl ?_
      refine gIconst X42 hx (0 : Int32) (hb hby d10_206) (q := 207) rfl (by decide) ?_
      refine gIconst X42 hx (1 : Int32) (hb hby d10_207) (q := 208) rfl (by decide) ?_
      refine gIastore X42 hx hZ e42 B42 (hb hby d10_208) (q := 209) rfl (show ¬ (((0 : Int32) : Int32) < 0 ∨ 4 ≤ ((0 : Int32) : Int32).toNatClampNeg) by decide) (fun T49 h49 X49 e49 W49 A49 => ?_)
      have B49 : Ary Z h49 a36 k36 (.int) [(.int (1 : Int32)), (.int z42_1), (.int z42_2), (.int z42_3)] := A49
      have N50 := Fr.snoc X49 N43 le_a36
      have K51 := KK48.wr W49 (Or.inr ge_a36)
      have A52 := Ary.other W49 A44 ne_kx1_a36
      have A53 := Ary.other W49 A45 ne_kx2_a36
      have A54 := Ary.other W49 A46 ne_a1_a36
      have Z56 : n0 ≤ h49.size := by rw [W49.size]; exact Z47
      refine gAload X49 hx (hb hby d10_209) (q := 211) rfl rfl rfl ?_
      exact gRetA X49 hx hlk hret rfl rfl (hb hby d10_211) (by decide) (by decide) (by rw [e49]; exact ⟨_, _, [(1 : Int32), z42_1, z42_2, z42_3], rfl, N50, K51, B49, Or.inr rfl, ge_a36⟩)
    · refine gIfY X28 hx (hb hby d10_148) (q := 155) (by decide) (by decide) (XT.i0_ne_t c35) ?_
      refine gIconst X28 hx (0 : Int32) (hb hby d10_155) (q := 156) rfl (by decide) ?_
      refine gIstore X28 hx (hb hby d10_156) (q := 158) rfl (L' := #[.val (.ref kx1), .val (.ref kx2), .val (.int (0 : Int32)), .val (.int (0 : Int32)), .val (.ref a1), .val (.long ((((u1.toInt64) &&& (4294967295 : Int64)) + ((w0.toInt64) &&& (4294967295 : Int64))) + (XT.ushrL ((((u2.toInt64) &&& (4294967295 : Int64)) + ((w1.toInt64) &&& (4294967295 : Int64))) + (XT.ushrL (0 : Int64) (32 : Int32))) (32 : Int32)))), .second, .val (.int (0 : Int32)), .unset]) rfl ?_
      refine gGoto X28 hx (hb hby d10_158) (q := 126) (by decide) (by decide) ?_
      refine gIloadN X28 hx (hb hby d10_126) (q := 127) rfl rfl ?_
      refine gIfY X28 hx (hb hby d10_127) (q := 161) (by decide) (by decide) (XT.i0_le_t (by decide)) ?_
      refine gIloadN X28 hx (hb hby d10_161) (q := 162) rfl rfl ?_
      refine gIfY X28 hx (hb hby d10_162) (q := 178) (by decide) (by decide) (XT.i0_le_t (by decide)) ?_
      refine gIload X28 hx (hb hby d10_178) (q := 180) rfl rfl ?_
      refine gIfY X28 hx (hb hby d10_180) (q := 212) (by decide) (by decide) (XT.i0_eq_t (by decide)) ?_
      refine gAload X28 hx (hb hby d10_212) (q := 214) rfl rfl rfl ?_
      exact gRetA X28 hx hlk hret rfl rfl (hb hby d10_214) (by decide) (by decide) (by rw [e28]; exact ⟨_, _, [(u0 + (1 : Int32)), (((((u1.toInt64) &&& (4294967295 : Int64)) + ((w0.toInt64) &&& (4294967295 : Int64))) + (XT.ushrL ((((u2.toInt64) &&& (4294967295 : Int64)) + ((w1.toInt64) &&& (4294967295 : Int64))) + (XT.ushrL (0 : Int64) (32 : Int32))) (32 : Int32))).toInt32), (((((u2.toInt64) &&& (4294967295 : Int64)) + ((w1.toInt64) &&& (4294967295 : Int64))) + (XT.ushrL (0 : Int64) (32 : Int32))).toInt32)], rfl, N29, K30, B28, Or.inl rfl, ge_a1⟩)
theorem d11_0 : decode jdk_2097_method_25_code 0 = .ok (.aload_n 0, 1) := by decide +kernel
theorem d11_1 : decode jdk_2097_method_25_code 1 = .ok (.invokespecial 3, 3) := by decide +kernel
theorem d11_4 : decode jdk_2097_method_25_code 4 = .ok (.aload_n 0, 1) := by decide +kernel
theorem d11_5 : decode jdk_2097_method_25_code 5 = .ok (.aload_n 1, 1) := by decide +kernel
theorem d11_6 : decode jdk_2097_method_25_code 6 = .ok (.arraylength, 1) := by decide +kernel
theorem d11_7 : decode jdk_2097_method_25_code 7 = .ok (.ifCond .ne 7, 3) := by decide +kernel
theorem d11_10 : decode jdk_2097_method_25_code 10 = .ok (.iconst 0, 1) := by decide +kernel
theorem d11_11 : decode jdk_2097_method_25_code 11 = .ok (.goto 4, 3) := by decide +kernel
theorem d11_14 : decode jdk_2097_method_25_code 14 = .ok (.iload_n 2, 1) := by decide +kernel
theorem d11_15 : decode jdk_2097_method_25_code 15 = .ok (.putfield 32, 3) := by decide +kernel
theorem d11_18 : decode jdk_2097_method_25_code 18 = .ok (.aload_n 0, 1) := by decide +kernel
theorem d11_19 : decode jdk_2097_method_25_code 19 = .ok (.aload_n 1, 1) := by decide +kernel
theorem d11_20 : decode jdk_2097_method_25_code 20 = .ok (.putfield 28, 3) := by decide +kernel
theorem d11_23 : decode jdk_2097_method_25_code 23 = .ok (.aload_n 0, 1) := by decide +kernel
theorem d11_24 : decode jdk_2097_method_25_code 24 = .ok (.getfield 28, 3) := by decide +kernel
theorem d11_27 : decode jdk_2097_method_25_code 27 = .ok (.arraylength, 1) := by decide +kernel
theorem d11_28 : decode jdk_2097_method_25_code 28 = .ok (.ldc 43, 2) := by decide +kernel
theorem d11_30 : decode jdk_2097_method_25_code 30 = .ok (.if_icmp .lt 7, 3) := by decide +kernel
theorem d11_33 : decode jdk_2097_method_25_code 33 = .ok (.aload_n 0, 1) := by decide +kernel
theorem d11_34 : decode jdk_2097_method_25_code 34 = .ok (.invokevirtual 44, 3) := by decide +kernel
theorem d11_37 : decode jdk_2097_method_25_code 37 = .ok (.return_, 1) := by decide +kernel
theorem ef9 (m : MethodId) (x0 : Addr) (x1 : Addr) (x2 : Int32) : entryFrame m #[(.ref x0), (.ref x1), (.int x2)] 3 = mkF m 0 #[.val (.ref x0), .val (.ref x1), .val (.int x2)] [] := by first | (simp [entryFrame, mkF, argsToLocals, Value.category]; done) | rfl
def Q_rmBI1 (Z : State) (a : Addr) (kx1 : Addr) (kc : ClassId) (u0 : Int32) (h0 : Heap) (n0 : Nat) (v : Option Value) (h : Heap) (L : List Loc) : Prop := v = none ∧ Fr n0 L ∧ Keep h0 h [a] ∧ own_BI 1 Z h a
set_option maxRecDepth 65536 in
set_option maxHeartbeats 40000000 in
theorem rmBI1 (l : Launch) (Z : State) (a0 : Array Value) (hw : ∀ d ∈ tables_1, d.before a0 Z = true) (ws : List Jvm.Cond) (a : Addr) (kx1 : Addr) (kc : ClassId) (u0 : Int32) (h0 : Heap) (n0 : Nat) (Z0 : n0 ≤ h0.size) (pS : Fld Z h0 a "java/math/BigInteger" "signum" "I" (.int (0 : Int32))) (pM : Fld Z h0 a "java/math/BigInteger" "mag" "[I" .null) (pE : Exa Z h0 a "java/math/BigInteger") (la : n0 ≤ a) (pA1 : Ary Z h0 kx1 kc .int [(.int u0)]) (n1a : kx1 ≠ a) :
    Con l Z (⟨"java/math/BigInteger", "<init>", "([II)V"⟩ : MethodName) jdk_2097_method_25_code 3 none ws ({ frames := 2, cells := 0, slots := 0, locals := 26 } : Room) #[(.ref a), (.ref kx1), (.int (1 : Int32))] h0 (({ frames := 2, cells := 0, slots := 0, locals := 26 } : Room).cells) (({ frames := 2, cells := 0, slots := 0, locals := 26 } : Room).slots) (Q_rmBI1 Z a kx1 kc u0 h0 n0) := by
  refine Con.of (plainFor_of_name pn1) ?_
  intro p e s m below meth c s₁ hx hby hml hown hnm hret hlk hZ X0 e0
  have N0 := Fr.nil n0
  refine goE (L := #[.val (.ref a), .val (.ref kx1), .val (.int (1 : Int32))]) (ef9 m a kx1 (1 : Int32)) ?_
  refine gAloadN X0 hx (hb hby d11_0) (q := 1) rfl rfl rfl ?_
  refine gCallN X0 hx hZ rfl hown (hw _ (List.mem_of_getElem? (i := 41) rfl)) (hw _ (List.mem_of_getElem? (i := 42) rfl)) (hw _ (List.mem_of_getElem? (i := 45) rfl)) (hw _ (List.mem_of_getElem? (i := 46) rfl)) (by decide) (rmNum l Z a0 hw [] a h0 n0 Z0) (W := 0) (by decide) (by decide) e0 (by rw [hml]; rfl) [] (lenOf pd0 rfl) rfl (S := []) rfl (Nat.le_of_eq rfl) (hb hby d11_1) (q := 4) rfl (by decide) (by decide) (fun r1 T1 M1 X1 q1 => ?_)
  obtain ⟨rfl, M1n, e1⟩ := q1
  have N2 := Fr.app N0 M1n
  dsimp only [Option.toList, List.cons_append, List.nil_append]
  refine gAloadN X1 hx (hb hby d11_4) (q := 5) rfl rfl rfl ?_
  refine gAloadN X1 hx (hb hby d11_5) (q := 6) rfl rfl rfl ?_
  refine gLen X1 hx hZ e1 pA1 (n := (1 : Int32)) rfl (hb hby d11_6) (q := 7) rfl ?_
  refine gIfY X1 hx (hb hby d11_7) (q := 14) (by decide) (by decide) (XT.i0_ne_t (by decide)) ?_
  refine gIloadN X1 hx (hb hby d11_14) (q := 15) rfl rfl ?_
  refine gPutF X1 hx hZ (host := "") hown (Or.inl (hw _ (List.mem_of_getElem? (i := 48) rfl))) Via.refl e1 pS pE (Or.inr ⟨(hw _ (List.mem_of_getElem? (i := 49) rfl)), rfl, hnm⟩) (hw _ (List.mem_of_getElem? (i := 36) rfl)) (ty := .int) (by decide) rfl rfl (hb hby d11_15) (q := 18) rfl (fun T3 h3 X3 e3 W3 => ?_)
  have N4 := Fr.snoc X3 N2 la
  have K5 := (Keep.refl h0 [a]).wr W3 (Or.inl (List.mem_of_getElem? (i := 0) rfl))
  have F6 := Fld.same W3 pS
  have F7 := Fld.other W3 pM (Or.inr (slot_ne (Or.inr (hw _ (List.mem_of_getElem? (i := 52) rfl))) (Or.inr (hw _ (List.mem_of_getElem? (i := 49) rfl))) (by decide) (t := .array (.int)) (by decide) (t' := .int) (by decide)))
  have E8 := Exa.wr W3 pE
  have A9 := Ary.other W3 pA1 n1a
  have Z10 : n0 ≤ h3.size := by rw [W3.size]; exact Z0
  refine gAloadN X3 hx (hb hby d11_18) (q := 19) rfl rfl rfl ?_
  refine gAloadN X3 hx (hb hby d11_19) (q := 20) rfl rfl rfl ?_
  refine gPutF X3 hx hZ (host := "") hown (Or.inl (hw _ (List.mem_of_getElem? (i := 51) rfl))) Via.refl e3 F7 E8 (Or.inr ⟨(hw _ (List.mem_of_getElem? (i := 52) rfl)), rfl, hnm⟩) (hw _ (List.mem_of_getElem? (i := 36) rfl)) (ty := .array (.int)) (by decide) rfl rfl (hb hby d11_20) (q := 23) rfl (fun T11 h11 X11 e11 W11 => ?_)
  have N12 := Fr.snoc X11 N4 la
  have K13 := K5.wr W11 (Or.inl (List.mem_of_getElem? (i := 0) rfl))
  have F14 := Fld.other W11 F6 (Or.inr (slot_ne (Or.inr (hw _ (List.mem_of_getElem? (i := 49) rfl))) (Or.inr (hw _ (List.mem_of_getElem? (i := 52) rfl))) (by decide) (t := .int) (by decide) (t' := .array (.int)) (by decide)))
  have F15 := Fld.same W11 F7
  have E16 := Exa.wr W11 E8
  have A17 := Ary.other W11 A9 n1a
  have Z18 : n0 ≤ h11.size := by rw [W11.size]; exact Z10
  refine gAloadN X11 hx (hb hby d11_23) (q := 24) rfl rfl rfl ?_
  refine gGetF X11 hx hZ (host := "") hown (Or.inl (hw _ (List.mem_of_getElem? (i := 51) rfl))) Via.refl e11 F15 (hb hby d11_24) (q := 27) rfl (fun T19 X19 e19 => ?_)
  refine gLen X19 hx hZ e19 A17 (n := (1 : Int32)) rfl (hb hby d11_27) (q := 28) rfl ?_
  refine gLdc X19 hx hZ hown (hw _ (List.mem_of_getElem? (i := 65) rfl)) (hb hby d11_28) (q := 30) rfl ?_
  refine gIcmpY X19 hx (hb hby d11_30) (q := 37) (by decide) (by decide) (XT.ii_lt_t (by decide)) ?_
  exact gRetV X19 hx hlk hret (hb hby d11_37) (by decide) (by decide) (by rw [e19]; exact ⟨rfl, N12, K13, ⟨E16, Or.inr ⟨F14, kx1, _, [u0], F15, A17, show 1 ≤ 1 by decide, show 1 ≤ 1 by decide⟩⟩⟩)
theorem ef10 (m : MethodId) (x0 : Addr) (x1 : Addr) (x2 : Int32) : entryFrame m #[(.ref x0), (.ref x1), (.int x2)] 3 = mkF m 0 #[.val (.ref x0), .val (.ref x1), .val (.int x2)] [] := by first | (simp [entryFrame, mkF, argsToLocals, Value.category]; done) | rfl
def Q_rmBI2 (Z : State) (a : Addr) (kx1 : Addr) (kc : ClassId) (u0 : Int32) (u1 : Int32) (h0 : Heap) (n0 : Nat) (v : Option Value) (h : Heap) (L : List Loc) : Prop := v = none ∧ Fr n0 L ∧ Keep h0 h [a] ∧ own_BI 2 Z h a
set_option maxRecDepth 65536 in
set_option maxHeartbeats 40000000 in
theorem rmBI2 (l : Launch) (Z : State) (a0 : Array Value) (hw : ∀ d ∈ tables_1, d.before a0 Z = true) (ws : List Jvm.Cond) (a : Addr) (kx1 : Addr) (kc : ClassId) (u0 : Int32) (u1 : Int32) (h0 : Heap) (n0 : Nat) (Z0 : n0 ≤ h0.size) (pS : Fld Z h0 a "java/math/BigInteger" "signum" "I" (.int (0 : Int32))) (pM : Fld Z h0 a "java/math/BigInteger" "mag" "[I" .null) (pE : Exa Z h0 a "java/math/BigInteger") (la : n0 ≤ a) (pA1 : Ary Z h0 kx1 kc .int [(.int u0), (.int u1)]) (n1a : kx1 ≠ a) :
    Con l Z (⟨"java/math/BigInteger", "<init>", "([II)V"⟩ : MethodName) jdk_2097_method_25_code 3 none ws ({ frames := 2, cells := 0, slots := 0, locals := 26 } : Room) #[(.ref a), (.ref kx1), (.int (1 : Int32))] h0 (({ frames := 2, cells := 0, slots := 0, locals := 26 } : Room).cells) (({ frames := 2, cells := 0, slots := 0, locals := 26 } : Room).slots) (Q_rmBI2 Z a kx1 kc u0 u1 h0 n0) := by
  refine Con.of (plainFor_of_name pn1) ?_
  intro p e s m below meth c s₁ hx hby hml hown hnm hret hlk hZ X0 e0
  have N0 := Fr.nil n0
  refine goE (L := #[.val (.ref a), .val (.ref kx1), .val (.int (1 : Int32))]) (ef10 m a kx1 (1 : Int32)) ?_
  refine gAloadN X0 hx (hb hby d11_0) (q := 1) rfl rfl rfl ?_
  refine gCallN X0 hx hZ rfl hown (hw _ (List.mem_of_getElem? (i := 41) rfl)) (hw _ (List.mem_of_getElem? (i := 42) rfl)) (hw _ (List.mem_of_getElem? (i := 45) rfl)) (hw _ (List.mem_of_getElem? (i := 46) rfl)) (by decide) (rmNum l Z a0 hw [] a h0 n0 Z0) (W := 0) (by decide) (by decide) e0 (by rw [hml]; rfl) [] (lenOf pd0 rfl) rfl (S := []) rfl (Nat.le_of_eq rfl) (hb hby d11_1) (q := 4) rfl (by decide) (by decide) (fun r1 T1 M1 X1 q1 => ?_)
  obtain ⟨rfl, M1n, e1⟩ := q1
  have N2 := Fr.app N0 M1n
  dsimp only [Option.toList, List.cons_append, List.nil_append]
  refine gAloadN X1 hx (hb hby d11_4) (q := 5) rfl rfl rfl ?_
  refine gAloadN X1 hx (hb hby d11_5) (q := 6) rfl rfl rfl ?_
  refine gLen X1 hx hZ e1 pA1 (n := (2 : Int32)) rfl (hb hby d11_6) (q := 7) rfl ?_
  refine gIfY X1 hx (hb hby d11_7) (q := 14) (by decide) (by decide) (XT.i0_ne_t (by decide)) ?_
  refine gIloadN X1 hx (hb hby d11_14) (q := 15) rfl rfl ?_
  refine gPutF X1 hx hZ (host := "") hown (Or.inl (hw _ (List.mem_of_getElem? (i := 48) rfl))) Via.refl e1 pS pE (Or.inr ⟨(hw _ (List.mem_of_getElem? (i := 49) rfl)), rfl, hnm⟩) (hw _ (List.mem_of_getElem? (i := 36) rfl)) (ty := .int) (by decide) rfl rfl (hb hby d11_15) (q := 18) rfl (fun T3 h3 X3 e3 W3 => ?_)
  have N4 := Fr.snoc X3 N2 la
  have K5 := (Keep.refl h0 [a]).wr W3 (Or.inl (List.mem_of_getElem? (i := 0) rfl))
  have F6 := Fld.same W3 pS
  have F7 := Fld.other W3 pM (Or.inr (slot_ne (Or.inr (hw _ (List.mem_of_getElem? (i := 52) rfl))) (Or.inr (hw _ (List.mem_of_getElem? (i := 49) rfl))) (by decide) (t := .array (.int)) (by decide) (t' := .int) (by decide)))
  have E8 := Exa.wr W3 pE
  have A9 := Ary.other W3 pA1 n1a
  have Z10 : n0 ≤ h3.size := by rw [W3.size]; exact Z0
  refine gAloadN X3 hx (hb hby d11_18) (q := 19) rfl rfl rfl ?_
  refine gAloadN X3 hx (hb hby d11_19) (q := 20) rfl rfl rfl ?_
  refine gPutF X3 hx hZ (host := "") hown (Or.inl (hw _ (List.mem_of_getElem? (i := 51) rfl))) Via.refl e3 F7 E8 (Or.inr ⟨(hw _ (List.mem_of_getElem? (i := 52) rfl)), rfl, hnm⟩) (hw _ (List.mem_of_getElem? (i := 36) rfl)) (ty := .array (.int)) (by decide) rfl rfl (hb hby d11_20) (q := 23) rfl (fun T11 h11 X11 e11 W11 => ?_)
  have N12 := Fr.snoc X11 N4 la
  have K13 := K5.wr W11 (Or.inl (List.mem_of_getElem? (i := 0) rfl))
  have F14 := Fld.other W11 F6 (Or.inr (slot_ne (Or.inr (hw _ (List.mem_of_getElem? (i := 49) rfl))) (Or.inr (hw _ (List.mem_of_getElem? (i := 52) rfl))) (by decide) (t := .int) (by decide) (t' := .array (.int)) (by decide)))
  have F15 := Fld.same W11 F7
  have E16 := Exa.wr W11 E8
  have A17 := Ary.other W11 A9 n1a
  have Z18 : n0 ≤ h11.size := by rw [W11.size]; exact Z10
  refine gAloadN X11 hx (hb hby d11_23) (q := 24) rfl rfl rfl ?_
  refine gGetF X11 hx hZ (host := "") hown (Or.inl (hw _ (List.mem_of_getElem? (i := 51) rfl))) Via.refl e11 F15 (hb hby d11_24) (q := 27) rfl (fun T19 X19 e19 => ?_)
  refine gLen X19 hx hZ e19 A17 (n := (2 : Int32)) rfl (hb hby d11_27) (q := 28) rfl ?_
  refine gLdc X19 hx hZ hown (hw _ (List.mem_of_getElem? (i := 65) rfl)) (hb hby d11_28) (q := 30) rfl ?_
  refine gIcmpY X19 hx (hb hby d11_30) (q := 37) (by decide) (by decide) (XT.ii_lt_t (by decide)) ?_
  exact gRetV X19 hx hlk hret (hb hby d11_37) (by decide) (by decide) (by rw [e19]; exact ⟨rfl, N12, K13, ⟨E16, Or.inr ⟨F14, kx1, _, [u0, u1], F15, A17, show 1 ≤ 2 by decide, show 2 ≤ 2 by decide⟩⟩⟩)
theorem ef11 (m : MethodId) (x0 : Addr) (x1 : Addr) (x2 : Int32) : entryFrame m #[(.ref x0), (.ref x1), (.int x2)] 3 = mkF m 0 #[.val (.ref x0), .val (.ref x1), .val (.int x2)] [] := by first | (simp [entryFrame, mkF, argsToLocals, Value.category]; done) | rfl
def Q_rmBI3 (Z : State) (a : Addr) (kx1 : Addr) (kc : ClassId) (u0 : Int32) (u1 : Int32) (u2 : Int32) (h0 : Heap) (n0 : Nat) (v : Option Value) (h : Heap) (L : List Loc) : Prop := v = none ∧ Fr n0 L ∧ Keep h0 h [a] ∧ own_BI 3 Z h a
set_option maxRecDepth 65536 in
set_option maxHeartbeats 40000000 in
theorem rmBI3 (l : Launch) (Z : State) (a0 : Array Value) (hw : ∀ d ∈ tables_1, d.before a0 Z = true) (ws : List Jvm.Cond) (a : Addr) (kx1 : Addr) (kc : ClassId) (u0 : Int32) (u1 : Int32) (u2 : Int32) (h0 : Heap) (n0 : Nat) (Z0 : n0 ≤ h0.size) (pS : Fld Z h0 a "java/math/BigInteger" "signum" "I" (.int (0 : Int32))) (pM : Fld Z h0 a "java/math/BigInteger" "mag" "[I" .null) (pE : Exa Z h0 a "java/math/BigInteger") (la : n0 ≤ a) (pA1 : Ary Z h0 kx1 kc .int [(.int u0), (.int u1), (.int u2)]) (n1a : kx1 ≠ a) :
    Con l Z (⟨"java/math/BigInteger", "<init>", "([II)V"⟩ : MethodName) jdk_2097_method_25_code 3 none ws ({ frames := 2, cells := 0, slots := 0, locals := 26 } : Room) #[(.ref a), (.ref kx1), (.int (1 : Int32))] h0 (({ frames := 2, cells := 0, slots := 0, locals := 26 } : Room).cells) (({ frames := 2, cells := 0, slots := 0, locals := 26 } : Room).slots) (Q_rmBI3 Z a kx1 kc u0 u1 u2 h0 n0) := by
  refine Con.of (plainFor_of_name pn1) ?_
  intro p e s m below meth c s₁ hx hby hml hown hnm hret hlk hZ X0 e0
  have N0 := Fr.nil n0
  refine goE (L := #[.val (.ref a), .val (.ref kx1), .val (.int (1 : Int32))]) (ef11 m a kx1 (1 : Int32)) ?_
  refine gAloadN X0 hx (hb hby d11_0) (q := 1) rfl rfl rfl ?_
  refine gCallN X0 hx hZ rfl hown (hw _ (List.mem_of_getElem? (i := 41) rfl)) (hw _ (List.mem_of_getElem? (i := 42) rfl)) (hw _ (List.mem_of_getElem? (i := 45) rfl)) (hw _ (List.mem_of_getElem? (i := 46) rfl)) (by decide) (rmNum l Z a0 hw [] a h0 n0 Z0) (W := 0) (by decide) (by decide) e0 (by rw [hml]; rfl) [] (lenOf pd0 rfl) rfl (S := []) rfl (Nat.le_of_eq rfl) (hb hby d11_1) (q := 4) rfl (by decide) (by decide) (fun r1 T1 M1 X1 q1 => ?_)
  obtain ⟨rfl, M1n, e1⟩ := q1
  have N2 := Fr.app N0 M1n
  dsimp only [Option.toList, List.cons_append, List.nil_append]
  refine gAloadN X1 hx (hb hby d11_4) (q := 5) rfl rfl rfl ?_
  refine gAloadN X1 hx (hb hby d11_5) (q := 6) rfl rfl rfl ?_
  refine gLen X1 hx hZ e1 pA1 (n := (3 : Int32)) rfl (hb hby d11_6) (q := 7) rfl ?_
  refine gIfY X1 hx (hb hby d11_7) (q := 14) (by decide) (by decide) (XT.i0_ne_t (by decide)) ?_
  refine gIloadN X1 hx (hb hby d11_14) (q := 15) rfl rfl ?_
  refine gPutF X1 hx hZ (host := "") hown (Or.inl (hw _ (List.mem_of_getElem? (i := 48) rfl))) Via.refl e1 pS pE (Or.inr ⟨(hw _ (List.mem_of_getElem? (i := 49) rfl)), rfl, hnm⟩) (hw _ (List.mem_of_getElem? (i := 36) rfl)) (ty := .int) (by decide) rfl rfl (hb hby d11_15) (q := 18) rfl (fun T3 h3 X3 e3 W3 => ?_)
  have N4 := Fr.snoc X3 N2 la
  have K5 := (Keep.refl h0 [a]).wr W3 (Or.inl (List.mem_of_getElem? (i := 0) rfl))
  have F6 := Fld.same W3 pS
  have F7 := Fld.other W3 pM (Or.inr (slot_ne (Or.inr (hw _ (List.mem_of_getElem? (i := 52) rfl))) (Or.inr (hw _ (List.mem_of_getElem? (i := 49) rfl))) (by decide) (t := .array (.int)) (by decide) (t' := .int) (by decide)))
  have E8 := Exa.wr W3 pE
  have A9 := Ary.other W3 pA1 n1a
  have Z10 : n0 ≤ h3.size := by rw [W3.size]; exact Z0
  refine gAloadN X3 hx (hb hby d11_18) (q := 19) rfl rfl rfl ?_
  refine gAloadN X3 hx (hb hby d11_19) (q := 20) rfl rfl rfl ?_
  refine gPutF X3 hx hZ (host := "") hown (Or.inl (hw _ (List.mem_of_getElem? (i := 51) rfl))) Via.refl e3 F7 E8 (Or.inr ⟨(hw _ (List.mem_of_getElem? (i := 52) rfl)), rfl, hnm⟩) (hw _ (List.mem_of_getElem? (i := 36) rfl)) (ty := .array (.int)) (by decide) rfl rfl (hb hby d11_20) (q := 23) rfl (fun T11 h11 X11 e11 W11 => ?_)
  have N12 := Fr.snoc X11 N4 la
  have K13 := K5.wr W11 (Or.inl (List.mem_of_getElem? (i := 0) rfl))
  have F14 := Fld.other W11 F6 (Or.inr (slot_ne (Or.inr (hw _ (List.mem_of_getElem? (i := 49) rfl))) (Or.inr (hw _ (List.mem_of_getElem? (i := 52) rfl))) (by decide) (t := .int) (by decide) (t' := .array (.int)) (by decide)))
  have F15 := Fld.same W11 F7
  have E16 := Exa.wr W11 E8
  have A17 := Ary.other W11 A9 n1a
  have Z18 : n0 ≤ h11.size := by rw [W11.size]; exact Z10
  refine gAloadN X11 hx (hb hby d11_23) (q := 24) rfl rfl rfl ?_
  refine gGetF X11 hx hZ (host := "") hown (Or.inl (hw _ (List.mem_of_getElem? (i := 51) rfl))) Via.refl e11 F15 (hb hby d11_24) (q := 27) rfl (fun T19 X19 e19 => ?_)
  refine gLen X19 hx hZ e19 A17 (n := (3 : Int32)) rfl (hb hby d11_27) (q := 28) rfl ?_
  refine gLdc X19 hx hZ hown (hw _ (List.mem_of_getElem? (i := 65) rfl)) (hb hby d11_28) (q := 30) rfl ?_
  refine gIcmpY X19 hx (hb hby d11_30) (q := 37) (by decide) (by decide) (XT.ii_lt_t (by decide)) ?_
  exact gRetV X19 hx hlk hret (hb hby d11_37) (by decide) (by decide) (by rw [e19]; exact ⟨rfl, N12, K13, ⟨E16, Or.inr ⟨F14, kx1, _, [u0, u1, u2], F15, A17, show 1 ≤ 3 by decide, show 3 ≤ 3 by decide⟩⟩⟩)
theorem ef12 (m : MethodId) (x0 : Addr) (x1 : Addr) (x2 : Int32) : entryFrame m #[(.ref x0), (.ref x1), (.int x2)] 3 = mkF m 0 #[.val (.ref x0), .val (.ref x1), .val (.int x2)] [] := by first | (simp [entryFrame, mkF, argsToLocals, Value.category]; done) | rfl
def Q_rmBI4 (Z : State) (a : Addr) (kx1 : Addr) (kc : ClassId) (u0 : Int32) (u1 : Int32) (u2 : Int32) (u3 : Int32) (h0 : Heap) (n0 : Nat) (v : Option Value) (h : Heap) (L : List Loc) : Prop := v = none ∧ Fr n0 L ∧ Keep h0 h [a] ∧ own_BI 4 Z h a
set_option maxRecDepth 65536 in
set_option maxHeartbeats 40000000 in
theorem rmBI4 (l : Launch) (Z : State) (a0 : Array Value) (hw : ∀ d ∈ tables_1, d.before a0 Z = true) (ws : List Jvm.Cond) (a : Addr) (kx1 : Addr) (kc : ClassId) (u0 : Int32) (u1 : Int32) (u2 : Int32) (u3 : Int32) (h0 : Heap) (n0 : Nat) (Z0 : n0 ≤ h0.size) (pS : Fld Z h0 a "java/math/BigInteger" "signum" "I" (.int (0 : Int32))) (pM : Fld Z h0 a "java/math/BigInteger" "mag" "[I" .null) (pE : Exa Z h0 a "java/math/BigInteger") (la : n0 ≤ a) (pA1 : Ary Z h0 kx1 kc .int [(.int u0), (.int u1), (.int u2), (.int u3)]) (n1a : kx1 ≠ a) :
    Con l Z (⟨"java/math/BigInteger", "<init>", "([II)V"⟩ : MethodName) jdk_2097_method_25_code 3 none ws ({ frames := 2, cells := 0, slots := 0, locals := 26 } : Room) #[(.ref a), (.ref kx1), (.int (1 : Int32))] h0 (({ frames := 2, cells := 0, slots := 0, locals := 26 } : Room).cells) (({ frames := 2, cells := 0, slots := 0, locals := 26 } : Room).slots) (Q_rmBI4 Z a kx1 kc u0 u1 u2 u3 h0 n0) := by
  refine Con.of (plainFor_of_name pn1) ?_
  intro p e s m below meth c s₁ hx hby hml hown hnm hret hlk hZ X0 e0
  have N0 := Fr.nil n0
  refine goE (L := #[.val (.ref a), .val (.ref kx1), .val (.int (1 : Int32))]) (ef12 m a kx1 (1 : Int32)) ?_
  refine gAloadN X0 hx (hb hby d11_0) (q := 1) rfl rfl rfl ?_
  refine gCallN X0 hx hZ rfl hown (hw _ (List.mem_of_getElem? (i := 41) rfl)) (hw _ (List.mem_of_getElem? (i := 42) rfl)) (hw _ (List.mem_of_getElem? (i := 45) rfl)) (hw _ (List.mem_of_getElem? (i := 46) rfl)) (by decide) (rmNum l Z a0 hw [] a h0 n0 Z0) (W := 0) (by decide) (by decide) e0 (by rw [hml]; rfl) [] (lenOf pd0 rfl) rfl (S := []) rfl (Nat.le_of_eq rfl) (hb hby d11_1) (q := 4) rfl (by decide) (by decide) (fun r1 T1 M1 X1 q1 => ?_)
  obtain ⟨rfl, M1n, e1⟩ := q1
  have N2 := Fr.app N0 M1n
  dsimp only [Option.toList, List.cons_append, List.nil_append]
  refine gAloadN X1 hx (hb hby d11_4) (q := 5) rfl rfl rfl ?_
  refine gAloadN X1 hx (hb hby d11_5) (q := 6) rfl rfl rfl ?_
  refine gLen X1 hx hZ e1 pA1 (n := (4 : Int32)) rfl (hb hby d11_6) (q := 7) rfl ?_
  refine gIfY X1 hx (hb hby d11_7) (q := 14) (by decide) (by decide) (XT.i0_ne_t (by decide)) ?_
  refine gIloadN X1 hx (hb hby d11_14) (q := 15) rfl rfl ?_
  refine gPutF X1 hx hZ (host := "") hown (Or.inl (hw _ (List.mem_of_getElem? (i := 48) rfl))) Via.refl e1 pS pE (Or.inr ⟨(hw _ (List.mem_of_getElem? (i := 49) rfl)), rfl, hnm⟩) (hw _ (List.mem_of_getElem? (i := 36) rfl)) (ty := .int) (by decide) rfl rfl (hb hby d11_15) (q := 18) rfl (fun T3 h3 X3 e3 W3 => ?_)
  have N4 := Fr.snoc X3 N2 la
  have K5 := (Keep.refl h0 [a]).wr W3 (Or.inl (List.mem_of_getElem? (i := 0) rfl))
  have F6 := Fld.same W3 pS
  have F7 := Fld.other W3 pM (Or.inr (slot_ne (Or.inr (hw _ (List.mem_of_getElem? (i := 52) rfl))) (Or.inr (hw _ (List.mem_of_getElem? (i := 49) rfl))) (by decide) (t := .array (.int)) (by decide) (t' := .int) (by decide)))
  have E8 := Exa.wr W3 pE
  have A9 := Ary.other W3 pA1 n1a
  have Z10 : n0 ≤ h3.size := by rw [W3.size]; exact Z0
  refine gAloadN X3 hx (hb hby d11_18) (q := 19) rfl rfl rfl ?_
  refine gAloadN X3 hx (hb hby d11_19) (q := 20) rfl rfl rfl ?_
  refine gPutF X3 hx hZ (host := "") hown (Or.inl (hw _ (List.mem_of_getElem? (i := 51) rfl))) Via.refl e3 F7 E8 (Or.inr ⟨(hw _ (List.mem_of_getElem? (i := 52) rfl)), rfl, hnm⟩) (hw _ (List.mem_of_getElem? (i := 36) rfl)) (ty := .array (.int)) (by decide) rfl rfl (hb hby d11_20) (q := 23) rfl (fun T11 h11 X11 e11 W11 => ?_)
  have N12 := Fr.snoc X11 N4 la
  have K13 := K5.wr W11 (Or.inl (List.mem_of_getElem? (i := 0) rfl))
  have F14 := Fld.other W11 F6 (Or.inr (slot_ne (Or.inr (hw _ (List.mem_of_getElem? (i := 49) rfl))) (Or.inr (hw _ (List.mem_of_getElem? (i := 52) rfl))) (by decide) (t := .int) (by decide) (t' := .array (.int)) (by decide)))
  have F15 := Fld.same W11 F7
  have E16 := Exa.wr W11 E8
  have A17 := Ary.other W11 A9 n1a
  have Z18 : n0 ≤ h11.size := by rw [W11.size]; exact Z10
  refine gAloadN X11 hx (hb hby d11_23) (q := 24) rfl rfl rfl ?_
  refine gGetF X11 hx hZ (host := "") hown (Or.inl (hw _ (List.mem_of_getElem? (i := 51) rfl))) Via.refl e11 F15 (hb hby d11_24) (q := 27) rfl (fun T19 X19 e19 => ?_)
  refine gLen X19 hx hZ e19 A17 (n := (4 : Int32)) rfl (hb hby d11_27) (q := 28) rfl ?_
  refine gLdc X19 hx hZ hown (hw _ (List.mem_of_getElem? (i := 65) rfl)) (hb hby d11_28) (q := 30) rfl ?_
  refine gIcmpY X19 hx (hb hby d11_30) (q := 37) (by decide) (by decide) (XT.ii_lt_t (by decide)) ?_
  exact gRetV X19 hx hlk hret (hb hby d11_37) (by decide) (by decide) (by rw [e19]; exact ⟨rfl, N12, K13, ⟨E16, Or.inr ⟨F14, kx1, _, [u0, u1, u2, u3], F15, A17, show 1 ≤ 4 by decide, show 4 ≤ 4 by decide⟩⟩⟩)
theorem d9_0 : decode jdk_2097_method_32_code 0 = .ok (.aload_n 1, 1) := by decide +kernel
theorem d9_1 : decode jdk_2097_method_32_code 1 = .ok (.getfield 32, 3) := by decide +kernel
theorem d9_4 : decode jdk_2097_method_32_code 4 = .ok (.ifCond .ne 5, 3) := by decide +kernel
theorem d9_7 : decode jdk_2097_method_32_code 7 = .ok (.aload_n 0, 1) := by decide +kernel
theorem d9_8 : decode jdk_2097_method_32_code 8 = .ok (.areturn, 1) := by decide +kernel
theorem d9_9 : decode jdk_2097_method_32_code 9 = .ok (.aload_n 0, 1) := by decide +kernel
theorem d9_10 : decode jdk_2097_method_32_code 10 = .ok (.getfield 32, 3) := by decide +kernel
theorem d9_13 : decode jdk_2097_method_32_code 13 = .ok (.ifCond .ne 5, 3) := by decide +kernel
theorem d9_16 : decode jdk_2097_method_32_code 16 = .ok (.aload_n 1, 1) := by decide +kernel
theorem d9_17 : decode jdk_2097_method_32_code 17 = .ok (.areturn, 1) := by decide +kernel
theorem d9_18 : decode jdk_2097_method_32_code 18 = .ok (.aload_n 1, 1) := by decide +kernel
theorem d9_19 : decode jdk_2097_method_32_code 19 = .ok (.getfield 32, 3) := by decide +kernel
theorem d9_22 : decode jdk_2097_method_32_code 22 = .ok (.aload_n 0, 1) := by decide +kernel
theorem d9_23 : decode jdk_2097_method_32_code 23 = .ok (.getfield 32, 3) := by decide +kernel
theorem d9_26 : decode jdk_2097_method_32_code 26 = .ok (.if_icmp .ne 26, 3) := by decide +kernel
theorem d9_29 : decode jdk_2097_method_32_code 29 = .ok (.new 23, 3) := by decide +kernel
theorem d9_32 : decode jdk_2097_method_32_code 32 = .ok (.dup, 1) := by decide +kernel
theorem d9_33 : decode jdk_2097_method_32_code 33 = .ok (.aload_n 0, 1) := by decide +kernel
theorem d9_34 : decode jdk_2097_method_32_code 34 = .ok (.getfield 28, 3) := by decide +kernel
theorem d9_37 : decode jdk_2097_method_32_code 37 = .ok (.aload_n 1, 1) := by decide +kernel
theorem d9_38 : decode jdk_2097_method_32_code 38 = .ok (.getfield 28, 3) := by decide +kernel
theorem d9_41 : decode jdk_2097_method_32_code 41 = .ok (.invokestatic 362, 3) := by decide +kernel
theorem d9_44 : decode jdk_2097_method_32_code 44 = .ok (.aload_n 0, 1) := by decide +kernel
theorem d9_45 : decode jdk_2097_method_32_code 45 = .ok (.getfield 32, 3) := by decide +kernel
theorem d9_48 : decode jdk_2097_method_32_code 48 = .ok (.invokespecial 175, 3) := by decide +kernel
theorem d9_51 : decode jdk_2097_method_32_code 51 = .ok (.areturn, 1) := by decide +kernel
theorem d9_52 : decode jdk_2097_method_32_code 52 = .ok (.aload_n 0, 1) := by decide +kernel
theorem d9_53 : decode jdk_2097_method_32_code 53 = .ok (.aload_n 1, 1) := by decide +kernel
theorem d9_54 : decode jdk_2097_method_32_code 54 = .ok (.invokevirtual 365, 3) := by decide +kernel
theorem d9_57 : decode jdk_2097_method_32_code 57 = .ok (.istore_n 2, 1) := by decide +kernel
theorem d9_58 : decode jdk_2097_method_32_code 58 = .ok (.iload_n 2, 1) := by decide +kernel
theorem d9_59 : decode jdk_2097_method_32_code 59 = .ok (.ifCond .ne 7, 3) := by decide +kernel
theorem d9_62 : decode jdk_2097_method_32_code 62 = .ok (.getstatic 22, 3) := by decide +kernel
theorem d9_65 : decode jdk_2097_method_32_code 65 = .ok (.areturn, 1) := by decide +kernel
theorem d9_66 : decode jdk_2097_method_32_code 66 = .ok (.iload_n 2, 1) := by decide +kernel
theorem d9_67 : decode jdk_2097_method_32_code 67 = .ok (.ifCond .le 17, 3) := by decide +kernel
theorem d9_70 : decode jdk_2097_method_32_code 70 = .ok (.aload_n 0, 1) := by decide +kernel
theorem d9_71 : decode jdk_2097_method_32_code 71 = .ok (.getfield 28, 3) := by decide +kernel
theorem d9_74 : decode jdk_2097_method_32_code 74 = .ok (.aload_n 1, 1) := by decide +kernel
theorem d9_75 : decode jdk_2097_method_32_code 75 = .ok (.getfield 28, 3) := by decide +kernel
theorem d9_78 : decode jdk_2097_method_32_code 78 = .ok (.invokestatic 368, 3) := by decide +kernel
theorem d9_81 : decode jdk_2097_method_32_code 81 = .ok (.goto 14, 3) := by decide +kernel
theorem d9_84 : decode jdk_2097_method_32_code 84 = .ok (.aload_n 1, 1) := by decide +kernel
theorem d9_85 : decode jdk_2097_method_32_code 85 = .ok (.getfield 28, 3) := by decide +kernel
theorem d9_88 : decode jdk_2097_method_32_code 88 = .ok (.aload_n 0, 1) := by decide +kernel
theorem d9_89 : decode jdk_2097_method_32_code 89 = .ok (.getfield 28, 3) := by decide +kernel
theorem d9_92 : decode jdk_2097_method_32_code 92 = .ok (.invokestatic 368, 3) := by decide +kernel
theorem d9_95 : decode jdk_2097_method_32_code 95 = .ok (.astore_n 3, 1) := by decide +kernel
theorem d9_96 : decode jdk_2097_method_32_code 96 = .ok (.aload_n 3, 1) := by decide +kernel
theorem d9_97 : decode jdk_2097_method_32_code 97 = .ok (.invokestatic 53, 3) := by decide +kernel
theorem d9_100 : decode jdk_2097_method_32_code 100 = .ok (.astore_n 3, 1) := by decide +kernel
theorem d9_101 : decode jdk_2097_method_32_code 101 = .ok (.new 23, 3) := by decide +kernel
theorem d9_104 : decode jdk_2097_method_32_code 104 = .ok (.dup, 1) := by decide +kernel
theorem d9_105 : decode jdk_2097_method_32_code 105 = .ok (.aload_n 3, 1) := by decide +kernel
theorem d9_106 : decode jdk_2097_method_32_code 106 = .ok (.iload_n 2, 1) := by decide +kernel
theorem d9_107 : decode jdk_2097_method_32_code 107 = .ok (.aload_n 0, 1) := by decide +kernel
theorem d9_108 : decode jdk_2097_method_32_code 108 = .ok (.getfield 32, 3) := by decide +kernel
theorem d9_111 : decode jdk_2097_method_32_code 111 = .ok (.if_icmp .ne 7, 3) := by decide +kernel
theorem d9_114 : decode jdk_2097_method_32_code 114 = .ok (.iconst 1, 1) := by decide +kernel
theorem d9_115 : decode jdk_2097_method_32_code 115 = .ok (.goto 4, 3) := by decide +kernel
theorem d9_118 : decode jdk_2097_method_32_code 118 = .ok (.iconst (-1), 1) := by decide +kernel
theorem d9_119 : decode jdk_2097_method_32_code 119 = .ok (.invokespecial 175, 3) := by decide +kernel
theorem d9_122 : decode jdk_2097_method_32_code 122 = .ok (.areturn, 1) := by decide +kernel
theorem ef13 (m : MethodId) (x0 : Addr) (x1 : Addr) : entryFrame m #[(.ref x0), (.ref x1)] 4 = mkF m 0 #[.val (.ref x0), .val (.ref x1), .unset, .unset] [] := by first | (simp [entryFrame, mkF, argsToLocals, Value.category]; done) | rfl
def Q_rmBA2 (Z : State) (a : Addr) (b : Addr) (h0 : Heap) (n0 : Nat) (v : Option Value) (h : Heap) (L : List Loc) : Prop := ∃ r, v = some (.ref r) ∧ Fr n0 L ∧ Keep h0 h [] ∧ own_BI 3 Z h r
theorem pd2 : parseMethodDescriptor "([I[I)[I" = some ⟨[.array (.int), .array (.int)], some (.array (.int))⟩ := by decide +kernel
theorem pd3 : parseMethodDescriptor "([II)V" = some ⟨[.array (.int), .int], none⟩ := by decide +kernel
set_option maxRecDepth 65536 in
set_option maxHeartbeats 40000000 in
theorem rmBA2 (l : Launch) (Z : State) (a0 : Array Value) (hw : ∀ d ∈ tables_1, d.before a0 Z = true) (ws : List Jvm.Cond) (a : Addr) (b : Addr) (h0 : Heap) (n0 : Nat) (Z0 : n0 ≤ h0.size) (BA : own_BI 2 Z h0 a) (BB : own_BI 2 Z h0 b) :
    Con l Z (⟨"java/math/BigInteger", "add", "(Ljava/math/BigInteger;)Ljava/math/BigInteger;"⟩ : MethodName) jdk_2097_method_32_code 4 (some (.object "java/math/BigInteger")) ws ({ frames := 3, cells := 3, slots := 13, locals := 60 } : Room) #[(.ref a), (.ref b)] h0 (({ frames := 3, cells := 3, slots := 13, locals := 60 } : Room).cells) (({ frames := 3, cells := 3, slots := 13, locals := 60 } : Room).slots) (Q_rmBA2 Z a b h0 n0) := by
  refine Con.of (plainFor_of_name pn1) ?_
  intro p e s m below meth c s₁ hx hby hml hown hnm hret hlk hZ X0 e0
  have N0 := Fr.nil n0
  refine goE (L := #[.val (.ref a), .val (.ref b), .unset, .unset]) (ef13 m a b) ?_
  have BB' := BB
  have BA' := BA
  obtain ⟨EB, FB | ⟨FB, kb, cb, xb, GB, AB, lb1, lb2⟩⟩ := BB'
  · skip
    refine gAloadN X0 hx (hb hby d9_0) (q := 1) rfl rfl rfl ?_
    refine gGetF X0 hx hZ (host := "") hown (Or.inl (hw _ (List.mem_of_getElem? (i := 48) rfl))) Via.refl e0 FB (hb hby d9_1) (q := 4) rfl (fun T1 X1 e1 => ?_)
    refine gIfN X1 hx (hb hby d9_4) (q := 7) rfl (XT.i0_ne_f (by decide)) ?_
    refine gAloadN X1 hx (hb hby d9_7) (q := 8) rfl rfl rfl ?_
    exact gRetA X1 hx hlk hret rfl rfl (hb hby d9_8) (by decide) (by decide) (by rw [e1]; exact ⟨_, rfl, N0, (Keep.refl h0 []), (BA.mono (by decide))⟩)
  obtain ⟨EA, FA | ⟨FA, ka, ca, xa, GA, AA, la1, la2⟩⟩ := BA'
  · skip
    refine gAloadN X0 hx (hb hby d9_0) (q := 1) rfl rfl rfl ?_
    refine gGetF X0 hx hZ (host := "") hown (Or.inl (hw _ (List.mem_of_getElem? (i := 48) rfl))) Via.refl e0 FB (hb hby d9_1) (q := 4) rfl (fun T2 X2 e2 => ?_)
    refine gIfY X2 hx (hb hby d9_4) (q := 9) (by decide) (by decide) (XT.i0_ne_t (by decide)) ?_
    refine gAloadN X2 hx (hb hby d9_9) (q := 10) rfl rfl rfl ?_
    refine gGetF X2 hx hZ (host := "") hown (Or.inl (hw _ (List.mem_of_getElem? (i := 48) rfl))) Via.refl e2 FA (hb hby d9_10) (q := 13) rfl (fun T3 X3 e3 => ?_)
    refine gIfN X3 hx (hb hby d9_13) (q := 16) rfl (XT.i0_ne_f (by decide)) ?_
    refine gAloadN X3 hx (hb hby d9_16) (q := 17) rfl rfl rfl ?_
    exact gRetA X3 hx hlk hret rfl rfl (hb hby d9_17) (by decide) (by decide) (by rw [e3]; exact ⟨_, rfl, N0, (Keep.refl h0 []), (BB.mono (by decide))⟩)
  rcases own_le2 lb1 lb2 with hlb | hlb
  · obtain ⟨w0, rfl⟩ := own_l1 hlb
    have AB2 : Ary Z h0 kb cb (.int) [(.int w0)] := AB
    rcases own_le2 la1 la2 with hla | hla
    · obtain ⟨u0, rfl⟩ := own_l1 hla
      have AA2 : Ary Z h0 ka ca (.int) [(.int u0)] := AA
      refine gAloadN X0 hx (hb hby d9_0) (q := 1) rfl rfl rfl ?_
      refine gGetF X0 hx hZ (host := "") hown (Or.inl (hw _ (List.mem_of_getElem? (i := 48) rfl))) Via.refl e0 FB (hb hby d9_1) (q := 4) rfl (fun T4 X4 e4 => ?_)
      refine gIfY X4 hx (hb hby d9_4) (q := 9) (by decide) (by decide) (XT.i0_ne_t (by decide)) ?_
      refine gAloadN X4 hx (hb hby d9_9) (q := 10) rfl rfl rfl ?_
      refine gGetF X4 hx hZ (host := "") hown (Or.inl (hw _ (List.mem_of_getElem? (i := 48) rfl))) Via.refl e4 FA (hb hby d9_10) (q := 13) rfl (fun T5 X5 e5 => ?_)
      refine gIfY X5 hx (hb hby d9_13) (q := 18) (by decide) (by decide) (XT.i0_ne_t (by decide)) ?_
      refine gAloadN X5 hx (hb hby d9_18) (q := 19) rfl rfl rfl ?_
      refine gGetF X5 hx hZ (host := "") hown (Or.inl (hw _ (List.mem_of_getElem? (i := 48) rfl))) Via.refl e5 FB (hb hby d9_19) (q := 22) rfl (fun T6 X6 e6 => ?_)
      refine gAloadN X6 hx (hb hby d9_22) (q := 23) rfl rfl rfl ?_
      refine gGetF X6 hx hZ (host := "") hown (Or.inl (hw _ (List.mem_of_getElem? (i := 48) rfl))) Via.refl e6 FA (hb hby d9_23) (q := 26) rfl (fun T7 X7 e7 => ?_)
      refine gIcmpN X7 hx (hb hby d9_26) (q := 29) rfl (XT.ii_ne_f (by decide)) ?_
      refine gNewO X7 hx hZ hown (hw _ (List.mem_of_getElem? (i := 35) rfl)) (hw _ (List.mem_of_getElem? (i := 36) rfl)) (hw _ (List.mem_of_getElem? (i := 32) rfl)) e7 (hb hby d9_29) (q := 32) rfl (by decide) (by decide) (fun T8 h8 a8 X8 e8 g8 E8 A8 D8 => ?_)
      have E9 := Exa.ext E8 EB
      have F10 := Fld.ext E8 FB
      have E11 := Exa.ext E8 EA
      have F12 := Fld.ext E8 FA
      have F13 := Fld.ext E8 GB
      have F14 := Fld.ext E8 GA
      have A15 := Ary.ext E8 AA2
      have A16 := Ary.ext E8 AB2
      have ge_a8 : h0.size ≤ a8 := by rw [g8]; exact (Keep.refl h0 []).1
      have K17 := (Keep.refl h0 []).ext E8
      have le_a8 : n0 ≤ a8 := by rw [g8]; exact Z0
      have ne_b_a8 : b ≠ a8 := by rw [g8]; exact Nat.ne_of_lt EB.lt
      have ne_a_a8 : a ≠ a8 := by rw [g8]; exact Nat.ne_of_lt EA.lt
      have ne_ka_a8 : ka ≠ a8 := by rw [g8]; exact Nat.ne_of_lt AA2.lt
      have ne_kb_a8 : kb ≠ a8 := by rw [g8]; exact Nat.ne_of_lt AB2.lt
      have Z18 := Nat.le_trans Z0 E8.1
      have F19 : Fld Z h8 a8 "java/math/BigInteger" "signum" "I" (.int (0 : Int32)) := D8 (Or.inr (hw _ (List.mem_of_getElem? (i := 49) rfl))) (ty := .int) (by decide)
      have F20 : Fld Z h8 a8 "java/math/BigInteger" "mag" "[I" (.null) := D8 (Or.inr (hw _ (List.mem_of_getElem? (i := 52) rfl))) (ty := .array (.int)) (by decide)
      clear D8
      refine gDup X8 hx (hb hby d9_32) (q := 33) rfl rfl ?_
      refine gAloadN X8 hx (hb hby d9_33) (q := 34) rfl rfl rfl ?_
      refine gGetF X8 hx hZ (host := "") hown (Or.inl (hw _ (List.mem_of_getElem? (i := 51) rfl))) Via.refl e8 F14 (hb hby d9_34) (q := 37) rfl (fun T21 X21 e21 => ?_)
      refine gAloadN X21 hx (hb hby d9_37) (q := 38) rfl rfl rfl ?_
      refine gGetF X21 hx hZ (host := "") hown (Or.inl (hw _ (List.mem_of_getElem? (i := 51) rfl))) Via.refl e21 F13 (hb hby d9_38) (q := 41) rfl (fun T22 X22 e22 => ?_)
      refine gCallS X22 hx hZ hown (hw _ (List.mem_of_getElem? (i := 58) rfl)) (hw _ (List.mem_of_getElem? (i := 59) rfl)) (hw _ (List.mem_of_getElem? (i := 32) rfl)) (hw _ (List.mem_of_getElem? (i := 60) rfl)) (by decide) (rmAA11 l Z a0 hw [] ka kb ca cb u0 w0 h8 n0 Z18 A15 A16) (W := 2) (by decide) (by decide) e22 (by rw [hml]; rfl) [(.ref ka), (.ref kb)] (lenOf pd2 rfl) rfl (S := [(.ref a8), (.ref a8)]) rfl (Nat.le_of_eq rfl) (hb hby d9_41) (q := 44) rfl (by decide) (by decide) (fun r23 T23 M23 X23 q23 => ?_)
      obtain ⟨kr, cr, xs, rfl, M23n, K23, AR, hl, gr⟩ := q23
      dsimp only [Option.toList, List.cons_append, List.nil_append]
      have N24 := Fr.app N0 M23n
      have lkr : n0 ≤ kr := Nat.le_trans Z18 gr
      have ne_b_kr : b ≠ kr := Nat.ne_of_lt (Nat.lt_of_lt_of_le E9.lt gr)
      have ne_a_kr : a ≠ kr := Nat.ne_of_lt (Nat.lt_of_lt_of_le E11.lt gr)
      have ne_ka_kr : ka ≠ kr := Nat.ne_of_lt (Nat.lt_of_lt_of_le A15.lt gr)
      have ne_kb_kr : kb ≠ kr := Nat.ne_of_lt (Nat.lt_of_lt_of_le A16.lt gr)
      have ne_a8_kr : a8 ≠ kr := Nat.ne_of_lt (Nat.lt_of_lt_of_le A8.lt gr)
      have E25 := Exa.keep E9 K23
      have F26 := Fld.keep F10 K23 nin0
      have E27 := Exa.keep E11 K23
      have F28 := Fld.keep F12 K23 nin0
      have F29 := Fld.keep F13 K23 nin0
      have F30 := Fld.keep F14 K23 nin0
      have A31 := Ary.keep A15 K23 nin0
      have A32 := Ary.keep A16 K23 nin0
      have E33 := Exa.keep A8 K23
      have F34 := Fld.keep F19 K23 nin0
      have F35 := Fld.keep F20 K23 nin0
      have Z36 := Nat.le_trans Z18 K23.1
      have KK37 := K17.trans K23 all0
      rcases hl with hl | hl
      · obtain ⟨z23_0, rfl⟩ := own_l1 hl
        have AR2 : Ary Z T23.heap kr cr (.int) [(.int z23_0)] := AR
        refine gAloadN X23 hx (hb hby d9_44) (q := 45) rfl rfl rfl ?_
        refine gGetF X23 hx hZ (host := "") hown (Or.inl (hw _ (List.mem_of_getElem? (i := 48) rfl))) Via.refl rfl F28 (hb hby d9_45) (q := 48) rfl (fun T38 X38 e38 => ?_)
        refine gCallN X38 hx hZ rfl hown (hw _ (List.mem_of_getElem? (i := 62) rfl)) (hw _ (List.mem_of_getElem? (i := 63) rfl)) (hw _ (List.mem_of_getElem? (i := 32) rfl)) (hw _ (List.mem_of_getElem? (i := 64) rfl)) (by decide) (rmBI1 l Z a0 hw [] a8 kr cr z23_0 T23.heap n0 Z36 F34 F35 E33 le_a8 AR2 ne_a8_kr.symm) (W := 1) (by decide) (by decide) e38 (by rw [hml]; rfl) [(.ref kr), (.int (1 : Int32))] (lenOf pd3 rfl) rfl (S := [(.ref a8)]) rfl (Nat.le_of_eq rfl) (hb hby d9_48) (q := 51) rfl (by decide) (by decide) (fun r39 T39 M39 X39 q39 => ?_)
        obtain ⟨rfl, M39n, K39, BN39⟩ := q39
        have N40 := Fr.app N24 M39n
        have E41 := Exa.keep E25 K39
        have F42 := Fld.keep F26 K39 (ninS ne_b_a8 nin0)
        have E43 := Exa.keep E27 K39
        have F44 := Fld.keep F28 K39 (ninS ne_a_a8 nin0)
        have F45 := Fld.keep F29 K39 (ninS ne_b_a8 nin0)
        have F46 := Fld.keep F30 K39 (ninS ne_a_a8 nin0)
        have A47 := Ary.keep A31 K39 (ninS ne_ka_a8 nin0)
        have A48 := Ary.keep A32 K39 (ninS ne_kb_a8 nin0)
        have E49 := Exa.keep E33 K39
        have A52 := Ary.keep AR2 K39 (ninS ne_a8_kr.symm nin0)
        have Z53 := Nat.le_trans Z36 K39.1
        have KK54 := KK37.trans K39 (allS (Or.inr ge_a8) all0)
        dsimp only [Option.toList, List.cons_append, List.nil_append]
        exact gRetA X39 hx hlk hret rfl rfl (hb hby d9_51) (by decide) (by decide) (by exact ⟨_, rfl, N40, KK54, (BN39.mono (by decide))⟩)
      · obtain ⟨z23_0, z23_1, rfl⟩ := own_l2 hl
        have AR2 : Ary Z T23.heap kr cr (.int) [(.int z23_0), (.int z23_1)] := AR
        refine gAloadN X23 hx (hb hby d9_44) (q := 45) rfl rfl rfl ?_
        refine gGetF X23 hx hZ (host := "") hown (Or.inl (hw _ (List.mem_of_getElem? (i := 48) rfl))) Via.refl rfl F28 (hb hby d9_45) (q := 48) rfl (fun T55 X55 e55 => ?_)
        refine gCallN X55 hx hZ rfl hown (hw _ (List.mem_of_getElem? (i := 62) rfl)) (hw _ (List.mem_of_getElem? (i := 63) rfl)) (hw _ (List.mem_of_getElem? (i := 32) rfl)) (hw _ (List.mem_of_getElem? (i := 64) rfl)) (by decide) (rmBI2 l Z a0 hw [] a8 kr cr z23_0 z23_1 T23.heap n0 Z36 F34 F35 E33 le_a8 AR2 ne_a8_kr.symm) (W := 1) (by decide) (by decide) e55 (by rw [hml]; rfl) [(.ref kr), (.int (1 : Int32))] (lenOf pd3 rfl) rfl (S := [(.ref a8)]) rfl (Nat.le_of_eq rfl) (hb hby d9_48) (q := 51) rfl (by decide) (by decide) (fun r56 T56 M56 X56 q56 => ?_)
        obtain ⟨rfl, M56n, K56, BN56⟩ := q56
        have N57 := Fr.app N24 M56n
        have E58 := Exa.keep E25 K56
        have F59 := Fld.keep F26 K56 (ninS ne_b_a8 nin0)
        have E60 := Exa.keep E27 K56
        have F61 := Fld.keep F28 K56 (ninS ne_a_a8 nin0)
        have F62 := Fld.keep F29 K56 (ninS ne_b_a8 nin0)
        have F63 := Fld.keep F30 K56 (ninS ne_a_a8 nin0)
        have A64 := Ary.keep A31 K56 (ninS ne_ka_a8 nin0)
        have A65 := Ary.keep A32 K56 (ninS ne_kb_a8 nin0)
        have E66 := Exa.keep E33 K56
        have A69 := Ary.keep AR2 K56 (ninS ne_a8_kr.symm nin0)
        have Z70 := Nat.le_trans Z36 K56.1
        have KK71 := KK37.trans K56 (allS (Or.inr ge_a8) all0)
        dsimp only [Option.toList, List.cons_append, List.nil_append]
        exact gRetA X56 hx hlk hret rfl rfl (hb hby d9_51) (by decide) (by decide) (by exact ⟨_, rfl, N57, KK71, (BN56.mono (by decide))⟩)
    · obtain ⟨u0, u1, rfl⟩ := own_l2 hla
      have AA2 : Ary Z h0 ka ca (.int) [(.int u0), (.int u1)] := AA
      refine gAloadN X0 hx (hb hby d9_0) (q := 1) rfl rfl rfl ?_
      refine gGetF X0 hx hZ (host := "") hown (Or.inl (hw _ (List.mem_of_getElem? (i := 48) rfl))) Via.refl e0 FB (hb hby d9_1) (q := 4) rfl (fun T72 X72 e72 => ?_)
      refine gIfY X72 hx (hb hby d9_4) (q := 9) (by decide) (by decide) (XT.i0_ne_t (by decide)) ?_
      refine gAloadN X72 hx (hb hby d9_9) (q := 10) rfl rfl rfl ?_
      refine gGetF X72 hx hZ (host := "") hown (Or.inl (hw _ (List.mem_of_getElem? (i := 48) rfl))) Via.refl e72 FA (hb hby d9_10) (q := 13) rfl (fun T73 X73 e73 => ?_)
      refine gIfY X73 hx (hb hby d9_13) (q := 18) (by decide) (by decide) (XT.i0_ne_t (by decide)) ?_
      refine gAloadN X73 hx (hb hby d9_18) (q := 19) rfl rfl rfl ?_
      refine gGetF X73 hx hZ (host := "") hown (Or.inl (hw _ (List.mem_of_getElem? (i := 48) rfl))) Via.refl e73 FB (hb hby d9_19) (q := 22) rfl (fun T74 X74 e74 => ?_)
      refine gAloadN X74 hx (hb hby d9_22) (q := 23) rfl rfl rfl ?_
      refine gGetF X74 hx hZ (host := "") hown (Or.inl (hw _ (List.mem_of_getElem? (i := 48) rfl))) Via.refl e74 FA (hb hby d9_23) (q := 26) rfl (fun T75 X75 e75 => ?_)
      refine gIcmpN X75 hx (hb hby d9_26) (q := 29) rfl (XT.ii_ne_f (by decide)) ?_
      refine gNewO X75 hx hZ hown (hw _ (List.mem_of_getElem? (i := 35) rfl)) (hw _ (List.mem_of_getElem? (i := 36) rfl)) (hw _ (List.mem_of_getElem? (i := 32) rfl)) e75 (hb hby d9_29) (q := 32) rfl (by decide) (by decide) (fun T76 h76 a76 X76 e76 g76 E76 A76 D76 => ?_)
      have E77 := Exa.ext E76 EB
      have F78 := Fld.ext E76 FB
      have E79 := Exa.ext E76 EA
      have F80 := Fld.ext E76 FA
      have F81 := Fld.ext E76 GB
      have F82 := Fld.ext E76 GA
      have A83 := Ary.ext E76 AA2
      have A84 := Ary.ext E76 AB2
      have ge_a76 : h0.size ≤ a76 := by rw [g76]; exact (Keep.refl h0 []).1
      have K85 := (Keep.refl h0 []).ext E76
      have le_a76 : n0 ≤ a76 := by rw [g76]; exact Z0
      have ne_b_a76 : b ≠ a76 := by rw [g76]; exact Nat.ne_of_lt EB.lt
      have ne_a_a76 : a ≠ a76 := by rw [g76]; exact Nat.ne_of_lt EA.lt
      have ne_ka_a76 : ka ≠ a76 := by rw [g76]; exact Nat.ne_of_lt AA2.lt
      have ne_kb_a76 : kb ≠ a76 := by rw [g76]; exact Nat.ne_of_lt AB2.lt
      have Z86 := Nat.le_trans Z0 E76.1
      have F87 : Fld Z h76 a76 "java/math/BigInteger" "signum" "I" (.int (0 : Int32)) := D76 (Or.inr (hw _ (List.mem_of_getElem? (i := 49) rfl))) (ty := .int) (by decide)
      have F88 : Fld Z h76 a76 "java/math/BigInteger" "mag" "[I" (.null) := D76 (Or.inr (hw _ (List.mem_of_getElem? (i := 52) rfl))) (ty := .array (.int)) (by decide)
      clear D76
      refine gDup X76 hx (hb hby d9_32) (q := 33) rfl rfl ?_
      refine gAloadN X76 hx (hb hby d9_33) (q := 34) rfl rfl rfl ?_
      refine gGetF X76 hx hZ (host := "") hown (Or.inl (hw _ (List.mem_of_getElem? (i := 51) rfl))) Via.refl e76 F82 (hb hby d9_34) (q := 37) rfl (fun T89 X89 e89 => ?_)
      refine gAloadN X89 hx (hb hby d9_37) (q := 38) rfl rfl rfl ?_
      refine gGetF X89 hx hZ (host := "") hown (Or.inl (hw _ (List.mem_of_getElem? (i := 51) rfl))) Via.refl e89 F81 (hb hby d9_38) (q := 41) rfl (fun T90 X90 e90 => ?_)
      refine gCallS X90 hx hZ hown (hw _ (List.mem_of_getElem? (i := 58) rfl)) (hw _ (List.mem_of_getElem? (i := 59) rfl)) (hw _ (List.mem_of_getElem? (i := 32) rfl)) (hw _ (List.mem_of_getElem? (i := 60) rfl)) (by decide) (rmAA21 l Z a0 hw [] ka kb ca cb u0 u1 w0 h76 n0 Z86 A83 A84) (W := 2) (by decide) (by decide) e90 (by rw [hml]; rfl) [(.ref ka), (.ref kb)] (lenOf pd2 rfl) rfl (S := [(.ref a76), (.ref a76)]) rfl (Nat.le_of_eq rfl) (hb hby d9_41) (q := 44) rfl (by decide) (by decide) (fun r91 T91 M91 X91 q91 => ?_)
      obtain ⟨kr, cr, xs, rfl, M91n, K91, AR, hl, gr⟩ := q91
      dsimp only [Option.toList, List.cons_append, List.nil_append]
      have N92 := Fr.app N0 M91n
      have lkr : n0 ≤ kr := Nat.le_trans Z86 gr
      have ne_b_kr : b ≠ kr := Nat.ne_of_lt (Nat.lt_of_lt_of_le E77.lt gr)
      have ne_a_kr : a ≠ kr := Nat.ne_of_lt (Nat.lt_of_lt_of_le E79.lt gr)
      have ne_ka_kr : ka ≠ kr := Nat.ne_of_lt (Nat.lt_of_lt_of_le A83.lt gr)
      have ne_kb_kr : kb ≠ kr := Nat.ne_of_lt (Nat.lt_of_lt_of_le A84.lt gr)
      have ne_a76_kr : a76 ≠ kr := Nat.ne_of_lt (Nat.lt_of_lt_of_le A76.lt gr)
      have E93 := Exa.keep E77 K91
      have F94 := Fld.keep F78 K91 nin0
      have E95 := Exa.keep E79 K91
      have F96 := Fld.keep F80 K91 nin0
      have F97 := Fld.keep F81 K91 nin0
      have F98 := Fld.keep F82 K91 nin0
      have A99 := Ary.keep A83 K91 nin0
      have A100 := Ary.keep A84 K91 nin0
      have E101 := Exa.keep A76 K91
      have F102 := Fld.keep F87 K91 nin0
      have F103 := Fld.keep F88 K91 nin0
      have Z104 := Nat.le_trans Z86 K91.1
      have KK105 := K85.trans K91 all0
      rcases hl with hl | hl
      · obtain ⟨z91_0, z91_1, rfl⟩ := own_l2 hl
        have AR2 : Ary Z T91.heap kr cr (.int) [(.int z91_0), (.int z91_1)] := AR
        refine gAloadN X91 hx (hb hby d9_44) (q := 45) rfl rfl rfl ?_
        refine gGetF X91 hx hZ (host := "") hown (Or.inl (hw _ (List.mem_of_getElem? (i := 48) rfl))) Via.refl rfl F96 (hb hby d9_45) (q := 48) rfl (fun T106 X106 e106 => ?_)
        refine gCallN X106 hx hZ rfl hown (hw _ (List.mem_of_getElem? (i := 62) rfl)) (hw _ (List.mem_of_getElem? (i := 63) rfl)) (hw _ (List.mem_of_getElem? (i := 32) rfl)) (hw _ (List.mem_of_getElem? (i := 64) rfl)) (by decide) (rmBI2 l Z a0 hw [] a76 kr cr z91_0 z91_1 T91.heap n0 Z104 F102 F103 E101 le_a76 AR2 ne_a76_kr.symm) (W := 1) (by decide) (by decide) e106 (by rw [hml]; rfl) [(.ref kr), (.int (1 : Int32))] (lenOf pd3 rfl) rfl (S := [(.ref a76)]) rfl (Nat.le_of_eq rfl) (hb hby d9_48) (q := 51) rfl (by decide) (by decide) (fun r107 T107 M107 X107 q107 => ?_)
        obtain ⟨rfl, M107n, K107, BN107⟩ := q107
        have N108 := Fr.app N92 M107n
        have E109 := Exa.keep E93 K107
        have F110 := Fld.keep F94 K107 (ninS ne_b_a76 nin0)
        have E111 := Exa.keep E95 K107
        have F112 := Fld.keep F96 K107 (ninS ne_a_a76 nin0)
        have F113 := Fld.keep F97 K107 (ninS ne_b_a76 nin0)
        have F114 := Fld.keep F98 K107 (ninS ne_a_a76 nin0)
        have A115 := Ary.keep A99 K107 (ninS ne_ka_a76 nin0)
        have A116 := Ary.keep A100 K107 (ninS ne_kb_a76 nin0)
        have E117 := Exa.keep E101 K107
        have A120 := Ary.keep AR2 K107 (ninS ne_a76_kr.symm nin0)
        have Z121 := Nat.le_trans Z104 K107.1
        have KK122 := KK105.trans K107 (allS (Or.inr ge_a76) all0)
        dsimp only [Option.toList, List.cons_append, List.nil_append]
        exact gRetA X107 hx hlk hret rfl rfl (hb hby d9_51) (by decide) (by decide) (by exact ⟨_, rfl, N108, KK122, (BN107.mono (by decide))⟩)
      · obtain ⟨z91_0, z91_1, z91_2, rfl⟩ := own_l3 hl
        have AR2 : Ary Z T91.heap kr cr (.int) [(.int z91_0), (.int z91_1), (.int z91_2)] := AR
        refine gAloadN X91 hx (hb hby d9_44) (q := 45) rfl rfl rfl ?_
        refine gGetF X91 hx hZ (host := "") hown (Or.inl (hw _ (List.mem_of_getElem? (i := 48) rfl))) Via.refl rfl F96 (hb hby d9_45) (q := 48) rfl (fun T123 X123 e123 => ?_)
        refine gCallN X123 hx hZ rfl hown (hw _ (List.mem_of_getElem? (i := 62) rfl)) (hw _ (List.mem_of_getElem? (i := 63) rfl)) (hw _ (List.mem_of_getElem? (i := 32) rfl)) (hw _ (List.mem_of_getElem? (i := 64) rfl)) (by decide) (rmBI3 l Z a0 hw [] a76 kr cr z91_0 z91_1 z91_2 T91.heap n0 Z104 F102 F103 E101 le_a76 AR2 ne_a76_kr.symm) (W := 1) (by decide) (by decide) e123 (by rw [hml]; rfl) [(.ref kr), (.int (1 : Int32))] (lenOf pd3 rfl) rfl (S := [(.ref a76)]) rfl (Nat.le_of_eq rfl) (hb hby d9_48) (q := 51) rfl (by decide) (by decide) (fun r124 T124 M124 X124 q124 => ?_)
        obtain ⟨rfl, M124n, K124, BN124⟩ := q124
        have N125 := Fr.app N92 M124n
        have E126 := Exa.keep E93 K124
        have F127 := Fld.keep F94 K124 (ninS ne_b_a76 nin0)
        have E128 := Exa.keep E95 K124
        have F129 := Fld.keep F96 K124 (ninS ne_a_a76 nin0)
        have F130 := Fld.keep F97 K124 (ninS ne_b_a76 nin0)
        have F131 := Fld.keep F98 K124 (ninS ne_a_a76 nin0)
        have A132 := Ary.keep A99 K124 (ninS ne_ka_a76 nin0)
        have A133 := Ary.keep A100 K124 (ninS ne_kb_a76 nin0)
        have E134 := Exa.keep E101 K124
        have A137 := Ary.keep AR2 K124 (ninS ne_a76_kr.symm nin0)
        have Z138 := Nat.le_trans Z104 K124.1
        have KK139 := KK105.trans K124 (allS (Or.inr ge_a76) all0)
        dsimp only [Option.toList, List.cons_append, List.nil_append]
        exact gRetA X124 hx hlk hret rfl rfl (hb hby d9_51) (by decide) (by decide) (by exact ⟨_, rfl, N125, KK139, (BN124.mono (by decide))⟩)
  · obtain ⟨w0, w1, rfl⟩ := own_l2 hlb
    have AB2 : Ary Z h0 kb cb (.int) [(.int w0), (.int w1)] := AB
    rcases own_le2 la1 la2 with hla | hla
    · obtain ⟨u0, rfl⟩ := own_l1 hla
      have AA2 : Ary Z h0 ka ca (.int) [(.int u0)] := AA
      refine gAloadN X0 hx (hb hby d9_0) (q := 1) rfl rfl rfl ?_
      refine gGetF X0 hx hZ (host := "") hown (Or.inl (hw _ (List.mem_of_getElem? (i := 48) rfl))) Via.refl e0 FB (hb hby d9_1) (q := 4) rfl (fun T140 X140 e140 => ?_)
      refine gIfY X140 hx (hb hby d9_4) (q := 9) (by decide) (by decide) (XT.i0_ne_t (by decide)) ?_
      refine gAloadN X140 hx (hb hby d9_9) (q := 10) rfl rfl rfl ?_
      refine gGetF X140 hx hZ (host := "") hown (Or.inl (hw _ (List.mem_of_getElem? (i := 48) rfl))) Via.refl e140 FA (hb hby d9_10) (q := 13) rfl (fun T141 X141 e141 => ?_)
      refine gIfY X141 hx (hb hby d9_13) (q := 18) (by decide) (by decide) (XT.i0_ne_t (by decide)) ?_
      refine gAloadN X141 hx (hb hby d9_18) (q := 19) rfl rfl rfl ?_
      refine gGetF X141 hx hZ (host := "") hown (Or.inl (hw _ (List.mem_of_getElem? (i := 48) rfl))) Via.refl e141 FB (hb hby d9_19) (q := 22) rfl (fun T142 X142 e142 => ?_)
      refine gAloadN X142 hx (hb hby d9_22) (q := 23) rfl rfl rfl ?_
      refine gGetF X142 hx hZ (host := "") hown (Or.inl (hw _ (List.mem_of_getElem? (i := 48) rfl))) Via.refl e142 FA (hb hby d9_23) (q := 26) rfl (fun T143 X143 e143 => ?_)
      refine gIcmpN X143 hx (hb hby d9_26) (q := 29) rfl (XT.ii_ne_f (by decide)) ?_
      refine gNewO X143 hx hZ hown (hw _ (List.mem_of_getElem? (i := 35) rfl)) (hw _ (List.mem_of_getElem? (i := 36) rfl)) (hw _ (List.mem_of_getElem? (i := 32) rfl)) e143 (hb hby d9_29) (q := 32) rfl (by decide) (by decide) (fun T144 h144 a144 X144 e144 g144 E144 A144 D144 => ?_)
      have E145 := Exa.ext E144 EB
      have F146 := Fld.ext E144 FB
      have E147 := Exa.ext E144 EA
      have F148 := Fld.ext E144 FA
      have F149 := Fld.ext E144 GB
      have F150 := Fld.ext E144 GA
      have A151 := Ary.ext E144 AA2
      have A152 := Ary.ext E144 AB2
      have ge_a144 : h0.size ≤ a144 := by rw [g144]; exact (Keep.refl h0 []).1
      have K153 := (Keep.refl h0 []).ext E144
      have le_a144 : n0 ≤ a144 := by rw [g144]; exact Z0
      have ne_b_a144 : b ≠ a144 := by rw [g144]; exact Nat.ne_of_lt EB.lt
      have ne_a_a144 : a ≠ a144 := by rw [g144]; exact Nat.ne_of_lt EA.lt
      have ne_ka_a144 : ka ≠ a144 := by rw [g144]; exact Nat.ne_of_lt AA2.lt
      have ne_kb_a144 : kb ≠ a144 := by rw [g144]; exact Nat.ne_of_lt AB2.lt
      have Z154 := Nat.le_trans Z0 E144.1
      have F155 : Fld Z h144 a144 "java/math/BigInteger" "signum" "I" (.int (0 : Int32)) := D144 (Or.inr (hw _ (List.mem_of_getElem? (i := 49) rfl))) (ty := .int) (by decide)
      have F156 : Fld Z h144 a144 "java/math/BigInteger" "mag" "[I" (.null) := D144 (Or.inr (hw _ (List.mem_of_getElem? (i := 52) rfl))) (ty := .array (.int)) (by decide)
      clear D144
      refine gDup X144 hx (hb hby d9_32) (q := 33) rfl rfl ?_
      refine gAloadN X144 hx (hb hby d9_33) (q := 34) rfl rfl rfl ?_
      refine gGetF X144 hx hZ (host := "") hown (Or.inl (hw _ (List.mem_of_getElem? (i := 51) rfl))) Via.refl e144 F150 (hb hby d9_34) (q := 37) rfl (fun T157 X157 e157 => ?_)
      refine gAloadN X157 hx (hb hby d9_37) (q := 38) rfl rfl rfl ?_
      refine gGetF X157 hx hZ (host := "") hown (Or.inl (hw _ (List.mem_of_getElem? (i := 51) rfl))) Via.refl e157 F149 (hb hby d9_38) (q := 41) rfl (fun T158 X158 e158 => ?_)
      refine gCallS X158 hx hZ hown (hw _ (List.mem_of_getElem? (i := 58) rfl)) (hw _ (List.mem_of_getElem? (i := 59) rfl)) (hw _ (List.mem_of_getElem? (i := 32) rfl)) (hw _ (List.mem_of_getElem? (i := 60) rfl)) (by decide) (rmAA12 l Z a0 hw [] ka kb ca cb u0 w0 w1 h144 n0 Z154 A151 A152) (W := 2) (by decide) (by decide) e158 (by rw [hml]; rfl) [(.ref ka), (.ref kb)] (lenOf pd2 rfl) rfl (S := [(.ref a144), (.ref a144)]) rfl (Nat.le_of_eq rfl) (hb hby d9_41) (q := 44) rfl (by decide) (by decide) (fun r159 T159 M159 X159 q159 => ?_)
      obtain ⟨kr, cr, xs, rfl, M159n, K159, AR, hl, gr⟩ := q159
      dsimp only [Option.toList, List.cons_append, List.nil_append]
      have N160 := Fr.app N0 M159n
      have lkr : n0 ≤ kr := Nat.le_trans Z154 gr
      have ne_b_kr : b ≠ kr := Nat.ne_of_lt (Nat.lt_of_lt_of_le E145.lt gr)
      have ne_a_kr : a ≠ kr := Nat.ne_of_lt (Nat.lt_of_lt_of_le E147.lt gr)
      have ne_ka_kr : ka ≠ kr := Nat.ne_of_lt (Nat.lt_of_lt_of_le A151.lt gr)
      have ne_kb_kr : kb ≠ kr := Nat.ne_of_lt (Nat.lt_of_lt_of_le A152.lt gr)
      have ne_a144_kr : a144 ≠ kr := Nat.ne_of_lt (Nat.lt_of_lt_of_le A144.lt gr)
      have E161 := Exa.keep E145 K159
      have F162 := Fld.keep F146 K159 nin0
      have E163 := Exa.keep E147 K159
      have F164 := Fld.keep F148 K159 nin0
      have F165 := Fld.keep F149 K159 nin0
      have F166 := Fld.keep F150 K159 nin0
      have A167 := Ary.keep A151 K159 nin0
      have A168 := Ary.keep A152 K159 nin0
      have E169 := Exa.keep A144 K159
      have F170 := Fld.keep F155 K159 nin0
      have F171 := Fld.keep F156 K159 nin0
      have Z172 := Nat.le_trans Z154 K159.1
      have KK173 := K153.trans K159 all0
      rcases hl with hl | hl
      · obtain ⟨z159_0, z159_1, rfl⟩ := own_l2 hl
        have AR2 : Ary Z T159.heap kr cr (.int) [(.int z159_0), (.int z159_1)] := AR
        refine gAloadN X159 hx (hb hby d9_44) (q := 45) rfl rfl rfl ?_
        refine gGetF X159 hx hZ (host := "") hown (Or.inl (hw _ (List.mem_of_getElem? (i := 48) rfl))) Via.refl rfl F164 (hb hby d9_45) (q := 48) rfl (fun T174 X174 e174 => ?_)
        refine gCallN X174 hx hZ rfl hown (hw _ (List.mem_of_getElem? (i := 62) rfl)) (hw _ (List.mem_of_getElem? (i := 63) rfl)) (hw _ (List.mem_of_getElem? (i := 32) rfl)) (hw _ (List.mem_of_getElem? (i := 64) rfl)) (by decide) (rmBI2 l Z a0 hw [] a144 kr cr z159_0 z159_1 T159.heap n0 Z172 F170 F171 E169 le_a144 AR2 ne_a144_kr.symm) (W := 1) (by decide) (by decide) e174 (by rw [hml]; rfl) [(.ref kr), (.int (1 : Int32))] (lenOf pd3 rfl) rfl (S := [(.ref a144)]) rfl (Nat.le_of_eq rfl) (hb hby d9_48) (q := 51) rfl (by decide) (by decide) (fun r175 T175 M175 X175 q175 => ?_)
        obtain ⟨rfl, M175n, K175, BN175⟩ := q175
        have N176 := Fr.app N160 M175n
        have E177 := Exa.keep E161 K175
        have F178 := Fld.keep F162 K175 (ninS ne_b_a144 nin0)
        have E179 := Exa.keep E163 K175
        have F180 := Fld.keep F164 K175 (ninS ne_a_a144 nin0)
        have F181 := Fld.keep F165 K175 (ninS ne_b_a144 nin0)
        have F182 := Fld.keep F166 K175 (ninS ne_a_a144 nin0)
        have A183 := Ary.keep A167 K175 (ninS ne_ka_a144 nin0)
        have A184 := Ary.keep A168 K175 (ninS ne_kb_a144 nin0)
        have E185 := Exa.keep E169 K175
        have A188 := Ary.keep AR2 K175 (ninS ne_a144_kr.symm nin0)
        have Z189 := Nat.le_trans Z172 K175.1
        have KK190 := KK173.trans K175 (allS (Or.inr ge_a144) all0)
        dsimp only [Option.toList, List.cons_append, List.nil_append]
        exact gRetA X175 hx hlk hret rfl rfl (hb hby d9_51) (by decide) (by decide) (by exact ⟨_, rfl, N176, KK190, (BN175.mono (by decide))⟩)
      · obtain ⟨z159_0, z159_1, z159_2, rfl⟩ := own_l3 hl
        have AR2 : Ary Z T159.heap kr cr (.int) [(.int z159_0), (.int z159_1), (.int z159_2)] := AR
        refine gAloadN X159 hx (hb hby d9_44) (q := 45) rfl rfl rfl ?_
        refine gGetF X159 hx hZ (host := "") hown (Or.inl (hw _ (List.mem_of_getElem? (i := 48) rfl))) Via.refl rfl F164 (hb hby d9_45) (q := 48) rfl (fun T191 X191 e191 => ?_)
        refine gCallN X191 hx hZ rfl hown (hw _ (List.mem_of_getElem? (i := 62) rfl)) (hw _ (List.mem_of_getElem? (i := 63) rfl)) (hw _ (List.mem_of_getElem? (i := 32) rfl)) (hw _ (List.mem_of_getElem? (i := 64) rfl)) (by decide) (rmBI3 l Z a0 hw [] a144 kr cr z159_0 z159_1 z159_2 T159.heap n0 Z172 F170 F171 E169 le_a144 AR2 ne_a144_kr.symm) (W := 1) (by decide) (by decide) e191 (by rw [hml]; rfl) [(.ref kr), (.int (1 : Int32))] (lenOf pd3 rfl) rfl (S := [(.ref a144)]) rfl (Nat.le_of_eq rfl) (hb hby d9_48) (q := 51) rfl (by decide) (by decide) (fun r192 T192 M192 X192 q192 => ?_)
        obtain ⟨rfl, M192n, K192, BN192⟩ := q192
        have N193 := Fr.app N160 M192n
        have E194 := Exa.keep E161 K192
        have F195 := Fld.keep F162 K192 (ninS ne_b_a144 nin0)
        have E196 := Exa.keep E163 K192
        have F197 := Fld.keep F164 K192 (ninS ne_a_a144 nin0)
        have F198 := Fld.keep F165 K192 (ninS ne_b_a144 nin0)
        have F199 := Fld.keep F166 K192 (ninS ne_a_a144 nin0)
        have A200 := Ary.keep A167 K192 (ninS ne_ka_a144 nin0)
        have A201 := Ary.keep A168 K192 (ninS ne_kb_a144 nin0)
        have E202 := Exa.keep E169 K192
        have A205 := Ary.keep AR2 K192 (ninS ne_a144_kr.symm nin0)
        have Z206 := Nat.le_trans Z172 K192.1
        have KK207 := KK173.trans K192 (allS (Or.inr ge_a144) all0)
        dsimp only [Option.toList, List.cons_append, List.nil_append]
        exact gRetA X192 hx hlk hret rfl rfl (hb hby d9_51) (by decide) (by decide) (by exact ⟨_, rfl, N193, KK207, (BN192.mono (by decide))⟩)
    · obtain ⟨u0, u1, rfl⟩ := own_l2 hla
      have AA2 : Ary Z h0 ka ca (.int) [(.int u0), (.int u1)] := AA
      refine gAloadN X0 hx (hb hby d9_0) (q := 1) rfl rfl rfl ?_
      refine gGetF X0 hx hZ (host := "") hown (Or.inl (hw _ (List.mem_of_getElem? (i := 48) rfl))) Via.refl e0 FB (hb hby d9_1) (q := 4) rfl (fun T208 X208 e208 => ?_)
      refine gIfY X208 hx (hb hby d9_4) (q := 9) (by decide) (by decide) (XT.i0_ne_t (by decide)) ?_
      refine gAloadN X208 hx (hb hby d9_9) (q := 10) rfl rfl rfl ?_
      refine gGetF X208 hx hZ (host := "") hown (Or.inl (hw _ (List.mem_of_getElem? (i := 48) rfl))) Via.refl e208 FA (hb hby d9_10) (q := 13) rfl (fun T209 X209 e209 => ?_)
      refine gIfY X209 hx (hb hby d9_13) (q := 18) (by decide) (by decide) (XT.i0_ne_t (by decide)) ?_
      refine gAloadN X209 hx (hb hby d9_18) (q := 19) rfl rfl rfl ?_
      refine gGetF X209 hx hZ (host := "") hown (Or.inl (hw _ (List.mem_of_getElem? (i := 48) rfl))) Via.refl e209 FB (hb hby d9_19) (q := 22) rfl (fun T210 X210 e210 => ?_)
      refine gAloadN X210 hx (hb hby d9_22) (q := 23) rfl rfl rfl ?_
      refine gGetF X210 hx hZ (host := "") hown (Or.inl (hw _ (List.mem_of_getElem? (i := 48) rfl))) Via.refl e210 FA (hb hby d9_23) (q := 26) rfl (fun T211 X211 e211 => ?_)
      refine gIcmpN X211 hx (hb hby d9_26) (q := 29) rfl (XT.ii_ne_f (by decide)) ?_
      refine gNewO X211 hx hZ hown (hw _ (List.mem_of_getElem? (i := 35) rfl)) (hw _ (List.mem_of_getElem? (i := 36) rfl)) (hw _ (List.mem_of_getElem? (i := 32) rfl)) e211 (hb hby d9_29) (q := 32) rfl (by decide) (by decide) (fun T212 h212 a212 X212 e212 g212 E212 A212 D212 => ?_)
      have E213 := Exa.ext E212 EB
      have F214 := Fld.ext E212 FB
      have E215 := Exa.ext E212 EA
      have F216 := Fld.ext E212 FA
      have F217 := Fld.ext E212 GB
      have F218 := Fld.ext E212 GA
      have A219 := Ary.ext E212 AA2
      have A220 := Ary.ext E212 AB2
      have ge_a212 : h0.size ≤ a212 := by rw [g212]; exact (Keep.refl h0 []).1
      have K221 := (Keep.refl h0 []).ext E212
      have le_a212 : n0 ≤ a212 := by rw [g212]; exact Z0
      have ne_b_a212 : b ≠ a212 := by rw [g212]; exact Nat.ne_of_lt EB.lt
      have ne_a_a212 : a ≠ a212 := by rw [g212]; exact Nat.ne_of_lt EA.lt
      have ne_ka_a212 : ka ≠ a212 := by rw [g212]; exact Nat.ne_of_lt AA2.lt
      have ne_kb_a212 : kb ≠ a212 := by rw [g212]; exact Nat.ne_of_lt AB2.lt
      have Z222 := Nat.le_trans Z0 E212.1
      have F223 : Fld Z h212 a212 "java/math/BigInteger" "signum" "I" (.int (0 : Int32)) := D212 (Or.inr (hw _ (List.mem_of_getElem? (i := 49) rfl))) (ty := .int) (by decide)
      have F224 : Fld Z h212 a212 "java/math/BigInteger" "mag" "[I" (.null) := D212 (Or.inr (hw _ (List.mem_of_getElem? (i := 52) rfl))) (ty := .array (.int)) (by decide)
      clear D212
      refine gDup X212 hx (hb hby d9_32) (q := 33) rfl rfl ?_
      refine gAloadN X212 hx (hb hby d9_33) (q := 34) rfl rfl rfl ?_
      refine gGetF X212 hx hZ (host := "") hown (Or.inl (hw _ (List.mem_of_getElem? (i := 51) rfl))) Via.refl e212 F218 (hb hby d9_34) (q := 37) rfl (fun T225 X225 e225 => ?_)
      refine gAloadN X225 hx (hb hby d9_37) (q := 38) rfl rfl rfl ?_
      refine gGetF X225 hx hZ (host := "") hown (Or.inl (hw _ (List.mem_of_getElem? (i := 51) rfl))) Via.refl e225 F217 (hb hby d9_38) (q := 41) rfl (fun T226 X226 e226 => ?_)
      refine gCallS X226 hx hZ hown (hw _ (List.mem_of_getElem? (i := 58) rfl)) (hw _ (List.mem_of_getElem? (i := 59) rfl)) (hw _ (List.mem_of_getElem? (i := 32) rfl)) (hw _ (List.mem_of_getElem? (i := 60) rfl)) (by decide) (rmAA22 l Z a0 hw [] ka kb ca cb u0 u1 w0 w1 h212 n0 Z222 A219 A220) (W := 2) (by decide) (by decide) e226 (by rw [hml]; rfl) [(.ref ka), (.ref kb)] (lenOf pd2 rfl) rfl (S := [(.ref a212), (.ref a212)]) rfl (Nat.le_of_eq rfl) (hb hby d9_41) (q := 44) rfl (by decide) (by decide) (fun r227 T227 M227 X227 q227 => ?_)
      obtain ⟨kr, cr, xs, rfl, M227n, K227, AR, hl, gr⟩ := q227
      dsimp only [Option.toList, List.cons_append, List.nil_append]
      have N228 := Fr.app N0 M227n
      have lkr : n0 ≤ kr := Nat.le_trans Z222 gr
      have ne_b_kr : b ≠ kr := Nat.ne_of_lt (Nat.lt_of_lt_of_le E213.lt gr)
      have ne_a_kr : a ≠ kr := Nat.ne_of_lt (Nat.lt_of_lt_of_le E215.lt gr)
      have ne_ka_kr : ka ≠ kr := Nat.ne_of_lt (Nat.lt_of_lt_of_le A219.lt gr)
      have ne_kb_kr : kb ≠ kr := Nat.ne_of_lt (Nat.lt_of_lt_of_le A220.lt gr)
      have ne_a212_kr : a212 ≠ kr := Nat.ne_of_lt (Nat.lt_of_lt_of_le A212.lt gr)
      have E229 := Exa.keep E213 K227
      have F230 := Fld.keep F214 K227 nin0
      have E231 := Exa.keep E215 K227
      have F232 := Fld.keep F216 K227 nin0
      have F233 := Fld.keep F217 K227 nin0
      have F234 := Fld.keep F218 K227 nin0
      have A235 := Ary.keep A219 K227 nin0
      have A236 := Ary.keep A220 K227 nin0
      have E237 := Exa.keep A212 K227
      have F238 := Fld.keep F223 K227 nin0
      have F239 := Fld.keep F224 K227 nin0
      have Z240 := Nat.le_trans Z222 K227.1
      have KK241 := K221.trans K227 all0
      rcases hl with hl | hl
      · obtain ⟨z227_0, z227_1, rfl⟩ := own_l2 hl
        have AR2 : Ary Z T227.heap kr cr (.int) [(.int z227_0), (.int z227_1)] := AR
        refine gAloadN X227 hx (hb hby d9_44) (q := 45) rfl rfl rfl ?_
        refine gGetF X227 hx hZ (host := "") hown (Or.inl (hw _ (List.mem_of_getElem? (i := 48) rfl))) Via.refl rfl F232 (hb hby d9_45) (q := 48) rfl (fun T242 X242 e242 => ?_)
        refine gCallN X242 hx hZ rfl hown (hw _ (List.mem_of_getElem? (i := 62) rfl)) (hw _ (List.mem_of_getElem? (i := 63) rfl)) (hw _ (List.mem_of_getElem? (i := 32) rfl)) (hw _ (List.mem_of_getElem? (i := 64) rfl)) (by decide) (rmBI2 l Z a0 hw [] a212 kr cr z227_0 z227_1 T227.heap n0 Z240 F238 F239 E237 le_a212 AR2 ne_a212_kr.symm) (W := 1) (by decide) (by decide) e242 (by rw [hml]; rfl) [(.ref kr), (.int (1 : Int32))] (lenOf pd3 rfl) rfl (S := [(.ref a212)]) rfl (Nat.le_of_eq rfl) (hb hby d9_48) (q := 51) rfl (by decide) (by decide) (fun r243 T243 M243 X243 q243 => ?_)
        obtain ⟨rfl, M243n, K243, BN243⟩ := q243
        have N244 := Fr.app N228 M243n
        have E245 := Exa.keep E229 K243
        have F246 := Fld.keep F230 K243 (ninS ne_b_a212 nin0)
        have E247 := Exa.keep E231 K243
        have F248 := Fld.keep F232 K243 (ninS ne_a_a212 nin0)
        have F249 := Fld.keep F233 K243 (ninS ne_b_a212 nin0)
        have F250 := Fld.keep F234 K243 (ninS ne_a_a212 nin0)
        have A251 := Ary.keep A235 K243 (ninS ne_ka_a212 nin0)
        have A252 := Ary.keep A236 K243 (ninS ne_kb_a212 nin0)
        have E253 := Exa.keep E237 K243
        have A256 := Ary.keep AR2 K243 (ninS ne_a212_kr.symm nin0)
        have Z257 := Nat.le_trans Z240 K243.1
        have KK258 := KK241.trans K243 (allS (Or.inr ge_a212) all0)
        dsimp only [Option.toList, List.cons_append, List.nil_append]
        exact gRetA X243 hx hlk hret rfl rfl (hb hby d9_51) (by decide) (by decide) (by exact ⟨_, rfl, N244, KK258, (BN243.mono (by decide))⟩)
      · obtain ⟨z227_0, z227_1, z227_2, rfl⟩ := own_l3 hl
        have AR2 : Ary Z T227.heap kr cr (.int) [(.int z227_0), (.int z227_1), (.int z227_2)] := AR
        refine gAloadN X227 hx (hb hby d9_44) (q := 45) rfl rfl rfl ?_
        refine gGetF X227 hx hZ (host := "") hown (Or.inl (hw _ (List.mem_of_getElem? (i := 48) rfl))) Via.refl rfl F232 (hb hby d9_45) (q := 48) rfl (fun T259 X259 e259 => ?_)
        refine gCallN X259 hx hZ rfl hown (hw _ (List.mem_of_getElem? (i := 62) rfl)) (hw _ (List.mem_of_getElem? (i := 63) rfl)) (hw _ (List.mem_of_getElem? (i := 32) rfl)) (hw _ (List.mem_of_getElem? (i := 64) rfl)) (by decide) (rmBI3 l Z a0 hw [] a212 kr cr z227_0 z227_1 z227_2 T227.heap n0 Z240 F238 F239 E237 le_a212 AR2 ne_a212_kr.symm) (W := 1) (by decide) (by decide) e259 (by rw [hml]; rfl) [(.ref kr), (.int (1 : Int32))] (lenOf pd3 rfl) rfl (S := [(.ref a212)]) rfl (Nat.le_of_eq rfl) (hb hby d9_48) (q := 51) rfl (by decide) (by decide) (fun r260 T260 M260 X260 q260 => ?_)
        obtain ⟨rfl, M260n, K260, BN260⟩ := q260
        have N261 := Fr.app N228 M260n
        have E262 := Exa.keep E229 K260
        have F263 := Fld.keep F230 K260 (ninS ne_b_a212 nin0)
        have E264 := Exa.keep E231 K260
        have F265 := Fld.keep F232 K260 (ninS ne_a_a212 nin0)
        have F266 := Fld.keep F233 K260 (ninS ne_b_a212 nin0)
        have F267 := Fld.keep F234 K260 (ninS ne_a_a212 nin0)
        have A268 := Ary.keep A235 K260 (ninS ne_ka_a212 nin0)
        have A269 := Ary.keep A236 K260 (ninS ne_kb_a212 nin0)
        have E270 := Exa.keep E237 K260
        have A273 := Ary.keep AR2 K260 (ninS ne_a212_kr.symm nin0)
        have Z274 := Nat.le_trans Z240 K260.1
        have KK275 := KK241.trans K260 (allS (Or.inr ge_a212) all0)
        dsimp only [Option.toList, List.cons_append, List.nil_append]
        exact gRetA X260 hx hlk hret rfl rfl (hb hby d9_51) (by decide) (by decide) (by exact ⟨_, rfl, N261, KK275, (BN260.mono (by decide))⟩)
theorem ef14 (m : MethodId) (x0 : Addr) (x1 : Addr) : entryFrame m #[(.ref x0), (.ref x1)] 4 = mkF m 0 #[.val (.ref x0), .val (.ref x1), .unset, .unset] [] := by first | (simp [entryFrame, mkF, argsToLocals, Value.category]; done) | rfl
def Q_rmBA3 (Z : State) (a : Addr) (b : Addr) (h0 : Heap) (n0 : Nat) (v : Option Value) (h : Heap) (L : List Loc) : Prop := ∃ r, v = some (.ref r) ∧ Fr n0 L ∧ Keep h0 h [] ∧ own_BI 4 Z h r
set_option maxRecDepth 65536 in
set_option maxHeartbeats 40000000 in
theorem rmBA3 (l : Launch) (Z : State) (a0 : Array Value) (hw : ∀ d ∈ tables_1, d.before a0 Z = true) (ws : List Jvm.Cond) (a : Addr) (b : Addr) (h0 : Heap) (n0 : Nat) (Z0 : n0 ≤ h0.size) (BA : own_BI 3 Z h0 a) (BB : own_BI 2 Z h0 b) :
    Con l Z (⟨"java/math/BigInteger", "add", "(Ljava/math/BigInteger;)Ljava/math/BigInteger;"⟩ : MethodName) jdk_2097_method_32_code 4 (some (.object "java/math/BigInteger")) ws ({ frames := 3, cells := 3, slots := 13, locals := 60 } : Room) #[(.ref a), (.ref b)] h0 (({ frames := 3, cells := 3, slots := 13, locals := 60 } : Room).cells) (({ frames := 3, cells := 3, slots := 13, locals := 60 } : Room).slots) (Q_rmBA3 Z a b h0 n0) := by
  refine Con.of (plainFor_of_name pn1) ?_
  intro p e s m below meth c s₁ hx hby hml hown hnm hret hlk hZ X0 e0
  have N0 := Fr.nil n0
  refine goE (L := #[.val (.ref a), .val (.ref b), .unset, .unset]) (ef14 m a b) ?_
  have BB' := BB
  have BA' := BA
  obtain ⟨EB, FB | ⟨FB, kb, cb, xb, GB, AB, lb1, lb2⟩⟩ := BB'
  · skip
    refine gAloadN X0 hx (hb hby d9_0) (q := 1) rfl rfl rfl ?_
    refine gGetF X0 hx hZ (host := "") hown (Or.inl (hw _ (List.mem_of_getElem? (i := 48) rfl))) Via.refl e0 FB (hb hby d9_1) (q := 4) rfl (fun T1 X1 e1 => ?_)
    refine gIfN X1 hx (hb hby d9_4) (q := 7) rfl (XT.i0_ne_f (by decide)) ?_
    refine gAloadN X1 hx (hb hby d9_7) (q := 8) rfl rfl rfl ?_
    exact gRetA X1 hx hlk hret rfl rfl (hb hby d9_8) (by decide) (by decide) (by rw [e1]; exact ⟨_, rfl, N0, (Keep.refl h0 []), (BA.mono (by decide))⟩)
  obtain ⟨EA, FA | ⟨FA, ka, ca, xa, GA, AA, la1, la2⟩⟩ := BA'
  · skip
    refine gAloadN X0 hx (hb hby d9_0) (q := 1) rfl rfl rfl ?_
    refine gGetF X0 hx hZ (host := "") hown (Or.inl (hw _ (List.mem_of_getElem? (i := 48) rfl))) Via.refl e0 FB (hb hby d9_1) (q := 4) rfl (fun T2 X2 e2 => ?_)
    refine gIfY X2 hx (hb hby d9_4) (q := 9) (by decide) (by decide) (XT.i0_ne_t (by decide)) ?_
    refine gAloadN X2 hx (hb hby d9_9) (q := 10) rfl rfl rfl ?_
    refine gGetF X2 hx hZ (host := "") hown (Or.inl (hw _ (List.mem_of_getElem? (i := 48) rfl))) Via.refl e2 FA (hb hby d9_10) (q := 13) rfl (fun T3 X3 e3 => ?_)
    refine gIfN X3 hx (hb hby d9_13) (q := 16) rfl (XT.i0_ne_f (by decide)) ?_
    refine gAloadN X3 hx (hb hby d9_16) (q := 17) rfl rfl rfl ?_
    exact gRetA X3 hx hlk hret rfl rfl (hb hby d9_17) (by decide) (by decide) (by rw [e3]; exact ⟨_, rfl, N0, (Keep.refl h0 []), (BB.mono (by decide))⟩)
  rcases own_le2 lb1 lb2 with hlb | hlb
  · obtain ⟨w0, rfl⟩ := own_l1 hlb
    have AB2 : Ary Z h0 kb cb (.int) [(.int w0)] := AB
    rcases own_le3 la1 la2 with hla | hla | hla
    · obtain ⟨u0, rfl⟩ := own_l1 hla
      have AA2 : Ary Z h0 ka ca (.int) [(.int u0)] := AA
      refine gAloadN X0 hx (hb hby d9_0) (q := 1) rfl rfl rfl ?_
      refine gGetF X0 hx hZ (host := "") hown (Or.inl (hw _ (List.mem_of_getElem? (i := 48) rfl))) Via.refl e0 FB (hb hby d9_1) (q := 4) rfl (fun T4 X4 e4 => ?_)
      refine gIfY X4 hx (hb hby d9_4) (q := 9) (by decide) (by decide) (XT.i0_ne_t (by decide)) ?_
      refine gAloadN X4 hx (hb hby d9_9) (q := 10) rfl rfl rfl ?_
      refine gGetF X4 hx hZ (host := "") hown (Or.inl (hw _ (List.mem_of_getElem? (i := 48) rfl))) Via.refl e4 FA (hb hby d9_10) (q := 13) rfl (fun T5 X5 e5 => ?_)
      refine gIfY X5 hx (hb hby d9_13) (q := 18) (by decide) (by decide) (XT.i0_ne_t (by decide)) ?_
      refine gAloadN X5 hx (hb hby d9_18) (q := 19) rfl rfl rfl ?_
      refine gGetF X5 hx hZ (host := "") hown (Or.inl (hw _ (List.mem_of_getElem? (i := 48) rfl))) Via.refl e5 FB (hb hby d9_19) (q := 22) rfl (fun T6 X6 e6 => ?_)
      refine gAloadN X6 hx (hb hby d9_22) (q := 23) rfl rfl rfl ?_
      refine gGetF X6 hx hZ (host := "") hown (Or.inl (hw _ (List.mem_of_getElem? (i := 48) rfl))) Via.refl e6 FA (hb hby d9_23) (q := 26) rfl (fun T7 X7 e7 => ?_)
      refine gIcmpN X7 hx (hb hby d9_26) (q := 29) rfl (XT.ii_ne_f (by decide)) ?_
      refine gNewO X7 hx hZ hown (hw _ (List.mem_of_getElem? (i := 35) rfl)) (hw _ (List.mem_of_getElem? (i := 36) rfl)) (hw _ (List.mem_of_getElem? (i := 32) rfl)) e7 (hb hby d9_29) (q := 32) rfl (by decide) (by decide) (fun T8 h8 a8 X8 e8 g8 E8 A8 D8 => ?_)
      have E9 := Exa.ext E8 EB
      have F10 := Fld.ext E8 FB
      have E11 := Exa.ext E8 EA
      have F12 := Fld.ext E8 FA
      have F13 := Fld.ext E8 GB
      have F14 := Fld.ext E8 GA
      have A15 := Ary.ext E8 AA2
      have A16 := Ary.ext E8 AB2
      have ge_a8 : h0.size ≤ a8 := by rw [g8]; exact (Keep.refl h0 []).1
      have K17 := (Keep.refl h0 []).ext E8
      have le_a8 : n0 ≤ a8 := by rw [g8]; exact Z0
      have ne_b_a8 : b ≠ a8 := by rw [g8]; exact Nat.ne_of_lt EB.lt
      have ne_a_a8 : a ≠ a8 := by rw [g8]; exact Nat.ne_of_lt EA.lt
      have ne_ka_a8 : ka ≠ a8 := by rw [g8]; exact Nat.ne_of_lt AA2.lt
      have ne_kb_a8 : kb ≠ a8 := by rw [g8]; exact Nat.ne_of_lt AB2.lt
      have Z18 := Nat.le_trans Z0 E8.1
      have F19 : Fld Z h8 a8 "java/math/BigInteger" "signum" "I" (.int (0 : Int32)) := D8 (Or.inr (hw _ (List.mem_of_getElem? (i := 49) rfl))) (ty := .int) (by decide)
      have F20 : Fld Z h8 a8 "java/math/BigInteger" "mag" "[I" (.null) := D8 (Or.inr (hw _ (List.mem_of_getElem? (i := 52) rfl))) (ty := .array (.int)) (by decide)
      clear D8
      refine gDup X8 hx (hb hby d9_32) (q := 33) rfl rfl ?_
      refine gAloadN X8 hx (hb hby d9_33) (q := 34) rfl rfl rfl ?_
      refine gGetF X8 hx hZ (host := "") hown (Or.inl (hw _ (List.mem_of_getElem? (i := 51) rfl))) Via.refl e8 F14 (hb hby d9_34) (q := 37) rfl (fun T21 X21 e21 => ?_)
      refine gAloadN X21 hx (hb hby d9_37) (q := 38) rfl rfl rfl ?_
      refine gGetF X21 hx hZ (host := "") hown (Or.inl (hw _ (List.mem_of_getElem? (i := 51) rfl))) Via.refl e21 F13 (hb hby d9_38) (q := 41) rfl (fun T22 X22 e22 => ?_)
      refine gCallS X22 hx hZ hown (hw _ (List.mem_of_getElem? (i := 58) rfl)) (hw _ (List.mem_of_getElem? (i := 59) rfl)) (hw _ (List.mem_of_getElem? (i := 32) rfl)) (hw _ (List.mem_of_getElem? (i := 60) rfl)) (by decide) (rmAA11 l Z a0 hw [] ka kb ca cb u0 w0 h8 n0 Z18 A15 A16) (W := 2) (by decide) (by decide) e22 (by rw [hml]; rfl) [(.ref ka), (.ref kb)] (lenOf pd2 rfl) rfl (S := [(.ref a8), (.ref a8)]) rfl (Nat.le_of_eq rfl) (hb hby d9_41) (q := 44) rfl (by decide) (by decide) (fun r23 T23 M23 X23 q23 => ?_)
      obtain ⟨kr, cr, xs, rfl, M23n, K23, AR, hl, gr⟩ := q23
      dsimp only [Option.toList, List.cons_append, List.nil_append]
      have N24 := Fr.app N0 M23n
      have lkr : n0 ≤ kr := Nat.le_trans Z18 gr
      have ne_b_kr : b ≠ kr := Nat.ne_of_lt (Nat.lt_of_lt_of_le E9.lt gr)
      have ne_a_kr : a ≠ kr := Nat.ne_of_lt (Nat.lt_of_lt_of_le E11.lt gr)
      have ne_ka_kr : ka ≠ kr := Nat.ne_of_lt (Nat.lt_of_lt_of_le A15.lt gr)
      have ne_kb_kr : kb ≠ kr := Nat.ne_of_lt (Nat.lt_of_lt_of_le A16.lt gr)
      have ne_a8_kr : a8 ≠ kr := Nat.ne_of_lt (Nat.lt_of_lt_of_le A8.lt gr)
      have E25 := Exa.keep E9 K23
      have F26 := Fld.keep F10 K23 nin0
      have E27 := Exa.keep E11 K23
      have F28 := Fld.keep F12 K23 nin0
      have F29 := Fld.keep F13 K23 nin0
      have F30 := Fld.keep F14 K23 nin0
      have A31 := Ary.keep A15 K23 nin0
      have A32 := Ary.keep A16 K23 nin0
      have E33 := Exa.keep A8 K23
      have F34 := Fld.keep F19 K23 nin0
      have F35 := Fld.keep F20 K23 nin0
      have Z36 := Nat.le_trans Z18 K23.1
      have KK37 := K17.trans K23 all0
      rcases hl with hl | hl
      · obtain ⟨z23_0, rfl⟩ := own_l1 hl
        have AR2 : Ary Z T23.heap kr cr (.int) [(.int z23_0)] := AR
        refine gAloadN X23 hx (hb hby d9_44) (q := 45) rfl rfl rfl ?_
        refine gGetF X23 hx hZ (host := "") hown (Or.inl (hw _ (List.mem_of_getElem? (i := 48) rfl))) Via.refl rfl F28 (hb hby d9_45) (q := 48) rfl (fun T38 X38 e38 => ?_)
        refine gCallN X38 hx hZ rfl hown (hw _ (List.mem_of_getElem? (i := 62) rfl)) (hw _ (List.mem_of_getElem? (i := 63) rfl)) (hw _ (List.mem_of_getElem? (i := 32) rfl)) (hw _ (List.mem_of_getElem? (i := 64) rfl)) (by decide) (rmBI1 l Z a0 hw [] a8 kr cr z23_0 T23.heap n0 Z36 F34 F35 E33 le_a8 AR2 ne_a8_kr.symm) (W := 1) (by decide) (by decide) e38 (by rw [hml]; rfl) [(.ref kr), (.int (1 : Int32))] (lenOf pd3 rfl) rfl (S := [(.ref a8)]) rfl (Nat.le_of_eq rfl) (hb hby d9_48) (q := 51) rfl (by decide) (by decide) (fun r39 T39 M39 X39 q39 => ?_)
        obtain ⟨rfl, M39n, K39, BN39⟩ := q39
        have N40 := Fr.app N24 M39n
        have E41 := Exa.keep E25 K39
        have F42 := Fld.keep F26 K39 (ninS ne_b_a8 nin0)
        have E43 := Exa.keep E27 K39
        have F44 := Fld.keep F28 K39 (ninS ne_a_a8 nin0)
        have F45 := Fld.keep F29 K39 (ninS ne_b_a8 nin0)
        have F46 := Fld.keep F30 K39 (ninS ne_a_a8 nin0)
        have A47 := Ary.keep A31 K39 (ninS ne_ka_a8 nin0)
        have A48 := Ary.keep A32 K39 (ninS ne_kb_a8 nin0)
        have E49 := Exa.keep E33 K39
        have A52 := Ary.keep AR2 K39 (ninS ne_a8_kr.symm nin0)
        have Z53 := Nat.le_trans Z36 K39.1
        have KK54 := KK37.trans K39 (allS (Or.inr ge_a8) all0)
        dsimp only [Option.toList, List.cons_append, List.nil_append]
        exact gRetA X39 hx hlk hret rfl rfl (hb hby d9_51) (by decide) (by decide) (by exact ⟨_, rfl, N40, KK54, (BN39.mono (by decide))⟩)
      · obtain ⟨z23_0, z23_1, rfl⟩ := own_l2 hl
        have AR2 : Ary Z T23.heap kr cr (.int) [(.int z23_0), (.int z23_1)] := AR
        refine gAloadN X23 hx (hb hby d9_44) (q := 45) rfl rfl rfl ?_
        refine gGetF X23 hx hZ (host := "") hown (Or.inl (hw _ (List.mem_of_getElem? (i := 48) rfl))) Via.refl rfl F28 (hb hby d9_45) (q := 48) rfl (fun T55 X55 e55 => ?_)
        refine gCallN X55 hx hZ rfl hown (hw _ (List.mem_of_getElem? (i := 62) rfl)) (hw _ (List.mem_of_getElem? (i := 63) rfl)) (hw _ (List.mem_of_getElem? (i := 32) rfl)) (hw _ (List.mem_of_getElem? (i := 64) rfl)) (by decide) (rmBI2 l Z a0 hw [] a8 kr cr z23_0 z23_1 T23.heap n0 Z36 F34 F35 E33 le_a8 AR2 ne_a8_kr.symm) (W := 1) (by decide) (by decide) e55 (by rw [hml]; rfl) [(.ref kr), (.int (1 : Int32))] (lenOf pd3 rfl) rfl (S := [(.ref a8)]) rfl (Nat.le_of_eq rfl) (hb hby d9_48) (q := 51) rfl (by decide) (by decide) (fun r56 T56 M56 X56 q56 => ?_)
        obtain ⟨rfl, M56n, K56, BN56⟩ := q56
        have N57 := Fr.app N24 M56n
        have E58 := Exa.keep E25 K56
        have F59 := Fld.keep F26 K56 (ninS ne_b_a8 nin0)
        have E60 := Exa.keep E27 K56
        have F61 := Fld.keep F28 K56 (ninS ne_a_a8 nin0)
        have F62 := Fld.keep F29 K56 (ninS ne_b_a8 nin0)
        have F63 := Fld.keep F30 K56 (ninS ne_a_a8 nin0)
        have A64 := Ary.keep A31 K56 (ninS ne_ka_a8 nin0)
        have A65 := Ary.keep A32 K56 (ninS ne_kb_a8 nin0)
        have E66 := Exa.keep E33 K56
        have A69 := Ary.keep AR2 K56 (ninS ne_a8_kr.symm nin0)
        have Z70 := Nat.le_trans Z36 K56.1
        have KK71 := KK37.trans K56 (allS (Or.inr ge_a8) all0)
        dsimp only [Option.toList, List.cons_append, List.nil_append]
        exact gRetA X56 hx hlk hret rfl rfl (hb hby d9_51) (by decide) (by decide) (by exact ⟨_, rfl, N57, KK71, (BN56.mono (by decide))⟩)
    · obtain ⟨u0, u1, rfl⟩ := own_l2 hla
      have AA2 : Ary Z h0 ka ca (.int) [(.int u0), (.int u1)] := AA
      refine gAloadN X0 hx (hb hby d9_0) (q := 1) rfl rfl rfl ?_
      refine gGetF X0 hx hZ (host := "") hown (Or.inl (hw _ (List.mem_of_getElem? (i := 48) rfl))) Via.refl e0 FB (hb hby d9_1) (q := 4) rfl (fun T72 X72 e72 => ?_)
      refine gIfY X72 hx (hb hby d9_4) (q := 9) (by decide) (by decide) (XT.i0_ne_t (by decide)) ?_
      refine gAloadN X72 hx (hb hby d9_9) (q := 10) rfl rfl rfl ?_
      refine gGetF X72 hx hZ (host := "") hown (Or.inl (hw _ (List.mem_of_getElem? (i := 48) rfl))) Via.refl e72 FA (hb hby d9_10) (q := 13) rfl (fun T73 X73 e73 => ?_)
      refine gIfY X73 hx (hb hby d9_13) (q := 18) (by decide) (by decide) (XT.i0_ne_t (by decide)) ?_
      refine gAloadN X73 hx (hb hby d9_18) (q := 19) rfl rfl rfl ?_
      refine gGetF X73 hx hZ (host := "") hown (Or.inl (hw _ (List.mem_of_getElem? (i := 48) rfl))) Via.refl e73 FB (hb hby d9_19) (q := 22) rfl (fun T74 X74 e74 => ?_)
      refine gAloadN X74 hx (hb hby d9_22) (q := 23) rfl rfl rfl ?_
      refine gGetF X74 hx hZ (host := "") hown (Or.inl (hw _ (List.mem_of_getElem? (i := 48) rfl))) Via.refl e74 FA (hb hby d9_23) (q := 26) rfl (fun T75 X75 e75 => ?_)
      refine gIcmpN X75 hx (hb hby d9_26) (q := 29) rfl (XT.ii_ne_f (by decide)) ?_
      refine gNewO X75 hx hZ hown (hw _ (List.mem_of_getElem? (i := 35) rfl)) (hw _ (List.mem_of_getElem? (i := 36) rfl)) (hw _ (List.mem_of_getElem? (i := 32) rfl)) e75 (hb hby d9_29) (q := 32) rfl (by decide) (by decide) (fun T76 h76 a76 X76 e76 g76 E76 A76 D76 => ?_)
      have E77 := Exa.ext E76 EB
      have F78 := Fld.ext E76 FB
      have E79 := Exa.ext E76 EA
      have F80 := Fld.ext E76 FA
      have F81 := Fld.ext E76 GB
      have F82 := Fld.ext E76 GA
      have A83 := Ary.ext E76 AA2
      have A84 := Ary.ext E76 AB2
      have ge_a76 : h0.size ≤ a76 := by rw [g76]; exact (Keep.refl h0 []).1
      have K85 := (Keep.refl h0 []).ext E76
      have le_a76 : n0 ≤ a76 := by rw [g76]; exact Z0
      have ne_b_a76 : b ≠ a76 := by rw [g76]; exact Nat.ne_of_lt EB.lt
      have ne_a_a76 : a ≠ a76 := by rw [g76]; exact Nat.ne_of_lt EA.lt
      have ne_ka_a76 : ka ≠ a76 := by rw [g76]; exact Nat.ne_of_lt AA2.lt
      have ne_kb_a76 : kb ≠ a76 := by rw [g76]; exact Nat.ne_of_lt AB2.lt
      have Z86 := Nat.le_trans Z0 E76.1
      have F87 : Fld Z h76 a76 "java/math/BigInteger" "signum" "I" (.int (0 : Int32)) := D76 (Or.inr (hw _ (List.mem_of_getElem? (i := 49) rfl))) (ty := .int) (by decide)
      have F88 : Fld Z h76 a76 "java/math/BigInteger" "mag" "[I" (.null) := D76 (Or.inr (hw _ (List.mem_of_getElem? (i := 52) rfl))) (ty := .array (.int)) (by decide)
      clear D76
      refine gDup X76 hx (hb hby d9_32) (q := 33) rfl rfl ?_
      refine gAloadN X76 hx (hb hby d9_33) (q := 34) rfl rfl rfl ?_
      refine gGetF X76 hx hZ (host := "") hown (Or.inl (hw _ (List.mem_of_getElem? (i := 51) rfl))) Via.refl e76 F82 (hb hby d9_34) (q := 37) rfl (fun T89 X89 e89 => ?_)
      refine gAloadN X89 hx (hb hby d9_37) (q := 38) rfl rfl rfl ?_
      refine gGetF X89 hx hZ (host := "") hown (Or.inl (hw _ (List.mem_of_getElem? (i := 51) rfl))) Via.refl e89 F81 (hb hby d9_38) (q := 41) rfl (fun T90 X90 e90 => ?_)
      refine gCallS X90 hx hZ hown (hw _ (List.mem_of_getElem? (i := 58) rfl)) (hw _ (List.mem_of_getElem? (i := 59) rfl)) (hw _ (List.mem_of_getElem? (i := 32) rfl)) (hw _ (List.mem_of_getElem? (i := 60) rfl)) (by decide) (rmAA21 l Z a0 hw [] ka kb ca cb u0 u1 w0 h76 n0 Z86 A83 A84) (W := 2) (by decide) (by decide) e90 (by rw [hml]; rfl) [(.ref ka), (.ref kb)] (lenOf pd2 rfl) rfl (S := [(.ref a76), (.ref a76)]) rfl (Nat.le_of_eq rfl) (hb hby d9_41) (q := 44) rfl (by decide) (by decide) (fun r91 T91 M91 X91 q91 => ?_)
      obtain ⟨kr, cr, xs, rfl, M91n, K91, AR, hl, gr⟩ := q91
      dsimp only [Option.toList, List.cons_append, List.nil_append]
      have N92 := Fr.app N0 M91n
      have lkr : n0 ≤ kr := Nat.le_trans Z86 gr
      have ne_b_kr : b ≠ kr := Nat.ne_of_lt (Nat.lt_of_lt_of_le E77.lt gr)
      have ne_a_kr : a ≠ kr := Nat.ne_of_lt (Nat.lt_of_lt_of_le E79.lt gr)
      have ne_ka_kr : ka ≠ kr := Nat.ne_of_lt (Nat.lt_of_lt_of_le A83.lt gr)
      have ne_kb_kr : kb ≠ kr := Nat.ne_of_lt (Nat.lt_of_lt_of_le A84.lt gr)
      have ne_a76_kr : a76 ≠ kr := Nat.ne_of_lt (Nat.lt_of_lt_of_le A76.lt gr)
      have E93 := Exa.keep E77 K91
      have F94 := Fld.keep F78 K91 nin0
      have E95 := Exa.keep E79 K91
      have F96 := Fld.keep F80 K91 nin0
      have F97 := Fld.keep F81 K91 nin0
      have F98 := Fld.keep F82 K91 nin0
      have A99 := Ary.keep A83 K91 nin0
      have A100 := Ary.keep A84 K91 nin0
      have E101 := Exa.keep A76 K91
      have F102 := Fld.keep F87 K91 nin0
      have F103 := Fld.keep F88 K91 nin0
      have Z104 := Nat.le_trans Z86 K91.1
      have KK105 := K85.trans K91 all0
      rcases hl with hl | hl
      · obtain ⟨z91_0, z91_1, rfl⟩ := own_l2 hl
        have AR2 : Ary Z T91.heap kr cr (.int) [(.int z91_0), (.int z91_1)] := AR
        refine gAloadN X91 hx (hb hby d9_44) (q := 45) rfl rfl rfl ?_
        refine gGetF X91 hx hZ (host := "") hown (Or.inl (hw _ (List.mem_of_getElem? (i := 48) rfl))) Via.refl rfl F96 (hb hby d9_45) (q := 48) rfl (fun T106 X106 e106 => ?_)
        refine gCallN X106 hx hZ rfl hown (hw _ (List.mem_of_getElem? (i := 62) rfl)) (hw _ (List.mem_of_getElem? (i := 63) rfl)) (hw _ (List.mem_of_getElem? (i := 32) rfl)) (hw _ (List.mem_of_getElem? (i := 64) rfl)) (by decide) (rmBI2 l Z a0 hw [] a76 kr cr z91_0 z91_1 T91.heap n0 Z104 F102 F103 E101 le_a76 AR2 ne_a76_kr.symm) (W := 1) (by decide) (by decide) e106 (by rw [hml]; rfl) [(.ref kr), (.int (1 : Int32))] (lenOf pd3 rfl) rfl (S := [(.ref a76)]) rfl (Nat.le_of_eq rfl) (hb hby d9_48) (q := 51) rfl (by decide) (by decide) (fun r107 T107 M107 X107 q107 => ?_)
        obtain ⟨rfl, M107n, K107, BN107⟩ := q107
        have N108 := Fr.app N92 M107n
        have E109 := Exa.keep E93 K107
        have F110 := Fld.keep F94 K107 (ninS ne_b_a76 nin0)
        have E111 := Exa.keep E95 K107
        have F112 := Fld.keep F96 K107 (ninS ne_a_a76 nin0)
        have F113 := Fld.keep F97 K107 (ninS ne_b_a76 nin0)
        have F114 := Fld.keep F98 K107 (ninS ne_a_a76 nin0)
        have A115 := Ary.keep A99 K107 (ninS ne_ka_a76 nin0)
        have A116 := Ary.keep A100 K107 (ninS ne_kb_a76 nin0)
        have E117 := Exa.keep E101 K107
        have A120 := Ary.keep AR2 K107 (ninS ne_a76_kr.symm nin0)
        have Z121 := Nat.le_trans Z104 K107.1
        have KK122 := KK105.trans K107 (allS (Or.inr ge_a76) all0)
        dsimp only [Option.toList, List.cons_append, List.nil_append]
        exact gRetA X107 hx hlk hret rfl rfl (hb hby d9_51) (by decide) (by decide) (by exact ⟨_, rfl, N108, KK122, (BN107.mono (by decide))⟩)
      · obtain ⟨z91_0, z91_1, z91_2, rfl⟩ := own_l3 hl
        have AR2 : Ary Z T91.heap kr cr (.int) [(.int z91_0), (.int z91_1), (.int z91_2)] := AR
        refine gAloadN X91 hx (hb hby d9_44) (q := 45) rfl rfl rfl ?_
        refine gGetF X91 hx hZ (host := "") hown (Or.inl (hw _ (List.mem_of_getElem? (i := 48) rfl))) Via.refl rfl F96 (hb hby d9_45) (q := 48) rfl (fun T123 X123 e123 => ?_)
        refine gCallN X123 hx hZ rfl hown (hw _ (List.mem_of_getElem? (i := 62) rfl)) (hw _ (List.mem_of_getElem? (i := 63) rfl)) (hw _ (List.mem_of_getElem? (i := 32) rfl)) (hw _ (List.mem_of_getElem? (i := 64) rfl)) (by decide) (rmBI3 l Z a0 hw [] a76 kr cr z91_0 z91_1 z91_2 T91.heap n0 Z104 F102 F103 E101 le_a76 AR2 ne_a76_kr.symm) (W := 1) (by decide) (by decide) e123 (by rw [hml]; rfl) [(.ref kr), (.int (1 : Int32))] (lenOf pd3 rfl) rfl (S := [(.ref a76)]) rfl (Nat.le_of_eq rfl) (hb hby d9_48) (q := 51) rfl (by decide) (by decide) (fun r124 T124 M124 X124 q124 => ?_)
        obtain ⟨rfl, M124n, K124, BN124⟩ := q124
        have N125 := Fr.app N92 M124n
        have E126 := Exa.keep E93 K124
        have F127 := Fld.keep F94 K124 (ninS ne_b_a76 nin0)
        have E128 := Exa.keep E95 K124
        have F129 := Fld.keep F96 K124 (ninS ne_a_a76 nin0)
        have F130 := Fld.keep F97 K124 (ninS ne_b_a76 nin0)
        have F131 := Fld.keep F98 K124 (ninS ne_a_a76 nin0)
        have A132 := Ary.keep A99 K124 (ninS ne_ka_a76 nin0)
        have A133 := Ary.keep A100 K124 (ninS ne_kb_a76 nin0)
        have E134 := Exa.keep E101 K124
        have A137 := Ary.keep AR2 K124 (ninS ne_a76_kr.symm nin0)
        have Z138 := Nat.le_trans Z104 K124.1
        have KK139 := KK105.trans K124 (allS (Or.inr ge_a76) all0)
        dsimp only [Option.toList, List.cons_append, List.nil_append]
        exact gRetA X124 hx hlk hret rfl rfl (hb hby d9_51) (by decide) (by decide) (by exact ⟨_, rfl, N125, KK139, (BN124.mono (by decide))⟩)
    · obtain ⟨u0, u1, u2, rfl⟩ := own_l3 hla
      have AA2 : Ary Z h0 ka ca (.int) [(.int u0), (.int u1), (.int u2)] := AA
      refine gAloadN X0 hx (hb hby d9_0) (q := 1) rfl rfl rfl ?_
      refine gGetF X0 hx hZ (host := "") hown (Or.inl (hw _ (List.mem_of_getElem? (i := 48) rfl))) Via.refl e0 FB (hb hby d9_1) (q := 4) rfl (fun T140 X140 e140 => ?_)
      refine gIfY X140 hx (hb hby d9_4) (q := 9) (by decide) (by decide) (XT.i0_ne_t (by decide)) ?_
      refine gAloadN X140 hx (hb hby d9_9) (q := 10) rfl rfl rfl ?_
      refine gGetF X140 hx hZ (host := "") hown (Or.inl (hw _ (List.mem_of_getElem? (i := 48) rfl))) Via.refl e140 FA (hb hby d9_10) (q := 13) rfl (fun T141 X141 e141 => ?_)
      refine gIfY X141 hx (hb hby d9_13) (q := 18) (by decide) (by decide) (XT.i0_ne_t (by decide)) ?_
      refine gAloadN X141 hx (hb hby d9_18) (q := 19) rfl rfl rfl ?_
      refine gGetF X141 hx hZ (host := "") hown (Or.inl (hw _ (List.mem_of_getElem? (i := 48) rfl))) Via.refl e141 FB (hb hby d9_19) (q := 22) rfl (fun T142 X142 e142 => ?_)
      refine gAloadN X142 hx (hb hby d9_22) (q := 23) rfl rfl rfl ?_
      refine gGetF X142 hx hZ (host := "") hown (Or.inl (hw _ (List.mem_of_getElem? (i := 48) rfl))) Via.refl e142 FA (hb hby d9_23) (q := 26) rfl (fun T143 X143 e143 => ?_)
      refine gIcmpN X143 hx (hb hby d9_26) (q := 29) rfl (XT.ii_ne_f (by decide)) ?_
      refine gNewO X143 hx hZ hown (hw _ (List.mem_of_getElem? (i := 35) rfl)) (hw _ (List.mem_of_getElem? (i := 36) rfl)) (hw _ (List.mem_of_getElem? (i := 32) rfl)) e143 (hb hby d9_29) (q := 32) rfl (by decide) (by decide) (fun T144 h144 a144 X144 e144 g144 E144 A144 D144 => ?_)
      have E145 := Exa.ext E144 EB
      have F146 := Fld.ext E144 FB
      have E147 := Exa.ext E144 EA
      have F148 := Fld.ext E144 FA
      have F149 := Fld.ext E144 GB
      have F150 := Fld.ext E144 GA
      have A151 := Ary.ext E144 AA2
      have A152 := Ary.ext E144 AB2
      have ge_a144 : h0.size ≤ a144 := by rw [g144]; exact (Keep.refl h0 []).1
      have K153 := (Keep.refl h0 []).ext E144
      have le_a144 : n0 ≤ a144 := by rw [g144]; exact Z0
      have ne_b_a144 : b ≠ a144 := by rw [g144]; exact Nat.ne_of_lt EB.lt
      have ne_a_a144 : a ≠ a144 := by rw [g144]; exact Nat.ne_of_lt EA.lt
      have ne_ka_a144 : ka ≠ a144 := by rw [g144]; exact Nat.ne_of_lt AA2.lt
      have ne_kb_a144 : kb ≠ a144 := by rw [g144]; exact Nat.ne_of_lt AB2.lt
      have Z154 := Nat.le_trans Z0 E144.1
      have F155 : Fld Z h144 a144 "java/math/BigInteger" "signum" "I" (.int (0 : Int32)) := D144 (Or.inr (hw _ (List.mem_of_getElem? (i := 49) rfl))) (ty := .int) (by decide)
      have F156 : Fld Z h144 a144 "java/math/BigInteger" "mag" "[I" (.null) := D144 (Or.inr (hw _ (List.mem_of_getElem? (i := 52) rfl))) (ty := .array (.int)) (by decide)
      clear D144
      refine gDup X144 hx (hb hby d9_32) (q := 33) rfl rfl ?_
      refine gAloadN X144 hx (hb hby d9_33) (q := 34) rfl rfl rfl ?_
      refine gGetF X144 hx hZ (host := "") hown (Or.inl (hw _ (List.mem_of_getElem? (i := 51) rfl))) Via.refl e144 F150 (hb hby d9_34) (q := 37) rfl (fun T157 X157 e157 => ?_)
      refine gAloadN X157 hx (hb hby d9_37) (q := 38) rfl rfl rfl ?_
      refine gGetF X157 hx hZ (host := "") hown (Or.inl (hw _ (List.mem_of_getElem? (i := 51) rfl))) Via.refl e157 F149 (hb hby d9_38) (q := 41) rfl (fun T158 X158 e158 => ?_)
      refine gCallS X158 hx hZ hown (hw _ (List.mem_of_getElem? (i := 58) rfl)) (hw _ (List.mem_of_getElem? (i := 59) rfl)) (hw _ (List.mem_of_getElem? (i := 32) rfl)) (hw _ (List.mem_of_getElem? (i := 60) rfl)) (by decide) (rmAA31 l Z a0 hw [] ka kb ca cb u0 u1 u2 w0 h144 n0 Z154 A151 A152) (W := 2) (by decide) (by decide) e158 (by rw [hml]; rfl) [(.ref ka), (.ref kb)] (lenOf pd2 rfl) rfl (S := [(.ref a144), (.ref a144)]) rfl (Nat.le_of_eq rfl) (hb hby d9_41) (q := 44) rfl (by decide) (by decide) (fun r159 T159 M159 X159 q159 => ?_)
      obtain ⟨kr, cr, xs, rfl, M159n, K159, AR, hl, gr⟩ := q159
      dsimp only [Option.toList, List.cons_append, List.nil_append]
      have N160 := Fr.app N0 M159n
      have lkr : n0 ≤ kr := Nat.le_trans Z154 gr
      have ne_b_kr : b ≠ kr := Nat.ne_of_lt (Nat.lt_of_lt_of_le E145.lt gr)
      have ne_a_kr : a ≠ kr := Nat.ne_of_lt (Nat.lt_of_lt_of_le E147.lt gr)
      have ne_ka_kr : ka ≠ kr := Nat.ne_of_lt (Nat.lt_of_lt_of_le A151.lt gr)
      have ne_kb_kr : kb ≠ kr := Nat.ne_of_lt (Nat.lt_of_lt_of_le A152.lt gr)
      have ne_a144_kr : a144 ≠ kr := Nat.ne_of_lt (Nat.lt_of_lt_of_le A144.lt gr)
      have E161 := Exa.keep E145 K159
      have F162 := Fld.keep F146 K159 nin0
      have E163 := Exa.keep E147 K159
      have F164 := Fld.keep F148 K159 nin0
      have F165 := Fld.keep F149 K159 nin0
      have F166 := Fld.keep F150 K159 nin0
      have A167 := Ary.keep A151 K159 nin0
      have A168 := Ary.keep A152 K159 nin0
      have E169 := Exa.keep A144 K159
      have F170 := Fld.keep F155 K159 nin0
      have F171 := Fld.keep F156 K159 nin0
      have Z172 := Nat.le_trans Z154 K159.1
      have KK173 := K153.trans K159 all0
      rcases hl with hl | hl
      · obtain ⟨z159_0, z159_1, z159_2, rfl⟩ := own_l3 hl
        have AR2 : Ary Z T159.heap kr cr (.int) [(.int z159_0), (.int z159_1), (.int z159_2)] := AR
        refine gAloadN X159 hx (hb hby d9_44) (q := 45) rfl rfl rfl ?_
        refine gGetF X159 hx hZ (host := "") hown (Or.inl (hw _ (List.mem_of_getElem? (i := 48) rfl))) Via.refl rfl F164 (hb hby d9_45) (q := 48) rfl (fun T174 X174 e174 => ?_)
        refine gCallN X174 hx hZ rfl hown (hw _ (List.mem_of_getElem? (i := 62) rfl)) (hw _ (List.mem_of_getElem? (i := 63) rfl)) (hw _ (List.mem_of_getElem? (i := 32) rfl)) (hw _ (List.mem_of_getElem? (i := 64) rfl)) (by decide) (rmBI3 l Z a0 hw [] a144 kr cr z159_0 z159_1 z159_2 T159.heap n0 Z172 F170 F171 E169 le_a144 AR2 ne_a144_kr.symm) (W := 1) (by decide) (by decide) e174 (by rw [hml]; rfl) [(.ref kr), (.int (1 : Int32))] (lenOf pd3 rfl) rfl (S := [(.ref a144)]) rfl (Nat.le_of_eq rfl) (hb hby d9_48) (q := 51) rfl (by decide) (by decide) (fun r175 T175 M175 X175 q175 => ?_)
        obtain ⟨rfl, M175n, K175, BN175⟩ := q175
        have N176 := Fr.app N160 M175n
        have E177 := Exa.keep E161 K175
        have F178 := Fld.keep F162 K175 (ninS ne_b_a144 nin0)
        have E179 := Exa.keep E163 K175
        have F180 := Fld.keep F164 K175 (ninS ne_a_a144 nin0)
        have F181 := Fld.keep F165 K175 (ninS ne_b_a144 nin0)
        have F182 := Fld.keep F166 K175 (ninS ne_a_a144 nin0)
        have A183 := Ary.keep A167 K175 (ninS ne_ka_a144 nin0)
        have A184 := Ary.keep A168 K175 (ninS ne_kb_a144 nin0)
        have E185 := Exa.keep E169 K175
        have A188 := Ary.keep AR2 K175 (ninS ne_a144_kr.symm nin0)
        have Z189 := Nat.le_trans Z172 K175.1
        have KK190 := KK173.trans K175 (allS (Or.inr ge_a144) all0)
        dsimp only [Option.toList, List.cons_append, List.nil_append]
        exact gRetA X175 hx hlk hret rfl rfl (hb hby d9_51) (by decide) (by decide) (by exact ⟨_, rfl, N176, KK190, (BN175.mono (by decide))⟩)
      · obtain ⟨z159_0, z159_1, z159_2, z159_3, rfl⟩ := own_l4 hl
        have AR2 : Ary Z T159.heap kr cr (.int) [(.int z159_0), (.int z159_1), (.int z159_2), (.int z159_3)] := AR
        refine gAloadN X159 hx (hb hby d9_44) (q := 45) rfl rfl rfl ?_
        refine gGetF X159 hx hZ (host := "") hown (Or.inl (hw _ (List.mem_of_getElem? (i := 48) rfl))) Via.refl rfl F164 (hb hby d9_45) (q := 48) rfl (fun T191 X191 e191 => ?_)
        refine gCallN X191 hx hZ rfl hown (hw _ (List.mem_of_getElem? (i := 62) rfl)) (hw _ (List.mem_of_getElem? (i := 63) rfl)) (hw _ (List.mem_of_getElem? (i := 32) rfl)) (hw _ (List.mem_of_getElem? (i := 64) rfl)) (by decide) (rmBI4 l Z a0 hw [] a144 kr cr z159_0 z159_1 z159_2 z159_3 T159.heap n0 Z172 F170 F171 E169 le_a144 AR2 ne_a144_kr.symm) (W := 1) (by decide) (by decide) e191 (by rw [hml]; rfl) [(.ref kr), (.int (1 : Int32))] (lenOf pd3 rfl) rfl (S := [(.ref a144)]) rfl (Nat.le_of_eq rfl) (hb hby d9_48) (q := 51) rfl (by decide) (by decide) (fun r192 T192 M192 X192 q192 => ?_)
        obtain ⟨rfl, M192n, K192, BN192⟩ := q192
        have N193 := Fr.app N160 M192n
        have E194 := Exa.keep E161 K192
        have F195 := Fld.keep F162 K192 (ninS ne_b_a144 nin0)
        have E196 := Exa.keep E163 K192
        have F197 := Fld.keep F164 K192 (ninS ne_a_a144 nin0)
        have F198 := Fld.keep F165 K192 (ninS ne_b_a144 nin0)
        have F199 := Fld.keep F166 K192 (ninS ne_a_a144 nin0)
        have A200 := Ary.keep A167 K192 (ninS ne_ka_a144 nin0)
        have A201 := Ary.keep A168 K192 (ninS ne_kb_a144 nin0)
        have E202 := Exa.keep E169 K192
        have A205 := Ary.keep AR2 K192 (ninS ne_a144_kr.symm nin0)
        have Z206 := Nat.le_trans Z172 K192.1
        have KK207 := KK173.trans K192 (allS (Or.inr ge_a144) all0)
        dsimp only [Option.toList, List.cons_append, List.nil_append]
        exact gRetA X192 hx hlk hret rfl rfl (hb hby d9_51) (by decide) (by decide) (by exact ⟨_, rfl, N193, KK207, (BN192.mono (by decide))⟩)
  · obtain ⟨w0, w1, rfl⟩ := own_l2 hlb
    have AB2 : Ary Z h0 kb cb (.int) [(.int w0), (.int w1)] := AB
    rcases own_le3 la1 la2 with hla | hla | hla
    · obtain ⟨u0, rfl⟩ := own_l1 hla
      have AA2 : Ary Z h0 ka ca (.int) [(.int u0)] := AA
      refine gAloadN X0 hx (hb hby d9_0) (q := 1) rfl rfl rfl ?_
      refine gGetF X0 hx hZ (host := "") hown (Or.inl (hw _ (List.mem_of_getElem? (i := 48) rfl))) Via.refl e0 FB (hb hby d9_1) (q := 4) rfl (fun T208 X208 e208 => ?_)
      refine gIfY X208 hx (hb hby d9_4) (q := 9) (by decide) (by decide) (XT.i0_ne_t (by decide)) ?_
      refine gAloadN X208 hx (hb hby d9_9) (q := 10) rfl rfl rfl ?_
      refine gGetF X208 hx hZ (host := "") hown (Or.inl (hw _ (List.mem_of_getElem? (i := 48) rfl))) Via.refl e208 FA (hb hby d9_10) (q := 13) rfl (fun T209 X209 e209 => ?_)
      refine gIfY X209 hx (hb hby d9_13) (q := 18) (by decide) (by decide) (XT.i0_ne_t (by decide)) ?_
      refine gAloadN X209 hx (hb hby d9_18) (q := 19) rfl rfl rfl ?_
      refine gGetF X209 hx hZ (host := "") hown (Or.inl (hw _ (List.mem_of_getElem? (i := 48) rfl))) Via.refl e209 FB (hb hby d9_19) (q := 22) rfl (fun T210 X210 e210 => ?_)
      refine gAloadN X210 hx (hb hby d9_22) (q := 23) rfl rfl rfl ?_
      refine gGetF X210 hx hZ (host := "") hown (Or.inl (hw _ (List.mem_of_getElem? (i := 48) rfl))) Via.refl e210 FA (hb hby d9_23) (q := 26) rfl (fun T211 X211 e211 => ?_)
      refine gIcmpN X211 hx (hb hby d9_26) (q := 29) rfl (XT.ii_ne_f (by decide)) ?_
      refine gNewO X211 hx hZ hown (hw _ (List.mem_of_getElem? (i := 35) rfl)) (hw _ (List.mem_of_getElem? (i := 36) rfl)) (hw _ (List.mem_of_getElem? (i := 32) rfl)) e211 (hb hby d9_29) (q := 32) rfl (by decide) (by decide) (fun T212 h212 a212 X212 e212 g212 E212 A212 D212 => ?_)
      have E213 := Exa.ext E212 EB
      have F214 := Fld.ext E212 FB
      have E215 := Exa.ext E212 EA
      have F216 := Fld.ext E212 FA
      have F217 := Fld.ext E212 GB
      have F218 := Fld.ext E212 GA
      have A219 := Ary.ext E212 AA2
      have A220 := Ary.ext E212 AB2
      have ge_a212 : h0.size ≤ a212 := by rw [g212]; exact (Keep.refl h0 []).1
      have K221 := (Keep.refl h0 []).ext E212
      have le_a212 : n0 ≤ a212 := by rw [g212]; exact Z0
      have ne_b_a212 : b ≠ a212 := by rw [g212]; exact Nat.ne_of_lt EB.lt
      have ne_a_a212 : a ≠ a212 := by rw [g212]; exact Nat.ne_of_lt EA.lt
      have ne_ka_a212 : ka ≠ a212 := by rw [g212]; exact Nat.ne_of_lt AA2.lt
      have ne_kb_a212 : kb ≠ a212 := by rw [g212]; exact Nat.ne_of_lt AB2.lt
      have Z222 := Nat.le_trans Z0 E212.1
      have F223 : Fld Z h212 a212 "java/math/BigInteger" "signum" "I" (.int (0 : Int32)) := D212 (Or.inr (hw _ (List.mem_of_getElem? (i := 49) rfl))) (ty := .int) (by decide)
      have F224 : Fld Z h212 a212 "java/math/BigInteger" "mag" "[I" (.null) := D212 (Or.inr (hw _ (List.mem_of_getElem? (i := 52) rfl))) (ty := .array (.int)) (by decide)
      clear D212
      refine gDup X212 hx (hb hby d9_32) (q := 33) rfl rfl ?_
      refine gAloadN X212 hx (hb hby d9_33) (q := 34) rfl rfl rfl ?_
      refine gGetF X212 hx hZ (host := "") hown (Or.inl (hw _ (List.mem_of_getElem? (i := 51) rfl))) Via.refl e212 F218 (hb hby d9_34) (q := 37) rfl (fun T225 X225 e225 => ?_)
      refine gAloadN X225 hx (hb hby d9_37) (q := 38) rfl rfl rfl ?_
      refine gGetF X225 hx hZ (host := "") hown (Or.inl (hw _ (List.mem_of_getElem? (i := 51) rfl))) Via.refl e225 F217 (hb hby d9_38) (q := 41) rfl (fun T226 X226 e226 => ?_)
      refine gCallS X226 hx hZ hown (hw _ (List.mem_of_getElem? (i := 58) rfl)) (hw _ (List.mem_of_getElem? (i := 59) rfl)) (hw _ (List.mem_of_getElem? (i := 32) rfl)) (hw _ (List.mem_of_getElem? (i := 60) rfl)) (by decide) (rmAA12 l Z a0 hw [] ka kb ca cb u0 w0 w1 h212 n0 Z222 A219 A220) (W := 2) (by decide) (by decide) e226 (by rw [hml]; rfl) [(.ref ka), (.ref kb)] (lenOf pd2 rfl) rfl (S := [(.ref a212), (.ref a212)]) rfl (Nat.le_of_eq rfl) (hb hby d9_41) (q := 44) rfl (by decide) (by decide) (fun r227 T227 M227 X227 q227 => ?_)
      obtain ⟨kr, cr, xs, rfl, M227n, K227, AR, hl, gr⟩ := q227
      dsimp only [Option.toList, List.cons_append, List.nil_append]
      have N228 := Fr.app N0 M227n
      have lkr : n0 ≤ kr := Nat.le_trans Z222 gr
      have ne_b_kr : b ≠ kr := Nat.ne_of_lt (Nat.lt_of_lt_of_le E213.lt gr)
      have ne_a_kr : a ≠ kr := Nat.ne_of_lt (Nat.lt_of_lt_of_le E215.lt gr)
      have ne_ka_kr : ka ≠ kr := Nat.ne_of_lt (Nat.lt_of_lt_of_le A219.lt gr)
      have ne_kb_kr : kb ≠ kr := Nat.ne_of_lt (Nat.lt_of_lt_of_le A220.lt gr)
      have ne_a212_kr : a212 ≠ kr := Nat.ne_of_lt (Nat.lt_of_lt_of_le A212.lt gr)
      have E229 := Exa.keep E213 K227
      have F230 := Fld.keep F214 K227 nin0
      have E231 := Exa.keep E215 K227
      have F232 := Fld.keep F216 K227 nin0
      have F233 := Fld.keep F217 K227 nin0
      have F234 := Fld.keep F218 K227 nin0
      have A235 := Ary.keep A219 K227 nin0
      have A236 := Ary.keep A220 K227 nin0
      have E237 := Exa.keep A212 K227
      have F238 := Fld.keep F223 K227 nin0
      have F239 := Fld.keep F224 K227 nin0
      have Z240 := Nat.le_trans Z222 K227.1
      have KK241 := K221.trans K227 all0
      rcases hl with hl | hl
      · obtain ⟨z227_0, z227_1, rfl⟩ := own_l2 hl
        have AR2 : Ary Z T227.heap kr cr (.int) [(.int z227_0), (.int z227_1)] := AR
        refine gAloadN X227 hx (hb hby d9_44) (q := 45) rfl rfl rfl ?_
        refine gGetF X227 hx hZ (host := "") hown (Or.inl (hw _ (List.mem_of_getElem? (i := 48) rfl))) Via.refl rfl F232 (hb hby d9_45) (q := 48) rfl (fun T242 X242 e242 => ?_)
        refine gCallN X242 hx hZ rfl hown (hw _ (List.mem_of_getElem? (i := 62) rfl)) (hw _ (List.mem_of_getElem? (i := 63) rfl)) (hw _ (List.mem_of_getElem? (i := 32) rfl)) (hw _ (List.mem_of_getElem? (i := 64) rfl)) (by decide) (rmBI2 l Z a0 hw [] a212 kr cr z227_0 z227_1 T227.heap n0 Z240 F238 F239 E237 le_a212 AR2 ne_a212_kr.symm) (W := 1) (by decide) (by decide) e242 (by rw [hml]; rfl) [(.ref kr), (.int (1 : Int32))] (lenOf pd3 rfl) rfl (S := [(.ref a212)]) rfl (Nat.le_of_eq rfl) (hb hby d9_48) (q := 51) rfl (by decide) (by decide) (fun r243 T243 M243 X243 q243 => ?_)
        obtain ⟨rfl, M243n, K243, BN243⟩ := q243
        have N244 := Fr.app N228 M243n
        have E245 := Exa.keep E229 K243
        have F246 := Fld.keep F230 K243 (ninS ne_b_a212 nin0)
        have E247 := Exa.keep E231 K243
        have F248 := Fld.keep F232 K243 (ninS ne_a_a212 nin0)
        have F249 := Fld.keep F233 K243 (ninS ne_b_a212 nin0)
        have F250 := Fld.keep F234 K243 (ninS ne_a_a212 nin0)
        have A251 := Ary.keep A235 K243 (ninS ne_ka_a212 nin0)
        have A252 := Ary.keep A236 K243 (ninS ne_kb_a212 nin0)
        have E253 := Exa.keep E237 K243
        have A256 := Ary.keep AR2 K243 (ninS ne_a212_kr.symm nin0)
        have Z257 := Nat.le_trans Z240 K243.1
        have KK258 := KK241.trans K243 (allS (Or.inr ge_a212) all0)
        dsimp only [Option.toList, List.cons_append, List.nil_append]
        exact gRetA X243 hx hlk hret rfl rfl (hb hby d9_51) (by decide) (by decide) (by exact ⟨_, rfl, N244, KK258, (BN243.mono (by decide))⟩)
      · obtain ⟨z227_0, z227_1, z227_2, rfl⟩ := own_l3 hl
        have AR2 : Ary Z T227.heap kr cr (.int) [(.int z227_0), (.int z227_1), (.int z227_2)] := AR
        refine gAloadN X227 hx (hb hby d9_44) (q := 45) rfl rfl rfl ?_
        refine gGetF X227 hx hZ (host := "") hown (Or.inl (hw _ (List.mem_of_getElem? (i := 48) rfl))) Via.refl rfl F232 (hb hby d9_45) (q := 48) rfl (fun T259 X259 e259 => ?_)
        refine gCallN X259 hx hZ rfl hown (hw _ (List.mem_of_getElem? (i := 62) rfl)) (hw _ (List.mem_of_getElem? (i := 63) rfl)) (hw _ (List.mem_of_getElem? (i := 32) rfl)) (hw _ (List.mem_of_getElem? (i := 64) rfl)) (by decide) (rmBI3 l Z a0 hw [] a212 kr cr z227_0 z227_1 z227_2 T227.heap n0 Z240 F238 F239 E237 le_a212 AR2 ne_a212_kr.symm) (W := 1) (by decide) (by decide) e259 (by rw [hml]; rfl) [(.ref kr), (.int (1 : Int32))] (lenOf pd3 rfl) rfl (S := [(.ref a212)]) rfl (Nat.le_of_eq rfl) (hb hby d9_48) (q := 51) rfl (by decide) (by decide) (fun r260 T260 M260 X260 q260 => ?_)
        obtain ⟨rfl, M260n, K260, BN260⟩ := q260
        have N261 := Fr.app N228 M260n
        have E262 := Exa.keep E229 K260
        have F263 := Fld.keep F230 K260 (ninS ne_b_a212 nin0)
        have E264 := Exa.keep E231 K260
        have F265 := Fld.keep F232 K260 (ninS ne_a_a212 nin0)
        have F266 := Fld.keep F233 K260 (ninS ne_b_a212 nin0)
        have F267 := Fld.keep F234 K260 (ninS ne_a_a212 nin0)
        have A268 := Ary.keep A235 K260 (ninS ne_ka_a212 nin0)
        have A269 := Ary.keep A236 K260 (ninS ne_kb_a212 nin0)
        have E270 := Exa.keep E237 K260
        have A273 := Ary.keep AR2 K260 (ninS ne_a212_kr.symm nin0)
        have Z274 := Nat.le_trans Z240 K260.1
        have KK275 := KK241.trans K260 (allS (Or.inr ge_a212) all0)
        dsimp only [Option.toList, List.cons_append, List.nil_append]
        exact gRetA X260 hx hlk hret rfl rfl (hb hby d9_51) (by decide) (by decide) (by exact ⟨_, rfl, N261, KK275, (BN260.mono (by decide))⟩)
    · obtain ⟨u0, u1, rfl⟩ := own_l2 hla
      have AA2 : Ary Z h0 ka ca (.int) [(.int u0), (.int u1)] := AA
      refine gAloadN X0 hx (hb hby d9_0) (q := 1) rfl rfl rfl ?_
      refine gGetF X0 hx hZ (host := "") hown (Or.inl (hw _ (List.mem_of_getElem? (i := 48) rfl))) Via.refl e0 FB (hb hby d9_1) (q := 4) rfl (fun T276 X276 e276 => ?_)
      refine gIfY X276 hx (hb hby d9_4) (q := 9) (by decide) (by decide) (XT.i0_ne_t (by decide)) ?_
      refine gAloadN X276 hx (hb hby d9_9) (q := 10) rfl rfl rfl ?_
      refine gGetF X276 hx hZ (host := "") hown (Or.inl (hw _ (List.mem_of_getElem? (i := 48) rfl))) Via.refl e276 FA (hb hby d9_10) (q := 13) rfl (fun T277 X277 e277 => ?_)
      refine gIfY X277 hx (hb hby d9_13) (q := 18) (by decide) (by decide) (XT.i0_ne_t (by decide)) ?_
      refine gAloadN X277 hx (hb hby d9_18) (q := 19) rfl rfl rfl ?_
      refine gGetF X277 hx hZ (host := "") hown (Or.inl (hw _ (List.mem_of_getElem? (i := 48) rfl))) Via.refl e277 FB (hb hby d9_19) (q := 22) rfl (fun T278 X278 e278 => ?_)
      refine gAloadN X278 hx (hb hby d9_22) (q := 23) rfl rfl rfl ?_
      refine gGetF X278 hx hZ (host := "") hown (Or.inl (hw _ (List.mem_of_getElem? (i := 48) rfl))) Via.refl e278 FA (hb hby d9_23) (q := 26) rfl (fun T279 X279 e279 => ?_)
      refine gIcmpN X279 hx (hb hby d9_26) (q := 29) rfl (XT.ii_ne_f (by decide)) ?_
      refine gNewO X279 hx hZ hown (hw _ (List.mem_of_getElem? (i := 35) rfl)) (hw _ (List.mem_of_getElem? (i := 36) rfl)) (hw _ (List.mem_of_getElem? (i := 32) rfl)) e279 (hb hby d9_29) (q := 32) rfl (by decide) (by decide) (fun T280 h280 a280 X280 e280 g280 E280 A280 D280 => ?_)
      have E281 := Exa.ext E280 EB
      have F282 := Fld.ext E280 FB
      have E283 := Exa.ext E280 EA
      have F284 := Fld.ext E280 FA
      have F285 := Fld.ext E280 GB
      have F286 := Fld.ext E280 GA
      have A287 := Ary.ext E280 AA2
      have A288 := Ary.ext E280 AB2
      have ge_a280 : h0.size ≤ a280 := by rw [g280]; exact (Keep.refl h0 []).1
      have K289 := (Keep.refl h0 []).ext E280
      have le_a280 : n0 ≤ a280 := by rw [g280]; exact Z0
      have ne_b_a280 : b ≠ a280 := by rw [g280]; exact Nat.ne_of_lt EB.lt
      have ne_a_a280 : a ≠ a280 := by rw [g280]; exact Nat.ne_of_lt EA.lt
      have ne_ka_a280 : ka ≠ a280 := by rw [g280]; exact Nat.ne_of_lt AA2.lt
      have ne_kb_a280 : kb ≠ a280 := by rw [g280]; exact Nat.ne_of_lt AB2.lt
      have Z290 := Nat.le_trans Z0 E280.1
      have F291 : Fld Z h280 a280 "java/math/BigInteger" "signum" "I" (.int (0 : Int32)) := D280 (Or.inr (hw _ (List.mem_of_getElem? (i := 49) rfl))) (ty := .int) (by decide)
      have F292 : Fld Z h280 a280 "java/math/BigInteger" "mag" "[I" (.null) := D280 (Or.inr (hw _ (List.mem_of_getElem? (i := 52) rfl))) (ty := .array (.int)) (by decide)
      clear D280
      refine gDup X280 hx (hb hby d9_32) (q := 33) rfl rfl ?_
      refine gAloadN X280 hx (hb hby d9_33) (q := 34) rfl rfl rfl ?_
      refine gGetF X280 hx hZ (host := "") hown (Or.inl (hw _ (List.mem_of_getElem? (i := 51) rfl))) Via.refl e280 F286 (hb hby d9_34) (q := 37) rfl (fun T293 X293 e293 => ?_)
      refine gAloadN X293 hx (hb hby d9_37) (q := 38) rfl rfl rfl ?_
      refine gGetF X293 hx hZ (host := "") hown (Or.inl (hw _ (List.mem_of_getElem? (i := 51) rfl))) Via.refl e293 F285 (hb hby d9_38) (q := 41) rfl (fun T294 X294 e294 => ?_)
      refine gCallS X294 hx hZ hown (hw _ (List.mem_of_getElem? (i := 58) rfl)) (hw _ (List.mem_of_getElem? (i := 59) rfl)) (hw _ (List.mem_of_getElem? (i := 32) rfl)) (hw _ (List.mem_of_getElem? (i := 60) rfl)) (by decide) (rmAA22 l Z a0 hw [] ka kb ca cb u0 u1 w0 w1 h280 n0 Z290 A287 A288) (W := 2) (by decide) (by decide) e294 (by rw [hml]; rfl) [(.ref ka), (.ref kb)] (lenOf pd2 rfl) rfl (S := [(.ref a280), (.ref a280)]) rfl (Nat.le_of_eq rfl) (hb hby d9_41) (q := 44) rfl (by decide) (by decide) (fun r295 T295 M295 X295 q295 => ?_)
      obtain ⟨kr, cr, xs, rfl, M295n, K295, AR, hl, gr⟩ := q295
      dsimp only [Option.toList, List.cons_append, List.nil_append]
      have N296 := Fr.app N0 M295n
      have lkr : n0 ≤ kr := Nat.le_trans Z290 gr
      have ne_b_kr : b ≠ kr := Nat.ne_of_lt (Nat.lt_of_lt_of_le E281.lt gr)
      have ne_a_kr : a ≠ kr := Nat.ne_of_lt (Nat.lt_of_lt_of_le E283.lt gr)
      have ne_ka_kr : ka ≠ kr := Nat.ne_of_lt (Nat.lt_of_lt_of_le A287.lt gr)
      have ne_kb_kr : kb ≠ kr := Nat.ne_of_lt (Nat.lt_of_lt_of_le A288.lt gr)
      have ne_a280_kr : a280 ≠ kr := Nat.ne_of_lt (Nat.lt_of_lt_of_le A280.lt gr)
      have E297 := Exa.keep E281 K295
      have F298 := Fld.keep F282 K295 nin0
      have E299 := Exa.keep E283 K295
      have F300 := Fld.keep F284 K295 nin0
      have F301 := Fld.keep F285 K295 nin0
      have F302 := Fld.keep F286 K295 nin0
      have A303 := Ary.keep A287 K295 nin0
      have A304 := Ary.keep A288 K295 nin0
      have E305 := Exa.keep A280 K295
      have F306 := Fld.keep F291 K295 nin0
      have F307 := Fld.keep F292 K295 nin0
      have Z308 := Nat.le_trans Z290 K295.1
      have KK309 := K289.trans K295 all0
      rcases hl with hl | hl
      · obtain ⟨z295_0, z295_1, rfl⟩ := own_l2 hl
        have AR2 : Ary Z T295.heap kr cr (.int) [(.int z295_0), (.int z295_1)] := AR
        refine gAloadN X295 hx (hb hby d9_44) (q := 45) rfl rfl rfl ?_
        refine gGetF X295 hx hZ (host := "") hown (Or.inl (hw _ (List.mem_of_getElem? (i := 48) rfl))) Via.refl rfl F300 (hb hby d9_45) (q := 48) rfl (fun T310 X310 e310 => ?_)
        refine gCallN X310 hx hZ rfl hown (hw _ (List.mem_of_getElem? (i := 62) rfl)) (hw _ (List.mem_of_getElem? (i := 63) rfl)) (hw _ (List.mem_of_getElem? (i := 32) rfl)) (hw _ (List.mem_of_getElem? (i := 64) rfl)) (by decide) (rmBI2 l Z a0 hw [] a280 kr cr z295_0 z295_1 T295.heap n0 Z308 F306 F307 E305 le_a280 AR2 ne_a280_kr.symm) (W := 1) (by decide) (by decide) e310 (by rw [hml]; rfl) [(.ref kr), (.int (1 : Int32))] (lenOf pd3 rfl) rfl (S := [(.ref a280)]) rfl (Nat.le_of_eq rfl) (hb hby d9_48) (q := 51) rfl (by decide) (by decide) (fun r311 T311 M311 X311 q311 => ?_)
        obtain ⟨rfl, M311n, K311, BN311⟩ := q311
        have N312 := Fr.app N296 M311n
        have E313 := Exa.keep E297 K311
        have F314 := Fld.keep F298 K311 (ninS ne_b_a280 nin0)
        have E315 := Exa.keep E299 K311
        have F316 := Fld.keep F300 K311 (ninS ne_a_a280 nin0)
        have F317 := Fld.keep F301 K311 (ninS ne_b_a280 nin0)
        have F318 := Fld.keep F302 K311 (ninS ne_a_a280 nin0)
        have A319 := Ary.keep A303 K311 (ninS ne_ka_a280 nin0)
        have A320 := Ary.keep A304 K311 (ninS ne_kb_a280 nin0)
        have E321 := Exa.keep E305 K311
        have A324 := Ary.keep AR2 K311 (ninS ne_a280_kr.symm nin0)
        have Z325 := Nat.le_trans Z308 K311.1
        have KK326 := KK309.trans K311 (allS (Or.inr ge_a280) all0)
        dsimp only [Option.toList, List.cons_append, List.nil_append]
        exact gRetA X311 hx hlk hret rfl rfl (hb hby d9_51) (by decide) (by decide) (by exact ⟨_, rfl, N312, KK326, (BN311.mono (by decide))⟩)
      · obtain ⟨z295_0, z295_1, z295_2, rfl⟩ := own_l3 hl
        have AR2 : Ary Z T295.heap kr cr (.int) [(.int z295_0), (.int z295_1), (.int z295_2)] := AR
        refine gAloadN X295 hx (hb hby d9_44) (q := 45) rfl rfl rfl ?_
        refine gGetF X295 hx hZ (host := "") hown (Or.inl (hw _ (List.mem_of_getElem? (i := 48) rfl))) Via.refl rfl F300 (hb hby d9_45) (q := 48) rfl (fun T327 X327 e327 => ?_)
        refine gCallN X327 hx hZ rfl hown (hw _ (List.mem_of_getElem? (i := 62) rfl)) (hw _ (List.mem_of_getElem? (i := 63) rfl)) (hw _ (List.mem_of_getElem? (i := 32) rfl)) (hw _ (List.mem_of_getElem? (i := 64) rfl)) (by decide) (rmBI3 l Z a0 hw [] a280 kr cr z295_0 z295_1 z295_2 T295.heap n0 Z308 F306 F307 E305 le_a280 AR2 ne_a280_kr.symm) (W := 1) (by decide) (by decide) e327 (by rw [hml]; rfl) [(.ref kr), (.int (1 : Int32))] (lenOf pd3 rfl) rfl (S := [(.ref a280)]) rfl (Nat.le_of_eq rfl) (hb hby d9_48) (q := 51) rfl (by decide) (by decide) (fun r328 T328 M328 X328 q328 => ?_)
        obtain ⟨rfl, M328n, K328, BN328⟩ := q328
        have N329 := Fr.app N296 M328n
        have E330 := Exa.keep E297 K328
        have F331 := Fld.keep F298 K328 (ninS ne_b_a280 nin0)
        have E332 := Exa.keep E299 K328
        have F333 := Fld.keep F300 K328 (ninS ne_a_a280 nin0)
        have F334 := Fld.keep F301 K328 (ninS ne_b_a280 nin0)
        have F335 := Fld.keep F302 K328 (ninS ne_a_a280 nin0)
        have A336 := Ary.keep A303 K328 (ninS ne_ka_a280 nin0)
        have A337 := Ary.keep A304 K328 (ninS ne_kb_a280 nin0)
        have E338 := Exa.keep E305 K328
        have A341 := Ary.keep AR2 K328 (ninS ne_a280_kr.symm nin0)
        have Z342 := Nat.le_trans Z308 K328.1
        have KK343 := KK309.trans K328 (allS (Or.inr ge_a280) all0)
        dsimp only [Option.toList, List.cons_append, List.nil_append]
        exact gRetA X328 hx hlk hret rfl rfl (hb hby d9_51) (by decide) (by decide) (by exact ⟨_, rfl, N329, KK343, (BN328.mono (by decide))⟩)
    · obtain ⟨u0, u1, u2, rfl⟩ := own_l3 hla
      have AA2 : Ary Z h0 ka ca (.int) [(.int u0), (.int u1), (.int u2)] := AA
      refine gAloadN X0 hx (hb hby d9_0) (q := 1) rfl rfl rfl ?_
      refine gGetF X0 hx hZ (host := "") hown (Or.inl (hw _ (List.mem_of_getElem? (i := 48) rfl))) Via.refl e0 FB (hb hby d9_1) (q := 4) rfl (fun T344 X344 e344 => ?_)
      refine gIfY X344 hx (hb hby d9_4) (q := 9) (by decide) (by decide) (XT.i0_ne_t (by decide)) ?_
      refine gAloadN X344 hx (hb hby d9_9) (q := 10) rfl rfl rfl ?_
      refine gGetF X344 hx hZ (host := "") hown (Or.inl (hw _ (List.mem_of_getElem? (i := 48) rfl))) Via.refl e344 FA (hb hby d9_10) (q := 13) rfl (fun T345 X345 e345 => ?_)
      refine gIfY X345 hx (hb hby d9_13) (q := 18) (by decide) (by decide) (XT.i0_ne_t (by decide)) ?_
      refine gAloadN X345 hx (hb hby d9_18) (q := 19) rfl rfl rfl ?_
      refine gGetF X345 hx hZ (host := "") hown (Or.inl (hw _ (List.mem_of_getElem? (i := 48) rfl))) Via.refl e345 FB (hb hby d9_19) (q := 22) rfl (fun T346 X346 e346 => ?_)
      refine gAloadN X346 hx (hb hby d9_22) (q := 23) rfl rfl rfl ?_
      refine gGetF X346 hx hZ (host := "") hown (Or.inl (hw _ (List.mem_of_getElem? (i := 48) rfl))) Via.refl e346 FA (hb hby d9_23) (q := 26) rfl (fun T347 X347 e347 => ?_)
      refine gIcmpN X347 hx (hb hby d9_26) (q := 29) rfl (XT.ii_ne_f (by decide)) ?_
      refine gNewO X347 hx hZ hown (hw _ (List.mem_of_getElem? (i := 35) rfl)) (hw _ (List.mem_of_getElem? (i := 36) rfl)) (hw _ (List.mem_of_getElem? (i := 32) rfl)) e347 (hb hby d9_29) (q := 32) rfl (by decide) (by decide) (fun T348 h348 a348 X348 e348 g348 E348 A348 D348 => ?_)
      have E349 := Exa.ext E348 EB
      have F350 := Fld.ext E348 FB
      have E351 := Exa.ext E348 EA
      have F352 := Fld.ext E348 FA
      have F353 := Fld.ext E348 GB
      have F354 := Fld.ext E348 GA
      have A355 := Ary.ext E348 AA2
      have A356 := Ary.ext E348 AB2
      have ge_a348 : h0.size ≤ a348 := by rw [g348]; exact (Keep.refl h0 []).1
      have K357 := (Keep.refl h0 []).ext E348
      have le_a348 : n0 ≤ a348 := by rw [g348]; exact Z0
      have ne_b_a348 : b ≠ a348 := by rw [g348]; exact Nat.ne_of_lt EB.lt
      have ne_a_a348 : a ≠ a348 := by rw [g348]; exact Nat.ne_of_lt EA.lt
      have ne_ka_a348 : ka ≠ a348 := by rw [g348]; exact Nat.ne_of_lt AA2.lt
      have ne_kb_a348 : kb ≠ a348 := by rw [g348]; exact Nat.ne_of_lt AB2.lt
      have Z358 := Nat.le_trans Z0 E348.1
      have F359 : Fld Z h348 a348 "java/math/BigInteger" "signum" "I" (.int (0 : Int32)) := D348 (Or.inr (hw _ (List.mem_of_getElem? (i := 49) rfl))) (ty := .int) (by decide)
      have F360 : Fld Z h348 a348 "java/math/BigInteger" "mag" "[I" (.null) := D348 (Or.inr (hw _ (List.mem_of_getElem? (i := 52) rfl))) (ty := .array (.int)) (by decide)
      clear D348
      refine gDup X348 hx (hb hby d9_32) (q := 33) rfl rfl ?_
      refine gAloadN X348 hx (hb hby d9_33) (q := 34) rfl rfl rfl ?_
      refine gGetF X348 hx hZ (host := "") hown (Or.inl (hw _ (List.mem_of_getElem? (i := 51) rfl))) Via.refl e348 F354 (hb hby d9_34) (q := 37) rfl (fun T361 X361 e361 => ?_)
      refine gAloadN X361 hx (hb hby d9_37) (q := 38) rfl rfl rfl ?_
      refine gGetF X361 hx hZ (host := "") hown (Or.inl (hw _ (List.mem_of_getElem? (i := 51) rfl))) Via.refl e361 F353 (hb hby d9_38) (q := 41) rfl (fun T362 X362 e362 => ?_)
      refine gCallS X362 hx hZ hown (hw _ (List.mem_of_getElem? (i := 58) rfl)) (hw _ (List.mem_of_getElem? (i := 59) rfl)) (hw _ (List.mem_of_getElem? (i := 32) rfl)) (hw _ (List.mem_of_getElem? (i := 60) rfl)) (by decide) (rmAA32 l Z a0 hw [] ka kb ca cb u0 u1 u2 w0 w1 h348 n0 Z358 A355 A356) (W := 2) (by decide) (by decide) e362 (by rw [hml]; rfl) [(.ref ka), (.ref kb)] (lenOf pd2 rfl) rfl (S := [(.ref a348), (.ref a348)]) rfl (Nat.le_of_eq rfl) (hb hby d9_41) (q := 44) rfl (by decide) (by decide) (fun r363 T363 M363 X363 q363 => ?_)
      obtain ⟨kr, cr, xs, rfl, M363n, K363, AR, hl, gr⟩ := q363
      dsimp only [Option.toList, List.cons_append, List.nil_append]
      have N364 := Fr.app N0 M363n
      have lkr : n0 ≤ kr := Nat.le_trans Z358 gr
      have ne_b_kr : b ≠ kr := Nat.ne_of_lt (Nat.lt_of_lt_of_le E349.lt gr)
      have ne_a_kr : a ≠ kr := Nat.ne_of_lt (Nat.lt_of_lt_of_le E351.lt gr)
      have ne_ka_kr : ka ≠ kr := Nat.ne_of_lt (Nat.lt_of_lt_of_le A355.lt gr)
      have ne_kb_kr : kb ≠ kr := Nat.ne_of_lt (Nat.lt_of_lt_of_le A356.lt gr)
      have ne_a348_kr : a348 ≠ kr := Nat.ne_of_lt (Nat.lt_of_lt_of_le A348.lt gr)
      have E365 := Exa.keep E349 K363
      have F366 := Fld.keep F350 K363 nin0
      have E367 := Exa.keep E351 K363
      have F368 := Fld.keep F352 K363 nin0
      have F369 := Fld.keep F353 K363 nin0
      have F370 := Fld.keep F354 K363 nin0
      have A371 := Ary.keep A355 K363 nin0
      have A372 := Ary.keep A356 K363 nin0
      have E373 := Exa.keep A348 K363
      have F374 := Fld.keep F359 K363 nin0
      have F375 := Fld.keep F360 K363 nin0
      have Z376 := Nat.le_trans Z358 K363.1
      have KK377 := K357.trans K363 all0
      rcases hl with hl | hl
      · obtain ⟨z363_0, z363_1, z363_2, rfl⟩ := own_l3 hl
        have AR2 : Ary Z T363.heap kr cr (.int) [(.int z363_0), (.int z363_1), (.int z363_2)] := AR
        refine gAloadN X363 hx (hb hby d9_44) (q := 45) rfl rfl rfl ?_
        refine gGetF X363 hx hZ (host := "") hown (Or.inl (hw _ (List.mem_of_getElem? (i := 48) rfl))) Via.refl rfl F368 (hb hby d9_45) (q := 48) rfl (fun T378 X378 e378 => ?_)
        refine gCallN X378 hx hZ rfl hown (hw _ (List.mem_of_getElem? (i := 62) rfl)) (hw _ (List.mem_of_getElem? (i := 63) rfl)) (hw _ (List.mem_of_getElem? (i := 32) rfl)) (hw _ (List.mem_of_getElem? (i := 64) rfl)) (by decide) (rmBI3 l Z a0 hw [] a348 kr cr z363_0 z363_1 z363_2 T363.heap n0 Z376 F374 F375 E373 le_a348 AR2 ne_a348_kr.symm) (W := 1) (by decide) (by decide) e378 (by rw [hml]; rfl) [(.ref kr), (.int (1 : Int32))] (lenOf pd3 rfl) rfl (S := [(.ref a348)]) rfl (Nat.le_of_eq rfl) (hb hby d9_48) (q := 51) rfl (by decide) (by decide) (fun r379 T379 M379 X379 q379 => ?_)
        obtain ⟨rfl, M379n, K379, BN379⟩ := q379
        have N380 := Fr.app N364 M379n
        have E381 := Exa.keep E365 K379
        have F382 := Fld.keep F366 K379 (ninS ne_b_a348 nin0)
        have E383 := Exa.keep E367 K379
        have F384 := Fld.keep F368 K379 (ninS ne_a_a348 nin0)
        have F385 := Fld.keep F369 K379 (ninS ne_b_a348 nin0)
        have F386 := Fld.keep F370 K379 (ninS ne_a_a348 nin0)
        have A387 := Ary.keep A371 K379 (ninS ne_ka_a348 nin0)
        have A388 := Ary.keep A372 K379 (ninS ne_kb_a348 nin0)
        have E389 := Exa.keep E373 K379
        have A392 := Ary.keep AR2 K379 (ninS ne_a348_kr.symm nin0)
        have Z393 := Nat.le_trans Z376 K379.1
        have KK394 := KK377.trans K379 (allS (Or.inr ge_a348) all0)
        dsimp only [Option.toList, List.cons_append, List.nil_append]
        exact gRetA X379 hx hlk hret rfl rfl (hb hby d9_51) (by decide) (by decide) (by exact ⟨_, rfl, N380, KK394, (BN379.mono (by decide))⟩)
      · obtain ⟨z363_0, z363_1, z363_2, z363_3, rfl⟩ := own_l4 hl
        have AR2 : Ary Z T363.heap kr cr (.int) [(.int z363_0), (.int z363_1), (.int z363_2), (.int z363_3)] := AR
        refine gAloadN X363 hx (hb hby d9_44) (q := 45) rfl rfl rfl ?_
        refine gGetF X363 hx hZ (host := "") hown (Or.inl (hw _ (List.mem_of_getElem? (i := 48) rfl))) Via.refl rfl F368 (hb hby d9_45) (q := 48) rfl (fun T395 X395 e395 => ?_)
        refine gCallN X395 hx hZ rfl hown (hw _ (List.mem_of_getElem? (i := 62) rfl)) (hw _ (List.mem_of_getElem? (i := 63) rfl)) (hw _ (List.mem_of_getElem? (i := 32) rfl)) (hw _ (List.mem_of_getElem? (i := 64) rfl)) (by decide) (rmBI4 l Z a0 hw [] a348 kr cr z363_0 z363_1 z363_2 z363_3 T363.heap n0 Z376 F374 F375 E373 le_a348 AR2 ne_a348_kr.symm) (W := 1) (by decide) (by decide) e395 (by rw [hml]; rfl) [(.ref kr), (.int (1 : Int32))] (lenOf pd3 rfl) rfl (S := [(.ref a348)]) rfl (Nat.le_of_eq rfl) (hb hby d9_48) (q := 51) rfl (by decide) (by decide) (fun r396 T396 M396 X396 q396 => ?_)
        obtain ⟨rfl, M396n, K396, BN396⟩ := q396
        have N397 := Fr.app N364 M396n
        have E398 := Exa.keep E365 K396
        have F399 := Fld.keep F366 K396 (ninS ne_b_a348 nin0)
        have E400 := Exa.keep E367 K396
        have F401 := Fld.keep F368 K396 (ninS ne_a_a348 nin0)
        have F402 := Fld.keep F369 K396 (ninS ne_b_a348 nin0)
        have F403 := Fld.keep F370 K396 (ninS ne_a_a348 nin0)
        have A404 := Ary.keep A371 K396 (ninS ne_ka_a348 nin0)
        have A405 := Ary.keep A372 K396 (ninS ne_kb_a348 nin0)
        have E406 := Exa.keep E373 K396
        have A409 := Ary.keep AR2 K396 (ninS ne_a348_kr.symm nin0)
        have Z410 := Nat.le_trans Z376 K396.1
        have KK411 := KK377.trans K396 (allS (Or.inr ge_a348) all0)
        dsimp only [Option.toList, List.cons_append, List.nil_append]
        exact gRetA X396 hx hlk hret rfl rfl (hb hby d9_51) (by decide) (by decide) (by exact ⟨_, rfl, N397, KK411, (BN396.mono (by decide))⟩)
theorem d1_0 : decode prog_44_method_1_code 0 = .ok (.aload_n 0, 1) := by decide +kernel
theorem d1_1 : decode prog_44_method_1_code 1 = .ok (.invokespecial 1, 3) := by decide +kernel
theorem d1_4 : decode prog_44_method_1_code 4 = .ok (.aload_n 0, 1) := by decide +kernel
theorem d1_5 : decode prog_44_method_1_code 5 = .ok (.lload_n 1, 1) := by decide +kernel
theorem d1_6 : decode prog_44_method_1_code 6 = .ok (.putfield 7, 3) := by decide +kernel
theorem d1_9 : decode prog_44_method_1_code 9 = .ok (.return_, 1) := by decide +kernel
theorem pn2 : plainName "com/example/gangway/gangway/Extent" = true := by first | (simp [plainName, overriddenIn]; done) | decide +kernel
theorem ef15 (m : MethodId) (x0 : Addr) (x1 : Int64) : entryFrame m #[(.ref x0), (.long x1)] 3 = mkF m 0 #[.val (.ref x0), .val (.long x1), .second] [] := by first | (simp [entryFrame, mkF, argsToLocals, Value.category]; done) | rfl
def Q_rmXI (Z : State) (a : Addr) (x1 : Int64) (h0 : Heap) (n0 : Nat) (v : Option Value) (h : Heap) (L : List Loc) : Prop := v = none ∧ Fr n0 L ∧ Keep h0 h [a] ∧ Exa Z h a "com/example/gangway/gangway/Extent" ∧ Fld Z h a "com/example/gangway/gangway/Extent" "bytes" "J" (.long x1) ∧ Fld Z h a "com/example/gangway/gangway/Extent" "large" "Ljava/math/BigInteger;" .null
set_option maxRecDepth 65536 in
set_option maxHeartbeats 40000000 in
theorem rmXI (l : Launch) (Z : State) (a0 : Array Value) (hw : ∀ d ∈ tables_1, d.before a0 Z = true) (ws : List Jvm.Cond) (a : Addr) (x1 : Int64) (h0 : Heap) (n0 : Nat) (Z0 : n0 ≤ h0.size) (F_b : Fld Z h0 a "com/example/gangway/gangway/Extent" "bytes" "J" (.long (0 : Int64))) (F_l : Fld Z h0 a "com/example/gangway/gangway/Extent" "large" "Ljava/math/BigInteger;" .null) (E_a : Exa Z h0 a "com/example/gangway/gangway/Extent") (la : n0 ≤ a) :
    Con l Z (⟨"com/example/gangway/gangway/Extent", "<init>", "(J)V"⟩ : MethodName) prog_44_method_1_code 3 none ws ({ frames := 1, cells := 0, slots := 0, locals := 12 } : Room) #[(.ref a), (.long x1)] h0 (({ frames := 1, cells := 0, slots := 0, locals := 12 } : Room).cells) (({ frames := 1, cells := 0, slots := 0, locals := 12 } : Room).slots) (Q_rmXI Z a x1 h0 n0) := by
  refine Con.of (plainFor_of_name pn2) ?_
  intro p e s m below meth c s₁ hx hby hml hown hnm hret hlk hZ X0 e0
  have N0 := Fr.nil n0
  refine goE (L := #[.val (.ref a), .val (.long x1), .second]) (ef15 m a x1) ?_
  refine gAloadN X0 hx (hb hby d1_0) (q := 1) rfl rfl rfl ?_
  refine gInitO X0 hx hZ hown (hw _ (List.mem_of_getElem? (i := 7) rfl)) (hw _ (List.mem_of_getElem? (i := 8) rfl)) (hw _ (List.mem_of_getElem? (i := 9) rfl)) e0 (by rw [hml]; rfl) (hb hby d1_1) (q := 4) rfl (by decide) (W := 0) (Nat.le_of_eq rfl) (by decide) (fun T1 X1 e1 => ?_)
  refine gAloadN X1 hx (hb hby d1_4) (q := 5) rfl rfl rfl ?_
  refine gLloadN X1 hx (hb hby d1_5) (q := 6) rfl rfl ?_
  refine gPutF X1 hx hZ (host := "") hown (Or.inl (hw _ (List.mem_of_getElem? (i := 10) rfl))) Via.refl e1 F_b E_a (Or.inl (hw _ (List.mem_of_getElem? (i := 11) rfl))) (hw _ (List.mem_of_getElem? (i := 2) rfl)) (ty := .long) (by decide) rfl rfl (hb hby d1_6) (q := 9) rfl (fun T2 h2 X2 e2 W2 => ?_)
  have N3 := Fr.snoc X2 N0 la
  have K4 := (Keep.refl h0 [a]).wr W2 (Or.inl (List.mem_of_getElem? (i := 0) rfl))
  have F5 := Fld.same W2 F_b
  have F6 := Fld.other W2 F_l (Or.inr (slot_ne (Or.inl (hw _ (List.mem_of_getElem? (i := 18) rfl))) (Or.inl (hw _ (List.mem_of_getElem? (i := 11) rfl))) (by decide) (t := .object "java/math/BigInteger") (by decide) (t' := .long) (by decide)))
  have E7 := Exa.wr W2 E_a
  have Z8 : n0 ≤ h2.size := by rw [W2.size]; exact Z0
  exact gRetV X2 hx hlk hret (hb hby d1_9) (by decide) (by decide) (by rw [e2]; exact ⟨rfl, N3, K4, E7, F5, F6⟩)
theorem d3_0 : decode prog_44_method_2_code 0 = .ok (.aload_n 0, 1) := by decide +kernel
theorem d3_1 : decode prog_44_method_2_code 1 = .ok (.getfield 13, 3) := by decide +kernel
theorem d3_4 : decode prog_44_method_2_code 4 = .ok (.ifnonnull 10, 3) := by decide +kernel
theorem d3_7 : decode prog_44_method_2_code 7 = .ok (.aload_n 0, 1) := by decide +kernel
theorem d3_8 : decode prog_44_method_2_code 8 = .ok (.getfield 7, 3) := by decide +kernel
theorem d3_11 : decode prog_44_method_2_code 11 = .ok (.goto 6, 3) := by decide +kernel
theorem d3_14 : decode prog_44_method_2_code 14 = .ok (.ldc2_w 19, 3) := by decide +kernel
theorem d3_17 : decode prog_44_method_2_code 17 = .ok (.lreturn, 1) := by decide +kernel
theorem ef16 (m : MethodId) (x0 : Addr) : entryFrame m #[(.ref x0)] 1 = mkF m 0 #[.val (.ref x0)] [] := by first | (simp [entryFrame, mkF, argsToLocals, Value.category]; done) | rfl
def Q_rmXVN (Z : State) (a : Addr) (x1 : Int64) (h0 : Heap) (n0 : Nat) (v : Option Value) (h : Heap) (L : List Loc) : Prop := v = some (.long x1) ∧ Fr n0 L ∧ h = h0
set_option maxRecDepth 65536 in
set_option maxHeartbeats 40000000 in
theorem rmXVN (l : Launch) (Z : State) (a0 : Array Value) (hw : ∀ d ∈ tables_1, d.before a0 Z = true) (ws : List Jvm.Cond) (a : Addr) (x1 : Int64) (h0 : Heap) (n0 : Nat) (Z0 : n0 ≤ h0.size) (F_b : Fld Z h0 a "com/example/gangway/gangway/Extent" "bytes" "J" (.long x1)) (F_l : Fld Z h0 a "com/example/gangway/gangway/Extent" "large" "Ljava/math/BigInteger;" .null) (E_a : Exa Z h0 a "com/example/gangway/gangway/Extent") :
    Con l Z (⟨"com/example/gangway/gangway/Extent", "value", "()J"⟩ : MethodName) prog_44_method_2_code 1 (some (.long)) ws ({ frames := 0, cells := 0, slots := 0, locals := 0 } : Room) #[(.ref a)] h0 (({ frames := 0, cells := 0, slots := 0, locals := 0 } : Room).cells) (({ frames := 0, cells := 0, slots := 0, locals := 0 } : Room).slots) (Q_rmXVN Z a x1 h0 n0) := by
  refine Con.of (plainFor_of_name pn2) ?_
  intro p e s m below meth c s₁ hx hby hml hown hnm hret hlk hZ X0 e0
  have N0 := Fr.nil n0
  refine goE (L := #[.val (.ref a)]) (ef16 m a) ?_
  refine gAloadN X0 hx (hb hby d3_0) (q := 1) rfl rfl rfl ?_
  refine gGetF X0 hx hZ (host := "") hown (Or.inl (hw _ (List.mem_of_getElem? (i := 17) rfl))) Via.refl e0 F_l (hb hby d3_1) (q := 4) rfl (fun T1 X1 e1 => ?_)
  refine gNonN X1 hx (hb hby d3_4) (q := 7) rfl rfl ?_
  refine gAloadN X1 hx (hb hby d3_7) (q := 8) rfl rfl rfl ?_
  refine gGetF X1 hx hZ (host := "") hown (Or.inl (hw _ (List.mem_of_getElem? (i := 10) rfl))) Via.refl e1 F_b (hb hby d3_8) (q := 11) rfl (fun T2 X2 e2 => ?_)
  refine gGoto X2 hx (hb hby d3_11) (q := 17) (by decide) (by decide) ?_
  exact gRetJ X2 hx hlk hret (hb hby d3_17) (by decide) (by decide) ⟨rfl, N0, e2⟩
theorem ef17 (m : MethodId) (x0 : Addr) : entryFrame m #[(.ref x0)] 1 = mkF m 0 #[.val (.ref x0)] [] := by first | (simp [entryFrame, mkF, argsToLocals, Value.category]; done) | rfl
def Q_rmXVL (Z : State) (a : Addr) (x1 : Int64) (b : Addr) (h0 : Heap) (n0 : Nat) (v : Option Value) (h : Heap) (L : List Loc) : Prop := v = some (.long (-1 : Int64)) ∧ Fr n0 L ∧ h = h0
set_option maxRecDepth 65536 in
set_option maxHeartbeats 40000000 in
theorem rmXVL (l : Launch) (Z : State) (a0 : Array Value) (hw : ∀ d ∈ tables_1, d.before a0 Z = true) (ws : List Jvm.Cond) (a : Addr) (x1 : Int64) (b : Addr) (h0 : Heap) (n0 : Nat) (Z0 : n0 ≤ h0.size) (F_b : Fld Z h0 a "com/example/gangway/gangway/Extent" "bytes" "J" (.long x1)) (F_l : Fld Z h0 a "com/example/gangway/gangway/Extent" "large" "Ljava/math/BigInteger;" (.ref b)) (E_a : Exa Z h0 a "com/example/gangway/gangway/Extent") :
    Con l Z (⟨"com/example/gangway/gangway/Extent", "value", "()J"⟩ : MethodName) prog_44_method_2_code 1 (some (.long)) ws ({ frames := 0, cells := 0, slots := 0, locals := 0 } : Room) #[(.ref a)] h0 (({ frames := 0, cells := 0, slots := 0, locals := 0 } : Room).cells) (({ frames := 0, cells := 0, slots := 0, locals := 0 } : Room).slots) (Q_rmXVL Z a x1 b h0 n0) := by
  refine Con.of (plainFor_of_name pn2) ?_
  intro p e s m below meth c s₁ hx hby hml hown hnm hret hlk hZ X0 e0
  have N0 := Fr.nil n0
  refine goE (L := #[.val (.ref a)]) (ef17 m a) ?_
  refine gAloadN X0 hx (hb hby d3_0) (q := 1) rfl rfl rfl ?_
  refine gGetF X0 hx hZ (host := "") hown (Or.inl (hw _ (List.mem_of_getElem? (i := 17) rfl))) Via.refl e0 F_l (hb hby d3_1) (q := 4) rfl (fun T1 X1 e1 => ?_)
  refine gNonY X1 hx (hb hby d3_4) (q := 14) (by decide) (by decide) rfl Value.noConfusion ?_
  refine gLdc2 X1 hx hZ hown (hw _ (List.mem_of_getElem? (i := 66) rfl)) (hb hby d3_14) (q := 17) rfl ?_
  exact gRetJ X1 hx hlk hret (hb hby d3_17) (by decide) (by decide) ⟨rfl, N0, e1⟩
theorem d5_0 : decode prog_44_method_3_code 0 = .ok (.aload_n 0, 1) := by decide +kernel
theorem d5_1 : decode prog_44_method_3_code 1 = .ok (.getfield 13, 3) := by decide +kernel
theorem d5_4 : decode prog_44_method_3_code 4 = .ok (.ifnonnull 13, 3) := by decide +kernel
theorem d5_7 : decode prog_44_method_3_code 7 = .ok (.aload_n 0, 1) := by decide +kernel
theorem d5_8 : decode prog_44_method_3_code 8 = .ok (.getfield 7, 3) := by decide +kernel
theorem d5_11 : decode prog_44_method_3_code 11 = .ok (.invokestatic 21, 3) := by decide +kernel
theorem d5_14 : decode prog_44_method_3_code 14 = .ok (.goto 7, 3) := by decide +kernel
theorem d5_17 : decode prog_44_method_3_code 17 = .ok (.aload_n 0, 1) := by decide +kernel
theorem d5_18 : decode prog_44_method_3_code 18 = .ok (.getfield 13, 3) := by decide +kernel
theorem d5_21 : decode prog_44_method_3_code 21 = .ok (.areturn, 1) := by decide +kernel
theorem ef18 (m : MethodId) (x0 : Addr) : entryFrame m #[(.ref x0)] 1 = mkF m 0 #[.val (.ref x0)] [] := by first | (simp [entryFrame, mkF, argsToLocals, Value.category]; done) | rfl
def Q_rmXEN (Z : State) (a : Addr) (x1 : Int64) (rz : Addr) (rp : Addr) (kp : ClassId) (vp : List Value) (h0 : Heap) (n0 : Nat) (v : Option Value) (h : Heap) (L : List Loc) : Prop := ∃ r, v = some (.ref r) ∧ Fr n0 L ∧ Keep h0 h [] ∧ own_BI 2 Z h r
theorem pd4 : parseMethodDescriptor "(J)Ljava/math/BigInteger;" = some ⟨[.long], some (.object "java/math/BigInteger")⟩ := by decide +kernel
set_option maxRecDepth 65536 in
set_option maxHeartbeats 40000000 in
theorem rmXEN (l : Launch) (Z : State) (a0 : Array Value) (hw : ∀ d ∈ tables_1, d.before a0 Z = true) (ws : List Jvm.Cond) (a : Addr) (x1 : Int64) (rz : Addr) (rp : Addr) (kp : ClassId) (vp : List Value) (h0 : Heap) (n0 : Nat) (Z0 : n0 ≤ h0.size) (F_b : Fld Z h0 a "com/example/gangway/gangway/Extent" "bytes" "J" (.long x1)) (F_l : Fld Z h0 a "com/example/gangway/gangway/Extent" "large" "Ljava/math/BigInteger;" .null) (E_a : Exa Z h0 a "com/example/gangway/gangway/Extent") (SZ : Sta Z Z.heap "java/math/BigInteger" "ZERO" "Ljava/math/BigInteger;" (.ref rz)) (BZ : own_BI 2 Z Z.heap rz) (SP : Sta Z Z.heap "java/math/BigInteger" "posConst" "[Ljava/math/BigInteger;" (.ref rp)) (AP : Ary Z Z.heap rp kp (.object "java/math/BigInteger") vp) (HP : vp.length = 17 ∧ ∀ j : Nat, 1 ≤ j → j ≤ 16 → ∃ r, vp[j]? = some (.ref r) ∧ own_BI 2 Z Z.heap r) (O0 : Old Z n0 h0) (hx1 : ¬ x1 < (0 : Int64)) :
    Con l Z (⟨"com/example/gangway/gangway/Extent", "exact", "()Ljava/math/BigInteger;"⟩ : MethodName) prog_44_method_3_code 1 (some (.object "java/math/BigInteger")) ws ({ frames := 4, cells := 2, slots := 8, locals := 64 } : Room) #[(.ref a)] h0 (({ frames := 4, cells := 2, slots := 8, locals := 64 } : Room).cells) (({ frames := 4, cells := 2, slots := 8, locals := 64 } : Room).slots) (Q_rmXEN Z a x1 rz rp kp vp h0 n0) := by
  refine Con.of (plainFor_of_name pn2) ?_
  intro p e s m below meth c s₁ hx hby hml hown hnm hret hlk hZ X0 e0
  have N0 := Fr.nil n0
  refine goE (L := #[.val (.ref a)]) (ef18 m a) ?_
  refine gAloadN X0 hx (hb hby d5_0) (q := 1) rfl rfl rfl ?_
  refine gGetF X0 hx hZ (host := "") hown (Or.inl (hw _ (List.mem_of_getElem? (i := 17) rfl))) Via.refl e0 F_l (hb hby d5_1) (q := 4) rfl (fun T1 X1 e1 => ?_)
  refine gNonN X1 hx (hb hby d5_4) (q := 7) rfl rfl ?_
  refine gAloadN X1 hx (hb hby d5_7) (q := 8) rfl rfl rfl ?_
  refine gGetF X1 hx hZ (host := "") hown (Or.inl (hw _ (List.mem_of_getElem? (i := 10) rfl))) Via.refl e1 F_b (hb hby d5_8) (q := 11) rfl (fun T2 X2 e2 => ?_)
  refine gCallS X2 hx hZ hown (hw _ (List.mem_of_getElem? (i := 30) rfl)) (hw _ (List.mem_of_getElem? (i := 31) rfl)) (hw _ (List.mem_of_getElem? (i := 32) rfl)) (hw _ (List.mem_of_getElem? (i := 33) rfl)) (by decide) (rmVo l Z a0 hw [] rz rp kp vp x1 h0 n0 Z0 SZ BZ SP AP HP O0 hx1) (W := 0) (by decide) (by decide) e2 (by rw [hml]; rfl) [(.long x1)] (lenOf pd4 rfl) rfl (S := []) rfl (Nat.le_of_eq rfl) (hb hby d5_11) (q := 14) rfl (by decide) (by decide) (fun r3 T3 M3 X3 q3 => ?_)
  obtain ⟨r3b, rfl, M3n, K3, B3b⟩ := q3
  dsimp only [Option.toList, List.cons_append, List.nil_append]
  have N4 := Fr.app N0 M3n
  have F5 := Fld.keep F_b K3 nin0
  have F6 := Fld.keep F_l K3 nin0
  have E7 := Exa.keep E_a K3
  have O8 := O0.keep K3 all0
  have Z9 := Nat.le_trans Z0 K3.1
  have KK10 := (Keep.refl h0 []).trans K3 (fun _ q => nomatch q)
  refine gGoto X3 hx (hb hby d5_14) (q := 21) (by decide) (by decide) ?_
  exact gRetA X3 hx hlk hret rfl rfl (hb hby d5_21) (by decide) (by decide) (by exact ⟨_, rfl, N4, KK10, B3b⟩)
theorem ef19 (m : MethodId) (x0 : Addr) : entryFrame m #[(.ref x0)] 1 = mkF m 0 #[.val (.ref x0)] [] := by first | (simp [entryFrame, mkF, argsToLocals, Value.category]; done) | rfl
def Q_rmXEL (Z : State) (a : Addr) (b : Addr) (h0 : Heap) (n0 : Nat) (v : Option Value) (h : Heap) (L : List Loc) : Prop := v = some (.ref b) ∧ Fr n0 L ∧ h = h0
set_option maxRecDepth 65536 in
set_option maxHeartbeats 40000000 in
theorem rmXEL (l : Launch) (Z : State) (a0 : Array Value) (hw : ∀ d ∈ tables_1, d.before a0 Z = true) (ws : List Jvm.Cond) (a : Addr) (b : Addr) (h0 : Heap) (n0 : Nat) (Z0 : n0 ≤ h0.size) (F_l : Fld Z h0 a "com/example/gangway/gangway/Extent" "large" "Ljava/math/BigInteger;" (.ref b)) :
    Con l Z (⟨"com/example/gangway/gangway/Extent", "exact", "()Ljava/math/BigInteger;"⟩ : MethodName) prog_44_method_3_code 1 (some (.object "java/math/BigInteger")) ws ({ frames := 4, cells := 2, slots := 8, locals := 64 } : Room) #[(.ref a)] h0 (({ frames := 4, cells := 2, slots := 8, locals := 64 } : Room).cells) (({ frames := 4, cells := 2, slots := 8, locals := 64 } : Room).slots) (Q_rmXEL Z a b h0 n0) := by
  refine Con.of (plainFor_of_name pn2) ?_
  intro p e s m below meth c s₁ hx hby hml hown hnm hret hlk hZ X0 e0
  have N0 := Fr.nil n0
  refine goE (L := #[.val (.ref a)]) (ef19 m a) ?_
  refine gAloadN X0 hx (hb hby d5_0) (q := 1) rfl rfl rfl ?_
  refine gGetF X0 hx hZ (host := "") hown (Or.inl (hw _ (List.mem_of_getElem? (i := 17) rfl))) Via.refl e0 F_l (hb hby d5_1) (q := 4) rfl (fun T1 X1 e1 => ?_)
  refine gNonY X1 hx (hb hby d5_4) (q := 17) (by decide) (by decide) rfl Value.noConfusion ?_
  refine gAloadN X1 hx (hb hby d5_17) (q := 18) rfl rfl rfl ?_
  refine gGetF X1 hx hZ (host := "") hown (Or.inl (hw _ (List.mem_of_getElem? (i := 17) rfl))) Via.refl e1 F_l (hb hby d5_18) (q := 21) rfl (fun T2 X2 e2 => ?_)
  exact gRetA X2 hx hlk hret rfl rfl (hb hby d5_21) (by decide) (by decide) ⟨rfl, N0, e2⟩
theorem d4_0 : decode prog_44_method_5_code 0 = .ok (.aload_n 0, 1) := by decide +kernel
theorem d4_1 : decode prog_44_method_5_code 1 = .ok (.getfield 13, 3) := by decide +kernel
theorem d4_4 : decode prog_44_method_5_code 4 = .ok (.ifnonnull 29, 3) := by decide +kernel
theorem d4_7 : decode prog_44_method_5_code 7 = .ok (.aload_n 0, 1) := by decide +kernel
theorem d4_8 : decode prog_44_method_5_code 8 = .ok (.getfield 7, 3) := by decide +kernel
theorem d4_11 : decode prog_44_method_5_code 11 = .ok (.ldc2_w 45, 3) := by decide +kernel
theorem d4_14 : decode prog_44_method_5_code 14 = .ok (.lload_n 1, 1) := by decide +kernel
theorem d4_15 : decode prog_44_method_5_code 15 = .ok (.lsub, 1) := by decide +kernel
theorem d4_16 : decode prog_44_method_5_code 16 = .ok (.lcmp, 1) := by decide +kernel
theorem d4_17 : decode prog_44_method_5_code 17 = .ok (.ifCond .gt 16, 3) := by decide +kernel
theorem d4_20 : decode prog_44_method_5_code 20 = .ok (.aload_n 0, 1) := by decide +kernel
theorem d4_21 : decode prog_44_method_5_code 21 = .ok (.dup, 1) := by decide +kernel
theorem d4_22 : decode prog_44_method_5_code 22 = .ok (.getfield 7, 3) := by decide +kernel
theorem d4_25 : decode prog_44_method_5_code 25 = .ok (.lload_n 1, 1) := by decide +kernel
theorem d4_26 : decode prog_44_method_5_code 26 = .ok (.ladd, 1) := by decide +kernel
theorem d4_27 : decode prog_44_method_5_code 27 = .ok (.putfield 7, 3) := by decide +kernel
theorem d4_30 : decode prog_44_method_5_code 30 = .ok (.goto 18, 3) := by decide +kernel
theorem d4_33 : decode prog_44_method_5_code 33 = .ok (.aload_n 0, 1) := by decide +kernel
theorem d4_34 : decode prog_44_method_5_code 34 = .ok (.aload_n 0, 1) := by decide +kernel
theorem d4_35 : decode prog_44_method_5_code 35 = .ok (.invokevirtual 31, 3) := by decide +kernel
theorem d4_38 : decode prog_44_method_5_code 38 = .ok (.lload_n 1, 1) := by decide +kernel
theorem d4_39 : decode prog_44_method_5_code 39 = .ok (.invokestatic 21, 3) := by decide +kernel
theorem d4_42 : decode prog_44_method_5_code 42 = .ok (.invokevirtual 38, 3) := by decide +kernel
theorem d4_45 : decode prog_44_method_5_code 45 = .ok (.putfield 13, 3) := by decide +kernel
theorem d4_48 : decode prog_44_method_5_code 48 = .ok (.return_, 1) := by decide +kernel
theorem ef20 (m : MethodId) (x0 : Addr) (x1 : Int64) : entryFrame m #[(.ref x0), (.long x1)] 3 = mkF m 0 #[.val (.ref x0), .val (.long x1), .second] [] := by first | (simp [entryFrame, mkF, argsToLocals, Value.category]; done) | rfl
def Q_rmXAN (Z : State) (a : Addr) (b1 : Int64) (x1 : Int64) (rz : Addr) (rp : Addr) (kp : ClassId) (vp : List Value) (h0 : Heap) (n0 : Nat) (v : Option Value) (h : Heap) (L : List Loc) : Prop := v = none ∧ Fr n0 L ∧ Keep h0 h [a] ∧ Exa Z h a "com/example/gangway/gangway/Extent" ∧ ((¬ ((9223372036854775807 : Int64) - x1) < b1 ∧ Fld Z h a "com/example/gangway/gangway/Extent" "bytes" "J" (.long (b1 + x1)) ∧ Fld Z h a "com/example/gangway/gangway/Extent" "large" "Ljava/math/BigInteger;" .null) ∨ (((9223372036854775807 : Int64) - x1) < b1 ∧ Fld Z h a "com/example/gangway/gangway/Extent" "bytes" "J" (.long b1) ∧ ∃ r, Fld Z h a "com/example/gangway/gangway/Extent" "large" "Ljava/math/BigInteger;" (.ref r) ∧ own_BI 3 Z h r))
theorem pd5 : parseMethodDescriptor "()Ljava/math/BigInteger;" = some ⟨[], some (.object "java/math/BigInteger")⟩ := by decide +kernel
theorem pd6 : parseMethodDescriptor "(Ljava/math/BigInteger;)Ljava/math/BigInteger;" = some ⟨[.object "java/math/BigInteger"], some (.object "java/math/BigInteger")⟩ := by decide +kernel
set_option maxRecDepth 65536 in
set_option maxHeartbeats 40000000 in
theorem rmXAN (l : Launch) (Z : State) (a0 : Array Value) (hw : ∀ d ∈ tables_1, d.before a0 Z = true) (ws : List Jvm.Cond) (a : Addr) (b1 : Int64) (x1 : Int64) (rz : Addr) (rp : Addr) (kp : ClassId) (vp : List Value) (h0 : Heap) (n0 : Nat) (Z0 : n0 ≤ h0.size) (F_b : Fld Z h0 a "com/example/gangway/gangway/Extent" "bytes" "J" (.long b1)) (F_l : Fld Z h0 a "com/example/gangway/gangway/Extent" "large" "Ljava/math/BigInteger;" .null) (E_a : Exa Z h0 a "com/example/gangway/gangway/Extent") (la : n0 ≤ a) (SZ : Sta Z Z.heap "java/math/BigInteger" "ZERO" "Ljava/math/BigInteger;" (.ref rz)) (BZ : own_BI 2 Z Z.heap rz) (SP : Sta Z Z.heap "java/math/BigInteger" "posConst" "[Ljava/math/BigInteger;" (.ref rp)) (AP : Ary Z Z.heap rp kp (.object "java/math/BigInteger") vp) (HP : vp.length = 17 ∧ ∀ j : Nat, 1 ≤ j → j ≤ 16 → ∃ r, vp[j]? = some (.ref r) ∧ own_BI 2 Z Z.heap r) (O0 : Old Z n0 h0) (hx1 : ¬ x1 < (0 : Int64)) (hb1 : ¬ b1 < (0 : Int64)) :
    Con l Z (⟨"com/example/gangway/gangway/Extent", "add", "(J)V"⟩ : MethodName) prog_44_method_5_code 3 none ws ({ frames := 5, cells := 7, slots := 29, locals := 90 } : Room) #[(.ref a), (.long x1)] h0 (({ frames := 5, cells := 7, slots := 29, locals := 90 } : Room).cells) (({ frames := 5, cells := 7, slots := 29, locals := 90 } : Room).slots) (Q_rmXAN Z a b1 x1 rz rp kp vp h0 n0) := by
  refine Con.of (plainFor_of_name pn2) ?_
  intro p e s m below meth c s₁ hx hby hml hown hnm hret hlk hZ X0 e0
  have N0 := Fr.nil n0
  refine goE (L := #[.val (.ref a), .val (.long x1), .second]) (ef20 m a x1) ?_
  refine gAloadN X0 hx (hb hby d4_0) (q := 1) rfl rfl rfl ?_
  refine gGetF X0 hx hZ (host := "") hown (Or.inl (hw _ (List.mem_of_getElem? (i := 17) rfl))) Via.refl e0 F_l (hb hby d4_1) (q := 4) rfl (fun T1 X1 e1 => ?_)
  refine gNonN X1 hx (hb hby d4_4) (q := 7) rfl rfl ?_
  refine gAloadN X1 hx (hb hby d4_7) (q := 8) rfl rfl rfl ?_
  refine gGetF X1 hx hZ (host := "") hown (Or.inl (hw _ (List.mem_of_getElem? (i := 10) rfl))) Via.refl e1 F_b (hb hby d4_8) (q := 11) rfl (fun T2 X2 e2 => ?_)
  refine gLdc2 X2 hx hZ hown (hw _ (List.mem_of_getElem? (i := 24) rfl)) (hb hby d4_11) (q := 14) rfl ?_
  refine gLloadN X2 hx (hb hby d4_14) (q := 15) rfl rfl ?_
  refine gLsub X2 hx (hb hby d4_15) (q := 16) rfl ?_
  refine gLcmp X2 hx (hb hby d4_16) (q := 17) rfl ?_
  by_cases c3 : ((9223372036854775807 : Int64) - x1) < b1
  · refine gIfY X2 hx (hb hby d4_17) (q := 33) (by decide) (by decide) (XT.ll_gt_t c3) ?_
    refine gAloadN X2 hx (hb hby d4_33) (q := 34) rfl rfl rfl ?_
    refine gAloadN X2 hx (hb hby d4_34) (q := 35) rfl rfl rfl ?_
    refine gCallV X2 hx hZ hown (hw _ (List.mem_of_getElem? (i := 25) rfl)) (hw _ (List.mem_of_getElem? (i := 26) rfl)) (hw _ (List.mem_of_getElem? (i := 28) rfl)) (hw _ (List.mem_of_getElem? (i := 27) rfl)) (hw _ (List.mem_of_getElem? (i := 3) rfl)) (hw _ (List.mem_of_getElem? (i := 29) rfl)) (notFace_of_selects (args := #[]) (mvT hZ (hw _ (List.mem_of_getElem? (i := 28) rfl)))) (by decide) (rmXEN l Z a0 hw [] a b1 rz rp kp vp h0 n0 Z0 F_b F_l E_a SZ BZ SP AP HP O0 hb1) (W := 1) (by decide) (by decide) e2 (by rw [hml]; rfl) E_a [] (lenOf pd5 rfl) rfl (S := [(.ref a)]) rfl (Nat.le_of_eq rfl) (hb hby d4_35) (q := 38) rfl (by decide) (by decide) (fun r4 T4 M4 X4 q4 => ?_)
    obtain ⟨r4b, rfl, M4n, K4, B4b⟩ := q4
    dsimp only [Option.toList, List.cons_append, List.nil_append]
    have N5 := Fr.app N0 M4n
    have F6 := Fld.keep F_b K4 nin0
    have F7 := Fld.keep F_l K4 nin0
    have E8 := Exa.keep E_a K4
    have O9 := O0.keep K4 all0
    have Z10 := Nat.le_trans Z0 K4.1
    have KK11 := (Keep.refl h0 [a]).trans K4 (fun _ q => nomatch q)
    refine gLloadN X4 hx (hb hby d4_38) (q := 39) rfl rfl ?_
    refine gCallS X4 hx hZ hown (hw _ (List.mem_of_getElem? (i := 30) rfl)) (hw _ (List.mem_of_getElem? (i := 31) rfl)) (hw _ (List.mem_of_getElem? (i := 32) rfl)) (hw _ (List.mem_of_getElem? (i := 33) rfl)) (by decide) (rmVo l Z a0 hw [] rz rp kp vp x1 T4.heap n0 Z10 SZ BZ SP AP HP O9 hx1) (W := 2) (by decide) (by decide) rfl (by rw [hml]; rfl) [(.long x1)] (lenOf pd4 rfl) rfl (S := [(.ref r4b), (.ref a)]) rfl (Nat.le_of_eq rfl) (hb hby d4_39) (q := 42) rfl (by decide) (by decide) (fun r12 T12 M12 X12 q12 => ?_)
    obtain ⟨r12b, rfl, M12n, K12, B12b⟩ := q12
    dsimp only [Option.toList, List.cons_append, List.nil_append]
    have N13 := Fr.app N5 M12n
    have F14 := Fld.keep F6 K12 nin0
    have F15 := Fld.keep F7 K12 nin0
    have E16 := Exa.keep E8 K12
    have O17 := O9.keep K12 all0
    have Z18 := Nat.le_trans Z10 K12.1
    have KK19 := KK11.trans K12 (fun _ q => nomatch q)
    refine gCallV X12 hx hZ hown (hw _ (List.mem_of_getElem? (i := 53) rfl)) (hw _ (List.mem_of_getElem? (i := 54) rfl)) (hw _ (List.mem_of_getElem? (i := 56) rfl)) (hw _ (List.mem_of_getElem? (i := 55) rfl)) (hw _ (List.mem_of_getElem? (i := 32) rfl)) (hw _ (List.mem_of_getElem? (i := 57) rfl)) (notFace_of_selects (args := #[]) (mvT hZ (hw _ (List.mem_of_getElem? (i := 56) rfl)))) (by decide) (rmBA2 l Z a0 hw [] r4b r12b T12.heap n0 Z18 (B4b.keep K12) B12b) (W := 1) (by decide) (by decide) rfl (by rw [hml]; rfl) (B4b.keep K12).1 [(.ref r12b)] (lenOf pd6 rfl) rfl (S := [(.ref a)]) rfl (Nat.le_of_eq rfl) (hb hby d4_42) (q := 45) rfl (by decide) (by decide) (fun r20 T20 M20 X20 q20 => ?_)
    obtain ⟨r20b, rfl, M20n, K20, B20b⟩ := q20
    dsimp only [Option.toList, List.cons_append, List.nil_append]
    have N21 := Fr.app N13 M20n
    have F22 := Fld.keep F14 K20 nin0
    have F23 := Fld.keep F15 K20 nin0
    have E24 := Exa.keep E16 K20
    have O25 := O17.keep K20 all0
    have Z26 := Nat.le_trans Z18 K20.1
    have KK27 := KK19.trans K20 (fun _ q => nomatch q)
    refine gPutF X20 hx hZ (host := "") hown (Or.inl (hw _ (List.mem_of_getElem? (i := 17) rfl))) Via.refl rfl F23 E24 (Or.inl (hw _ (List.mem_of_getElem? (i := 18) rfl))) (hw _ (List.mem_of_getElem? (i := 2) rfl)) (ty := .object "java/math/BigInteger") (by decide) rfl rfl (hb hby d4_45) (q := 48) rfl (fun T28 h28 X28 e28 W28 => ?_)
    have N29 := Fr.snoc X28 N21 la
    have K30 := KK27.wr W28 (Or.inl (List.mem_of_getElem? (i := 0) rfl))
    have F31 := Fld.other W28 F22 (Or.inr (slot_ne (Or.inl (hw _ (List.mem_of_getElem? (i := 11) rfl))) (Or.inl (hw _ (List.mem_of_getElem? (i := 18) rfl))) (by decide) (t := .long) (by decide) (t' := .object "java/math/BigInteger") (by decide)))
    have F32 := Fld.same W28 F23
    have E33 := Exa.wr W28 E24
    have O34 := O25.wr W28 la
    have Z35 : n0 ≤ h28.size := by rw [W28.size]; exact Z26
    have BW36 := B20b.wr W28 E24 (hw _ (List.mem_of_getElem? (i := 2) rfl))
    exact gRetV X28 hx hlk hret (hb hby d4_48) (by decide) (by decide) (by rw [e28]; exact ⟨rfl, N29, K30, E33, Or.inr ⟨c3, F31, _, F32, BW36⟩⟩)
  · refine gIfN X2 hx (hb hby d4_17) (q := 20) rfl (XT.ll_gt_f c3) ?_
    refine gAloadN X2 hx (hb hby d4_20) (q := 21) rfl rfl rfl ?_
    refine gDup X2 hx (hb hby d4_21) (q := 22) rfl rfl ?_
    refine gGetF X2 hx hZ (host := "") hown (Or.inl (hw _ (List.mem_of_getElem? (i := 10) rfl))) Via.refl e2 F_b (hb hby d4_22) (q := 25) rfl (fun T37 X37 e37 => ?_)
    refine gLloadN X37 hx (hb hby d4_25) (q := 26) rfl rfl ?_
    refine gLadd X37 hx (hb hby d4_26) (q := 27) rfl ?_
    refine gPutF X37 hx hZ (host := "") hown (Or.inl (hw _ (List.mem_of_getElem? (i := 10) rfl))) Via.refl e37 F_b E_a (Or.inl (hw _ (List.mem_of_getElem? (i := 11) rfl))) (hw _ (List.mem_of_getElem? (i := 2) rfl)) (ty := .long) (by decide) rfl rfl (hb hby d4_27) (q := 30) rfl (fun T38 h38 X38 e38 W38 => ?_)
    have N39 := Fr.snoc X38 N0 la
    have K40 := (Keep.refl h0 [a]).wr W38 (Or.inl (List.mem_of_getElem? (i := 0) rfl))
    have F41 := Fld.same W38 F_b
    have F42 := Fld.other W38 F_l (Or.inr (slot_ne (Or.inl (hw _ (List.mem_of_getElem? (i := 18) rfl))) (Or.inl (hw _ (List.mem_of_getElem? (i := 11) rfl))) (by decide) (t := .object "java/math/BigInteger") (by decide) (t' := .long) (by decide)))
    have E43 := Exa.wr W38 E_a
    have O44 := O0.wr W38 la
    have Z45 : n0 ≤ h38.size := by rw [W38.size]; exact Z0
    refine gGoto X38 hx (hb hby d4_30) (q := 48) (by decide) (by decide) ?_
    exact gRetV X38 hx hlk hret (hb hby d4_48) (by decide) (by decide) (by rw [e38]; exact ⟨rfl, N39, K40, E43, Or.inl ⟨c3, F41, F42⟩⟩)
theorem ef21 (m : MethodId) (x0 : Addr) (x1 : Int64) : entryFrame m #[(.ref x0), (.long x1)] 3 = mkF m 0 #[.val (.ref x0), .val (.long x1), .second] [] := by first | (simp [entryFrame, mkF, argsToLocals, Value.category]; done) | rfl
def Q_rmXAL (Z : State) (a : Addr) (b1 : Int64) (x1 : Int64) (b : Addr) (rz : Addr) (rp : Addr) (kp : ClassId) (vp : List Value) (h0 : Heap) (n0 : Nat) (v : Option Value) (h : Heap) (L : List Loc) : Prop := v = none ∧ Fr n0 L ∧ Keep h0 h [a] ∧ Exa Z h a "com/example/gangway/gangway/Extent" ∧ Fld Z h a "com/example/gangway/gangway/Extent" "bytes" "J" (.long b1) ∧ ∃ r, Fld Z h a "com/example/gangway/gangway/Extent" "large" "Ljava/math/BigInteger;" (.ref r)
set_option maxRecDepth 65536 in
set_option maxHeartbeats 40000000 in
theorem rmXAL (l : Launch) (Z : State) (a0 : Array Value) (hw : ∀ d ∈ tables_1, d.before a0 Z = true) (ws : List Jvm.Cond) (a : Addr) (b1 : Int64) (x1 : Int64) (b : Addr) (rz : Addr) (rp : Addr) (kp : ClassId) (vp : List Value) (h0 : Heap) (n0 : Nat) (Z0 : n0 ≤ h0.size) (F_b : Fld Z h0 a "com/example/gangway/gangway/Extent" "bytes" "J" (.long b1)) (F_l : Fld Z h0 a "com/example/gangway/gangway/Extent" "large" "Ljava/math/BigInteger;" (.ref b)) (E_a : Exa Z h0 a "com/example/gangway/gangway/Extent") (la : n0 ≤ a) (Bb : own_BI 3 Z h0 b) (SZ : Sta Z Z.heap "java/math/BigInteger" "ZERO" "Ljava/math/BigInteger;" (.ref rz)) (BZ : own_BI 2 Z Z.heap rz) (SP : Sta Z Z.heap "java/math/BigInteger" "posConst" "[Ljava/math/BigInteger;" (.ref rp)) (AP : Ary Z Z.heap rp kp (.object "java/math/BigInteger") vp) (HP : vp.length = 17 ∧ ∀ j : Nat, 1 ≤ j → j ≤ 16 → ∃ r, vp[j]? = some (.ref r) ∧ own_BI 2 Z Z.heap r) (O0 : Old Z n0 h0) (hx1 : ¬ x1 < (0 : Int64)) :
    Con l Z (⟨"com/example/gangway/gangway/Extent", "add", "(J)V"⟩ : MethodName) prog_44_method_5_code 3 none ws ({ frames := 5, cells := 7, slots := 29, locals := 90 } : Room) #[(.ref a), (.long x1)] h0 (({ frames := 5, cells := 7, slots := 29, locals := 90 } : Room).cells) (({ frames := 5, cells := 7, slots := 29, locals := 90 } : Room).slots) (Q_rmXAL Z a b1 x1 b rz rp kp vp h0 n0) := by
  refine Con.of (plainFor_of_name pn2) ?_
  intro p e s m below meth c s₁ hx hby hml hown hnm hret hlk hZ X0 e0
  have N0 := Fr.nil n0
  refine goE (L := #[.val (.ref a), .val (.long x1), .second]) (ef21 m a x1) ?_
  refine gAloadN X0 hx (hb hby d4_0) (q := 1) rfl rfl rfl ?_
  refine gGetF X0 hx hZ (host := "") hown (Or.inl (hw _ (List.mem_of_getElem? (i := 17) rfl))) Via.refl e0 F_l (hb hby d4_1) (q := 4) rfl (fun T1 X1 e1 => ?_)
  refine gNonY X1 hx (hb hby d4_4) (q := 33) (by decide) (by decide) rfl Value.noConfusion ?_
  refine gAloadN X1 hx (hb hby d4_33) (q := 34) rfl rfl rfl ?_
  refine gAloadN X1 hx (hb hby d4_34) (q := 35) rfl rfl rfl ?_
  refine gCallV X1 hx hZ hown (hw _ (List.mem_of_getElem? (i := 25) rfl)) (hw _ (List.mem_of_getElem? (i := 26) rfl)) (hw _ (List.mem_of_getElem? (i := 28) rfl)) (hw _ (List.mem_of_getElem? (i := 27) rfl)) (hw _ (List.mem_of_getElem? (i := 3) rfl)) (hw _ (List.mem_of_getElem? (i := 29) rfl)) (notFace_of_selects (args := #[]) (mvT hZ (hw _ (List.mem_of_getElem? (i := 28) rfl)))) (by decide) (rmXEL l Z a0 hw [] a b h0 n0 Z0 F_l) (W := 1) (by decide) (by decide) e1 (by rw [hml]; rfl) E_a [] (lenOf pd5 rfl) rfl (S := [(.ref a)]) rfl (Nat.le_of_eq rfl) (hb hby d4_35) (q := 38) rfl (by decide) (by decide) (fun r2 T2 M2 X2 q2 => ?_)
  obtain ⟨rfl, M2n, e2⟩ := q2
  have N3 := Fr.app N0 M2n
  dsimp only [Option.toList, List.cons_append, List.nil_append]
  refine gLloadN X2 hx (hb hby d4_38) (q := 39) rfl rfl ?_
  refine gCallS X2 hx hZ hown (hw _ (List.mem_of_getElem? (i := 30) rfl)) (hw _ (List.mem_of_getElem? (i := 31) rfl)) (hw _ (List.mem_of_getElem? (i := 32) rfl)) (hw _ (List.mem_of_getElem? (i := 33) rfl)) (by decide) (rmVo l Z a0 hw [] rz rp kp vp x1 h0 n0 Z0 SZ BZ SP AP HP O0 hx1) (W := 2) (by decide) (by decide) e2 (by rw [hml]; rfl) [(.long x1)] (lenOf pd4 rfl) rfl (S := [(.ref b), (.ref a)]) rfl (Nat.le_of_eq rfl) (hb hby d4_39) (q := 42) rfl (by decide) (by decide) (fun r4 T4 M4 X4 q4 => ?_)
  obtain ⟨r4b, rfl, M4n, K4, B4b⟩ := q4
  dsimp only [Option.toList, List.cons_append, List.nil_append]
  have N5 := Fr.app N3 M4n
  have F6 := Fld.keep F_b K4 nin0
  have F7 := Fld.keep F_l K4 nin0
  have E8 := Exa.keep E_a K4
  have O9 := O0.keep K4 all0
  have Z10 := Nat.le_trans Z0 K4.1
  have KK11 := (Keep.refl h0 [a]).trans K4 (fun _ q => nomatch q)
  refine gCallV X4 hx hZ hown (hw _ (List.mem_of_getElem? (i := 53) rfl)) (hw _ (List.mem_of_getElem? (i := 54) rfl)) (hw _ (List.mem_of_getElem? (i := 56) rfl)) (hw _ (List.mem_of_getElem? (i := 55) rfl)) (hw _ (List.mem_of_getElem? (i := 32) rfl)) (hw _ (List.mem_of_getElem? (i := 57) rfl)) (notFace_of_selects (args := #[]) (mvT hZ (hw _ (List.mem_of_getElem? (i := 56) rfl)))) (by decide) (rmBA3 l Z a0 hw [] b r4b T4.heap n0 Z10 ((Bb).keep K4) B4b) (W := 1) (by decide) (by decide) rfl (by rw [hml]; rfl) ((Bb).keep K4).1 [(.ref r4b)] (lenOf pd6 rfl) rfl (S := [(.ref a)]) rfl (Nat.le_of_eq rfl) (hb hby d4_42) (q := 45) rfl (by decide) (by decide) (fun r12 T12 M12 X12 q12 => ?_)
  obtain ⟨r12b, rfl, M12n, K12, B12b⟩ := q12
  dsimp only [Option.toList, List.cons_append, List.nil_append]
  have N13 := Fr.app N5 M12n
  have F14 := Fld.keep F6 K12 nin0
  have F15 := Fld.keep F7 K12 nin0
  have E16 := Exa.keep E8 K12
  have O17 := O9.keep K12 all0
  have Z18 := Nat.le_trans Z10 K12.1
  have KK19 := KK11.trans K12 (fun _ q => nomatch q)
  refine gPutF X12 hx hZ (host := "") hown (Or.inl (hw _ (List.mem_of_getElem? (i := 17) rfl))) Via.refl rfl F15 E16 (Or.inl (hw _ (List.mem_of_getElem? (i := 18) rfl))) (hw _ (List.mem_of_getElem? (i := 2) rfl)) (ty := .object "java/math/BigInteger") (by decide) rfl rfl (hb hby d4_45) (q := 48) rfl (fun T20 h20 X20 e20 W20 => ?_)
  have N21 := Fr.snoc X20 N13 la
  have K22 := KK19.wr W20 (Or.inl (List.mem_of_getElem? (i := 0) rfl))
  have F23 := Fld.other W20 F14 (Or.inr (slot_ne (Or.inl (hw _ (List.mem_of_getElem? (i := 11) rfl))) (Or.inl (hw _ (List.mem_of_getElem? (i := 18) rfl))) (by decide) (t := .long) (by decide) (t' := .object "java/math/BigInteger") (by decide)))
  have F24 := Fld.same W20 F15
  have E25 := Exa.wr W20 E16
  have O26 := O17.wr W20 la
  have Z27 : n0 ≤ h20.size := by rw [W20.size]; exact Z18
  exact gRetV X20 hx hlk hret (hb hby d4_48) (by decide) (by decide) (by rw [e20]; exact ⟨rfl, N21, K22, E25, F23, _, F24⟩)
theorem own_nn (x : Int64) : ¬ (x &&& (9223372036854775807 : Int64)) < (0 : Int64) := by
  have e := c_maskL x (9223372036854775807 : Int64) 63 (by decide) (by decide)
  have hz : (0 : Int64).toInt = 0 := rfl
  rw [Int64.lt_iff_toInt_lt]
  omega
theorem own_over (a c : Int64) (ha : ¬ a < (0 : Int64)) (hc : ¬ c < (0 : Int64)) : ((9223372036854775807 : Int64) - c) < a ↔ (a + c) < (0 : Int64) := by
  have e1 := c_lsub (9223372036854775807 : Int64) c
  have e2 := c_ladd a c
  have hz : (0 : Int64).toInt = 0 := rfl
  have hm : ((9223372036854775807 : Int64)).toInt = 9223372036854775807 := rfl
  have r1 := rng64 a
  have r2 := rng64 c
  have r3 := rng64 ((9223372036854775807 : Int64) - c)
  have r4 := rng64 (a + c)
  rw [Int64.lt_iff_toInt_lt] at ha hc
  rw [Int64.lt_iff_toInt_lt, Int64.lt_iff_toInt_lt]
  omega

theorem pn3 : plainName "com/example/gangway/gangway/ExtentValuePinLaw" = true := by first | (simp [plainName, overriddenIn]; done) | decide +kernel
theorem ef22 (m : MethodId) (x0 : Int64) (x1 : Int64) (x2 : Int64) : entryFrame m #[(.long x0), (.long x1), (.long x2)] maxLocals = mkF m 0 #[.val (.long x0), .second, .val (.long x1), .second, .val (.long x2), .second, .unset, .unset, .unset, .unset, .unset, .unset, .unset, .unset, .unset, .unset, .unset, .unset, .unset, .unset, .unset, .unset, .unset, .unset, .unset, .unset, .unset, .unset, .unset, .unset, .unset] [] := by first | (simp [entryFrame, mkF, argsToLocals, Value.category, maxLocals]; done) | rfl
def Q_rm0 (Z : State) (x0 : Int64) (x1 : Int64) (x2 : Int64) (rz : Addr) (rp : Addr) (kp : ClassId) (vp : List Value) (h0 : Heap) (n0 : Nat) (v : Option Value) (h : Heap) (L : List Loc) : Prop := v = some (.int 1) ∧ Fr n0 L
theorem pd7 : parseMethodDescriptor "()J" = some ⟨[], some (.long)⟩ := by decide +kernel
set_option maxRecDepth 65536 in
set_option maxHeartbeats 40000000 in
theorem own_law (xa : Int64) (xc : Int64) (xd : Int64) (v23 : Int32) (hv23 : v23 = (if (xa + xc) < (0 : Int64) then (1 : Int32) else (0 : Int32))) (v26 : Int32) (hv26 : v26 = (if v23 = (0 : Int32) then (if ((xa + xc) + xd) < (0 : Int64) then (1 : Int32) else (0 : Int32)) else (1 : Int32))) (v29 : Int64) (hv29 : v29 = (if v23 = (0 : Int32) then (xa + xc) else (-1 : Int64))) (v32 : Int64) (hv32 : v32 = (if v26 = (0 : Int32) then ((xa + xc) + xd) else (-1 : Int64))) (v35 : Int32) (hv35 : v35 = (if (xa + xc) = v29 then (if ((xa + xc) + xd) = v32 then (1 : Int32) else (0 : Int32)) else (0 : Int32))) (nn_xa : ¬ xa < (0 : Int64)) (nn_xc : ¬ xc < (0 : Int64)) (nn_xd : ¬ xd < (0 : Int64)) (hc12 : ¬ (((9223372036854775807 : Int64) - xc) < xa)) (hc17 : ¬ (((9223372036854775807 : Int64) - xd) < (xa + xc))) : v35 = 1 := by
  simp only [own_over xa xc nn_xa nn_xc] at *
  try simp only [own_over (xa + xc) xd ‹_› nn_xd] at *
  simp_all
set_option maxRecDepth 65536 in
set_option maxHeartbeats 40000000 in
theorem own_law2 (xa : Int64) (xc : Int64) (xd : Int64) (v44 : Int32) (hv44 : v44 = (if (xa + xc) < (0 : Int64) then (1 : Int32) else (0 : Int32))) (v47 : Int32) (hv47 : v47 = (if v44 = (0 : Int32) then (if ((xa + xc) + xd) < (0 : Int64) then (1 : Int32) else (0 : Int32)) else (1 : Int32))) (v50 : Int64) (hv50 : v50 = (if v44 = (0 : Int32) then (xa + xc) else (-1 : Int64))) (v53 : Int64) (hv53 : v53 = (if v47 = (0 : Int32) then ((xa + xc) + xd) else (-1 : Int64))) (v56 : Int32) (hv56 : v56 = (if (xa + xc) = v50 then (if (-1 : Int64) = v53 then (1 : Int32) else (0 : Int32)) else (0 : Int32))) (nn_xa : ¬ xa < (0 : Int64)) (nn_xc : ¬ xc < (0 : Int64)) (nn_xd : ¬ xd < (0 : Int64)) (hc12 : ¬ (((9223372036854775807 : Int64) - xc) < xa)) (hc17 : ((9223372036854775807 : Int64) - xd) < (xa + xc)) : v56 = 1 := by
  simp only [own_over xa xc nn_xa nn_xc] at *
  try simp only [own_over (xa + xc) xd ‹_› nn_xd] at *
  simp_all
set_option maxRecDepth 65536 in
set_option maxHeartbeats 40000000 in
theorem own_law3 (xa : Int64) (xc : Int64) (xd : Int64) (v71 : Int32) (hv71 : v71 = (if (xa + xc) < (0 : Int64) then (1 : Int32) else (0 : Int32))) (v74 : Int32) (hv74 : v74 = (if v71 = (0 : Int32) then (if ((xa + xc) + xd) < (0 : Int64) then (1 : Int32) else (0 : Int32)) else (1 : Int32))) (v77 : Int64) (hv77 : v77 = (if v71 = (0 : Int32) then (xa + xc) else (-1 : Int64))) (v80 : Int64) (hv80 : v80 = (if v74 = (0 : Int32) then ((xa + xc) + xd) else (-1 : Int64))) (v83 : Int32) (hv83 : v83 = (if (-1 : Int64) = v77 then (if (-1 : Int64) = v80 then (1 : Int32) else (0 : Int32)) else (0 : Int32))) (nn_xa : ¬ xa < (0 : Int64)) (nn_xc : ¬ xc < (0 : Int64)) (nn_xd : ¬ xd < (0 : Int64)) (hc12 : ((9223372036854775807 : Int64) - xc) < xa) : v83 = 1 := by
  simp only [own_over xa xc nn_xa nn_xc] at *
  try simp only [own_over (xa + xc) xd ‹_› nn_xd] at *
  simp_all
set_option maxRecDepth 65536 in
set_option maxHeartbeats 40000000 in
theorem rm0 (l : Launch) (Z : State) (a0 : Array Value) (hw : ∀ d ∈ tables_1, d.before a0 Z = true) (ws : List Jvm.Cond) (x0 : Int64) (x1 : Int64) (x2 : Int64) (rz : Addr) (rp : Addr) (kp : ClassId) (vp : List Value) (h0 : Heap) (n0 : Nat) (Z0 : n0 ≤ h0.size) (SZ : Sta Z Z.heap "java/math/BigInteger" "ZERO" "Ljava/math/BigInteger;" (.ref rz)) (BZ : own_BI 2 Z Z.heap rz) (SP : Sta Z Z.heap "java/math/BigInteger" "posConst" "[Ljava/math/BigInteger;" (.ref rp)) (AP : Ary Z Z.heap rp kp (.object "java/math/BigInteger") vp) (HP : vp.length = 17 ∧ ∀ j : Nat, 1 ≤ j → j ≤ 16 → ∃ r, vp[j]? = some (.ref r) ∧ own_BI 2 Z Z.heap r) (O0 : Old Z n0 h0) :
    Con l Z x code maxLocals ret ws room_1 #[(.long x0), (.long x1), (.long x2)] h0 (room_1.cells) (room_1.slots) (Q_rm0 Z x0 x1 x2 rz rp kp vp h0 n0) := by
  refine Con.of (plainFor_of_name pn3) ?_
  intro p e s m below meth c s₁ hx hby hml hown hnm hret hlk hZ X0 e0
  have N0 := Fr.nil n0
  refine goE (L := #[.val (.long x0), .second, .val (.long x1), .second, .val (.long x2), .second, .unset, .unset, .unset, .unset, .unset, .unset, .unset, .unset, .unset, .unset, .unset, .unset, .unset, .unset, .unset, .unset, .unset, .unset, .unset, .unset, .unset, .unset, .unset, .unset, .unset]) (ef22 m x0 x1 x2) ?_
  refine gLdc2 X0 hx hZ hown (hw _ (List.mem_of_getElem? (i := 0) rfl)) (hb hby at_0) (q := 3) rfl ?_
  refine gLstore X0 hx (hb hby at_3) (q := 5) rfl (L' := #[.val (.long x0), .second, .val (.long x1), .second, .val (.long x2), .second, .val (.long (9223372036854775807 : Int64)), .second, .unset, .unset, .unset, .unset, .unset, .unset, .unset, .unset, .unset, .unset, .unset, .unset, .unset, .unset, .unset, .unset, .unset, .unset, .unset, .unset, .unset, .unset, .unset]) rfl ?_
  refine gLloadN X0 hx (hb hby at_5) (q := 6) rfl rfl ?_
  refine gLload X0 hx (hb hby at_6) (q := 8) rfl rfl ?_
  refine gLand X0 hx (hb hby at_8) (q := 9) rfl ?_
  refine gLstore X0 hx (hb hby at_9) (q := 11) rfl (L' := #[.val (.long x0), .second, .val (.long x1), .second, .val (.long x2), .second, .val (.long (9223372036854775807 : Int64)), .second, .val (.long (x0 &&& (9223372036854775807 : Int64))), .second, .unset, .unset, .unset, .unset, .unset, .unset, .unset, .unset, .unset, .unset, .unset, .unset, .unset, .unset, .unset, .unset, .unset, .unset, .unset, .unset, .unset]) rfl ?_
  refine gLloadN X0 hx (hb hby at_11) (q := 12) rfl rfl ?_
  refine gLload X0 hx (hb hby at_12) (q := 14) rfl rfl ?_
  refine gLand X0 hx (hb hby at_14) (q := 15) rfl ?_
  refine gLstore X0 hx (hb hby at_15) (q := 17) rfl (L' := #[.val (.long x0), .second, .val (.long x1), .second, .val (.long x2), .second, .val (.long (9223372036854775807 : Int64)), .second, .val (.long (x0 &&& (9223372036854775807 : Int64))), .second, .val (.long (x1 &&& (9223372036854775807 : Int64))), .second, .unset, .unset, .unset, .unset, .unset, .unset, .unset, .unset, .unset, .unset, .unset, .unset, .unset, .unset, .unset, .unset, .unset, .unset, .unset]) rfl ?_
  refine gLload X0 hx (hb hby at_17) (q := 19) rfl rfl ?_
  refine gLload X0 hx (hb hby at_19) (q := 21) rfl rfl ?_
  refine gLand X0 hx (hb hby at_21) (q := 22) rfl ?_
  refine gLstore X0 hx (hb hby at_22) (q := 24) rfl (L' := #[.val (.long x0), .second, .val (.long x1), .second, .val (.long x2), .second, .val (.long (9223372036854775807 : Int64)), .second, .val (.long (x0 &&& (9223372036854775807 : Int64))), .second, .val (.long (x1 &&& (9223372036854775807 : Int64))), .second, .val (.long (x2 &&& (9223372036854775807 : Int64))), .second, .unset, .unset, .unset, .unset, .unset, .unset, .unset, .unset, .unset, .unset, .unset, .unset, .unset, .unset, .unset, .unset, .unset]) rfl ?_
  have nn_xa : ¬ (x0 &&& (9223372036854775807 : Int64)) < (0 : Int64) := own_nn _
  generalize (x0 &&& (9223372036854775807 : Int64)) = xa at nn_xa ⊢
  have nn_xc : ¬ (x1 &&& (9223372036854775807 : Int64)) < (0 : Int64) := own_nn _
  generalize (x1 &&& (9223372036854775807 : Int64)) = xc at nn_xc ⊢
  have nn_xd : ¬ (x2 &&& (9223372036854775807 : Int64)) < (0 : Int64) := own_nn _
  generalize (x2 &&& (9223372036854775807 : Int64)) = xd at nn_xd ⊢
  refine gNewO X0 hx hZ hown (hw _ (List.mem_of_getElem? (i := 1) rfl)) (hw _ (List.mem_of_getElem? (i := 2) rfl)) (hw _ (List.mem_of_getElem? (i := 3) rfl)) e0 (hb hby at_24) (q := 27) rfl (by decide) (by decide) (fun T1 h1 a1 X1 e1 g1 E1 A1 D1 => ?_)
  have O2 := O0.ext E1
  have le_a1 : n0 ≤ a1 := by rw [g1]; exact Z0
  have Z3 := Nat.le_trans Z0 E1.1
  have F4 : Fld Z h1 a1 "com/example/gangway/gangway/Extent" "bytes" "J" (.long (0 : Int64)) := D1 (Or.inl (hw _ (List.mem_of_getElem? (i := 11) rfl))) (ty := .long) (by decide)
  have F5 : Fld Z h1 a1 "com/example/gangway/gangway/Extent" "large" "Ljava/math/BigInteger;" (.null) := D1 (Or.inl (hw _ (List.mem_of_getElem? (i := 18) rfl))) (ty := .object "java/math/BigInteger") (by decide)
  clear D1
  refine gDup X1 hx (hb hby at_27) (q := 28) rfl rfl ?_
  refine gLload X1 hx (hb hby at_28) (q := 30) rfl rfl ?_
  refine gCallN X1 hx hZ rfl hown (hw _ (List.mem_of_getElem? (i := 4) rfl)) (hw _ (List.mem_of_getElem? (i := 5) rfl)) (hw _ (List.mem_of_getElem? (i := 3) rfl)) (hw _ (List.mem_of_getElem? (i := 6) rfl)) (by decide) (rmXI l Z a0 hw [] a1 xa h1 n0 Z3 F4 F5 A1 le_a1) (W := 1) (by decide) (by decide) e1 (by rw [hml]; rfl) [(.long xa)] (lenOf pd1 rfl) rfl (S := [(.ref a1)]) rfl (Nat.le_of_eq rfl) (hb hby at_30) (q := 33) rfl (by decide) (by decide) (fun r6 T6 M6 X6 q6 => ?_)
  obtain ⟨rfl, M6n, K6, P6e, P6b, P6l⟩ := q6
  have N7 := Fr.app N0 M6n
  have O8 := O2.keep K6 (allS le_a1 all0)
  have Z9 := Nat.le_trans Z3 K6.1
  dsimp only [Option.toList, List.cons_append, List.nil_append]
  refine gAstore X6 hx (hb hby at_33) (q := 35) rfl rfl (L' := #[.val (.long x0), .second, .val (.long x1), .second, .val (.long x2), .second, .val (.long (9223372036854775807 : Int64)), .second, .val (.long xa), .second, .val (.long xc), .second, .val (.long xd), .second, .val (.ref a1), .unset, .unset, .unset, .unset, .unset, .unset, .unset, .unset, .unset, .unset, .unset, .unset, .unset, .unset, .unset, .unset]) rfl ?_
  refine gAload X6 hx (hb hby at_35) (q := 37) rfl rfl rfl ?_
  refine gCallV X6 hx hZ hown (hw _ (List.mem_of_getElem? (i := 12) rfl)) (hw _ (List.mem_of_getElem? (i := 13) rfl)) (hw _ (List.mem_of_getElem? (i := 15) rfl)) (hw _ (List.mem_of_getElem? (i := 14) rfl)) (hw _ (List.mem_of_getElem? (i := 3) rfl)) (hw _ (List.mem_of_getElem? (i := 16) rfl)) (notFace_of_selects (args := #[]) (mvT hZ (hw _ (List.mem_of_getElem? (i := 15) rfl)))) (by decide) (rmXVN l Z a0 hw [] a1 xa T6.heap n0 Z9 P6b P6l P6e) (W := 0) (by decide) (by decide) rfl (by rw [hml]; rfl) P6e [] (lenOf pd7 rfl) rfl (S := []) rfl (Nat.le_of_eq rfl) (hb hby at_37) (q := 40) rfl (by decide) (by decide) (fun r10 T10 M10 X10 q10 => ?_)
  obtain ⟨rfl, M10n, e10⟩ := q10
  have N11 := Fr.app N7 M10n
  dsimp only [Option.toList, List.cons_append, List.nil_append]
  refine gLstore X10 hx (hb hby at_40) (q := 42) rfl (L' := #[.val (.long x0), .second, .val (.long x1), .second, .val (.long x2), .second, .val (.long (9223372036854775807 : Int64)), .second, .val (.long xa), .second, .val (.long xc), .second, .val (.long xd), .second, .val (.ref a1), .val (.long xa), .second, .unset, .unset, .unset, .unset, .unset, .unset, .unset, .unset, .unset, .unset, .unset, .unset, .unset, .unset]) rfl ?_
  refine gAload X10 hx (hb hby at_42) (q := 44) rfl rfl rfl ?_
  refine gLload X10 hx (hb hby at_44) (q := 46) rfl rfl ?_
  refine gCallV X10 hx hZ hown (hw _ (List.mem_of_getElem? (i := 19) rfl)) (hw _ (List.mem_of_getElem? (i := 20) rfl)) (hw _ (List.mem_of_getElem? (i := 22) rfl)) (hw _ (List.mem_of_getElem? (i := 21) rfl)) (hw _ (List.mem_of_getElem? (i := 3) rfl)) (hw _ (List.mem_of_getElem? (i := 23) rfl)) (notFace_of_selects (args := #[]) (mvT hZ (hw _ (List.mem_of_getElem? (i := 22) rfl)))) (by decide) (rmXAN l Z a0 hw [] a1 xa xc rz rp kp vp T6.heap n0 Z9 P6b P6l P6e le_a1 SZ BZ SP AP HP O8 nn_xc nn_xa) (W := 0) (by decide) (by decide) e10 (by rw [hml]; rfl) P6e [(.long xc)] (lenOf pd1 rfl) rfl (S := []) rfl (Nat.le_of_eq rfl) (hb hby at_46) (q := 49) rfl (by decide) (by decide) (fun r12 T12 M12 X12 q12 => ?_)
  dsimp only [Option.toList, List.cons_append, List.nil_append]
  obtain ⟨rfl, M12n, K12, P12e, ⟨hc12, P12b, P12l⟩ | ⟨hc12, P12b, rl, P12l, P12i⟩⟩ := q12
  · have MM12 := Fr.app N11 M12n
    have O13 := O8.keep K12 (allS le_a1 all0)
    have Z14 := Nat.le_trans Z9 K12.1
    have nnS : ¬ (xa + xc) < (0 : Int64) := fun z => hc12 ((own_over xa xc nn_xa nn_xc).mpr z)
    refine gAload X12 hx (hb hby at_49) (q := 51) rfl rfl rfl ?_
    refine gCallV X12 hx hZ hown (hw _ (List.mem_of_getElem? (i := 12) rfl)) (hw _ (List.mem_of_getElem? (i := 13) rfl)) (hw _ (List.mem_of_getElem? (i := 15) rfl)) (hw _ (List.mem_of_getElem? (i := 14) rfl)) (hw _ (List.mem_of_getElem? (i := 3) rfl)) (hw _ (List.mem_of_getElem? (i := 16) rfl)) (notFace_of_selects (args := #[]) (mvT hZ (hw _ (List.mem_of_getElem? (i := 15) rfl)))) (by decide) (rmXVN l Z a0 hw [] a1 (xa + xc) T12.heap n0 Z14 P12b P12l P12e) (W := 0) (by decide) (by decide) rfl (by rw [hml]; rfl) P12e [] (lenOf pd7 rfl) rfl (S := []) rfl (Nat.le_of_eq rfl) (hb hby at_51) (q := 54) rfl (by decide) (by decide) (fun r15 T15 M15 X15 q15 => ?_)
    obtain ⟨rfl, M15n, e15⟩ := q15
    have N16 := Fr.app MM12 M15n
    dsimp only [Option.toList, List.cons_append, List.nil_append]
    refine gLstore X15 hx (hb hby at_54) (q := 56) rfl (L' := #[.val (.long x0), .second, .val (.long x1), .second, .val (.long x2), .second, .val (.long (9223372036854775807 : Int64)), .second, .val (.long xa), .second, .val (.long xc), .second, .val (.long xd), .second, .val (.ref a1), .val (.long xa), .second, .val (.long (xa + xc)), .second, .unset, .unset, .unset, .unset, .unset, .unset, .unset, .unset, .unset, .unset, .unset, .unset]) rfl ?_
    refine gAload X15 hx (hb hby at_56) (q := 58) rfl rfl rfl ?_
    refine gLload X15 hx (hb hby at_58) (q := 60) rfl rfl ?_
    refine gCallV X15 hx hZ hown (hw _ (List.mem_of_getElem? (i := 19) rfl)) (hw _ (List.mem_of_getElem? (i := 20) rfl)) (hw _ (List.mem_of_getElem? (i := 22) rfl)) (hw _ (List.mem_of_getElem? (i := 21) rfl)) (hw _ (List.mem_of_getElem? (i := 3) rfl)) (hw _ (List.mem_of_getElem? (i := 23) rfl)) (notFace_of_selects (args := #[]) (mvT hZ (hw _ (List.mem_of_getElem? (i := 22) rfl)))) (by decide) (rmXAN l Z a0 hw [] a1 (xa + xc) xd rz rp kp vp T12.heap n0 Z14 P12b P12l P12e le_a1 SZ BZ SP AP HP O13 nn_xd nnS) (W := 0) (by decide) (by decide) e15 (by rw [hml]; rfl) P12e [(.long xd)] (lenOf pd1 rfl) rfl (S := []) rfl (Nat.le_of_eq rfl) (hb hby at_60) (q := 63) rfl (by decide) (by decide) (fun r17 T17 M17 X17 q17 => ?_)
    dsimp only [Option.toList, List.cons_append, List.nil_append]
    obtain ⟨rfl, M17n, K17, P17e, ⟨hc17, P17b, P17l⟩ | ⟨hc17, P17b, rl, P17l, P17i⟩⟩ := q17
    · have MM17 := Fr.app N16 M17n
      have O18 := O13.keep K17 (allS le_a1 all0)
      have Z19 := Nat.le_trans Z14 K17.1
      refine gAload X17 hx (hb hby at_63) (q := 65) rfl rfl rfl ?_
      refine gCallV X17 hx hZ hown (hw _ (List.mem_of_getElem? (i := 12) rfl)) (hw _ (List.mem_of_getElem? (i := 13) rfl)) (hw _ (List.mem_of_getElem? (i := 15) rfl)) (hw _ (List.mem_of_getElem? (i := 14) rfl)) (hw _ (List.mem_of_getElem? (i := 3) rfl)) (hw _ (List.mem_of_getElem? (i := 16) rfl)) (notFace_of_selects (args := #[]) (mvT hZ (hw _ (List.mem_of_getElem? (i := 15) rfl)))) (by decide) (rmXVN l Z a0 hw [] a1 ((xa + xc) + xd) T17.heap n0 Z19 P17b P17l P17e) (W := 0) (by decide) (by decide) rfl (by rw [hml]; rfl) P17e [] (lenOf pd7 rfl) rfl (S := []) rfl (Nat.le_of_eq rfl) (hb hby at_65) (q := 68) rfl (by decide) (by decide) (fun r20 T20 M20 X20 q20 => ?_)
      obtain ⟨rfl, M20n, e20⟩ := q20
      have N21 := Fr.app MM17 M20n
      dsimp only [Option.toList, List.cons_append, List.nil_append]
      refine gLstore X20 hx (hb hby at_68) (q := 70) rfl (L' := #[.val (.long x0), .second, .val (.long x1), .second, .val (.long x2), .second, .val (.long (9223372036854775807 : Int64)), .second, .val (.long xa), .second, .val (.long xc), .second, .val (.long xd), .second, .val (.ref a1), .val (.long xa), .second, .val (.long (xa + xc)), .second, .val (.long ((xa + xc) + xd)), .second, .unset, .unset, .unset, .unset, .unset, .unset, .unset, .unset, .unset, .unset]) rfl ?_
      refine gLload X20 hx (hb hby at_70) (q := 72) rfl rfl ?_
      refine gLload X20 hx (hb hby at_72) (q := 74) rfl rfl ?_
      refine gLadd X20 hx (hb hby at_74) (q := 75) rfl ?_
      refine gLstore X20 hx (hb hby at_75) (q := 77) rfl (L' := #[.val (.long x0), .second, .val (.long x1), .second, .val (.long x2), .second, .val (.long (9223372036854775807 : Int64)), .second, .val (.long xa), .second, .val (.long xc), .second, .val (.long xd), .second, .val (.ref a1), .val (.long xa), .second, .val (.long (xa + xc)), .second, .val (.long ((xa + xc) + xd)), .second, .val (.long (xa + xc)), .second, .unset, .unset, .unset, .unset, .unset, .unset, .unset, .unset]) rfl ?_
      refine gLload X20 hx (hb hby at_77) (q := 79) rfl rfl ?_
      refine gLconst X20 hx (0 : Int64) (hb hby at_79) (q := 80) rfl (by decide) ?_
      refine gLcmp X20 hx (hb hby at_80) (q := 81) rfl ?_
      have J81_24 : ∀ v23 : Int32, v23 = (if (xa + xc) < (0 : Int64) then (1 : Int32) else (0 : Int32)) → Go p.tables e below (Done s (Q_rm0 Z x0 x1 x2 rz rp kp vp h0 n0) (room_1.cells) (room_1.slots)) (T20.setTop (mkF m 89 #[.val (.long x0), .second, .val (.long x1), .second, .val (.long x2), .second, .val (.long (9223372036854775807 : Int64)), .second, .val (.long xa), .second, .val (.long xc), .second, .val (.long xd), .second, .val (.ref a1), .val (.long xa), .second, .val (.long (xa + xc)), .second, .val (.long ((xa + xc) + xd)), .second, .val (.long (xa + xc)), .second, .unset, .unset, .unset, .unset, .unset, .unset, .unset, .unset] [(.int v23)])) := by
        intro v23 hv23
        refine gIstore X20 hx (hb hby at_89) (q := 91) rfl (L' := #[.val (.long x0), .second, .val (.long x1), .second, .val (.long x2), .second, .val (.long (9223372036854775807 : Int64)), .second, .val (.long xa), .second, .val (.long xc), .second, .val (.long xd), .second, .val (.ref a1), .val (.long xa), .second, .val (.long (xa + xc)), .second, .val (.long ((xa + xc) + xd)), .second, .val (.long (xa + xc)), .second, .val (.int v23), .unset, .unset, .unset, .unset, .unset, .unset, .unset]) rfl ?_
        refine gLload X20 hx (hb hby at_91) (q := 93) rfl rfl ?_
        refine gLload X20 hx (hb hby at_93) (q := 95) rfl rfl ?_
        refine gLadd X20 hx (hb hby at_95) (q := 96) rfl ?_
        refine gLstore X20 hx (hb hby at_96) (q := 98) rfl (L' := #[.val (.long x0), .second, .val (.long x1), .second, .val (.long x2), .second, .val (.long (9223372036854775807 : Int64)), .second, .val (.long xa), .second, .val (.long xc), .second, .val (.long xd), .second, .val (.ref a1), .val (.long xa), .second, .val (.long (xa + xc)), .second, .val (.long ((xa + xc) + xd)), .second, .val (.long (xa + xc)), .second, .val (.int v23), .val (.long ((xa + xc) + xd)), .second, .unset, .unset, .unset, .unset, .unset]) rfl ?_
        refine gIload X20 hx (hb hby at_98) (q := 100) rfl rfl ?_
        have J100_27 : ∀ v26 : Int32, v26 = (if v23 = (0 : Int32) then (if ((xa + xc) + xd) < (0 : Int64) then (1 : Int32) else (0 : Int32)) else (1 : Int32)) → Go p.tables e below (Done s (Q_rm0 Z x0 x1 x2 rz rp kp vp h0 n0) (room_1.cells) (room_1.slots)) (T20.setTop (mkF m 115 #[.val (.long x0), .second, .val (.long x1), .second, .val (.long x2), .second, .val (.long (9223372036854775807 : Int64)), .second, .val (.long xa), .second, .val (.long xc), .second, .val (.long xd), .second, .val (.ref a1), .val (.long xa), .second, .val (.long (xa + xc)), .second, .val (.long ((xa + xc) + xd)), .second, .val (.long (xa + xc)), .second, .val (.int v23), .val (.long ((xa + xc) + xd)), .second, .unset, .unset, .unset, .unset, .unset] [(.int v26)])) := by
          intro v26 hv26
          refine gIstore X20 hx (hb hby at_115) (q := 117) rfl (L' := #[.val (.long x0), .second, .val (.long x1), .second, .val (.long x2), .second, .val (.long (9223372036854775807 : Int64)), .second, .val (.long xa), .second, .val (.long xc), .second, .val (.long xd), .second, .val (.ref a1), .val (.long xa), .second, .val (.long (xa + xc)), .second, .val (.long ((xa + xc) + xd)), .second, .val (.long (xa + xc)), .second, .val (.int v23), .val (.long ((xa + xc) + xd)), .second, .val (.int v26), .unset, .unset, .unset, .unset]) rfl ?_
          refine gIload X20 hx (hb hby at_117) (q := 119) rfl rfl ?_
          have J119_30 : ∀ v29 : Int64, v29 = (if v23 = (0 : Int32) then (xa + xc) else (-1 : Int64)) → Go p.tables e below (Done s (Q_rm0 Z x0 x1 x2 rz rp kp vp h0 n0) (room_1.cells) (room_1.slots)) (T20.setTop (mkF m 130 #[.val (.long x0), .second, .val (.long x1), .second, .val (.long x2), .second, .val (.long (9223372036854775807 : Int64)), .second, .val (.long xa), .second, .val (.long xc), .second, .val (.long xd), .second, .val (.ref a1), .val (.long xa), .second, .val (.long (xa + xc)), .second, .val (.long ((xa + xc) + xd)), .second, .val (.long (xa + xc)), .second, .val (.int v23), .val (.long ((xa + xc) + xd)), .second, .val (.int v26), .unset, .unset, .unset, .unset] [(.long v29)])) := by
            intro v29 hv29
            refine gLstore X20 hx (hb hby at_130) (q := 132) rfl (L' := #[.val (.long x0), .second, .val (.long x1), .second, .val (.long x2), .second, .val (.long (9223372036854775807 : Int64)), .second, .val (.long xa), .second, .val (.long xc), .second, .val (.long xd), .second, .val (.ref a1), .val (.long xa), .second, .val (.long (xa + xc)), .second, .val (.long ((xa + xc) + xd)), .second, .val (.long (xa + xc)), .second, .val (.int v23), .val (.long ((xa + xc) + xd)), .second, .val (.int v26), .val (.long v29), .second, .unset, .unset]) rfl ?_
            refine gIload X20 hx (hb hby at_132) (q := 134) rfl rfl ?_
            have J134_33 : ∀ v32 : Int64, v32 = (if v26 = (0 : Int32) then ((xa + xc) + xd) else (-1 : Int64)) → Go p.tables e below (Done s (Q_rm0 Z x0 x1 x2 rz rp kp vp h0 n0) (room_1.cells) (room_1.slots)) (T20.setTop (mkF m 145 #[.val (.long x0), .second, .val (.long x1), .second, .val (.long x2), .second, .val (.long (9223372036854775807 : Int64)), .second, .val (.long xa), .second, .val (.long xc), .second, .val (.long xd), .second, .val (.ref a1), .val (.long xa), .second, .val (.long (xa + xc)), .second, .val (.long ((xa + xc) + xd)), .second, .val (.long (xa + xc)), .second, .val (.int v23), .val (.long ((xa + xc) + xd)), .second, .val (.int v26), .val (.long v29), .second, .unset, .unset] [(.long v32)])) := by
              intro v32 hv32
              refine gLstore X20 hx (hb hby at_145) (q := 147) rfl (L' := #[.val (.long x0), .second, .val (.long x1), .second, .val (.long x2), .second, .val (.long (9223372036854775807 : Int64)), .second, .val (.long xa), .second, .val (.long xc), .second, .val (.long xd), .second, .val (.ref a1), .val (.long xa), .second, .val (.long (xa + xc)), .second, .val (.long ((xa + xc) + xd)), .second, .val (.long (xa + xc)), .second, .val (.int v23), .val (.long ((xa + xc) + xd)), .second, .val (.int v26), .val (.long v29), .second, .val (.long v32), .second]) rfl ?_
              refine gLload X20 hx (hb hby at_147) (q := 149) rfl rfl ?_
              refine gLload X20 hx (hb hby at_149) (q := 151) rfl rfl ?_
              refine gLcmp X20 hx (hb hby at_151) (q := 152) rfl ?_
              refine gIfN X20 hx (hb hby at_152) (q := 155) rfl (XT.ll_ne_f rfl) ?_
              refine gLload X20 hx (hb hby at_155) (q := 157) rfl rfl ?_
              refine gLload X20 hx (hb hby at_157) (q := 159) rfl rfl ?_
              refine gLcmp X20 hx (hb hby at_159) (q := 160) rfl ?_
              have J160_36 : ∀ v35 : Int32, v35 = (if (xa + xc) = v29 then (if ((xa + xc) + xd) = v32 then (1 : Int32) else (0 : Int32)) else (0 : Int32)) → Go p.tables e below (Done s (Q_rm0 Z x0 x1 x2 rz rp kp vp h0 n0) (room_1.cells) (room_1.slots)) (T20.setTop (mkF m 176 #[.val (.long x0), .second, .val (.long x1), .second, .val (.long x2), .second, .val (.long (9223372036854775807 : Int64)), .second, .val (.long xa), .second, .val (.long xc), .second, .val (.long xd), .second, .val (.ref a1), .val (.long xa), .second, .val (.long (xa + xc)), .second, .val (.long ((xa + xc) + xd)), .second, .val (.long (xa + xc)), .second, .val (.int v23), .val (.long ((xa + xc) + xd)), .second, .val (.int v26), .val (.long v29), .second, .val (.long v32), .second] [(.int v35)])) := by
                intro v35 hv35
                have hone : v35 = 1 := own_law xa xc xd v23 hv23 v26 hv26 v29 hv29 v32 hv32 v35 hv35 nn_xa nn_xc nn_xd hc12 hc17
                exact gRetZ X20 hx hlk hret (hb hby at_176) (by decide) (by decide) (Or.inr hone) ⟨by rw [hone], N21⟩
              by_cases c34 : (xa + xc) = v29
              · refine gIfN X20 hx (hb hby at_160) (q := 163) rfl (XT.ll_ne_f c34) ?_
                refine gLload X20 hx (hb hby at_163) (q := 165) rfl rfl ?_
                refine gLload X20 hx (hb hby at_165) (q := 167) rfl rfl ?_
                refine gLcmp X20 hx (hb hby at_167) (q := 168) rfl ?_
                by_cases c37 : ((xa + xc) + xd) = v32
                · refine gIfN X20 hx (hb hby at_168) (q := 171) rfl (XT.ll_ne_f c37) ?_
                  refine gIconst X20 hx (1 : Int32) (hb hby at_171) (q := 172) rfl (by decide) ?_
                  refine gGoto X20 hx (hb hby at_172) (q := 176) (by decide) (by decide) ?_
                  exact J160_36 _ (by first | rfl | (rw [if_pos c34, if_pos c37]; done) | (simp only [if_neg hc12, if_neg hc17, if_pos c34, if_pos c37]; done) | (simp only [if_neg hc12, if_neg hc17, if_pos c34, if_pos c37]; done) | (simp only [if_neg hc12, if_neg hc17, if_pos c34, if_pos c37, if_true, if_false]; done) | (exfalso; simp at c37; done))
                · refine gIfY X20 hx (hb hby at_168) (q := 175) (by decide) (by decide) (XT.ll_ne_t c37) ?_
                  refine gIconst X20 hx (0 : Int32) (hb hby at_175) (q := 176) rfl (by decide) ?_
                  exact J160_36 _ (by first | rfl | (rw [if_pos c34, if_neg c37]; done) | (simp only [if_neg hc12, if_neg hc17, if_pos c34, if_neg c37]; done) | (simp only [if_neg hc12, if_neg hc17, if_pos c34, if_neg c37]; done) | (simp only [if_neg hc12, if_neg hc17, if_pos c34, if_neg c37, if_true, if_false]; done) | (exfalso; simp at c37; done))
              · refine gIfY X20 hx (hb hby at_160) (q := 175) (by decide) (by decide) (XT.ll_ne_t c34) ?_
                refine gIconst X20 hx (0 : Int32) (hb hby at_175) (q := 176) rfl (by decide) ?_
                exact J160_36 _ (by first | rfl | (rw [if_neg c34]; done) | (simp only [if_neg hc12, if_neg hc17, if_neg c34]; done) | (simp only [if_neg hc12, if_neg hc17, if_neg c34]; done) | (simp only [if_neg hc12, if_neg hc17, if_neg c34, if_true, if_false]; done) | (exfalso; simp at c34; done))
            by_cases c31 : v26 = (0 : Int32)
            · refine gIfY X20 hx (hb hby at_134) (q := 143) (by decide) (by decide) (XT.i0_eq_t c31) ?_
              refine gLload X20 hx (hb hby at_143) (q := 145) rfl rfl ?_
              exact J134_33 _ (by first | rfl | (rw [if_pos c31]; done) | (simp only [if_neg hc12, if_neg hc17, if_pos c31]; done) | (simp only [if_neg hc12, if_neg hc17, if_pos c31]; done) | (simp only [if_neg hc12, if_neg hc17, if_pos c31, if_true, if_false]; done) | (exfalso; simp at c31; done))
            · refine gIfN X20 hx (hb hby at_134) (q := 137) rfl (XT.i0_eq_f c31) ?_
              refine gLdc2 X20 hx hZ hown (hw _ (List.mem_of_getElem? (i := 71) rfl)) (hb hby at_137) (q := 140) rfl ?_
              refine gGoto X20 hx (hb hby at_140) (q := 145) (by decide) (by decide) ?_
              exact J134_33 _ (by first | rfl | (rw [if_neg c31]; done) | (simp only [if_neg hc12, if_neg hc17, if_neg c31]; done) | (simp only [if_neg hc12, if_neg hc17, if_neg c31]; done) | (simp only [if_neg hc12, if_neg hc17, if_neg c31, if_true, if_false]; done) | (exfalso; simp at c31; done))
          by_cases c28 : v23 = (0 : Int32)
          · refine gIfY X20 hx (hb hby at_119) (q := 128) (by decide) (by decide) (XT.i0_eq_t c28) ?_
            refine gLload X20 hx (hb hby at_128) (q := 130) rfl rfl ?_
            exact J119_30 _ (by first | rfl | (rw [if_pos c28]; done) | (simp only [if_neg hc12, if_neg hc17, if_pos c28]; done) | (simp only [if_neg hc12, if_neg hc17, if_pos c28]; done) | (simp only [if_neg hc12, if_neg hc17, if_pos c28, if_true, if_false]; done) | (exfalso; simp at c28; done))
          · refine gIfN X20 hx (hb hby at_119) (q := 122) rfl (XT.i0_eq_f c28) ?_
            refine gLdc2 X20 hx hZ hown (hw _ (List.mem_of_getElem? (i := 71) rfl)) (hb hby at_122) (q := 125) rfl ?_
            refine gGoto X20 hx (hb hby at_125) (q := 130) (by decide) (by decide) ?_
            exact J119_30 _ (by first | rfl | (rw [if_neg c28]; done) | (simp only [if_neg hc12, if_neg hc17, if_neg c28]; done) | (simp only [if_neg hc12, if_neg hc17, if_neg c28]; done) | (simp only [if_neg hc12, if_neg hc17, if_neg c28, if_true, if_false]; done) | (exfalso; simp at c28; done))
        by_cases c25 : v23 = (0 : Int32)
        · refine gIfN X20 hx (hb hby at_100) (q := 103) rfl (XT.i0_ne_f c25) ?_
          refine gLload X20 hx (hb hby at_103) (q := 105) rfl rfl ?_
          refine gLconst X20 hx (0 : Int64) (hb hby at_105) (q := 106) rfl (by decide) ?_
          refine gLcmp X20 hx (hb hby at_106) (q := 107) rfl ?_
          by_cases c38 : ((xa + xc) + xd) < (0 : Int64)
          · refine gIfN X20 hx (hb hby at_107) (q := 110) rfl (XT.ll_ge_f c38) ?_
            refine gIconst X20 hx (1 : Int32) (hb hby at_110) (q := 111) rfl (by decide) ?_
            refine gGoto X20 hx (hb hby at_111) (q := 115) (by decide) (by decide) ?_
            exact J100_27 _ (by first | rfl | (rw [if_pos c25, if_pos c38]; done) | (simp only [if_neg hc12, if_neg hc17, if_pos c25, if_pos c38]; done) | (simp only [if_neg hc12, if_neg hc17, if_pos c25, if_pos c38]; done) | (simp only [if_neg hc12, if_neg hc17, if_pos c25, if_pos c38, if_true, if_false]; done) | (exfalso; simp at c38; done))
          · refine gIfY X20 hx (hb hby at_107) (q := 114) (by decide) (by decide) (XT.ll_ge_t c38) ?_
            refine gIconst X20 hx (0 : Int32) (hb hby at_114) (q := 115) rfl (by decide) ?_
            exact J100_27 _ (by first | rfl | (rw [if_pos c25, if_neg c38]; done) | (simp only [if_neg hc12, if_neg hc17, if_pos c25, if_neg c38]; done) | (simp only [if_neg hc12, if_neg hc17, if_pos c25, if_neg c38]; done) | (simp only [if_neg hc12, if_neg hc17, if_pos c25, if_neg c38, if_true, if_false]; done) | (exfalso; simp at c38; done))
        · refine gIfY X20 hx (hb hby at_100) (q := 110) (by decide) (by decide) (XT.i0_ne_t c25) ?_
          refine gIconst X20 hx (1 : Int32) (hb hby at_110) (q := 111) rfl (by decide) ?_
          refine gGoto X20 hx (hb hby at_111) (q := 115) (by decide) (by decide) ?_
          exact J100_27 _ (by first | rfl | (rw [if_neg c25]; done) | (simp only [if_neg hc12, if_neg hc17, if_neg c25]; done) | (simp only [if_neg hc12, if_neg hc17, if_neg c25]; done) | (simp only [if_neg hc12, if_neg hc17, if_neg c25, if_true, if_false]; done) | (exfalso; simp at c25; done))
      by_cases c22 : (xa + xc) < (0 : Int64)
      · refine gIfN X20 hx (hb hby at_81) (q := 84) rfl (XT.ll_ge_f c22) ?_
        refine gIconst X20 hx (1 : Int32) (hb hby at_84) (q := 85) rfl (by decide) ?_
        refine gGoto X20 hx (hb hby at_85) (q := 89) (by decide) (by decide) ?_
        exact J81_24 _ (by first | rfl | (rw [if_pos c22]; done) | (simp only [if_neg hc12, if_neg hc17, if_pos c22]; done) | (simp only [if_neg hc12, if_neg hc17, if_pos c22]; done) | (simp only [if_neg hc12, if_neg hc17, if_pos c22, if_true, if_false]; done) | (exfalso; simp at c22; done))
      · refine gIfY X20 hx (hb hby at_81) (q := 88) (by decide) (by decide) (XT.ll_ge_t c22) ?_
        refine gIconst X20 hx (0 : Int32) (hb hby at_88) (q := 89) rfl (by decide) ?_
        exact J81_24 _ (by first | rfl | (rw [if_neg c22]; done) | (simp only [if_neg hc12, if_neg hc17, if_neg c22]; done) | (simp only [if_neg hc12, if_neg hc17, if_neg c22]; done) | (simp only [if_neg hc12, if_neg hc17, if_neg c22, if_true, if_false]; done) | (exfalso; simp at c22; done))
    · have MM17 := Fr.app N16 M17n
      have O39 := O13.keep K17 (allS le_a1 all0)
      have Z40 := Nat.le_trans Z14 K17.1
      refine gAload X17 hx (hb hby at_63) (q := 65) rfl rfl rfl ?_
      refine gCallV X17 hx hZ hown (hw _ (List.mem_of_getElem? (i := 12) rfl)) (hw _ (List.mem_of_getElem? (i := 13) rfl)) (hw _ (List.mem_of_getElem? (i := 15) rfl)) (hw _ (List.mem_of_getElem? (i := 14) rfl)) (hw _ (List.mem_of_getElem? (i := 3) rfl)) (hw _ (List.mem_of_getElem? (i := 16) rfl)) (notFace_of_selects (args := #[]) (mvT hZ (hw _ (List.mem_of_getElem? (i := 15) rfl)))) (by decide) (rmXVL l Z a0 hw [] a1 (xa + xc) rl T17.heap n0 Z40 P17b P17l P17e) (W := 0) (by decide) (by decide) rfl (by rw [hml]; rfl) P17e [] (lenOf pd7 rfl) rfl (S := []) rfl (Nat.le_of_eq rfl) (hb hby at_65) (q := 68) rfl (by decide) (by decide) (fun r41 T41 M41 X41 q41 => ?_)
      obtain ⟨rfl, M41n, e41⟩ := q41
      have N42 := Fr.app MM17 M41n
      dsimp only [Option.toList, List.cons_append, List.nil_append]
      refine gLstore X41 hx (hb hby at_68) (q := 70) rfl (L' := #[.val (.long x0), .second, .val (.long x1), .second, .val (.long x2), .second, .val (.long (9223372036854775807 : Int64)), .second, .val (.long xa), .second, .val (.long xc), .second, .val (.long xd), .second, .val (.ref a1), .val (.long xa), .second, .val (.long (xa + xc)), .second, .val (.long (-1 : Int64)), .second, .unset, .unset, .unset, .unset, .unset, .unset, .unset, .unset, .unset, .unset]) rfl ?_
      refine gLload X41 hx (hb hby at_70) (q := 72) rfl rfl ?_
      refine gLload X41 hx (hb hby at_72) (q := 74) rfl rfl ?_
      refine gLadd X41 hx (hb hby at_74) (q := 75) rfl ?_
      refine gLstore X41 hx (hb hby at_75) (q := 77) rfl (L' := #[.val (.long x0), .second, .val (.long x1), .second, .val (.long x2), .second, .val (.long (9223372036854775807 : Int64)), .second, .val (.long xa), .second, .val (.long xc), .second, .val (.long xd), .second, .val (.ref a1), .val (.long xa), .second, .val (.long (xa + xc)), .second, .val (.long (-1 : Int64)), .second, .val (.long (xa + xc)), .second, .unset, .unset, .unset, .unset, .unset, .unset, .unset, .unset]) rfl ?_
      refine gLload X41 hx (hb hby at_77) (q := 79) rfl rfl ?_
      refine gLconst X41 hx (0 : Int64) (hb hby at_79) (q := 80) rfl (by decide) ?_
      refine gLcmp X41 hx (hb hby at_80) (q := 81) rfl ?_
      have J81_45 : ∀ v44 : Int32, v44 = (if (xa + xc) < (0 : Int64) then (1 : Int32) else (0 : Int32)) → Go p.tables e below (Done s (Q_rm0 Z x0 x1 x2 rz rp kp vp h0 n0) (room_1.cells) (room_1.slots)) (T41.setTop (mkF m 89 #[.val (.long x0), .second, .val (.long x1), .second, .val (.long x2), .second, .val (.long (9223372036854775807 : Int64)), .second, .val (.long xa), .second, .val (.long xc), .second, .val (.long xd), .second, .val (.ref a1), .val (.long xa), .second, .val (.long (xa + xc)), .second, .val (.long (-1 : Int64)), .second, .val (.long (xa + xc)), .second, .unset, .unset, .unset, .unset, .unset, .unset, .unset, .unset] [(.int v44)])) := by
        intro v44 hv44
        refine gIstore X41 hx (hb hby at_89) (q := 91) rfl (L' := #[.val (.long x0), .second, .val (.long x1), .second, .val (.long x2), .second, .val (.long (9223372036854775807 : Int64)), .second, .val (.long xa), .second, .val (.long xc), .second, .val (.long xd), .second, .val (.ref a1), .val (.long xa), .second, .val (.long (xa + xc)), .second, .val (.long (-1 : Int64)), .second, .val (.long (xa + xc)), .second, .val (.int v44), .unset, .unset, .unset, .unset, .unset, .unset, .unset]) rfl ?_
        refine gLload X41 hx (hb hby at_91) (q := 93) rfl rfl ?_
        refine gLload X41 hx (hb hby at_93) (q := 95) rfl rfl ?_
        refine gLadd X41 hx (hb hby at_95) (q := 96) rfl ?_
        refine gLstore X41 hx (hb hby at_96) (q := 98) rfl (L' := #[.val (.long x0), .second, .val (.long x1), .second, .val (.long x2), .second, .val (.long (9223372036854775807 : Int64)), .second, .val (.long xa), .second, .val (.long xc), .second, .val (.long xd), .second, .val (.ref a1), .val (.long xa), .second, .val (.long (xa + xc)), .second, .val (.long (-1 : Int64)), .second, .val (.long (xa + xc)), .second, .val (.int v44), .val (.long ((xa + xc) + xd)), .second, .unset, .unset, .unset, .unset, .unset]) rfl ?_
        refine gIload X41 hx (hb hby at_98) (q := 100) rfl rfl ?_
        have J100_48 : ∀ v47 : Int32, v47 = (if v44 = (0 : Int32) then (if ((xa + xc) + xd) < (0 : Int64) then (1 : Int32) else (0 : Int32)) else (1 : Int32)) → Go p.tables e below (Done s (Q_rm0 Z x0 x1 x2 rz rp kp vp h0 n0) (room_1.cells) (room_1.slots)) (T41.setTop (mkF m 115 #[.val (.long x0), .second, .val (.long x1), .second, .val (.long x2), .second, .val (.long (9223372036854775807 : Int64)), .second, .val (.long xa), .second, .val (.long xc), .second, .val (.long xd), .second, .val (.ref a1), .val (.long xa), .second, .val (.long (xa + xc)), .second, .val (.long (-1 : Int64)), .second, .val (.long (xa + xc)), .second, .val (.int v44), .val (.long ((xa + xc) + xd)), .second, .unset, .unset, .unset, .unset, .unset] [(.int v47)])) := by
          intro v47 hv47
          refine gIstore X41 hx (hb hby at_115) (q := 117) rfl (L' := #[.val (.long x0), .second, .val (.long x1), .second, .val (.long x2), .second, .val (.long (9223372036854775807 : Int64)), .second, .val (.long xa), .second, .val (.long xc), .second, .val (.long xd), .second, .val (.ref a1), .val (.long xa), .second, .val (.long (xa + xc)), .second, .val (.long (-1 : Int64)), .second, .val (.long (xa + xc)), .second, .val (.int v44), .val (.long ((xa + xc) + xd)), .second, .val (.int v47), .unset, .unset, .unset, .unset]) rfl ?_
          refine gIload X41 hx (hb hby at_117) (q := 119) rfl rfl ?_
          have J119_51 : ∀ v50 : Int64, v50 = (if v44 = (0 : Int32) then (xa + xc) else (-1 : Int64)) → Go p.tables e below (Done s (Q_rm0 Z x0 x1 x2 rz rp kp vp h0 n0) (room_1.cells) (room_1.slots)) (T41.setTop (mkF m 130 #[.val (.long x0), .second, .val (.long x1), .second, .val (.long x2), .second, .val (.long (9223372036854775807 : Int64)), .second, .val (.long xa), .second, .val (.long xc), .second, .val (.long xd), .second, .val (.ref a1), .val (.long xa), .second, .val (.long (xa + xc)), .second, .val (.long (-1 : Int64)), .second, .val (.long (xa + xc)), .second, .val (.int v44), .val (.long ((xa + xc) + xd)), .second, .val (.int v47), .unset, .unset, .unset, .unset] [(.long v50)])) := by
            intro v50 hv50
            refine gLstore X41 hx (hb hby at_130) (q := 132) rfl (L' := #[.val (.long x0), .second, .val (.long x1), .second, .val (.long x2), .second, .val (.long (9223372036854775807 : Int64)), .second, .val (.long xa), .second, .val (.long xc), .second, .val (.long xd), .second, .val (.ref a1), .val (.long xa), .second, .val (.long (xa + xc)), .second, .val (.long (-1 : Int64)), .second, .val (.long (xa + xc)), .second, .val (.int v44), .val (.long ((xa + xc) + xd)), .second, .val (.int v47), .val (.long v50), .second, .unset, .unset]) rfl ?_
            refine gIload X41 hx (hb hby at_132) (q := 134) rfl rfl ?_
            have J134_54 : ∀ v53 : Int64, v53 = (if v47 = (0 : Int32) then ((xa + xc) + xd) else (-1 : Int64)) → Go p.tables e below (Done s (Q_rm0 Z x0 x1 x2 rz rp kp vp h0 n0) (room_1.cells) (room_1.slots)) (T41.setTop (mkF m 145 #[.val (.long x0), .second, .val (.long x1), .second, .val (.long x2), .second, .val (.long (9223372036854775807 : Int64)), .second, .val (.long xa), .second, .val (.long xc), .second, .val (.long xd), .second, .val (.ref a1), .val (.long xa), .second, .val (.long (xa + xc)), .second, .val (.long (-1 : Int64)), .second, .val (.long (xa + xc)), .second, .val (.int v44), .val (.long ((xa + xc) + xd)), .second, .val (.int v47), .val (.long v50), .second, .unset, .unset] [(.long v53)])) := by
              intro v53 hv53
              refine gLstore X41 hx (hb hby at_145) (q := 147) rfl (L' := #[.val (.long x0), .second, .val (.long x1), .second, .val (.long x2), .second, .val (.long (9223372036854775807 : Int64)), .second, .val (.long xa), .second, .val (.long xc), .second, .val (.long xd), .second, .val (.ref a1), .val (.long xa), .second, .val (.long (xa + xc)), .second, .val (.long (-1 : Int64)), .second, .val (.long (xa + xc)), .second, .val (.int v44), .val (.long ((xa + xc) + xd)), .second, .val (.int v47), .val (.long v50), .second, .val (.long v53), .second]) rfl ?_
              refine gLload X41 hx (hb hby at_147) (q := 149) rfl rfl ?_
              refine gLload X41 hx (hb hby at_149) (q := 151) rfl rfl ?_
              refine gLcmp X41 hx (hb hby at_151) (q := 152) rfl ?_
              refine gIfN X41 hx (hb hby at_152) (q := 155) rfl (XT.ll_ne_f rfl) ?_
              refine gLload X41 hx (hb hby at_155) (q := 157) rfl rfl ?_
              refine gLload X41 hx (hb hby at_157) (q := 159) rfl rfl ?_
              refine gLcmp X41 hx (hb hby at_159) (q := 160) rfl ?_
              have J160_57 : ∀ v56 : Int32, v56 = (if (xa + xc) = v50 then (if (-1 : Int64) = v53 then (1 : Int32) else (0 : Int32)) else (0 : Int32)) → Go p.tables e below (Done s (Q_rm0 Z x0 x1 x2 rz rp kp vp h0 n0) (room_1.cells) (room_1.slots)) (T41.setTop (mkF m 176 #[.val (.long x0), .second, .val (.long x1), .second, .val (.long x2), .second, .val (.long (9223372036854775807 : Int64)), .second, .val (.long xa), .second, .val (.long xc), .second, .val (.long xd), .second, .val (.ref a1), .val (.long xa), .second, .val (.long (xa + xc)), .second, .val (.long (-1 : Int64)), .second, .val (.long (xa + xc)), .second, .val (.int v44), .val (.long ((xa + xc) + xd)), .second, .val (.int v47), .val (.long v50), .second, .val (.long v53), .second] [(.int v56)])) := by
                intro v56 hv56
                have hone : v56 = 1 := own_law2 xa xc xd v44 hv44 v47 hv47 v50 hv50 v53 hv53 v56 hv56 nn_xa nn_xc nn_xd hc12 hc17
                exact gRetZ X41 hx hlk hret (hb hby at_176) (by decide) (by decide) (Or.inr hone) ⟨by rw [hone], N42⟩
              by_cases c55 : (xa + xc) = v50
              · refine gIfN X41 hx (hb hby at_160) (q := 163) rfl (XT.ll_ne_f c55) ?_
                refine gLload X41 hx (hb hby at_163) (q := 165) rfl rfl ?_
                refine gLload X41 hx (hb hby at_165) (q := 167) rfl rfl ?_
                refine gLcmp X41 hx (hb hby at_167) (q := 168) rfl ?_
                by_cases c58 : (-1 : Int64) = v53
                · refine gIfN X41 hx (hb hby at_168) (q := 171) rfl (XT.ll_ne_f c58) ?_
                  refine gIconst X41 hx (1 : Int32) (hb hby at_171) (q := 172) rfl (by decide) ?_
                  refine gGoto X41 hx (hb hby at_172) (q := 176) (by decide) (by decide) ?_
                  exact J160_57 _ (by first | rfl | (rw [if_pos c55, if_pos c58]; done) | (simp only [if_neg hc12, if_pos hc17, if_pos c55, if_pos c58]; done) | (simp only [if_neg hc12, if_pos hc17, if_pos c55, if_pos c58]; done) | (simp only [if_neg hc12, if_pos hc17, if_pos c55, if_pos c58, if_true, if_false]; done) | (exfalso; simp at c58; done))
                · refine gIfY X41 hx (hb hby at_168) (q := 175) (by decide) (by decide) (XT.ll_ne_t c58) ?_
                  refine gIconst X41 hx (0 : Int32) (hb hby at_175) (q := 176) rfl (by decide) ?_
                  exact J160_57 _ (by first | rfl | (rw [if_pos c55, if_neg c58]; done) | (simp only [if_neg hc12, if_pos hc17, if_pos c55, if_neg c58]; done) | (simp only [if_neg hc12, if_pos hc17, if_pos c55, if_neg c58]; done) | (simp only [if_neg hc12, if_pos hc17, if_pos c55, if_neg c58, if_true, if_false]; done) | (exfalso; simp at c58; done))
              · refine gIfY X41 hx (hb hby at_160) (q := 175) (by decide) (by decide) (XT.ll_ne_t c55) ?_
                refine gIconst X41 hx (0 : Int32) (hb hby at_175) (q := 176) rfl (by decide) ?_
                exact J160_57 _ (by first | rfl | (rw [if_neg c55]; done) | (simp only [if_neg hc12, if_pos hc17, if_neg c55]; done) | (simp only [if_neg hc12, if_pos hc17, if_neg c55]; done) | (simp only [if_neg hc12, if_pos hc17, if_neg c55, if_true, if_false]; done) | (exfalso; simp at c55; done))
            by_cases c52 : v47 = (0 : Int32)
            · refine gIfY X41 hx (hb hby at_134) (q := 143) (by decide) (by decide) (XT.i0_eq_t c52) ?_
              refine gLload X41 hx (hb hby at_143) (q := 145) rfl rfl ?_
              exact J134_54 _ (by first | rfl | (rw [if_pos c52]; done) | (simp only [if_neg hc12, if_pos hc17, if_pos c52]; done) | (simp only [if_neg hc12, if_pos hc17, if_pos c52]; done) | (simp only [if_neg hc12, if_pos hc17, if_pos c52, if_true, if_false]; done) | (exfalso; simp at c52; done))
            · refine gIfN X41 hx (hb hby at_134) (q := 137) rfl (XT.i0_eq_f c52) ?_
              refine gLdc2 X41 hx hZ hown (hw _ (List.mem_of_getElem? (i := 71) rfl)) (hb hby at_137) (q := 140) rfl ?_
              refine gGoto X41 hx (hb hby at_140) (q := 145) (by decide) (by decide) ?_
              exact J134_54 _ (by first | rfl | (rw [if_neg c52]; done) | (simp only [if_neg hc12, if_pos hc17, if_neg c52]; done) | (simp only [if_neg hc12, if_pos hc17, if_neg c52]; done) | (simp only [if_neg hc12, if_pos hc17, if_neg c52, if_true, if_false]; done) | (exfalso; simp at c52; done))
          by_cases c49 : v44 = (0 : Int32)
          · refine gIfY X41 hx (hb hby at_119) (q := 128) (by decide) (by decide) (XT.i0_eq_t c49) ?_
            refine gLload X41 hx (hb hby at_128) (q := 130) rfl rfl ?_
            exact J119_51 _ (by first | rfl | (rw [if_pos c49]; done) | (simp only [if_neg hc12, if_pos hc17, if_pos c49]; done) | (simp only [if_neg hc12, if_pos hc17, if_pos c49]; done) | (simp only [if_neg hc12, if_pos hc17, if_pos c49, if_true, if_false]; done) | (exfalso; simp at c49; done))
          · refine gIfN X41 hx (hb hby at_119) (q := 122) rfl (XT.i0_eq_f c49) ?_
            refine gLdc2 X41 hx hZ hown (hw _ (List.mem_of_getElem? (i := 71) rfl)) (hb hby at_122) (q := 125) rfl ?_
            refine gGoto X41 hx (hb hby at_125) (q := 130) (by decide) (by decide) ?_
            exact J119_51 _ (by first | rfl | (rw [if_neg c49]; done) | (simp only [if_neg hc12, if_pos hc17, if_neg c49]; done) | (simp only [if_neg hc12, if_pos hc17, if_neg c49]; done) | (simp only [if_neg hc12, if_pos hc17, if_neg c49, if_true, if_false]; done) | (exfalso; simp at c49; done))
        by_cases c46 : v44 = (0 : Int32)
        · refine gIfN X41 hx (hb hby at_100) (q := 103) rfl (XT.i0_ne_f c46) ?_
          refine gLload X41 hx (hb hby at_103) (q := 105) rfl rfl ?_
          refine gLconst X41 hx (0 : Int64) (hb hby at_105) (q := 106) rfl (by decide) ?_
          refine gLcmp X41 hx (hb hby at_106) (q := 107) rfl ?_
          by_cases c59 : ((xa + xc) + xd) < (0 : Int64)
          · refine gIfN X41 hx (hb hby at_107) (q := 110) rfl (XT.ll_ge_f c59) ?_
            refine gIconst X41 hx (1 : Int32) (hb hby at_110) (q := 111) rfl (by decide) ?_
            refine gGoto X41 hx (hb hby at_111) (q := 115) (by decide) (by decide) ?_
            exact J100_48 _ (by first | rfl | (rw [if_pos c46, if_pos c59]; done) | (simp only [if_neg hc12, if_pos hc17, if_pos c46, if_pos c59]; done) | (simp only [if_neg hc12, if_pos hc17, if_pos c46, if_pos c59]; done) | (simp only [if_neg hc12, if_pos hc17, if_pos c46, if_pos c59, if_true, if_false]; done) | (exfalso; simp at c59; done))
          · refine gIfY X41 hx (hb hby at_107) (q := 114) (by decide) (by decide) (XT.ll_ge_t c59) ?_
            refine gIconst X41 hx (0 : Int32) (hb hby at_114) (q := 115) rfl (by decide) ?_
            exact J100_48 _ (by first | rfl | (rw [if_pos c46, if_neg c59]; done) | (simp only [if_neg hc12, if_pos hc17, if_pos c46, if_neg c59]; done) | (simp only [if_neg hc12, if_pos hc17, if_pos c46, if_neg c59]; done) | (simp only [if_neg hc12, if_pos hc17, if_pos c46, if_neg c59, if_true, if_false]; done) | (exfalso; simp at c59; done))
        · refine gIfY X41 hx (hb hby at_100) (q := 110) (by decide) (by decide) (XT.i0_ne_t c46) ?_
          refine gIconst X41 hx (1 : Int32) (hb hby at_110) (q := 111) rfl (by decide) ?_
          refine gGoto X41 hx (hb hby at_111) (q := 115) (by decide) (by decide) ?_
          exact J100_48 _ (by first | rfl | (rw [if_neg c46]; done) | (simp only [if_neg hc12, if_pos hc17, if_neg c46]; done) | (simp only [if_neg hc12, if_pos hc17, if_neg c46]; done) | (simp only [if_neg hc12, if_pos hc17, if_neg c46, if_true, if_false]; done) | (exfalso; simp at c46; done))
      by_cases c43 : (xa + xc) < (0 : Int64)
      · refine gIfN X41 hx (hb hby at_81) (q := 84) rfl (XT.ll_ge_f c43) ?_
        refine gIconst X41 hx (1 : Int32) (hb hby at_84) (q := 85) rfl (by decide) ?_
        refine gGoto X41 hx (hb hby at_85) (q := 89) (by decide) (by decide) ?_
        exact J81_45 _ (by first | rfl | (rw [if_pos c43]; done) | (simp only [if_neg hc12, if_pos hc17, if_pos c43]; done) | (simp only [if_neg hc12, if_pos hc17, if_pos c43]; done) | (simp only [if_neg hc12, if_pos hc17, if_pos c43, if_true, if_false]; done) | (exfalso; simp at c43; done))
      · refine gIfY X41 hx (hb hby at_81) (q := 88) (by decide) (by decide) (XT.ll_ge_t c43) ?_
        refine gIconst X41 hx (0 : Int32) (hb hby at_88) (q := 89) rfl (by decide) ?_
        exact J81_45 _ (by first | rfl | (rw [if_neg c43]; done) | (simp only [if_neg hc12, if_pos hc17, if_neg c43]; done) | (simp only [if_neg hc12, if_pos hc17, if_neg c43]; done) | (simp only [if_neg hc12, if_pos hc17, if_neg c43, if_true, if_false]; done) | (exfalso; simp at c43; done))
  · have MM12 := Fr.app N11 M12n
    have O60 := O8.keep K12 (allS le_a1 all0)
    have Z61 := Nat.le_trans Z9 K12.1
    refine gAload X12 hx (hb hby at_49) (q := 51) rfl rfl rfl ?_
    refine gCallV X12 hx hZ hown (hw _ (List.mem_of_getElem? (i := 12) rfl)) (hw _ (List.mem_of_getElem? (i := 13) rfl)) (hw _ (List.mem_of_getElem? (i := 15) rfl)) (hw _ (List.mem_of_getElem? (i := 14) rfl)) (hw _ (List.mem_of_getElem? (i := 3) rfl)) (hw _ (List.mem_of_getElem? (i := 16) rfl)) (notFace_of_selects (args := #[]) (mvT hZ (hw _ (List.mem_of_getElem? (i := 15) rfl)))) (by decide) (rmXVL l Z a0 hw [] a1 xa rl T12.heap n0 Z61 P12b P12l P12e) (W := 0) (by decide) (by decide) rfl (by rw [hml]; rfl) P12e [] (lenOf pd7 rfl) rfl (S := []) rfl (Nat.le_of_eq rfl) (hb hby at_51) (q := 54) rfl (by decide) (by decide) (fun r62 T62 M62 X62 q62 => ?_)
    obtain ⟨rfl, M62n, e62⟩ := q62
    have N63 := Fr.app MM12 M62n
    dsimp only [Option.toList, List.cons_append, List.nil_append]
    refine gLstore X62 hx (hb hby at_54) (q := 56) rfl (L' := #[.val (.long x0), .second, .val (.long x1), .second, .val (.long x2), .second, .val (.long (9223372036854775807 : Int64)), .second, .val (.long xa), .second, .val (.long xc), .second, .val (.long xd), .second, .val (.ref a1), .val (.long xa), .second, .val (.long (-1 : Int64)), .second, .unset, .unset, .unset, .unset, .unset, .unset, .unset, .unset, .unset, .unset, .unset, .unset]) rfl ?_
    refine gAload X62 hx (hb hby at_56) (q := 58) rfl rfl rfl ?_
    refine gLload X62 hx (hb hby at_58) (q := 60) rfl rfl ?_
    refine gCallV X62 hx hZ hown (hw _ (List.mem_of_getElem? (i := 19) rfl)) (hw _ (List.mem_of_getElem? (i := 20) rfl)) (hw _ (List.mem_of_getElem? (i := 22) rfl)) (hw _ (List.mem_of_getElem? (i := 21) rfl)) (hw _ (List.mem_of_getElem? (i := 3) rfl)) (hw _ (List.mem_of_getElem? (i := 23) rfl)) (notFace_of_selects (args := #[]) (mvT hZ (hw _ (List.mem_of_getElem? (i := 22) rfl)))) (by decide) (rmXAL l Z a0 hw [] a1 xa xd rl rz rp kp vp T12.heap n0 Z61 P12b P12l P12e le_a1 P12i SZ BZ SP AP HP O60 nn_xd) (W := 0) (by decide) (by decide) e62 (by rw [hml]; rfl) P12e [(.long xd)] (lenOf pd1 rfl) rfl (S := []) rfl (Nat.le_of_eq rfl) (hb hby at_60) (q := 63) rfl (by decide) (by decide) (fun r64 T64 M64 X64 q64 => ?_)
    dsimp only [Option.toList, List.cons_append, List.nil_append]
    obtain ⟨rfl, M64n, K64, P64e, P64b, rl2, P64l⟩ := q64
    have N65 := Fr.app N63 M64n
    have O66 := O60.keep K64 (allS le_a1 all0)
    have Z67 := Nat.le_trans Z61 K64.1
    refine gAload X64 hx (hb hby at_63) (q := 65) rfl rfl rfl ?_
    refine gCallV X64 hx hZ hown (hw _ (List.mem_of_getElem? (i := 12) rfl)) (hw _ (List.mem_of_getElem? (i := 13) rfl)) (hw _ (List.mem_of_getElem? (i := 15) rfl)) (hw _ (List.mem_of_getElem? (i := 14) rfl)) (hw _ (List.mem_of_getElem? (i := 3) rfl)) (hw _ (List.mem_of_getElem? (i := 16) rfl)) (notFace_of_selects (args := #[]) (mvT hZ (hw _ (List.mem_of_getElem? (i := 15) rfl)))) (by decide) (rmXVL l Z a0 hw [] a1 xa rl2 T64.heap n0 Z67 P64b P64l P64e) (W := 0) (by decide) (by decide) rfl (by rw [hml]; rfl) P64e [] (lenOf pd7 rfl) rfl (S := []) rfl (Nat.le_of_eq rfl) (hb hby at_65) (q := 68) rfl (by decide) (by decide) (fun r68 T68 M68 X68 q68 => ?_)
    obtain ⟨rfl, M68n, e68⟩ := q68
    have N69 := Fr.app N65 M68n
    dsimp only [Option.toList, List.cons_append, List.nil_append]
    refine gLstore X68 hx (hb hby at_68) (q := 70) rfl (L' := #[.val (.long x0), .second, .val (.long x1), .second, .val (.long x2), .second, .val (.long (9223372036854775807 : Int64)), .second, .val (.long xa), .second, .val (.long xc), .second, .val (.long xd), .second, .val (.ref a1), .val (.long xa), .second, .val (.long (-1 : Int64)), .second, .val (.long (-1 : Int64)), .second, .unset, .unset, .unset, .unset, .unset, .unset, .unset, .unset, .unset, .unset]) rfl ?_
    refine gLload X68 hx (hb hby at_70) (q := 72) rfl rfl ?_
    refine gLload X68 hx (hb hby at_72) (q := 74) rfl rfl ?_
    refine gLadd X68 hx (hb hby at_74) (q := 75) rfl ?_
    refine gLstore X68 hx (hb hby at_75) (q := 77) rfl (L' := #[.val (.long x0), .second, .val (.long x1), .second, .val (.long x2), .second, .val (.long (9223372036854775807 : Int64)), .second, .val (.long xa), .second, .val (.long xc), .second, .val (.long xd), .second, .val (.ref a1), .val (.long xa), .second, .val (.long (-1 : Int64)), .second, .val (.long (-1 : Int64)), .second, .val (.long (xa + xc)), .second, .unset, .unset, .unset, .unset, .unset, .unset, .unset, .unset]) rfl ?_
    refine gLload X68 hx (hb hby at_77) (q := 79) rfl rfl ?_
    refine gLconst X68 hx (0 : Int64) (hb hby at_79) (q := 80) rfl (by decide) ?_
    refine gLcmp X68 hx (hb hby at_80) (q := 81) rfl ?_
    have J81_72 : ∀ v71 : Int32, v71 = (if (xa + xc) < (0 : Int64) then (1 : Int32) else (0 : Int32)) → Go p.tables e below (Done s (Q_rm0 Z x0 x1 x2 rz rp kp vp h0 n0) (room_1.cells) (room_1.slots)) (T68.setTop (mkF m 89 #[.val (.long x0), .second, .val (.long x1), .second, .val (.long x2), .second, .val (.long (9223372036854775807 : Int64)), .second, .val (.long xa), .second, .val (.long xc), .second, .val (.long xd), .second, .val (.ref a1), .val (.long xa), .second, .val (.long (-1 : Int64)), .second, .val (.long (-1 : Int64)), .second, .val (.long (xa + xc)), .second, .unset, .unset, .unset, .unset, .unset, .unset, .unset, .unset] [(.int v71)])) := by
      intro v71 hv71
      refine gIstore X68 hx (hb hby at_89) (q := 91) rfl (L' := #[.val (.long x0), .second, .val (.long x1), .second, .val (.long x2), .second, .val (.long (9223372036854775807 : Int64)), .second, .val (.long xa), .second, .val (.long xc), .second, .val (.long xd), .second, .val (.ref a1), .val (.long xa), .second, .val (.long (-1 : Int64)), .second, .val (.long (-1 : Int64)), .second, .val (.long (xa + xc)), .second, .val (.int v71), .unset, .unset, .unset, .unset, .unset, .unset, .unset]) rfl ?_
      refine gLload X68 hx (hb hby at_91) (q := 93) rfl rfl ?_
      refine gLload X68 hx (hb hby at_93) (q := 95) rfl rfl ?_
      refine gLadd X68 hx (hb hby at_95) (q := 96) rfl ?_
      refine gLstore X68 hx (hb hby at_96) (q := 98) rfl (L' := #[.val (.long x0), .second, .val (.long x1), .second, .val (.long x2), .second, .val (.long (9223372036854775807 : Int64)), .second, .val (.long xa), .second, .val (.long xc), .second, .val (.long xd), .second, .val (.ref a1), .val (.long xa), .second, .val (.long (-1 : Int64)), .second, .val (.long (-1 : Int64)), .second, .val (.long (xa + xc)), .second, .val (.int v71), .val (.long ((xa + xc) + xd)), .second, .unset, .unset, .unset, .unset, .unset]) rfl ?_
      refine gIload X68 hx (hb hby at_98) (q := 100) rfl rfl ?_
      have J100_75 : ∀ v74 : Int32, v74 = (if v71 = (0 : Int32) then (if ((xa + xc) + xd) < (0 : Int64) then (1 : Int32) else (0 : Int32)) else (1 : Int32)) → Go p.tables e below (Done s (Q_rm0 Z x0 x1 x2 rz rp kp vp h0 n0) (room_1.cells) (room_1.slots)) (T68.setTop (mkF m 115 #[.val (.long x0), .second, .val (.long x1), .second, .val (.long x2), .second, .val (.long (9223372036854775807 : Int64)), .second, .val (.long xa), .second, .val (.long xc), .second, .val (.long xd), .second, .val (.ref a1), .val (.long xa), .second, .val (.long (-1 : Int64)), .second, .val (.long (-1 : Int64)), .second, .val (.long (xa + xc)), .second, .val (.int v71), .val (.long ((xa + xc) + xd)), .second, .unset, .unset, .unset, .unset, .unset] [(.int v74)])) := by
        intro v74 hv74
        refine gIstore X68 hx (hb hby at_115) (q := 117) rfl (L' := #[.val (.long x0), .second, .val (.long x1), .second, .val (.long x2), .second, .val (.long (9223372036854775807 : Int64)), .second, .val (.long xa), .second, .val (.long xc), .second, .val (.long xd), .second, .val (.ref a1), .val (.long xa), .second, .val (.long (-1 : Int64)), .second, .val (.long (-1 : Int64)), .second, .val (.long (xa + xc)), .second, .val (.int v71), .val (.long ((xa + xc) + xd)), .second, .val (.int v74), .unset, .unset, .unset, .unset]) rfl ?_
        refine gIload X68 hx (hb hby at_117) (q := 119) rfl rfl ?_
        have J119_78 : ∀ v77 : Int64, v77 = (if v71 = (0 : Int32) then (xa + xc) else (-1 : Int64)) → Go p.tables e below (Done s (Q_rm0 Z x0 x1 x2 rz rp kp vp h0 n0) (room_1.cells) (room_1.slots)) (T68.setTop (mkF m 130 #[.val (.long x0), .second, .val (.long x1), .second, .val (.long x2), .second, .val (.long (9223372036854775807 : Int64)), .second, .val (.long xa), .second, .val (.long xc), .second, .val (.long xd), .second, .val (.ref a1), .val (.long xa), .second, .val (.long (-1 : Int64)), .second, .val (.long (-1 : Int64)), .second, .val (.long (xa + xc)), .second, .val (.int v71), .val (.long ((xa + xc) + xd)), .second, .val (.int v74), .unset, .unset, .unset, .unset] [(.long v77)])) := by
          intro v77 hv77
          refine gLstore X68 hx (hb hby at_130) (q := 132) rfl (L' := #[.val (.long x0), .second, .val (.long x1), .second, .val (.long x2), .second, .val (.long (9223372036854775807 : Int64)), .second, .val (.long xa), .second, .val (.long xc), .second, .val (.long xd), .second, .val (.ref a1), .val (.long xa), .second, .val (.long (-1 : Int64)), .second, .val (.long (-1 : Int64)), .second, .val (.long (xa + xc)), .second, .val (.int v71), .val (.long ((xa + xc) + xd)), .second, .val (.int v74), .val (.long v77), .second, .unset, .unset]) rfl ?_
          refine gIload X68 hx (hb hby at_132) (q := 134) rfl rfl ?_
          have J134_81 : ∀ v80 : Int64, v80 = (if v74 = (0 : Int32) then ((xa + xc) + xd) else (-1 : Int64)) → Go p.tables e below (Done s (Q_rm0 Z x0 x1 x2 rz rp kp vp h0 n0) (room_1.cells) (room_1.slots)) (T68.setTop (mkF m 145 #[.val (.long x0), .second, .val (.long x1), .second, .val (.long x2), .second, .val (.long (9223372036854775807 : Int64)), .second, .val (.long xa), .second, .val (.long xc), .second, .val (.long xd), .second, .val (.ref a1), .val (.long xa), .second, .val (.long (-1 : Int64)), .second, .val (.long (-1 : Int64)), .second, .val (.long (xa + xc)), .second, .val (.int v71), .val (.long ((xa + xc) + xd)), .second, .val (.int v74), .val (.long v77), .second, .unset, .unset] [(.long v80)])) := by
            intro v80 hv80
            refine gLstore X68 hx (hb hby at_145) (q := 147) rfl (L' := #[.val (.long x0), .second, .val (.long x1), .second, .val (.long x2), .second, .val (.long (9223372036854775807 : Int64)), .second, .val (.long xa), .second, .val (.long xc), .second, .val (.long xd), .second, .val (.ref a1), .val (.long xa), .second, .val (.long (-1 : Int64)), .second, .val (.long (-1 : Int64)), .second, .val (.long (xa + xc)), .second, .val (.int v71), .val (.long ((xa + xc) + xd)), .second, .val (.int v74), .val (.long v77), .second, .val (.long v80), .second]) rfl ?_
            refine gLload X68 hx (hb hby at_147) (q := 149) rfl rfl ?_
            refine gLload X68 hx (hb hby at_149) (q := 151) rfl rfl ?_
            refine gLcmp X68 hx (hb hby at_151) (q := 152) rfl ?_
            refine gIfN X68 hx (hb hby at_152) (q := 155) rfl (XT.ll_ne_f rfl) ?_
            refine gLload X68 hx (hb hby at_155) (q := 157) rfl rfl ?_
            refine gLload X68 hx (hb hby at_157) (q := 159) rfl rfl ?_
            refine gLcmp X68 hx (hb hby at_159) (q := 160) rfl ?_
            have J160_84 : ∀ v83 : Int32, v83 = (if (-1 : Int64) = v77 then (if (-1 : Int64) = v80 then (1 : Int32) else (0 : Int32)) else (0 : Int32)) → Go p.tables e below (Done s (Q_rm0 Z x0 x1 x2 rz rp kp vp h0 n0) (room_1.cells) (room_1.slots)) (T68.setTop (mkF m 176 #[.val (.long x0), .second, .val (.long x1), .second, .val (.long x2), .second, .val (.long (9223372036854775807 : Int64)), .second, .val (.long xa), .second, .val (.long xc), .second, .val (.long xd), .second, .val (.ref a1), .val (.long xa), .second, .val (.long (-1 : Int64)), .second, .val (.long (-1 : Int64)), .second, .val (.long (xa + xc)), .second, .val (.int v71), .val (.long ((xa + xc) + xd)), .second, .val (.int v74), .val (.long v77), .second, .val (.long v80), .second] [(.int v83)])) := by
              intro v83 hv83
              have hone : v83 = 1 := own_law3 xa xc xd v71 hv71 v74 hv74 v77 hv77 v80 hv80 v83 hv83 nn_xa nn_xc nn_xd hc12
              exact gRetZ X68 hx hlk hret (hb hby at_176) (by decide) (by decide) (Or.inr hone) ⟨by rw [hone], N69⟩
            by_cases c82 : (-1 : Int64) = v77
            · refine gIfN X68 hx (hb hby at_160) (q := 163) rfl (XT.ll_ne_f c82) ?_
              refine gLload X68 hx (hb hby at_163) (q := 165) rfl rfl ?_
              refine gLload X68 hx (hb hby at_165) (q := 167) rfl rfl ?_
              refine gLcmp X68 hx (hb hby at_167) (q := 168) rfl ?_
              by_cases c85 : (-1 : Int64) = v80
              · refine gIfN X68 hx (hb hby at_168) (q := 171) rfl (XT.ll_ne_f c85) ?_
                refine gIconst X68 hx (1 : Int32) (hb hby at_171) (q := 172) rfl (by decide) ?_
                refine gGoto X68 hx (hb hby at_172) (q := 176) (by decide) (by decide) ?_
                exact J160_84 _ (by first | rfl | (rw [if_pos c82, if_pos c85]; done) | (simp only [if_pos hc12, if_pos c82, if_pos c85]; done) | (simp only [if_pos hc12, if_pos c82, if_pos c85]; done) | (simp only [if_pos hc12, if_pos c82, if_pos c85, if_true, if_false]; done) | (exfalso; simp at c85; done))
              · refine gIfY X68 hx (hb hby at_168) (q := 175) (by decide) (by decide) (XT.ll_ne_t c85) ?_
                refine gIconst X68 hx (0 : Int32) (hb hby at_175) (q := 176) rfl (by decide) ?_
                exact J160_84 _ (by first | rfl | (rw [if_pos c82, if_neg c85]; done) | (simp only [if_pos hc12, if_pos c82, if_neg c85]; done) | (simp only [if_pos hc12, if_pos c82, if_neg c85]; done) | (simp only [if_pos hc12, if_pos c82, if_neg c85, if_true, if_false]; done) | (exfalso; simp at c85; done))
            · refine gIfY X68 hx (hb hby at_160) (q := 175) (by decide) (by decide) (XT.ll_ne_t c82) ?_
              refine gIconst X68 hx (0 : Int32) (hb hby at_175) (q := 176) rfl (by decide) ?_
              exact J160_84 _ (by first | rfl | (rw [if_neg c82]; done) | (simp only [if_pos hc12, if_neg c82]; done) | (simp only [if_pos hc12, if_neg c82]; done) | (simp only [if_pos hc12, if_neg c82, if_true, if_false]; done) | (exfalso; simp at c82; done))
          by_cases c79 : v74 = (0 : Int32)
          · refine gIfY X68 hx (hb hby at_134) (q := 143) (by decide) (by decide) (XT.i0_eq_t c79) ?_
            refine gLload X68 hx (hb hby at_143) (q := 145) rfl rfl ?_
            exact J134_81 _ (by first | rfl | (rw [if_pos c79]; done) | (simp only [if_pos hc12, if_pos c79]; done) | (simp only [if_pos hc12, if_pos c79]; done) | (simp only [if_pos hc12, if_pos c79, if_true, if_false]; done) | (exfalso; simp at c79; done))
          · refine gIfN X68 hx (hb hby at_134) (q := 137) rfl (XT.i0_eq_f c79) ?_
            refine gLdc2 X68 hx hZ hown (hw _ (List.mem_of_getElem? (i := 71) rfl)) (hb hby at_137) (q := 140) rfl ?_
            refine gGoto X68 hx (hb hby at_140) (q := 145) (by decide) (by decide) ?_
            exact J134_81 _ (by first | rfl | (rw [if_neg c79]; done) | (simp only [if_pos hc12, if_neg c79]; done) | (simp only [if_pos hc12, if_neg c79]; done) | (simp only [if_pos hc12, if_neg c79, if_true, if_false]; done) | (exfalso; simp at c79; done))
        by_cases c76 : v71 = (0 : Int32)
        · refine gIfY X68 hx (hb hby at_119) (q := 128) (by decide) (by decide) (XT.i0_eq_t c76) ?_
          refine gLload X68 hx (hb hby at_128) (q := 130) rfl rfl ?_
          exact J119_78 _ (by first | rfl | (rw [if_pos c76]; done) | (simp only [if_pos hc12, if_pos c76]; done) | (simp only [if_pos hc12, if_pos c76]; done) | (simp only [if_pos hc12, if_pos c76, if_true, if_false]; done) | (exfalso; simp at c76; done))
        · refine gIfN X68 hx (hb hby at_119) (q := 122) rfl (XT.i0_eq_f c76) ?_
          refine gLdc2 X68 hx hZ hown (hw _ (List.mem_of_getElem? (i := 71) rfl)) (hb hby at_122) (q := 125) rfl ?_
          refine gGoto X68 hx (hb hby at_125) (q := 130) (by decide) (by decide) ?_
          exact J119_78 _ (by first | rfl | (rw [if_neg c76]; done) | (simp only [if_pos hc12, if_neg c76]; done) | (simp only [if_pos hc12, if_neg c76]; done) | (simp only [if_pos hc12, if_neg c76, if_true, if_false]; done) | (exfalso; simp at c76; done))
      by_cases c73 : v71 = (0 : Int32)
      · refine gIfN X68 hx (hb hby at_100) (q := 103) rfl (XT.i0_ne_f c73) ?_
        refine gLload X68 hx (hb hby at_103) (q := 105) rfl rfl ?_
        refine gLconst X68 hx (0 : Int64) (hb hby at_105) (q := 106) rfl (by decide) ?_
        refine gLcmp X68 hx (hb hby at_106) (q := 107) rfl ?_
        by_cases c86 : ((xa + xc) + xd) < (0 : Int64)
        · refine gIfN X68 hx (hb hby at_107) (q := 110) rfl (XT.ll_ge_f c86) ?_
          refine gIconst X68 hx (1 : Int32) (hb hby at_110) (q := 111) rfl (by decide) ?_
          refine gGoto X68 hx (hb hby at_111) (q := 115) (by decide) (by decide) ?_
          exact J100_75 _ (by first | rfl | (rw [if_pos c73, if_pos c86]; done) | (simp only [if_pos hc12, if_pos c73, if_pos c86]; done) | (simp only [if_pos hc12, if_pos c73, if_pos c86]; done) | (simp only [if_pos hc12, if_pos c73, if_pos c86, if_true, if_false]; done) | (exfalso; simp at c86; done))
        · refine gIfY X68 hx (hb hby at_107) (q := 114) (by decide) (by decide) (XT.ll_ge_t c86) ?_
          refine gIconst X68 hx (0 : Int32) (hb hby at_114) (q := 115) rfl (by decide) ?_
          exact J100_75 _ (by first | rfl | (rw [if_pos c73, if_neg c86]; done) | (simp only [if_pos hc12, if_pos c73, if_neg c86]; done) | (simp only [if_pos hc12, if_pos c73, if_neg c86]; done) | (simp only [if_pos hc12, if_pos c73, if_neg c86, if_true, if_false]; done) | (exfalso; simp at c86; done))
      · refine gIfY X68 hx (hb hby at_100) (q := 110) (by decide) (by decide) (XT.i0_ne_t c73) ?_
        refine gIconst X68 hx (1 : Int32) (hb hby at_110) (q := 111) rfl (by decide) ?_
        refine gGoto X68 hx (hb hby at_111) (q := 115) (by decide) (by decide) ?_
        exact J100_75 _ (by first | rfl | (rw [if_neg c73]; done) | (simp only [if_pos hc12, if_neg c73]; done) | (simp only [if_pos hc12, if_neg c73]; done) | (simp only [if_pos hc12, if_neg c73, if_true, if_false]; done) | (exfalso; simp at c73; done))
    by_cases c70 : (xa + xc) < (0 : Int64)
    · refine gIfN X68 hx (hb hby at_81) (q := 84) rfl (XT.ll_ge_f c70) ?_
      refine gIconst X68 hx (1 : Int32) (hb hby at_84) (q := 85) rfl (by decide) ?_
      refine gGoto X68 hx (hb hby at_85) (q := 89) (by decide) (by decide) ?_
      exact J81_72 _ (by first | rfl | (rw [if_pos c70]; done) | (simp only [if_pos hc12, if_pos c70]; done) | (simp only [if_pos hc12, if_pos c70]; done) | (simp only [if_pos hc12, if_pos c70, if_true, if_false]; done) | (exfalso; simp at c70; done))
    · refine gIfY X68 hx (hb hby at_81) (q := 88) (by decide) (by decide) (XT.ll_ge_t c70) ?_
      refine gIconst X68 hx (0 : Int32) (hb hby at_88) (q := 89) rfl (by decide) ?_
      exact J81_72 _ (by first | rfl | (rw [if_neg c70]; done) | (simp only [if_pos hc12, if_neg c70]; done) | (simp only [if_pos hc12, if_neg c70]; done) | (simp only [if_pos hc12, if_neg c70, if_true, if_false]; done) | (exfalso; simp at c70; done))
theorem own_one {l : List Value} {x : Int32} (h : l.length = 1) (e : l[(0 : Int32).toNatClampNeg]? = some (.int x)) : l = [.int x] := by
  match l, h with
  | [y], _ => exact congrArg (fun z => [z]) (Option.some.inj e)
theorem own_at {s : State} {args : Array Value} {t : Term} {a r : Addr} {cl : Cell} {ty : FieldType} {j : Int32} (ev : t.eval args s none [] s = some (.ref a)) (A : Arr s s.heap a cl ty) (h : (Term.elem t (Term.int j)).eval args s none [] s = some (.ref r)) : cl.slots.toList[j.toNatClampNeg]? = some (.ref r) := by
  rw [Array.getElem?_toList]
  exact (elem_in h ev (Term.int_eval j) A.1).2
set_option maxRecDepth 65536 in
set_option maxHeartbeats 40000000 in
theorem comes_1 {Post : Tables → Env → Array Value → State → Outcome → State → Prop} (hpost : ∀ tb e args s v u, (limb_1_1.after args s (.returned v) u = true ∧ limb_1_2.after args s (.returned v) u = true ∧ True) → FrameEnd s (.returned v) u (Jvm.fieldLocs frame_1_writes args s ++ Jvm.arrayLocs frame_1_arrays args s ++ Jvm.staticLocs frame_1_statics s) 32 192 → Post tb e args s (.returned v) u) :
    ArmFor flags0 classFile x code maxLocals ret World_1 tables_1 room_1 Calls_1 rest_1 Pre_1 Post := by
  intro l hfl _ _ p e ha hc hk s m args below hf hA hF happ hP
  obtain ⟨hcalls, hrest, hpre⟩ := hP
  obtain ⟨-, -, -, hnamed, -, -, -, hat⟩ := (Spec.applies_iff hf).mp happ
  obtain ⟨hg, hn⟩ := and_e (Cond.before_iff.mp (show (Jvm.Cond.and given_1 narrow_1).before args s = true from hpre))
  obtain ⟨hcount, hg⟩ := and_e hg
  obtain ⟨hk0, hg⟩ := and_e hg
  obtain ⟨hk1, hg⟩ := and_e hg
  have hk2 := hg
  obtain ⟨w0, w1, w2, rfl⟩ : ∃ w0 w1 w2 : Value, args = #[w0, w1, w2] := by
    have hs : args.size = 3 := by simpa [Cond.value, given_1] using hcount
    obtain ⟨L⟩ := args
    match L, hs with
    | [w0, w1, w2], _ => exact ⟨w0, w1, w2, rfl⟩
  have hw := fun d (hd : d ∈ tables_1) => atoms_spec (ws := Jvm.Cond.code x code maxLocals ret :: tables_1) hat d (List.mem_cons_of_mem _ hd)
  have hfit : Fit s := fun {y c} hc i hi => by
    obtain ⟨ha, rfl⟩ := Array.getElem?_eq_some_iff.mp hc
    have q := List.all_eq_true.mp ((Array.all_eq_true_iff_forall_mem.mp hF) _ (Array.getElem_mem ha)) i (List.mem_range.mpr hi)
    simpa [Array.getElem?_eq_getElem hi] using q
  obtain ⟨i0, hi0⟩ := isL_v hk0
  obtain rfl : w0 = (.long i0) := Option.some.inj hi0
  obtain ⟨i1, hi1⟩ := isL_v hk1
  obtain rfl : w1 = (.long i1) := Option.some.inj hi1
  obtain ⟨i2, hi2⟩ := isL_v hk2
  obtain rfl : w2 = (.long i2) := Option.some.inj hi2
  obtain ⟨hsets, hown0⟩ := atoms_of _ (show (jdkStatics_1.foldr Jvm.Cond.and restOwn_1).before _ s = true from hrest)
  have zE := (Cond.before_iff.mp (hsets _ (List.mem_of_getElem? (i := 112) rfl)))
  obtain ⟨rz, evz⟩ := exa_v zE
  have EZ := Exa.start evz zE
  have SZ := Sta.start evz (Or.inl (hsets _ (List.mem_of_getElem? (i := 111) rfl)))
  have FZ := own_fldI evz (Cond.before_iff.mp (hsets _ (List.mem_of_getElem? (i := 113) rfl)))
  have BZ : own_BI 2 s s.heap rz := ⟨EZ, Or.inl FZ⟩
  have pA := (Cond.before_iff.mp (hsets _ (List.mem_of_getElem? (i := 8) rfl)))
  obtain ⟨rp, evp⟩ := arr_v pA
  have SP := Sta.start evp (Or.inl (hsets _ (List.mem_of_getElem? (i := 1) rfl)))
  obtain ⟨clp, Acp, hlp⟩ := own_arr (M := 17) evp pA (Cond.before_iff.mp (hsets _ (List.mem_of_getElem? (i := 10) rfl))) (by decide)
  have e1E := (Cond.before_iff.mp (hsets _ (List.mem_of_getElem? (i := 12) rfl)))
  obtain ⟨rq1, evq1⟩ := exa_v e1E
  have EQ1 := Exa.start evq1 e1E
  have FQ1 := own_fldI evq1 (Cond.before_iff.mp (hsets _ (List.mem_of_getElem? (i := 13) rfl)))
  have mA1 := (Cond.before_iff.mp (hsets _ (List.mem_of_getElem? (i := 14) rfl)))
  obtain ⟨km1, evm1⟩ := arr_v mA1
  have GQ1 := own_fldR evq1 evm1
  obtain ⟨cm1, Am1, hm1⟩ := own_arr (M := 1) evm1 mA1 (Cond.before_iff.mp (hsets _ (List.mem_of_getElem? (i := 16) rfl))) (by decide)
  have el1 := own_el evm1 Am1 (Cond.before_iff.mp (hsets _ (List.mem_of_getElem? (i := 17) rfl)))
  have BQ1 : own_BI 2 s s.heap rq1 := ⟨EQ1, Or.inr ⟨FQ1, km1, cm1.cls, [(1 : Int32)], GQ1, ⟨cm1, Am1, rfl, own_one hm1 el1⟩, by decide, by decide⟩⟩
  have at1 := own_at evp Acp evq1
  have e2E := (Cond.before_iff.mp (hsets _ (List.mem_of_getElem? (i := 19) rfl)))
  obtain ⟨rq2, evq2⟩ := exa_v e2E
  have EQ2 := Exa.start evq2 e2E
  have FQ2 := own_fldI evq2 (Cond.before_iff.mp (hsets _ (List.mem_of_getElem? (i := 20) rfl)))
  have mA2 := (Cond.before_iff.mp (hsets _ (List.mem_of_getElem? (i := 21) rfl)))
  obtain ⟨km2, evm2⟩ := arr_v mA2
  have GQ2 := own_fldR evq2 evm2
  obtain ⟨cm2, Am2, hm2⟩ := own_arr (M := 1) evm2 mA2 (Cond.before_iff.mp (hsets _ (List.mem_of_getElem? (i := 23) rfl))) (by decide)
  have el2 := own_el evm2 Am2 (Cond.before_iff.mp (hsets _ (List.mem_of_getElem? (i := 24) rfl)))
  have BQ2 : own_BI 2 s s.heap rq2 := ⟨EQ2, Or.inr ⟨FQ2, km2, cm2.cls, [(2 : Int32)], GQ2, ⟨cm2, Am2, rfl, own_one hm2 el2⟩, by decide, by decide⟩⟩
  have at2 := own_at evp Acp evq2
  have e3E := (Cond.before_iff.mp (hsets _ (List.mem_of_getElem? (i := 25) rfl)))
  obtain ⟨rq3, evq3⟩ := exa_v e3E
  have EQ3 := Exa.start evq3 e3E
  have FQ3 := own_fldI evq3 (Cond.before_iff.mp (hsets _ (List.mem_of_getElem? (i := 26) rfl)))
  have mA3 := (Cond.before_iff.mp (hsets _ (List.mem_of_getElem? (i := 27) rfl)))
  obtain ⟨km3, evm3⟩ := arr_v mA3
  have GQ3 := own_fldR evq3 evm3
  obtain ⟨cm3, Am3, hm3⟩ := own_arr (M := 1) evm3 mA3 (Cond.before_iff.mp (hsets _ (List.mem_of_getElem? (i := 29) rfl))) (by decide)
  have el3 := own_el evm3 Am3 (Cond.before_iff.mp (hsets _ (List.mem_of_getElem? (i := 30) rfl)))
  have BQ3 : own_BI 2 s s.heap rq3 := ⟨EQ3, Or.inr ⟨FQ3, km3, cm3.cls, [(3 : Int32)], GQ3, ⟨cm3, Am3, rfl, own_one hm3 el3⟩, by decide, by decide⟩⟩
  have at3 := own_at evp Acp evq3
  have e4E := (Cond.before_iff.mp (hsets _ (List.mem_of_getElem? (i := 31) rfl)))
  obtain ⟨rq4, evq4⟩ := exa_v e4E
  have EQ4 := Exa.start evq4 e4E
  have FQ4 := own_fldI evq4 (Cond.before_iff.mp (hsets _ (List.mem_of_getElem? (i := 32) rfl)))
  have mA4 := (Cond.before_iff.mp (hsets _ (List.mem_of_getElem? (i := 33) rfl)))
  obtain ⟨km4, evm4⟩ := arr_v mA4
  have GQ4 := own_fldR evq4 evm4
  obtain ⟨cm4, Am4, hm4⟩ := own_arr (M := 1) evm4 mA4 (Cond.before_iff.mp (hsets _ (List.mem_of_getElem? (i := 35) rfl))) (by decide)
  have el4 := own_el evm4 Am4 (Cond.before_iff.mp (hsets _ (List.mem_of_getElem? (i := 36) rfl)))
  have BQ4 : own_BI 2 s s.heap rq4 := ⟨EQ4, Or.inr ⟨FQ4, km4, cm4.cls, [(4 : Int32)], GQ4, ⟨cm4, Am4, rfl, own_one hm4 el4⟩, by decide, by decide⟩⟩
  have at4 := own_at evp Acp evq4
  have e5E := (Cond.before_iff.mp (hsets _ (List.mem_of_getElem? (i := 37) rfl)))
  obtain ⟨rq5, evq5⟩ := exa_v e5E
  have EQ5 := Exa.start evq5 e5E
  have FQ5 := own_fldI evq5 (Cond.before_iff.mp (hsets _ (List.mem_of_getElem? (i := 38) rfl)))
  have mA5 := (Cond.before_iff.mp (hsets _ (List.mem_of_getElem? (i := 39) rfl)))
  obtain ⟨km5, evm5⟩ := arr_v mA5
  have GQ5 := own_fldR evq5 evm5
  obtain ⟨cm5, Am5, hm5⟩ := own_arr (M := 1) evm5 mA5 (Cond.before_iff.mp (hsets _ (List.mem_of_getElem? (i := 41) rfl))) (by decide)
  have el5 := own_el evm5 Am5 (Cond.before_iff.mp (hsets _ (List.mem_of_getElem? (i := 42) rfl)))
  have BQ5 : own_BI 2 s s.heap rq5 := ⟨EQ5, Or.inr ⟨FQ5, km5, cm5.cls, [(5 : Int32)], GQ5, ⟨cm5, Am5, rfl, own_one hm5 el5⟩, by decide, by decide⟩⟩
  have at5 := own_at evp Acp evq5
  have e6E := (Cond.before_iff.mp (hsets _ (List.mem_of_getElem? (i := 43) rfl)))
  obtain ⟨rq6, evq6⟩ := exa_v e6E
  have EQ6 := Exa.start evq6 e6E
  have FQ6 := own_fldI evq6 (Cond.before_iff.mp (hsets _ (List.mem_of_getElem? (i := 44) rfl)))
  have mA6 := (Cond.before_iff.mp (hsets _ (List.mem_of_getElem? (i := 45) rfl)))
  obtain ⟨km6, evm6⟩ := arr_v mA6
  have GQ6 := own_fldR evq6 evm6
  obtain ⟨cm6, Am6, hm6⟩ := own_arr (M := 1) evm6 mA6 (Cond.before_iff.mp (hsets _ (List.mem_of_getElem? (i := 47) rfl))) (by decide)
  have el6 := own_el evm6 Am6 (Cond.before_iff.mp (hsets _ (List.mem_of_getElem? (i := 48) rfl)))
  have BQ6 : own_BI 2 s s.heap rq6 := ⟨EQ6, Or.inr ⟨FQ6, km6, cm6.cls, [(6 : Int32)], GQ6, ⟨cm6, Am6, rfl, own_one hm6 el6⟩, by decide, by decide⟩⟩
  have at6 := own_at evp Acp evq6
  have e7E := (Cond.before_iff.mp (hsets _ (List.mem_of_getElem? (i := 49) rfl)))
  obtain ⟨rq7, evq7⟩ := exa_v e7E
  have EQ7 := Exa.start evq7 e7E
  have FQ7 := own_fldI evq7 (Cond.before_iff.mp (hsets _ (List.mem_of_getElem? (i := 50) rfl)))
  have mA7 := (Cond.before_iff.mp (hsets _ (List.mem_of_getElem? (i := 51) rfl)))
  obtain ⟨km7, evm7⟩ := arr_v mA7
  have GQ7 := own_fldR evq7 evm7
  obtain ⟨cm7, Am7, hm7⟩ := own_arr (M := 1) evm7 mA7 (Cond.before_iff.mp (hsets _ (List.mem_of_getElem? (i := 53) rfl))) (by decide)
  have el7 := own_el evm7 Am7 (Cond.before_iff.mp (hsets _ (List.mem_of_getElem? (i := 54) rfl)))
  have BQ7 : own_BI 2 s s.heap rq7 := ⟨EQ7, Or.inr ⟨FQ7, km7, cm7.cls, [(7 : Int32)], GQ7, ⟨cm7, Am7, rfl, own_one hm7 el7⟩, by decide, by decide⟩⟩
  have at7 := own_at evp Acp evq7
  have e8E := (Cond.before_iff.mp (hsets _ (List.mem_of_getElem? (i := 55) rfl)))
  obtain ⟨rq8, evq8⟩ := exa_v e8E
  have EQ8 := Exa.start evq8 e8E
  have FQ8 := own_fldI evq8 (Cond.before_iff.mp (hsets _ (List.mem_of_getElem? (i := 56) rfl)))
  have mA8 := (Cond.before_iff.mp (hsets _ (List.mem_of_getElem? (i := 57) rfl)))
  obtain ⟨km8, evm8⟩ := arr_v mA8
  have GQ8 := own_fldR evq8 evm8
  obtain ⟨cm8, Am8, hm8⟩ := own_arr (M := 1) evm8 mA8 (Cond.before_iff.mp (hsets _ (List.mem_of_getElem? (i := 59) rfl))) (by decide)
  have el8 := own_el evm8 Am8 (Cond.before_iff.mp (hsets _ (List.mem_of_getElem? (i := 60) rfl)))
  have BQ8 : own_BI 2 s s.heap rq8 := ⟨EQ8, Or.inr ⟨FQ8, km8, cm8.cls, [(8 : Int32)], GQ8, ⟨cm8, Am8, rfl, own_one hm8 el8⟩, by decide, by decide⟩⟩
  have at8 := own_at evp Acp evq8
  have e9E := (Cond.before_iff.mp (hsets _ (List.mem_of_getElem? (i := 61) rfl)))
  obtain ⟨rq9, evq9⟩ := exa_v e9E
  have EQ9 := Exa.start evq9 e9E
  have FQ9 := own_fldI evq9 (Cond.before_iff.mp (hsets _ (List.mem_of_getElem? (i := 62) rfl)))
  have mA9 := (Cond.before_iff.mp (hsets _ (List.mem_of_getElem? (i := 63) rfl)))
  obtain ⟨km9, evm9⟩ := arr_v mA9
  have GQ9 := own_fldR evq9 evm9
  obtain ⟨cm9, Am9, hm9⟩ := own_arr (M := 1) evm9 mA9 (Cond.before_iff.mp (hsets _ (List.mem_of_getElem? (i := 65) rfl))) (by decide)
  have el9 := own_el evm9 Am9 (Cond.before_iff.mp (hsets _ (List.mem_of_getElem? (i := 66) rfl)))
  have BQ9 : own_BI 2 s s.heap rq9 := ⟨EQ9, Or.inr ⟨FQ9, km9, cm9.cls, [(9 : Int32)], GQ9, ⟨cm9, Am9, rfl, own_one hm9 el9⟩, by decide, by decide⟩⟩
  have at9 := own_at evp Acp evq9
  have e10E := (Cond.before_iff.mp (hsets _ (List.mem_of_getElem? (i := 68) rfl)))
  obtain ⟨rq10, evq10⟩ := exa_v e10E
  have EQ10 := Exa.start evq10 e10E
  have FQ10 := own_fldI evq10 (Cond.before_iff.mp (hsets _ (List.mem_of_getElem? (i := 69) rfl)))
  have mA10 := (Cond.before_iff.mp (hsets _ (List.mem_of_getElem? (i := 70) rfl)))
  obtain ⟨km10, evm10⟩ := arr_v mA10
  have GQ10 := own_fldR evq10 evm10
  obtain ⟨cm10, Am10, hm10⟩ := own_arr (M := 1) evm10 mA10 (Cond.before_iff.mp (hsets _ (List.mem_of_getElem? (i := 72) rfl))) (by decide)
  have el10 := own_el evm10 Am10 (Cond.before_iff.mp (hsets _ (List.mem_of_getElem? (i := 73) rfl)))
  have BQ10 : own_BI 2 s s.heap rq10 := ⟨EQ10, Or.inr ⟨FQ10, km10, cm10.cls, [(10 : Int32)], GQ10, ⟨cm10, Am10, rfl, own_one hm10 el10⟩, by decide, by decide⟩⟩
  have at10 := own_at evp Acp evq10
  have e11E := (Cond.before_iff.mp (hsets _ (List.mem_of_getElem? (i := 74) rfl)))
  obtain ⟨rq11, evq11⟩ := exa_v e11E
  have EQ11 := Exa.start evq11 e11E
  have FQ11 := own_fldI evq11 (Cond.before_iff.mp (hsets _ (List.mem_of_getElem? (i := 75) rfl)))
  have mA11 := (Cond.before_iff.mp (hsets _ (List.mem_of_getElem? (i := 76) rfl)))
  obtain ⟨km11, evm11⟩ := arr_v mA11
  have GQ11 := own_fldR evq11 evm11
  obtain ⟨cm11, Am11, hm11⟩ := own_arr (M := 1) evm11 mA11 (Cond.before_iff.mp (hsets _ (List.mem_of_getElem? (i := 78) rfl))) (by decide)
  have el11 := own_el evm11 Am11 (Cond.before_iff.mp (hsets _ (List.mem_of_getElem? (i := 79) rfl)))
  have BQ11 : own_BI 2 s s.heap rq11 := ⟨EQ11, Or.inr ⟨FQ11, km11, cm11.cls, [(11 : Int32)], GQ11, ⟨cm11, Am11, rfl, own_one hm11 el11⟩, by decide, by decide⟩⟩
  have at11 := own_at evp Acp evq11
  have e12E := (Cond.before_iff.mp (hsets _ (List.mem_of_getElem? (i := 80) rfl)))
  obtain ⟨rq12, evq12⟩ := exa_v e12E
  have EQ12 := Exa.start evq12 e12E
  have FQ12 := own_fldI evq12 (Cond.before_iff.mp (hsets _ (List.mem_of_getElem? (i := 81) rfl)))
  have mA12 := (Cond.before_iff.mp (hsets _ (List.mem_of_getElem? (i := 82) rfl)))
  obtain ⟨km12, evm12⟩ := arr_v mA12
  have GQ12 := own_fldR evq12 evm12
  obtain ⟨cm12, Am12, hm12⟩ := own_arr (M := 1) evm12 mA12 (Cond.before_iff.mp (hsets _ (List.mem_of_getElem? (i := 84) rfl))) (by decide)
  have el12 := own_el evm12 Am12 (Cond.before_iff.mp (hsets _ (List.mem_of_getElem? (i := 85) rfl)))
  have BQ12 : own_BI 2 s s.heap rq12 := ⟨EQ12, Or.inr ⟨FQ12, km12, cm12.cls, [(12 : Int32)], GQ12, ⟨cm12, Am12, rfl, own_one hm12 el12⟩, by decide, by decide⟩⟩
  have at12 := own_at evp Acp evq12
  have e13E := (Cond.before_iff.mp (hsets _ (List.mem_of_getElem? (i := 86) rfl)))
  obtain ⟨rq13, evq13⟩ := exa_v e13E
  have EQ13 := Exa.start evq13 e13E
  have FQ13 := own_fldI evq13 (Cond.before_iff.mp (hsets _ (List.mem_of_getElem? (i := 87) rfl)))
  have mA13 := (Cond.before_iff.mp (hsets _ (List.mem_of_getElem? (i := 88) rfl)))
  obtain ⟨km13, evm13⟩ := arr_v mA13
  have GQ13 := own_fldR evq13 evm13
  obtain ⟨cm13, Am13, hm13⟩ := own_arr (M := 1) evm13 mA13 (Cond.before_iff.mp (hsets _ (List.mem_of_getElem? (i := 90) rfl))) (by decide)
  have el13 := own_el evm13 Am13 (Cond.before_iff.mp (hsets _ (List.mem_of_getElem? (i := 91) rfl)))
  have BQ13 : own_BI 2 s s.heap rq13 := ⟨EQ13, Or.inr ⟨FQ13, km13, cm13.cls, [(13 : Int32)], GQ13, ⟨cm13, Am13, rfl, own_one hm13 el13⟩, by decide, by decide⟩⟩
  have at13 := own_at evp Acp evq13
  have e14E := (Cond.before_iff.mp (hsets _ (List.mem_of_getElem? (i := 92) rfl)))
  obtain ⟨rq14, evq14⟩ := exa_v e14E
  have EQ14 := Exa.start evq14 e14E
  have FQ14 := own_fldI evq14 (Cond.before_iff.mp (hsets _ (List.mem_of_getElem? (i := 93) rfl)))
  have mA14 := (Cond.before_iff.mp (hsets _ (List.mem_of_getElem? (i := 94) rfl)))
  obtain ⟨km14, evm14⟩ := arr_v mA14
  have GQ14 := own_fldR evq14 evm14
  obtain ⟨cm14, Am14, hm14⟩ := own_arr (M := 1) evm14 mA14 (Cond.before_iff.mp (hsets _ (List.mem_of_getElem? (i := 96) rfl))) (by decide)
  have el14 := own_el evm14 Am14 (Cond.before_iff.mp (hsets _ (List.mem_of_getElem? (i := 97) rfl)))
  have BQ14 : own_BI 2 s s.heap rq14 := ⟨EQ14, Or.inr ⟨FQ14, km14, cm14.cls, [(14 : Int32)], GQ14, ⟨cm14, Am14, rfl, own_one hm14 el14⟩, by decide, by decide⟩⟩
  have at14 := own_at evp Acp evq14
  have e15E := (Cond.before_iff.mp (hsets _ (List.mem_of_getElem? (i := 98) rfl)))
  obtain ⟨rq15, evq15⟩ := exa_v e15E
  have EQ15 := Exa.start evq15 e15E
  have FQ15 := own_fldI evq15 (Cond.before_iff.mp (hsets _ (List.mem_of_getElem? (i := 99) rfl)))
  have mA15 := (Cond.before_iff.mp (hsets _ (List.mem_of_getElem? (i := 100) rfl)))
  obtain ⟨km15, evm15⟩ := arr_v mA15
  have GQ15 := own_fldR evq15 evm15
  obtain ⟨cm15, Am15, hm15⟩ := own_arr (M := 1) evm15 mA15 (Cond.before_iff.mp (hsets _ (List.mem_of_getElem? (i := 102) rfl))) (by decide)
  have el15 := own_el evm15 Am15 (Cond.before_iff.mp (hsets _ (List.mem_of_getElem? (i := 103) rfl)))
  have BQ15 : own_BI 2 s s.heap rq15 := ⟨EQ15, Or.inr ⟨FQ15, km15, cm15.cls, [(15 : Int32)], GQ15, ⟨cm15, Am15, rfl, own_one hm15 el15⟩, by decide, by decide⟩⟩
  have at15 := own_at evp Acp evq15
  have e16E := (Cond.before_iff.mp (hsets _ (List.mem_of_getElem? (i := 104) rfl)))
  obtain ⟨rq16, evq16⟩ := exa_v e16E
  have EQ16 := Exa.start evq16 e16E
  have FQ16 := own_fldI evq16 (Cond.before_iff.mp (hsets _ (List.mem_of_getElem? (i := 105) rfl)))
  have mA16 := (Cond.before_iff.mp (hsets _ (List.mem_of_getElem? (i := 106) rfl)))
  obtain ⟨km16, evm16⟩ := arr_v mA16
  have GQ16 := own_fldR evq16 evm16
  obtain ⟨cm16, Am16, hm16⟩ := own_arr (M := 1) evm16 mA16 (Cond.before_iff.mp (hsets _ (List.mem_of_getElem? (i := 108) rfl))) (by decide)
  have el16 := own_el evm16 Am16 (Cond.before_iff.mp (hsets _ (List.mem_of_getElem? (i := 109) rfl)))
  have BQ16 : own_BI 2 s s.heap rq16 := ⟨EQ16, Or.inr ⟨FQ16, km16, cm16.cls, [(16 : Int32)], GQ16, ⟨cm16, Am16, rfl, own_one hm16 el16⟩, by decide, by decide⟩⟩
  have at16 := own_at evp Acp evq16
  have HP : clp.slots.toList.length = 17 ∧ ∀ j : Nat, 1 ≤ j → j ≤ 16 → ∃ r, clp.slots.toList[j]? = some (.ref r) ∧ own_BI 2 s s.heap r := by
    refine ⟨hlp, fun j h1 h2 => ?_⟩
    have hj : j = 1 ∨ j = 2 ∨ j = 3 ∨ j = 4 ∨ j = 5 ∨ j = 6 ∨ j = 7 ∨ j = 8 ∨ j = 9 ∨ j = 10 ∨ j = 11 ∨ j = 12 ∨ j = 13 ∨ j = 14 ∨ j = 15 ∨ j = 16 := by omega
    rcases hj with rfl | rfl | rfl | rfl | rfl | rfl | rfl | rfl | rfl | rfl | rfl | rfl | rfl | rfl | rfl | rfl
    · exact ⟨rq1, at1, BQ1⟩
    · exact ⟨rq2, at2, BQ2⟩
    · exact ⟨rq3, at3, BQ3⟩
    · exact ⟨rq4, at4, BQ4⟩
    · exact ⟨rq5, at5, BQ5⟩
    · exact ⟨rq6, at6, BQ6⟩
    · exact ⟨rq7, at7, BQ7⟩
    · exact ⟨rq8, at8, BQ8⟩
    · exact ⟨rq9, at9, BQ9⟩
    · exact ⟨rq10, at10, BQ10⟩
    · exact ⟨rq11, at11, BQ11⟩
    · exact ⟨rq12, at12, BQ12⟩
    · exact ⟨rq13, at13, BQ13⟩
    · exact ⟨rq14, at14, BQ14⟩
    · exact ⟨rq15, at15, BQ15⟩
    · exact ⟨rq16, at16, BQ16⟩
  obtain ⟨n, o, h1, h2, h3, _, L, rfl, ⟨rfl, N⟩, hq⟩ := rm0 l s _ hw tables_1 i0 i1 i2 rz rp clp.cls clp.slots.toList s.heap s.heap.size (Nat.le_refl _) SZ BZ SP ⟨clp, Acp, rfl, rfl⟩ HP (Old.start s) p e ha hc hk s m _ below hf ((Spec.applies_iff_loose hf).mp happ).1 ⟨rfl, State.Warmed39.refl s, rfl⟩ trivial
  refine ⟨n, _, h1, h2, h3, hpost _ _ _ _ _ _ ⟨Cond.after_iff.mpr rfl, Cond.after_iff.mpr (eq_i res_at (Term.int_eval (1)) rfl), trivial⟩ ⟨hq.1, hq.2.1, (hq.2.2.sift fun y hy => Or.inr (N y hy)).mono (by decide) (by decide)⟩⟩
theorem main_1_1 : Claimed_1_1 := comes_1 fun _ _ _ _ _ _ h hF => ⟨h.1, hF⟩
theorem main_1_2 : Claimed_1_2 := comes_1 fun _ _ _ _ _ _ h hF => ⟨h.2.1, hF⟩
end Jvm.Pilot.@@N@@
namespace Jvm.Pilot.@@N@@
open Jvm Jvm.ClassFile Sem Op Lib Jvm.Free Jvm.Stand Jvm.Pilot.@@N@@.Jvm.D
/-! MADE BY PROGRAM (witnessworld.py) out of the Statement's table words and the real class files: 14 classes; the members and pool entries that the words name. The judged class is class 1, her method 1. -/
namespace start1
open Jvm.ClassFile
def u (s : String) : CpInfo := .utf8 (stringToUtf16 s)
/-- a pool by its gaps: so many unusable entries, then the entry; so many at the end -/
def gap : Nat → List CpInfo → List CpInfo
  | 0, r => r
  | n + 1, r => .unusable :: gap n r
def poolList (es : List (Nat × CpInfo)) (last : Nat) : List CpInfo := es.foldr (fun e r => gap e.1 (e.2 :: r)) (gap last [])
def pool (es : List (Nat × CpInfo)) (last : Nat) : Array CpInfo := ⟨poolList es last⟩
def fileOf (pool : Array CpInfo) (this : Nat) (attrs : Array Attribute := #[]) (ms : Array MethodInfo := #[]) (fl : Nat := 33) (sup : Nat := 0) (ifs : Array Nat := #[]) (fds : Array FieldInfo := #[]) : ClassFile where
  minorVersion := 0
  majorVersion := 65
  constantPool := pool
  accessFlags := fl
  thisClass := this
  superClass := sup
  interfaces := ifs
  fields := fds
  methods := ms
  attributes := attrs
def plain (name : String) (sup : Option ClassId) : Class where
  name := name
  kind := .ordinary
  loader := none
  accessFlags := 33
  super := sup
  interfaces := #[]
  cf := none
  fields := #[]
  methods := #[]
  instanceTypes := #[]
  staticTypes := #[]
  resolved := #[]
  callSites := []
  init := .initialized
  statics := none
  mirror := none

def pool0 : Array CpInfo := pool [(5, u "<init>"), (0, u "()V"), (1, .class_ 10), (1, u "java/lang/Object")] 113

def k0c0 : Code := { maxStack := 0, maxLocals := 1, code := object_method_1_code, exceptionTable := #[], attributes := #[] }
def k0m0 : Method := { name := "<init>", desc := "()V", sig := { parameters := [], returnType := none }, accessFlags := 1, code := some k0c0 }
/-- java/lang/Object -/
def k0 : Class := { plain "java/lang/Object" none with
  accessFlags := 33
  interfaces := #[]
  cf := some (fileOf pool0 8 #[] #[{ accessFlags := 1, nameIndex := 5, descriptorIndex := 6, attributes := #[] }] 33 0 #[] #[])
  fields := #[]
  methods := #[k0m0]
  instanceTypes := #[]
  staticTypes := #[]
  resolved := Array.replicate 124 none
  statics := none }

def pool1 : Array CpInfo := pool [(2, .class_ 4), (1, u "java/lang/Object"), (0, u "<init>"), (0, u "()V"), (2, .long 9223372036854775807), (1, .class_ 12), (0, u "com/example/gangway/gangway/Extent"), (0, .methodref 11 14), (0, .nameAndType 5 15), (0, u "(J)V"), (0, .methodref 11 17), (0, .nameAndType 18 19), (0, u "value"), (0, u "()J"), (0, .methodref 11 21), (0, .nameAndType 22 15), (0, u "add"), (0, .long 18446744073709551615), (1, .class_ 26), (0, u "com/example/gangway/gangway/ExtentValuePinLaw"), (2, u "law"), (0, u "(JJJ)Z")] 3

def k1m0 : Method := { name := "<init>", desc := "()V", sig := { parameters := [], returnType := none }, accessFlags := 1, code := none }
def k1c1 : Code := { maxStack := 4, maxLocals := 31, code := code, exceptionTable := #[], attributes := #[] }
def k1m1 : Method := { name := "law", desc := "(JJJ)Z", sig := { parameters := [.long, .long, .long], returnType := some .boolean }, accessFlags := 9, code := some k1c1 }
/-- com/example/gangway/gangway/ExtentValuePinLaw -/
def k1 : Class := { plain "com/example/gangway/gangway/ExtentValuePinLaw" (some 0) with
  accessFlags := 49
  interfaces := #[]
  cf := some (fileOf pool1 25 #[] #[{ accessFlags := 1, nameIndex := 5, descriptorIndex := 6, attributes := #[] }, { accessFlags := 9, nameIndex := 29, descriptorIndex := 30, attributes := #[] }] 49 2 #[] #[])
  fields := #[]
  methods := #[k1m0, k1m1]
  instanceTypes := #[]
  staticTypes := #[]
  resolved := Array.replicate 34 none
  statics := none }

def pool2 : Array CpInfo := pool [(1, .methodref 2 3), (0, .class_ 4), (0, .nameAndType 5 6), (0, u "java/lang/Object"), (0, u "<init>"), (0, u "()V"), (0, .fieldref 8 9), (0, .class_ 10), (0, .nameAndType 11 12), (0, u "com/example/gangway/gangway/Extent"), (0, u "bytes"), (0, u "J"), (0, .fieldref 8 14), (0, .nameAndType 15 16), (0, u "large"), (0, u "Ljava/math/BigInteger;"), (2, .long 18446744073709551615), (1, .methodref 22 23), (0, .class_ 24), (0, .nameAndType 25 26), (0, u "java/math/BigInteger"), (0, u "valueOf"), (0, u "(J)Ljava/math/BigInteger;"), (3, u "()J"), (0, .methodref 8 32), (0, .nameAndType 33 34), (0, u "exact"), (0, u "()Ljava/math/BigInteger;"), (3, .methodref 22 39), (0, .nameAndType 40 41), (0, u "add"), (0, u "(Ljava/math/BigInteger;)Ljava/math/BigInteger;"), (2, u "(J)V"), (0, .long 9223372036854775807), (18, u "value")] 6

def k2c0 : Code := { maxStack := 3, maxLocals := 3, code := prog_44_method_1_code, exceptionTable := #[], attributes := #[] }
def k2m0 : Method := { name := "<init>", desc := "(J)V", sig := { parameters := [.long], returnType := none }, accessFlags := 0, code := some k2c0 }
def k2c1 : Code := { maxStack := 2, maxLocals := 1, code := prog_44_method_2_code, exceptionTable := #[], attributes := #[] }
def k2m1 : Method := { name := "value", desc := "()J", sig := { parameters := [], returnType := some .long }, accessFlags := 0, code := some k2c1 }
def k2c2 : Code := { maxStack := 2, maxLocals := 1, code := prog_44_method_3_code, exceptionTable := #[], attributes := #[] }
def k2m2 : Method := { name := "exact", desc := "()Ljava/math/BigInteger;", sig := { parameters := [], returnType := some (.object "java/math/BigInteger") }, accessFlags := 0, code := some k2c2 }
def k2c3 : Code := { maxStack := 6, maxLocals := 3, code := prog_44_method_5_code, exceptionTable := #[], attributes := #[] }
def k2m3 : Method := { name := "add", desc := "(J)V", sig := { parameters := [.long], returnType := none }, accessFlags := 0, code := some k2c3 }
/-- com/example/gangway/gangway/Extent -/
def k2 : Class := { plain "com/example/gangway/gangway/Extent" (some 0) with
  accessFlags := 48
  interfaces := #[]
  cf := some (fileOf pool2 8 #[] #[{ accessFlags := 0, nameIndex := 5, descriptorIndex := 44, attributes := #[] }, { accessFlags := 0, nameIndex := 64, descriptorIndex := 30, attributes := #[] }, { accessFlags := 0, nameIndex := 33, descriptorIndex := 34, attributes := #[] }, { accessFlags := 0, nameIndex := 40, descriptorIndex := 44, attributes := #[] }] 48 2 #[] #[{ accessFlags := 2, nameIndex := 11, descriptorIndex := 12, attributes := #[] }, { accessFlags := 2, nameIndex := 15, descriptorIndex := 16, attributes := #[] }])
  fields := #[{ name := "bytes", type := .long, accessFlags := 2, slot := 0, constantValue := 0 }, { name := "large", type := (.object "java/math/BigInteger"), accessFlags := 2, slot := 1, constantValue := 0 }]
  methods := #[k2m0, k2m1, k2m2, k2m3]
  instanceTypes := #[.long, (.object "java/math/BigInteger")]
  staticTypes := #[]
  resolved := Array.replicate 71 none
  statics := none }

def pool3 : Array CpInfo := pool [(1, .class_ 2), (0, u "java/io/Serializable"), (0, .class_ 4), (0, u "java/lang/Object")] 2

/-- java/io/Serializable -/
def k3 : Class := { plain "java/io/Serializable" (some 0) with
  accessFlags := 1537
  interfaces := #[]
  cf := some (fileOf pool3 1 #[] #[] 1537 3 #[] #[])
  fields := #[]
  methods := #[]
  instanceTypes := #[]
  staticTypes := #[]
  resolved := Array.replicate 7 none
  statics := none }

def pool4 : Array CpInfo := pool [(1, .methodref 2 3), (0, .class_ 4), (0, .nameAndType 5 6), (0, u "java/lang/Object"), (0, u "<init>"), (0, u "()V"), (1, .class_ 10), (1, u "java/lang/Number"), (2, .class_ 14), (0, u "java/io/Serializable"), (0, u "serialVersionUID"), (0, u "J")] 20

def k4c0 : Code := { maxStack := 1, maxLocals := 1, code := jdk_18_method_1_code, exceptionTable := #[], attributes := #[] }
def k4m0 : Method := { name := "<init>", desc := "()V", sig := { parameters := [], returnType := none }, accessFlags := 1, code := some k4c0 }
/-- java/lang/Number -/
def k4 : Class := { plain "java/lang/Number" (some 0) with
  accessFlags := 1057
  interfaces := #[3]
  cf := some (fileOf pool4 8 #[] #[{ accessFlags := 1, nameIndex := 5, descriptorIndex := 6, attributes := #[] }] 1057 2 #[13] #[{ accessFlags := 26, nameIndex := 15, descriptorIndex := 16, attributes := #[] }])
  fields := #[{ name := "serialVersionUID", type := .long, accessFlags := 26, slot := 0, constantValue := 0 }]
  methods := #[k4m0]
  instanceTypes := #[]
  staticTypes := #[.long]
  resolved := Array.replicate 37 none
  statics := none }

def pool5 : Array CpInfo := pool [(1, .class_ 2), (0, u "java/lang/Comparable"), (0, .class_ 4), (0, u "java/lang/Object")] 7

/-- java/lang/Comparable -/
def k5 : Class := { plain "java/lang/Comparable" (some 0) with
  accessFlags := 1537
  interfaces := #[]
  cf := some (fileOf pool5 1 #[] #[] 1537 3 #[] #[])
  fields := #[]
  methods := #[]
  instanceTypes := #[]
  staticTypes := #[]
  resolved := Array.replicate 12 none
  statics := none }

def pool6 : Array CpInfo := pool [(3, .methodref 4 5), (0, .class_ 6), (0, .nameAndType 7 8), (0, u "java/lang/Number"), (0, u "<init>"), (0, u "()V"), (13, .fieldref 23 24), (0, .class_ 25), (0, .nameAndType 26 27), (0, u "java/math/BigInteger"), (0, u "ZERO"), (0, u "Ljava/math/BigInteger;"), (0, .fieldref 23 29), (0, .nameAndType 30 31), (0, u "mag"), (0, u "[I"), (0, .fieldref 23 33), (0, .nameAndType 34 35), (0, u "signum"), (0, u "I"), (7, .integer 67108864), (51, u "bitsPerDigit"), (0, u "[J"), (9, u "digitsPerInt"), (12, u "intRadix"), (10, .long 4294967295), (44, .methodref 23 176), (0, .nameAndType 7 177), (0, u "([II)V"), (2, u "SMALL_PRIME_PRODUCT"), (3, u "(Ljava/math/BigInteger;)Ljava/math/BigInteger;"), (52, u "valueOf"), (0, u "(J)Ljava/math/BigInteger;"), (2, u "add"), (18, u "ONE"), (6, u "TWO"), (43, u "$assertionsDisabled"), (0, u "Z"), (32, .long 16), (1, .fieldref 23 348), (0, .nameAndType 349 350), (0, u "posConst"), (0, u "[Ljava/math/BigInteger;"), (4, u "negConst"), (0, .methodref 23 357), (0, .nameAndType 7 358), (0, u "(J)V"), (3, .methodref 23 363), (0, .nameAndType 241 364), (0, u "([I[I)[I"), (23, .methodref 389 390), (0, .class_ 391), (0, .nameAndType 392 393), (0, u "java/lang/System"), (0, u "arraycopy"), (0, u "(Ljava/lang/Object;ILjava/lang/Object;II)V"), (78, .class_ 474), (1, u "java/math/BigInteger$RecursiveOp"), (106, u "NEGATIVE_ONE"), (91, u "bnExpModThreshTable"), (72, u "lowestSetBitPlusTwo"), (2, u "bitLengthPlusOne"), (2, u "bitCountPlusOne"), (6, u "LOG_TWO"), (0, u "D"), (2, u "logCache"), (0, u "[D"), (13, u "NUM_ZEROS"), (2, u "ZEROS"), (0, u "Ljava/lang/String;"), (9, u "longRadix"), (5, u "digitsPerLong"), (22, u "powerCache"), (0, u "[[Ljava/math/BigInteger;"), (45, u "firstNonzeroIntNumPlusTwo"), (38, .class_ 909), (1, u "java/math/BigInteger$UnsafeHolder"), (141, u "TEN"), (106, u "serialPersistentFields"), (0, u "[Ljava/io/ObjectStreamField;"), (0, .class_ 1161), (0, u "java/lang/Comparable"), (0, u "LONG_MASK"), (0, u "J"), (1, u "MAX_MAG_LENGTH"), (0, u "PRIME_SEARCH_BIT_LENGTH_LIMIT"), (1, u "KARATSUBA_THRESHOLD"), (1, u "TOOM_COOK_THRESHOLD"), (1, u "KARATSUBA_SQUARE_THRESHOLD"), (1, u "TOOM_COOK_SQUARE_THRESHOLD"), (1, u "BURNIKEL_ZIEGLER_THRESHOLD"), (0, u "BURNIKEL_ZIEGLER_OFFSET"), (1, u "SCHOENHAGE_BASE_CONVERSION_THRESHOLD"), (1, u "MULTIPLY_SQUARE_THRESHOLD"), (0, u "MONTGOMERY_INTRINSIC_THRESHOLD"), (1, u "SMALL_PRIME_THRESHOLD"), (1, u "DEFAULT_PRIME_CERTAINTY"), (1, u "MAX_CONSTANT"), (3, u "serialVersionUID"), (338, .class_ 1532), (0, u "java/math/BigInteger$RecursiveOp$RecursiveSquare"), (0, .class_ 1534), (0, u "java/math/BigInteger$RecursiveOp$RecursiveMultiply")] 7

def k6c0 : Code := { maxStack := 2, maxLocals := 3, code := jdk_2097_method_25_code, exceptionTable := #[], attributes := #[] }
def k6m0 : Method := { name := "<init>", desc := "([II)V", sig := { parameters := [(.array .int), .int], returnType := none }, accessFlags := 0, code := some k6c0 }
def k6c1 : Code := { maxStack := 4, maxLocals := 2, code := jdk_2097_method_29_code, exceptionTable := #[], attributes := #[] }
def k6m1 : Method := { name := "valueOf", desc := "(J)Ljava/math/BigInteger;", sig := { parameters := [.long], returnType := some (.object "java/math/BigInteger") }, accessFlags := 9, code := some k6c1 }
def k6c2 : Code := { maxStack := 4, maxLocals := 4, code := jdk_2097_method_30_code, exceptionTable := #[], attributes := #[] }
def k6m2 : Method := { name := "<init>", desc := "(J)V", sig := { parameters := [.long], returnType := none }, accessFlags := 2, code := some k6c2 }
def k6c3 : Code := { maxStack := 5, maxLocals := 4, code := jdk_2097_method_32_code, exceptionTable := #[], attributes := #[] }
def k6m3 : Method := { name := "add", desc := "(Ljava/math/BigInteger;)Ljava/math/BigInteger;", sig := { parameters := [(.object "java/math/BigInteger")], returnType := some (.object "java/math/BigInteger") }, accessFlags := 1, code := some k6c3 }
def k6c4 : Code := { maxStack := 6, maxLocals := 9, code := jdk_2097_method_35_code, exceptionTable := #[], attributes := #[] }
def k6m4 : Method := { name := "add", desc := "([I[I)[I", sig := { parameters := [(.array .int), (.array .int)], returnType := some (.array .int) }, accessFlags := 10, code := some k6c4 }
/-- java/math/BigInteger -/
def k6 : Class := { plain "java/math/BigInteger" (some 4) with
  accessFlags := 33
  interfaces := #[5]
  cf := some (fileOf pool6 23 #[.nestMembers #[907, 472, 1531, 1533]] #[{ accessFlags := 0, nameIndex := 7, descriptorIndex := 177, attributes := #[] }, { accessFlags := 9, nameIndex := 237, descriptorIndex := 238, attributes := #[] }, { accessFlags := 2, nameIndex := 7, descriptorIndex := 358, attributes := #[] }, { accessFlags := 1, nameIndex := 241, descriptorIndex := 184, attributes := #[] }, { accessFlags := 10, nameIndex := 241, descriptorIndex := 364, attributes := #[] }] 33 4 #[1160] #[{ accessFlags := 16, nameIndex := 34, descriptorIndex := 35, attributes := #[] }, { accessFlags := 16, nameIndex := 30, descriptorIndex := 31, attributes := #[] }, { accessFlags := 2, nameIndex := 752, descriptorIndex := 35, attributes := #[] }, { accessFlags := 2, nameIndex := 749, descriptorIndex := 35, attributes := #[] }, { accessFlags := 2, nameIndex := 746, descriptorIndex := 35, attributes := #[] }, { accessFlags := 2, nameIndex := 868, descriptorIndex := 35, attributes := #[] }, { accessFlags := 24, nameIndex := 1162, descriptorIndex := 1163, attributes := #[] }, { accessFlags := 26, nameIndex := 1165, descriptorIndex := 35, attributes := #[] }, { accessFlags := 26, nameIndex := 1166, descriptorIndex := 35, attributes := #[] }, { accessFlags := 26, nameIndex := 1168, descriptorIndex := 35, attributes := #[] }, { accessFlags := 26, nameIndex := 1170, descriptorIndex := 35, attributes := #[] }, { accessFlags := 26, nameIndex := 1172, descriptorIndex := 35, attributes := #[] }, { accessFlags := 26, nameIndex := 1174, descriptorIndex := 35, attributes := #[] }, { accessFlags := 24, nameIndex := 1176, descriptorIndex := 35, attributes := #[] }, { accessFlags := 24, nameIndex := 1177, descriptorIndex := 35, attributes := #[] }, { accessFlags := 26, nameIndex := 1179, descriptorIndex := 35, attributes := #[] }, { accessFlags := 26, nameIndex := 1181, descriptorIndex := 35, attributes := #[] }, { accessFlags := 26, nameIndex := 1182, descriptorIndex := 35, attributes := #[] }, { accessFlags := 10, nameIndex := 95, descriptorIndex := 96, attributes := #[] }, { accessFlags := 26, nameIndex := 1184, descriptorIndex := 35, attributes := #[] }, { accessFlags := 26, nameIndex := 1186, descriptorIndex := 35, attributes := #[] }, { accessFlags := 26, nameIndex := 180, descriptorIndex := 27, attributes := #[] }, { accessFlags := 26, nameIndex := 1188, descriptorIndex := 35, attributes := #[] }, { accessFlags := 26, nameIndex := 349, descriptorIndex := 350, attributes := #[] }, { accessFlags := 26, nameIndex := 355, descriptorIndex := 350, attributes := #[] }, { accessFlags := 74, nameIndex := 821, descriptorIndex := 822, attributes := #[] }, { accessFlags := 26, nameIndex := 763, descriptorIndex := 764, attributes := #[] }, { accessFlags := 26, nameIndex := 759, descriptorIndex := 760, attributes := #[] }, { accessFlags := 25, nameIndex := 26, descriptorIndex := 27, attributes := #[] }, { accessFlags := 25, nameIndex := 260, descriptorIndex := 27, attributes := #[] }, { accessFlags := 25, nameIndex := 267, descriptorIndex := 27, attributes := #[] }, { accessFlags := 26, nameIndex := 581, descriptorIndex := 27, attributes := #[] }, { accessFlags := 25, nameIndex := 1051, descriptorIndex := 27, attributes := #[] }, { accessFlags := 8, nameIndex := 673, descriptorIndex := 31, attributes := #[] }, { accessFlags := 10, nameIndex := 778, descriptorIndex := 35, attributes := #[] }, { accessFlags := 26, nameIndex := 781, descriptorIndex := 782, attributes := #[] }, { accessFlags := 10, nameIndex := 798, descriptorIndex := 31, attributes := #[] }, { accessFlags := 10, nameIndex := 792, descriptorIndex := 350, attributes := #[] }, { accessFlags := 10, nameIndex := 106, descriptorIndex := 31, attributes := #[] }, { accessFlags := 10, nameIndex := 119, descriptorIndex := 31, attributes := #[] }, { accessFlags := 26, nameIndex := 1192, descriptorIndex := 1163, attributes := #[] }, { accessFlags := 26, nameIndex := 1158, descriptorIndex := 1159, attributes := #[] }, { accessFlags := 4120, nameIndex := 311, descriptorIndex := 312, attributes := #[] }])
  fields := #[{ name := "signum", type := .int, accessFlags := 16, slot := 0, constantValue := 0 }, { name := "mag", type := (.array .int), accessFlags := 16, slot := 1, constantValue := 0 }, { name := "bitCountPlusOne", type := .int, accessFlags := 2, slot := 2, constantValue := 0 }, { name := "bitLengthPlusOne", type := .int, accessFlags := 2, slot := 3, constantValue := 0 }, { name := "lowestSetBitPlusTwo", type := .int, accessFlags := 2, slot := 4, constantValue := 0 }, { name := "firstNonzeroIntNumPlusTwo", type := .int, accessFlags := 2, slot := 5, constantValue := 0 }, { name := "LONG_MASK", type := .long, accessFlags := 24, slot := 0, constantValue := 0 }, { name := "MAX_MAG_LENGTH", type := .int, accessFlags := 26, slot := 1, constantValue := 0 }, { name := "PRIME_SEARCH_BIT_LENGTH_LIMIT", type := .int, accessFlags := 26, slot := 2, constantValue := 0 }, { name := "KARATSUBA_THRESHOLD", type := .int, accessFlags := 26, slot := 3, constantValue := 0 }, { name := "TOOM_COOK_THRESHOLD", type := .int, accessFlags := 26, slot := 4, constantValue := 0 }, { name := "KARATSUBA_SQUARE_THRESHOLD", type := .int, accessFlags := 26, slot := 5, constantValue := 0 }, { name := "TOOM_COOK_SQUARE_THRESHOLD", type := .int, accessFlags := 26, slot := 6, constantValue := 0 }, { name := "BURNIKEL_ZIEGLER_THRESHOLD", type := .int, accessFlags := 24, slot := 7, constantValue := 0 }, { name := "BURNIKEL_ZIEGLER_OFFSET", type := .int, accessFlags := 24, slot := 8, constantValue := 0 }, { name := "SCHOENHAGE_BASE_CONVERSION_THRESHOLD", type := .int, accessFlags := 26, slot := 9, constantValue := 0 }, { name := "MULTIPLY_SQUARE_THRESHOLD", type := .int, accessFlags := 26, slot := 10, constantValue := 0 }, { name := "MONTGOMERY_INTRINSIC_THRESHOLD", type := .int, accessFlags := 26, slot := 11, constantValue := 0 }, { name := "bitsPerDigit", type := (.array .long), accessFlags := 10, slot := 12, constantValue := 0 }, { name := "SMALL_PRIME_THRESHOLD", type := .int, accessFlags := 26, slot := 13, constantValue := 0 }, { name := "DEFAULT_PRIME_CERTAINTY", type := .int, accessFlags := 26, slot := 14, constantValue := 0 }, { name := "SMALL_PRIME_PRODUCT", type := (.object "java/math/BigInteger"), accessFlags := 26, slot := 15, constantValue := 0 }, { name := "MAX_CONSTANT", type := .int, accessFlags := 26, slot := 16, constantValue := 0 }, { name := "posConst", type := (.array (.object "java/math/BigInteger")), accessFlags := 26, slot := 17, constantValue := 0 }, { name := "negConst", type := (.array (.object "java/math/BigInteger")), accessFlags := 26, slot := 18, constantValue := 0 }, { name := "powerCache", type := (.array (.array (.object "java/math/BigInteger"))), accessFlags := 74, slot := 19, constantValue := 0 }, { name := "logCache", type := (.array .double), accessFlags := 26, slot := 20, constantValue := 0 }, { name := "LOG_TWO", type := .double, accessFlags := 26, slot := 21, constantValue := 0 }, { name := "ZERO", type := (.object "java/math/BigInteger"), accessFlags := 25, slot := 22, constantValue := 0 }, { name := "ONE", type := (.object "java/math/BigInteger"), accessFlags := 25, slot := 23, constantValue := 0 }, { name := "TWO", type := (.object "java/math/BigInteger"), accessFlags := 25, slot := 24, constantValue := 0 }, { name := "NEGATIVE_ONE", type := (.object "java/math/BigInteger"), accessFlags := 26, slot := 25, constantValue := 0 }, { name := "TEN", type := (.object "java/math/BigInteger"), accessFlags := 25, slot := 26, constantValue := 0 }, { name := "bnExpModThreshTable", type := (.array .int), accessFlags := 8, slot := 27, constantValue := 0 }, { name := "NUM_ZEROS", type := .int, accessFlags := 10, slot := 28, constantValue := 0 }, { name := "ZEROS", type := (.object "java/lang/String"), accessFlags := 26, slot := 29, constantValue := 0 }, { name := "digitsPerLong", type := (.array .int), accessFlags := 10, slot := 30, constantValue := 0 }, { name := "longRadix", type := (.array (.object "java/math/BigInteger")), accessFlags := 10, slot := 31, constantValue := 0 }, { name := "digitsPerInt", type := (.array .int), accessFlags := 10, slot := 32, constantValue := 0 }, { name := "intRadix", type := (.array .int), accessFlags := 10, slot := 33, constantValue := 0 }, { name := "serialVersionUID", type := .long, accessFlags := 26, slot := 34, constantValue := 0 }, { name := "serialPersistentFields", type := (.array (.object "java/io/ObjectStreamField")), accessFlags := 26, slot := 35, constantValue := 0 }, { name := "$assertionsDisabled", type := .boolean, accessFlags := 4120, slot := 36, constantValue := 0 }]
  methods := #[k6m0, k6m1, k6m2, k6m3, k6m4]
  instanceTypes := #[.int, (.array .int), .int, .int, .int, .int]
  staticTypes := #[.long, .int, .int, .int, .int, .int, .int, .int, .int, .int, .int, .int, (.array .long), .int, .int, (.object "java/math/BigInteger"), .int, (.array (.object "java/math/BigInteger")), (.array (.object "java/math/BigInteger")), (.array (.array (.object "java/math/BigInteger"))), (.array .double), .double, (.object "java/math/BigInteger"), (.object "java/math/BigInteger"), (.object "java/math/BigInteger"), (.object "java/math/BigInteger"), (.object "java/math/BigInteger"), (.array .int), .int, (.object "java/lang/String"), (.array .int), (.array (.object "java/math/BigInteger")), (.array .int), (.array .int), .long, (.array (.object "java/io/ObjectStreamField")), .boolean]
  resolved := Array.replicate 1542 none
  statics := some 0 }

def pool7 : Array CpInfo := pool [(2, .class_ 4), (1, u "java/lang/Object"), (0, u "<init>"), (0, u "()V"), (1, .class_ 10), (1, u "java/lang/System"), (0, u "allowSecurityManager"), (0, u "I"), (16, u "cons"), (0, u "Ljava/io/Console;"), (77, .class_ 110), (1, u "java/lang/System$CallersHolder"), (43, u "initialErrStream"), (0, u "Ljava/io/PrintStream;"), (19, u "security"), (0, u "Ljava/lang/SecurityManager;"), (31, .class_ 209), (0, u "java/lang/System$1"), (7, u "props"), (0, u "Ljava/util/Properties;"), (2, u "lineSeparator"), (0, u "Ljava/lang/String;"), (96, .class_ 321), (1, u "java/lang/System$LoggerFinder"), (5, .class_ 328), (0, u "java/lang/System$Logger"), (67, u "err"), (2, u "out"), (91, u "notSupportedJnuEncoding"), (15, u "in"), (17, u "initialIn"), (0, u "Ljava/io/InputStream;"), (35, u "bootLayer"), (0, u "Ljava/lang/ModuleLayer;"), (99, .class_ 664), (0, u "java/lang/System$2"), (9, u "NEVER"), (2, u "MAYBE"), (49, u "arraycopy"), (0, u "(Ljava/lang/Object;ILjava/lang/Object;II)V"), (72, .class_ 802), (0, u "java/lang/System$Logger$Level")] 31

def k7m0 : Method := { name := "<init>", desc := "()V", sig := { parameters := [], returnType := none }, accessFlags := 2, code := none }
def k7m1 : Method := { name := "arraycopy", desc := "(Ljava/lang/Object;ILjava/lang/Object;II)V", sig := { parameters := [(.object "java/lang/Object"), .int, (.object "java/lang/Object"), .int, .int], returnType := none }, accessFlags := 265, code := none }
/-- java/lang/System -/
def k7 : Class := { plain "java/lang/System" (some 0) with
  accessFlags := 49
  interfaces := #[]
  cf := some (fileOf pool7 8 #[.nestMembers #[319, 327, 801, 108, 663, 208]] #[{ accessFlags := 2, nameIndex := 5, descriptorIndex := 6, attributes := #[] }, { accessFlags := 265, nameIndex := 727, descriptorIndex := 728, attributes := #[] }] 49 2 #[] #[{ accessFlags := 25, nameIndex := 507, descriptorIndex := 526, attributes := #[] }, { accessFlags := 25, nameIndex := 399, descriptorIndex := 155, attributes := #[] }, { accessFlags := 25, nameIndex := 396, descriptorIndex := 155, attributes := #[] }, { accessFlags := 10, nameIndex := 525, descriptorIndex := 526, attributes := #[] }, { accessFlags := 26, nameIndex := 674, descriptorIndex := 12, attributes := #[] }, { accessFlags := 26, nameIndex := 677, descriptorIndex := 12, attributes := #[] }, { accessFlags := 10, nameIndex := 11, descriptorIndex := 12, attributes := #[] }, { accessFlags := 74, nameIndex := 175, descriptorIndex := 176, attributes := #[] }, { accessFlags := 10, nameIndex := 491, descriptorIndex := 222, attributes := #[] }, { accessFlags := 74, nameIndex := 29, descriptorIndex := 30, attributes := #[] }, { accessFlags := 74, nameIndex := 154, descriptorIndex := 155, attributes := #[] }, { accessFlags := 10, nameIndex := 217, descriptorIndex := 218, attributes := #[] }, { accessFlags := 10, nameIndex := 221, descriptorIndex := 222, attributes := #[] }, { accessFlags := 8, nameIndex := 562, descriptorIndex := 563, attributes := #[] }])
  fields := #[{ name := "in", type := (.object "java/io/InputStream"), accessFlags := 25, slot := 0, constantValue := 0 }, { name := "out", type := (.object "java/io/PrintStream"), accessFlags := 25, slot := 1, constantValue := 0 }, { name := "err", type := (.object "java/io/PrintStream"), accessFlags := 25, slot := 2, constantValue := 0 }, { name := "initialIn", type := (.object "java/io/InputStream"), accessFlags := 10, slot := 3, constantValue := 0 }, { name := "NEVER", type := .int, accessFlags := 26, slot := 4, constantValue := 0 }, { name := "MAYBE", type := .int, accessFlags := 26, slot := 5, constantValue := 0 }, { name := "allowSecurityManager", type := .int, accessFlags := 10, slot := 6, constantValue := 0 }, { name := "security", type := (.object "java/lang/SecurityManager"), accessFlags := 74, slot := 7, constantValue := 0 }, { name := "notSupportedJnuEncoding", type := (.object "java/lang/String"), accessFlags := 10, slot := 8, constantValue := 0 }, { name := "cons", type := (.object "java/io/Console"), accessFlags := 74, slot := 9, constantValue := 0 }, { name := "initialErrStream", type := (.object "java/io/PrintStream"), accessFlags := 74, slot := 10, constantValue := 0 }, { name := "props", type := (.object "java/util/Properties"), accessFlags := 10, slot := 11, constantValue := 0 }, { name := "lineSeparator", type := (.object "java/lang/String"), accessFlags := 10, slot := 12, constantValue := 0 }, { name := "bootLayer", type := (.object "java/lang/ModuleLayer"), accessFlags := 8, slot := 13, constantValue := 0 }]
  methods := #[k7m0, k7m1]
  instanceTypes := #[]
  staticTypes := #[(.object "java/io/InputStream"), (.object "java/io/PrintStream"), (.object "java/io/PrintStream"), (.object "java/io/InputStream"), .int, .int, .int, (.object "java/lang/SecurityManager"), (.object "java/lang/String"), (.object "java/io/Console"), (.object "java/io/PrintStream"), (.object "java/util/Properties"), (.object "java/lang/String"), (.object "java/lang/ModuleLayer")]
  resolved := Array.replicate 834 none
  statics := none }

def pool8 : Array CpInfo := pool [(1, u "java/lang/Cloneable"), (0, .class_ 1), (0, u "java/lang/Object"), (0, .class_ 3)] 3

/-- java/lang/Cloneable -/
def k8 : Class := { plain "java/lang/Cloneable" (some 0) with
  accessFlags := 1537
  interfaces := #[]
  cf := some (fileOf pool8 2 #[] #[] 1537 4 #[] #[])
  fields := #[]
  methods := #[]
  instanceTypes := #[]
  staticTypes := #[]
  resolved := Array.replicate 8 none
  statics := none }

/-- the primitive byte -/
def k9 : Class := { plain "byte" none with kind := .primitive 'B', accessFlags := 0x411 }
/-- [B -/
def k10 : Class := { plain "[B" (some 0) with kind := .array 9 .byte, interfaces := #[8, 3], accessFlags := 1041 }

/-- the primitive int -/
def k11 : Class := { plain "int" none with kind := .primitive 'I', accessFlags := 0x411 }
/-- [I -/
def k12 : Class := { plain "[I" (some 0) with kind := .array 11 .int, interfaces := #[8, 3], accessFlags := 1041 }

/-- [Ljava/math/BigInteger; -/
def k13 : Class := { plain "[Ljava/math/BigInteger;" (some 0) with kind := .array 6 (.object "java/math/BigInteger"), interfaces := #[8, 3], accessFlags := 1041 }

def heap : Heap := #[{ cls := 6, slots := #[.long 0, .int 0, .int 0, .int 0, .int 0, .int 0, .int 0, .int 0, .int 0, .int 0, .int 0, .int 0, .null, .int 0, .int 0, .null, .int 0, .ref 1, .null, .null, .null, .double 0, .ref 18, .ref 2, .ref 3, .null, .ref 11, .null, .int 0, .null, .null, .null, .null, .null, .long 0, .null, .int 0], vm := .statics 6 },
  { cls := 13, slots := #[.null, .ref 2, .ref 3, .ref 4, .ref 5, .ref 6, .ref 7, .ref 8, .ref 9, .ref 10, .ref 11, .ref 12, .ref 13, .ref 14, .ref 15, .ref 16, .ref 17], vm := .none },
  { cls := 6, slots := #[.int 1, .ref 19, .int 0, .int 0, .int 0, .int 0], vm := .none },
  { cls := 6, slots := #[.int 1, .ref 20, .int 0, .int 0, .int 0, .int 0], vm := .none },
  { cls := 6, slots := #[.int 1, .ref 21, .int 0, .int 0, .int 0, .int 0], vm := .none },
  { cls := 6, slots := #[.int 1, .ref 22, .int 0, .int 0, .int 0, .int 0], vm := .none },
  { cls := 6, slots := #[.int 1, .ref 23, .int 0, .int 0, .int 0, .int 0], vm := .none },
  { cls := 6, slots := #[.int 1, .ref 24, .int 0, .int 0, .int 0, .int 0], vm := .none },
  { cls := 6, slots := #[.int 1, .ref 25, .int 0, .int 0, .int 0, .int 0], vm := .none },
  { cls := 6, slots := #[.int 1, .ref 26, .int 0, .int 0, .int 0, .int 0], vm := .none },
  { cls := 6, slots := #[.int 1, .ref 27, .int 0, .int 0, .int 0, .int 0], vm := .none },
  { cls := 6, slots := #[.int 1, .ref 28, .int 0, .int 0, .int 0, .int 0], vm := .none },
  { cls := 6, slots := #[.int 1, .ref 29, .int 0, .int 0, .int 0, .int 0], vm := .none },
  { cls := 6, slots := #[.int 1, .ref 30, .int 0, .int 0, .int 0, .int 0], vm := .none },
  { cls := 6, slots := #[.int 1, .ref 31, .int 0, .int 0, .int 0, .int 0], vm := .none },
  { cls := 6, slots := #[.int 1, .ref 32, .int 0, .int 0, .int 0, .int 0], vm := .none },
  { cls := 6, slots := #[.int 1, .ref 33, .int 0, .int 0, .int 0, .int 0], vm := .none },
  { cls := 6, slots := #[.int 1, .ref 34, .int 0, .int 0, .int 0, .int 0], vm := .none },
  { cls := 6, slots := #[.int 0, .ref 35, .int 0, .int 0, .int 0, .int 0], vm := .none },
  { cls := 12, slots := #[.int 1], vm := .none },
  { cls := 12, slots := #[.int 2], vm := .none },
  { cls := 12, slots := #[.int 3], vm := .none },
  { cls := 12, slots := #[.int 4], vm := .none },
  { cls := 12, slots := #[.int 5], vm := .none },
  { cls := 12, slots := #[.int 6], vm := .none },
  { cls := 12, slots := #[.int 7], vm := .none },
  { cls := 12, slots := #[.int 8], vm := .none },
  { cls := 12, slots := #[.int 9], vm := .none },
  { cls := 12, slots := #[.int 10], vm := .none },
  { cls := 12, slots := #[.int 11], vm := .none },
  { cls := 12, slots := #[.int 12], vm := .none },
  { cls := 12, slots := #[.int 13], vm := .none },
  { cls := 12, slots := #[.int 14], vm := .none },
  { cls := 12, slots := #[.int 15], vm := .none },
  { cls := 12, slots := #[.int 16], vm := .none },
  { cls := 12, slots := #[], vm := .none }]
def classes : Array Class := #[k0, k1, k2, k3, k4, k5, k6, k7, k8, k9, k10, k11, k12, k13]
def interned : List (Array UInt16 × Addr) := []
def slotsUsed : Nat := 172
def theMethod : MethodId := ⟨1, 1⟩
def args0 : Array Value := #[.long 5, .long 6, .long 7]
def aboutOver (below : List Frame) : State where
  vm := { classes := classes, interned := interned.toArray }
  heap := heap
  slotsUsed := slotsUsed
  threads := #[{ frames := .invoking theMethod args0 :: below }]
def below0 : List Frame := [.native { method := ⟨0, 0⟩, args := #[] }]
def about1 : State := aboutOver below0
def p0 : Program := .bare "" "" ""
def e0 : Env := launch0.env 0 0 0
theorem w_frames : about1.frames = Frame.invoking theMethod args0 :: below0 := rfl
set_option maxRecDepth 65536 in
theorem w_args : argsFit about1.vm theMethod args0 = true := by decide +kernel
set_option maxRecDepth 65536 in
theorem w_heap : heapFits about1 = true := by decide +kernel
set_option maxRecDepth 65536 in
theorem w_runnable : about1.curStatus? = some .runnable := by decide +kernel
set_option maxRecDepth 65536 in
theorem w_alone : about1.alone = true := by decide +kernel
set_option maxRecDepth 65536 in
theorem w_named : about1.methodNamed? x = some theMethod := by decide +kernel
set_option maxRecDepth 65536 in
theorem w_hears : about1.hears theMethod below0 = true := by decide +kernel
set_option maxRecDepth 65536 in
theorem w_ripe : about1.ripe theMethod args0 below0 = true := by decide +kernel
theorem w_running : about1.status = .running := rfl
set_option maxRecDepth 65536 in
theorem w_room : about1.hasRoom e0.platform room_1 = true :=
  launch0.hasRoom_least _ room_1 (by decide +kernel) (by decide +kernel) (by decide +kernel) (by decide +kernel) (by decide +kernel) (by decide +kernel)
theorem allAtoms_all (ts : List Jvm.Cond) (a : Array Jvm.Value) (st : Jvm.State) : (allAtoms ts).before a st = ts.all (fun c => c.before a st) := by
  induction ts with
  | nil => rfl
  | cons c t ih =>
    show (Jvm.Cond.and c (allAtoms t)).before a st = _
    rw [Jvm.Cond.before_and, ih, List.all_cons]
def words1 : List Jvm.Cond := Jvm.Cond.code x code maxLocals ret :: tables_1
/-- a 'code' word, met by the world's own term for the bytes: nothing is compared byte by byte -/
theorem code_word {y : MethodName} {bytes : ByteArray} {mx : Nat} {rt : Option FieldType} {a : Array Value} {s : State} {m : MethodId} {meth : Method} {c : Code} (h1 : s.methodNamed? y = some m) (h2 : s.vm.method? m = some meth) (h3 : meth.code = some c) (h4 : c.code = bytes)
    (h5 : (c.maxLocals == mx && c.exceptionTable.isEmpty && decide (c.maxStack ≤ mostOperands) && decide (meth.sig.returnType = rt) && !meth.locks && decide (parseMethodDescriptor y.desc = some meth.sig)) = true) : (Jvm.Cond.code y bytes mx rt).before a s = true := by
  simp only [Bool.and_eq_true, beq_iff_eq, Bool.not_eq_true', decide_eq_true_eq] at h5
  obtain ⟨⟨⟨⟨⟨g1, g2⟩, g3⟩, g4⟩, g5⟩, g6⟩ := h5
  simp [Cond.before, Cond.holds, Cond.value, h1, h2, h3, h4, g1, g2, g3, g4, g5, g6]
def isCode : Jvm.Cond → Bool
  | .code _ _ _ _ => true
  | _ => false
theorem all_split {L : List Jvm.Cond} {P : Jvm.Cond → Bool} (h1 : L.all (fun c => isCode c || P c) = true) (h2 : ∀ c ∈ L.filter isCode, P c = true) : L.all P = true := by
  refine List.all_eq_true.mpr fun c hc => ?_
  have h := List.all_eq_true.mp h1 c hc
  rcases Bool.eq_false_or_eq_true (isCode c) with hi | hi
  · exact h2 c (List.mem_filter.mpr ⟨hc, hi⟩)
  · simpa [hi] using h
set_option maxRecDepth 65536 in
theorem w_c0 : (Jvm.Cond.code x code maxLocals ret).before args0 about1 = true := code_word (m := ⟨1, 1⟩) (meth := k1m1) (c := k1c1) (by decide +kernel) rfl rfl rfl (by decide +kernel)
set_option maxRecDepth 65536 in
theorem w_c1 : (Jvm.Cond.code ({ cls := "com/example/gangway/gangway/Extent", name := "<init>", desc := "(J)V" } : Jvm.MethodName) prog_44_method_1_code (3 : Nat) (Option.none : Option Jvm.ClassFile.FieldType)).before args0 about1 = true := code_word (m := ⟨2, 0⟩) (meth := k2m0) (c := k2c0) (by decide +kernel) rfl rfl rfl (by decide +kernel)
set_option maxRecDepth 65536 in
theorem w_c2 : (Jvm.Cond.code ({ cls := "java/lang/Object", name := "<init>", desc := "()V" } : Jvm.MethodName) object_method_1_code (1 : Nat) (Option.none : Option Jvm.ClassFile.FieldType)).before args0 about1 = true := code_word (m := ⟨0, 0⟩) (meth := k0m0) (c := k0c0) (by decide +kernel) rfl rfl rfl (by decide +kernel)
set_option maxRecDepth 65536 in
theorem w_c3 : (Jvm.Cond.code ({ cls := "com/example/gangway/gangway/Extent", name := "value", desc := "()J" } : Jvm.MethodName) prog_44_method_2_code (1 : Nat) (Option.some Jvm.ClassFile.FieldType.long)).before args0 about1 = true := code_word (m := ⟨2, 1⟩) (meth := k2m1) (c := k2c1) (by decide +kernel) rfl rfl rfl (by decide +kernel)
set_option maxRecDepth 65536 in
theorem w_c4 : (Jvm.Cond.code ({ cls := "com/example/gangway/gangway/Extent", name := "add", desc := "(J)V" } : Jvm.MethodName) prog_44_method_5_code (3 : Nat) (Option.none : Option Jvm.ClassFile.FieldType)).before args0 about1 = true := code_word (m := ⟨2, 3⟩) (meth := k2m3) (c := k2c3) (by decide +kernel) rfl rfl rfl (by decide +kernel)
set_option maxRecDepth 65536 in
theorem w_c5 : (Jvm.Cond.code ({ cls := "com/example/gangway/gangway/Extent", name := "exact", desc := "()Ljava/math/BigInteger;" } : Jvm.MethodName) prog_44_method_3_code (1 : Nat) (Option.some (Jvm.ClassFile.FieldType.object "java/math/BigInteger"))).before args0 about1 = true := code_word (m := ⟨2, 2⟩) (meth := k2m2) (c := k2c2) (by decide +kernel) rfl rfl rfl (by decide +kernel)
set_option maxRecDepth 65536 in
theorem w_c6 : (Jvm.Cond.code ({ cls := "java/math/BigInteger", name := "valueOf", desc := "(J)Ljava/math/BigInteger;" } : Jvm.MethodName) jdk_2097_method_29_code (2 : Nat) (Option.some (Jvm.ClassFile.FieldType.object "java/math/BigInteger"))).before args0 about1 = true := code_word (m := ⟨6, 1⟩) (meth := k6m1) (c := k6c1) (by decide +kernel) rfl rfl rfl (by decide +kernel)
set_option maxRecDepth 65536 in
theorem w_c7 : (Jvm.Cond.code ({ cls := "java/math/BigInteger", name := "<init>", desc := "(J)V" } : Jvm.MethodName) jdk_2097_method_30_code (4 : Nat) (Option.none : Option Jvm.ClassFile.FieldType)).before args0 about1 = true := code_word (m := ⟨6, 2⟩) (meth := k6m2) (c := k6c2) (by decide +kernel) rfl rfl rfl (by decide +kernel)
set_option maxRecDepth 65536 in
theorem w_c8 : (Jvm.Cond.code ({ cls := "java/lang/Number", name := "<init>", desc := "()V" } : Jvm.MethodName) jdk_18_method_1_code (1 : Nat) (Option.none : Option Jvm.ClassFile.FieldType)).before args0 about1 = true := code_word (m := ⟨4, 0⟩) (meth := k4m0) (c := k4c0) (by decide +kernel) rfl rfl rfl (by decide +kernel)
set_option maxRecDepth 65536 in
theorem w_c9 : (Jvm.Cond.code ({ cls := "java/math/BigInteger", name := "add", desc := "(Ljava/math/BigInteger;)Ljava/math/BigInteger;" } : Jvm.MethodName) jdk_2097_method_32_code (4 : Nat) (Option.some (Jvm.ClassFile.FieldType.object "java/math/BigInteger"))).before args0 about1 = true := code_word (m := ⟨6, 3⟩) (meth := k6m3) (c := k6c3) (by decide +kernel) rfl rfl rfl (by decide +kernel)
set_option maxRecDepth 65536 in
theorem w_c10 : (Jvm.Cond.code ({ cls := "java/math/BigInteger", name := "add", desc := "([I[I)[I" } : Jvm.MethodName) jdk_2097_method_35_code (9 : Nat) (Option.some (Jvm.ClassFile.FieldType.array Jvm.ClassFile.FieldType.int))).before args0 about1 = true := code_word (m := ⟨6, 4⟩) (meth := k6m4) (c := k6c4) (by decide +kernel) rfl rfl rfl (by decide +kernel)
set_option maxRecDepth 65536 in
theorem w_c11 : (Jvm.Cond.code ({ cls := "java/math/BigInteger", name := "<init>", desc := "([II)V" } : Jvm.MethodName) jdk_2097_method_25_code (3 : Nat) (Option.none : Option Jvm.ClassFile.FieldType)).before args0 about1 = true := code_word (m := ⟨6, 0⟩) (meth := k6m0) (c := k6c0) (by decide +kernel) rfl rfl rfl (by decide +kernel)
def codes1 : List Jvm.Cond := [Jvm.Cond.code x code maxLocals ret, Jvm.Cond.code ({ cls := "com/example/gangway/gangway/Extent", name := "<init>", desc := "(J)V" } : Jvm.MethodName) prog_44_method_1_code (3 : Nat) (Option.none : Option Jvm.ClassFile.FieldType), Jvm.Cond.code ({ cls := "java/lang/Object", name := "<init>", desc := "()V" } : Jvm.MethodName) object_method_1_code (1 : Nat) (Option.none : Option Jvm.ClassFile.FieldType), Jvm.Cond.code ({ cls := "com/example/gangway/gangway/Extent", name := "value", desc := "()J" } : Jvm.MethodName) prog_44_method_2_code (1 : Nat) (Option.some Jvm.ClassFile.FieldType.long), Jvm.Cond.code ({ cls := "com/example/gangway/gangway/Extent", name := "add", desc := "(J)V" } : Jvm.MethodName) prog_44_method_5_code (3 : Nat) (Option.none : Option Jvm.ClassFile.FieldType), Jvm.Cond.code ({ cls := "com/example/gangway/gangway/Extent", name := "exact", desc := "()Ljava/math/BigInteger;" } : Jvm.MethodName) prog_44_method_3_code (1 : Nat) (Option.some (Jvm.ClassFile.FieldType.object "java/math/BigInteger")), Jvm.Cond.code ({ cls := "java/math/BigInteger", name := "valueOf", desc := "(J)Ljava/math/BigInteger;" } : Jvm.MethodName) jdk_2097_method_29_code (2 : Nat) (Option.some (Jvm.ClassFile.FieldType.object "java/math/BigInteger")), Jvm.Cond.code ({ cls := "java/math/BigInteger", name := "<init>", desc := "(J)V" } : Jvm.MethodName) jdk_2097_method_30_code (4 : Nat) (Option.none : Option Jvm.ClassFile.FieldType), Jvm.Cond.code ({ cls := "java/lang/Number", name := "<init>", desc := "()V" } : Jvm.MethodName) jdk_18_method_1_code (1 : Nat) (Option.none : Option Jvm.ClassFile.FieldType), Jvm.Cond.code ({ cls := "java/math/BigInteger", name := "add", desc := "(Ljava/math/BigInteger;)Ljava/math/BigInteger;" } : Jvm.MethodName) jdk_2097_method_32_code (4 : Nat) (Option.some (Jvm.ClassFile.FieldType.object "java/math/BigInteger")), Jvm.Cond.code ({ cls := "java/math/BigInteger", name := "add", desc := "([I[I)[I" } : Jvm.MethodName) jdk_2097_method_35_code (9 : Nat) (Option.some (Jvm.ClassFile.FieldType.array Jvm.ClassFile.FieldType.int)), Jvm.Cond.code ({ cls := "java/math/BigInteger", name := "<init>", desc := "([II)V" } : Jvm.MethodName) jdk_2097_method_25_code (3 : Nat) (Option.none : Option Jvm.ClassFile.FieldType)]
set_option maxRecDepth 65536 in
theorem codes_eq : words1.filter isCode = codes1 := rfl
theorem w_codes : ∀ c ∈ words1.filter isCode, c.before args0 about1 = true := by
  rw [codes_eq]
  intro c hc
  simp only [codes1, List.mem_cons, List.not_mem_nil, or_false] at hc
  rcases hc with rfl | rfl | rfl | rfl | rfl | rfl | rfl | rfl | rfl | rfl | rfl | rfl
  · exact w_c0
  · exact w_c1
  · exact w_c2
  · exact w_c3
  · exact w_c4
  · exact w_c5
  · exact w_c6
  · exact w_c7
  · exact w_c8
  · exact w_c9
  · exact w_c10
  · exact w_c11
set_option maxRecDepth 65536 in
theorem w_t1 : (words1.take 24).all (fun c => isCode c || c.before args0 about1) = true := by decide +kernel
set_option maxRecDepth 65536 in
theorem w_t2 : ((words1.drop 24).take 24).all (fun c => isCode c || c.before args0 about1) = true := by decide +kernel
set_option maxRecDepth 65536 in
theorem w_t3 : (((words1.drop 24).drop 24).take 24).all (fun c => isCode c || c.before args0 about1) = true := by decide +kernel
set_option maxRecDepth 65536 in
theorem w_t4 : (((words1.drop 24).drop 24).drop 24).all (fun c => isCode c || c.before args0 about1) = true := by decide +kernel
theorem w_tables : (allAtoms (Jvm.Cond.code x code maxLocals ret :: tables_1)).before args0 about1 = true := by
  rw [allAtoms_all]
  show words1.all (fun c => c.before args0 about1) = true
  refine all_split ?_ w_codes
  rw [← List.take_append_drop 24 words1, List.all_append, w_t1, ← List.take_append_drop 24 (words1.drop 24), List.all_append, w_t2, ← List.take_append_drop 24 ((words1.drop 24).drop 24), List.all_append, w_t3, w_t4]
  rfl
set_option maxRecDepth 65536 in
theorem w_rest : rest_1_c.before args0 about1 = true := by decide +kernel
set_option maxRecDepth 65536 in
theorem w_case : (Jvm.Cond.and given_1 narrow_1).before args0 about1 = true := by decide +kernel
theorem w_applies : (headSpec (Jvm.Cond.code x code maxLocals ret :: tables_1) room_1).applies x e0.platform about1 = true :=
  (Spec.applies_iff w_frames).mpr ⟨w_running, w_runnable, w_alone, w_named, w_hears, w_ripe, w_room, w_tables⟩
theorem atStart : AtStart classFile x code maxLocals ret World_1 tables_1 room_1 Calls_1 rest_1 Pre_1 launch0 p0 e0 about1 theMethod args0 below0 :=
  ⟨lists_1, trivial, launch0.admits_env _ _ _, launch0.least_env, fairChoices_fair.cas, fairChoices_fair.clock, w_frames, w_args, w_heap, w_applies, trivial, w_rest, w_case⟩
end start1
theorem witness_1 : WitnessClaimed_1 := ⟨start1.p0, start1.e0, start1.about1, start1.theMethod, start1.args0, start1.below0, start1.atStart⟩
end Jvm.Pilot.@@N@@
