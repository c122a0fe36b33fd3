import JvmDerived
import JvmDerived.Pilot.@@N@@Statement
import JvmDerived.Pilot.@@N@@Code
set_option linter.unusedVariables false
set_option linter.unusedSimpArgs false
namespace Jvm.Pilot.@@N@@
open Jvm Jvm.ClassFile Sem Op Lib Jvm.Free Jvm.Stand Jvm.LawKit Jvm.RoadKit Jvm.Free.Fl Bundle Jvm.Pilot.@@N@@.Jvm.D
/-- the run from A ends, and what it leaves meets F -/
def Rn (p : Program) (e : Env) (below : List Frame) (A : State) (F : Outcome → State → Prop) : Prop := ∃ s₂ o, Steps p.tables e below A s₂ ∧ s₂.status = .running ∧ Ended s₂ below o ∧ F o s₂
theorem Rn.st {p : Program} {e : Env} {below : List Frame} {A B : State} {F : Outcome → State → Prop} (h : ∀ t, Steps p.tables e below B t → Steps p.tables e below A t) (r : Rn p e below B F) : Rn p e below A F := by
  obtain ⟨s₂, o, h1, h2⟩ := r
  exact ⟨s₂, o, h _ h1, h2⟩
theorem Rn.ret {p : Program} {l : Launch} {e : Env} {R : Room} {s : State} {m : MethodId} {args : Array Value} {below : List Frame} {meth : Method} {c : Code} {T : State} {locs : List Loc} {cells slots k n : Nat} {A : State} {h : Heap}
    (X : Stand p l e R s m args below meth c T locs cells slots) (hlk : meth.locks = false) {v : Option Value} (hv : meth.sig.returnType = none → v = none) {Q : Option Value → Heap → List Loc → Prop} (eT : T.heap = h)
    (last : ∀ fs, (∀ (f : JFrame) (acts : List Action), f.method = m → f.locked = none → f.entered = [] → (doReturn e (T.setTop f) acts v).1 = T.setFrames fs) → Steps p.tables e below A (T.setFrames fs))
    (q : Q v h locs) (hc : cells ≤ k) (hs : slots ≤ n) : Rn p e below A (fun o U' => ∃ v L, o = .returned v ∧ Q v U'.heap L ∧ FrameEnd s o U' L k n) := by
  obtain ⟨fs, hr, hrun, hended, hW, hsame⟩ := X.leave hv hlk
  refine ⟨_, _, last fs hr, hrun, hended, _, _, rfl, ?_, ⟨_, rfl⟩, hW, hsame.mono hc hs⟩
  show Q v T.heap locs
  rw [eT]; exact q
theorem own_sta_keep {Z : State} {h h' : Heap} {C n d : String} {w : Value} {ws : List Addr} (F : Sta Z h C n d w) (K : Keep h h' ws) (q : ∀ x ∈ ws, ∀ cell : Cell, h[x]? = some cell → cell.vm.isStatics = false) : Sta Z h' C n d w := by
  obtain ⟨cf, i, k, f, st, cell, h1, h2, h3, h4, h5, h6, h7⟩ := F
  refine ⟨cf, i, k, f, st, cell, h1, h2, h3, h4, K.2.1 st cell h5 (fun hm => ?_), h6, h7⟩
  have e := q st hm cell h5
  rw [h6] at e
  exact absurd e (by decide)
theorem own_subI {a b : Int32} (h : -2147483648 ≤ a.toInt - b.toInt ∧ a.toInt - b.toInt < 2147483648) : (a - b).toInt = a.toInt - b.toInt := by
  rw [Int32.toInt_sub, Int.bmod_eq_of_le (by omega) (by omega)]
theorem own_addI {a b : Int32} (h : -2147483648 ≤ a.toInt + b.toInt ∧ a.toInt + b.toInt < 2147483648) : (a + b).toInt = a.toInt + b.toInt := by
  rw [Int32.toInt_add, Int.bmod_eq_of_le (by omega) (by omega)]
theorem own_mulI {a b : Int32} (h : (a.toInt * b.toInt).natAbs < 2147483648) : (a * b).toInt = a.toInt * b.toInt := by
  rw [Int32.toInt_mul, Int.bmod_eq_of_le (by omega) (by omega)]
theorem own_bd {j n : Int32} (h : 0 ≤ j.toInt ∧ j.toInt < n.toInt) : ¬ j < 0 ∧ j < n := by
  constructor
  · rw [Int32.lt_iff_toInt_lt]; have : (0 : Int32).toInt = 0 := by decide
    omega
  · rw [Int32.lt_iff_toInt_lt]; exact h.2
theorem own_b (a : Int32) : -2147483648 ≤ a.toInt ∧ a.toInt < 2147483648 := ⟨Int32.le_toInt a, Int32.toInt_lt a⟩
section RSteps
variable {p : Program} {l : Launch} {e : Env} {R : Room} {s : State} {m : MethodId} {args : Array Value} {below : List Frame} {meth : Method} {c : Code} {T : State} {locs : List Loc} {cells slots : Nat} {G : Outcome → State → Prop} {L L' : Array Slot} {S : List Value} {pc pc' : Nat}
theorem R.iloadN (X : Stand p l e R s m args below meth c T locs cells slots) (hx : p.tables.exec = Jvm.exec) {k : Fin 4} {v : Int32} (hd : decode c.code pc = .ok (.iload_n k, 1)) (hl : L[k.val]? = some (.val (.int v))) (hp : pc + 1 = pc') (r : Rn p e below (T.setTop (mkF m pc' L (.int v :: S))) G) : Rn p e below (T.setTop (mkF m pc L (S))) G := by
  subst hp; exact Rn.st (fun t q => XS.iloadN X.here hx rfl hd hl q) r
theorem R.iload (X : Stand p l e R s m args below meth c T locs cells slots) (hx : p.tables.exec = Jvm.exec) {k : Nat} {v : Int32} (hd : decode c.code pc = .ok (.iload k, 2)) (hl : L[k]? = some (.val (.int v))) (hp : pc + 2 = pc') (r : Rn p e below (T.setTop (mkF m pc' L (.int v :: S))) G) : Rn p e below (T.setTop (mkF m pc L (S))) G := by
  subst hp; exact Rn.st (fun t q => XS.iload X.here hx rfl hd hl q) r
theorem R.istoreN (X : Stand p l e R s m args below meth c T locs cells slots) (hx : p.tables.exec = Jvm.exec) {k : Fin 4} {v : Int32} (hd : decode c.code pc = .ok (.istore_n k, 1)) (hl : storeLocals L k.val (.int v) = some L') (hp : pc + 1 = pc') (r : Rn p e below (T.setTop (mkF m pc' L' (S))) G) : Rn p e below (T.setTop (mkF m pc L (.int v :: S))) G := by
  subst hp; exact Rn.st (fun t q => XS.istoreN X.here hx rfl hd rfl hl q) r
theorem R.istore (X : Stand p l e R s m args below meth c T locs cells slots) (hx : p.tables.exec = Jvm.exec) {k : Nat} {v : Int32} (hd : decode c.code pc = .ok (.istore k, 2)) (hl : storeLocals L k (.int v) = some L') (hp : pc + 2 = pc') (r : Rn p e below (T.setTop (mkF m pc' L' (S))) G) : Rn p e below (T.setTop (mkF m pc L (.int v :: S))) G := by
  subst hp; exact Rn.st (fun t q => XS.istore X.here hx rfl hd rfl hl q) r
theorem R.lloadN (X : Stand p l e R s m args below meth c T locs cells slots) (hx : p.tables.exec = Jvm.exec) {k : Fin 4} {v : Int64} (hd : decode c.code pc = .ok (.lload_n k, 1)) (hl : L[k.val]? = some (.val (.long v))) (hp : pc + 1 = pc') (r : Rn p e below (T.setTop (mkF m pc' L (.long v :: S))) G) : Rn p e below (T.setTop (mkF m pc L (S))) G := by
  subst hp; exact Rn.st (fun t q => XS.lloadN X.here hx rfl hd hl q) r
theorem R.lload (X : Stand p l e R s m args below meth c T locs cells slots) (hx : p.tables.exec = Jvm.exec) {k : Nat} {v : Int64} (hd : decode c.code pc = .ok (.lload k, 2)) (hl : L[k]? = some (.val (.long v))) (hp : pc + 2 = pc') (r : Rn p e below (T.setTop (mkF m pc' L (.long v :: S))) G) : Rn p e below (T.setTop (mkF m pc L (S))) G := by
  subst hp; exact Rn.st (fun t q => XS.lload X.here hx rfl hd hl q) r
theorem R.lstore (X : Stand p l e R s m args below meth c T locs cells slots) (hx : p.tables.exec = Jvm.exec) {k : Nat} {v : Int64} (hd : decode c.code pc = .ok (.lstore k, 2)) (hl : storeLocals L k (.long v) = some L') (hp : pc + 2 = pc') (r : Rn p e below (T.setTop (mkF m pc' L' (S))) G) : Rn p e below (T.setTop (mkF m pc L (.long v :: S))) G := by
  subst hp; exact Rn.st (fun t q => XS.lstore X.here hx rfl hd rfl hl q) r
theorem R.aloadN (X : Stand p l e R s m args below meth c T locs cells slots) (hx : p.tables.exec = Jvm.exec) {k : Fin 4} {v : Value} (hd : decode c.code pc = .ok (.aload_n k, 1)) (hl : L[k.val]? = some (.val v)) (hv : v.isRef = true) (hp : pc + 1 = pc') (r : Rn p e below (T.setTop (mkF m pc' L (v :: S))) G) : Rn p e below (T.setTop (mkF m pc L (S))) G := by
  subst hp; exact Rn.st (fun t q => XS.aloadN X.here hx rfl hd hl hv q) r
theorem R.aload (X : Stand p l e R s m args below meth c T locs cells slots) (hx : p.tables.exec = Jvm.exec) {k : Nat} {v : Value} (hd : decode c.code pc = .ok (.aload k, 2)) (hl : L[k]? = some (.val v)) (hv : v.isRef = true) (hp : pc + 2 = pc') (r : Rn p e below (T.setTop (mkF m pc' L (v :: S))) G) : Rn p e below (T.setTop (mkF m pc L (S))) G := by
  subst hp; exact Rn.st (fun t q => XS.aload X.here hx rfl hd hl hv q) r
theorem R.astoreN (X : Stand p l e R s m args below meth c T locs cells slots) (hx : p.tables.exec = Jvm.exec) {k : Fin 4} {v : Value} (hd : decode c.code pc = .ok (.astore_n k, 1)) (hv : v.isRef = true) (hl : storeLocals L k.val v = some L') (hp : pc + 1 = pc') (r : Rn p e below (T.setTop (mkF m pc' L' (S))) G) : Rn p e below (T.setTop (mkF m pc L (v :: S))) G := by
  subst hp; exact Rn.st (fun t q => XS.astoreN X.here hx rfl hd rfl hv hl q) r
theorem R.astore (X : Stand p l e R s m args below meth c T locs cells slots) (hx : p.tables.exec = Jvm.exec) {k : Nat} {v : Value} (hd : decode c.code pc = .ok (.astore k, 2)) (hv : v.isRef = true) (hl : storeLocals L k v = some L') (hp : pc + 2 = pc') (r : Rn p e below (T.setTop (mkF m pc' L' (S))) G) : Rn p e below (T.setTop (mkF m pc L (v :: S))) G := by
  subst hp; exact Rn.st (fun t q => XS.astore X.here hx rfl hd rfl hv hl q) r
theorem R.iconst (X : Stand p l e R s m args below meth c T locs cells slots) (hx : p.tables.exec = Jvm.exec) {i : Int} {v : Int32} (hd : decode c.code pc = .ok (.iconst i, 1)) (hv : Int32.ofInt i = v) (hp : pc + 1 = pc') (r : Rn p e below (T.setTop (mkF m pc' L (.int v :: S))) G) : Rn p e below (T.setTop (mkF m pc L (S))) G := by
  subst hp hv; exact Rn.st (fun t q => XS.iconst X.here hx rfl hd q) r
theorem R.bipush (X : Stand p l e R s m args below meth c T locs cells slots) (hx : p.tables.exec = Jvm.exec) {i : Int} {v : Int32} (hd : decode c.code pc = .ok (.bipush i, 2)) (hv : (Int8.ofInt i).toInt32 = v) (hp : pc + 2 = pc') (r : Rn p e below (T.setTop (mkF m pc' L (.int v :: S))) G) : Rn p e below (T.setTop (mkF m pc L (S))) G := by
  subst hp hv; exact Rn.st (fun t q => XS.bipush X.here hx rfl hd q) r
theorem R.sipush (X : Stand p l e R s m args below meth c T locs cells slots) (hx : p.tables.exec = Jvm.exec) {i : Int} {v : Int32} (hd : decode c.code pc = .ok (.sipush i, 3)) (hv : (Int16.ofInt i).toInt32 = v) (hp : pc + 3 = pc') (r : Rn p e below (T.setTop (mkF m pc' L (.int v :: S))) G) : Rn p e below (T.setTop (mkF m pc L (S))) G := by
  subst hp hv; exact Rn.st (fun t q => XS.sipush X.here hx rfl hd q) r
theorem R.lconst (X : Stand p l e R s m args below meth c T locs cells slots) (hx : p.tables.exec = Jvm.exec) {i : Fin 2} {v : Int64} (hd : decode c.code pc = .ok (.lconst i, 1)) (hv : Int64.ofNat i = v) (hp : pc + 1 = pc') (r : Rn p e below (T.setTop (mkF m pc' L (.long v :: S))) G) : Rn p e below (T.setTop (mkF m pc L (S))) G := by
  subst hp hv; exact Rn.st (fun t q => XS.lconst X.here hx rfl hd q) r
theorem R.aconstNull (X : Stand p l e R s m args below meth c T locs cells slots) (hx : p.tables.exec = Jvm.exec)  (hd : decode c.code pc = .ok (.aconst_null, 1)) (hp : pc + 1 = pc') (r : Rn p e below (T.setTop (mkF m pc' L (.null :: S))) G) : Rn p e below (T.setTop (mkF m pc L (S))) G := by
  subst hp; exact Rn.st (fun t q => XS.aconstNull X.here hx rfl hd q) r
theorem R.iadd (X : Stand p l e R s m args below meth c T locs cells slots) (hx : p.tables.exec = Jvm.exec) {x y v : Int32} (hd : decode c.code pc = .ok (.iadd, 1)) (hv : x + y = v) (hp : pc + 1 = pc') (r : Rn p e below (T.setTop (mkF m pc' L (.int v :: S))) G) : Rn p e below (T.setTop (mkF m pc L (.int y :: .int x :: S))) G := by
  subst hp hv; exact Rn.st (fun t q => XS.iadd X.here hx rfl hd rfl q) r
theorem R.isub (X : Stand p l e R s m args below meth c T locs cells slots) (hx : p.tables.exec = Jvm.exec) {x y v : Int32} (hd : decode c.code pc = .ok (.isub, 1)) (hv : x - y = v) (hp : pc + 1 = pc') (r : Rn p e below (T.setTop (mkF m pc' L (.int v :: S))) G) : Rn p e below (T.setTop (mkF m pc L (.int y :: .int x :: S))) G := by
  subst hp hv; exact Rn.st (fun t q => XS.isub X.here hx rfl hd rfl q) r
theorem R.imul (X : Stand p l e R s m args below meth c T locs cells slots) (hx : p.tables.exec = Jvm.exec) {x y v : Int32} (hd : decode c.code pc = .ok (.imul, 1)) (hv : x * y = v) (hp : pc + 1 = pc') (r : Rn p e below (T.setTop (mkF m pc' L (.int v :: S))) G) : Rn p e below (T.setTop (mkF m pc L (.int y :: .int x :: S))) G := by
  subst hp hv; exact Rn.st (fun t q => XS.imul X.here hx rfl hd rfl q) r
theorem R.iand (X : Stand p l e R s m args below meth c T locs cells slots) (hx : p.tables.exec = Jvm.exec) {x y v : Int32} (hd : decode c.code pc = .ok (.iand, 1)) (hv : x &&& y = v) (hp : pc + 1 = pc') (r : Rn p e below (T.setTop (mkF m pc' L (.int v :: S))) G) : Rn p e below (T.setTop (mkF m pc L (.int y :: .int x :: S))) G := by
  subst hp hv; exact Rn.st (fun t q => XS.iand X.here hx rfl hd rfl q) r
theorem R.ineg (X : Stand p l e R s m args below meth c T locs cells slots) (hx : p.tables.exec = Jvm.exec) {x : Int32} (hd : decode c.code pc = .ok (.ineg, 1)) (hp : pc + 1 = pc') (r : Rn p e below (T.setTop (mkF m pc' L (.int (-x) :: S))) G) : Rn p e below (T.setTop (mkF m pc L (.int x :: S))) G := by
  subst hp; exact Rn.st (fun t q => XS.ineg X.here hx rfl hd rfl q) r
theorem R.lneg (X : Stand p l e R s m args below meth c T locs cells slots) (hx : p.tables.exec = Jvm.exec) {x : Int64} (hd : decode c.code pc = .ok (.lneg, 1)) (hp : pc + 1 = pc') (r : Rn p e below (T.setTop (mkF m pc' L (.long (-x) :: S))) G) : Rn p e below (T.setTop (mkF m pc L (.long x :: S))) G := by
  subst hp; exact Rn.st (fun t q => XS.lneg X.here hx rfl hd rfl q) r
theorem R.i2l (X : Stand p l e R s m args below meth c T locs cells slots) (hx : p.tables.exec = Jvm.exec) {x : Int32} (hd : decode c.code pc = .ok (.i2l, 1)) (hp : pc + 1 = pc') (r : Rn p e below (T.setTop (mkF m pc' L (.long (x.toInt64) :: S))) G) : Rn p e below (T.setTop (mkF m pc L (.int x :: S))) G := by
  subst hp; exact Rn.st (fun t q => XS.i2l X.here hx rfl hd rfl q) r
theorem R.l2i (X : Stand p l e R s m args below meth c T locs cells slots) (hx : p.tables.exec = Jvm.exec) {x : Int64} (hd : decode c.code pc = .ok (.l2i, 1)) (hp : pc + 1 = pc') (r : Rn p e below (T.setTop (mkF m pc' L (.int (x.toInt32) :: S))) G) : Rn p e below (T.setTop (mkF m pc L (.long x :: S))) G := by
  subst hp; exact Rn.st (fun t q => XS.l2i X.here hx rfl hd rfl q) r
theorem R.i2b (X : Stand p l e R s m args below meth c T locs cells slots) (hx : p.tables.exec = Jvm.exec) {x : Int32} (hd : decode c.code pc = .ok (.i2b, 1)) (hp : pc + 1 = pc') (r : Rn p e below (T.setTop (mkF m pc' L (.int (x.toInt8.toInt32) :: S))) G) : Rn p e below (T.setTop (mkF m pc L (.int x :: S))) G := by
  subst hp; exact Rn.st (fun t q => XS.i2b X.here hx rfl hd rfl q) r
theorem R.i2c (X : Stand p l e R s m args below meth c T locs cells slots) (hx : p.tables.exec = Jvm.exec) {x : Int32} (hd : decode c.code pc = .ok (.i2c, 1)) (hp : pc + 1 = pc') (r : Rn p e below (T.setTop (mkF m pc' L (.int (x.toUInt32.toUInt16.toUInt32.toInt32) :: S))) G) : Rn p e below (T.setTop (mkF m pc L (.int x :: S))) G := by
  subst hp; exact Rn.st (fun t q => XS.i2c X.here hx rfl hd rfl q) r
theorem R.ishl (X : Stand p l e R s m args below meth c T locs cells slots) (hx : p.tables.exec = Jvm.exec) {x : Int32} {y : Int32} (hd : decode c.code pc = .ok (.ishl, 1)) (hp : pc + 1 = pc') (r : Rn p e below (T.setTop (mkF m pc' L (.int (x <<< (y &&& 31)) :: S))) G) : Rn p e below (T.setTop (mkF m pc L (.int y :: .int x :: S))) G := by
  subst hp; exact Rn.st (fun t q => XS.ishl X.here hx rfl hd rfl q) r
theorem R.ishr (X : Stand p l e R s m args below meth c T locs cells slots) (hx : p.tables.exec = Jvm.exec) {x : Int32} {y : Int32} (hd : decode c.code pc = .ok (.ishr, 1)) (hp : pc + 1 = pc') (r : Rn p e below (T.setTop (mkF m pc' L (.int (x >>> (y &&& 31)) :: S))) G) : Rn p e below (T.setTop (mkF m pc L (.int y :: .int x :: S))) G := by
  subst hp; exact Rn.st (fun t q => XS.ishr X.here hx rfl hd rfl q) r
theorem R.iushr (X : Stand p l e R s m args below meth c T locs cells slots) (hx : p.tables.exec = Jvm.exec) {x : Int32} {y : Int32} (hd : decode c.code pc = .ok (.iushr, 1)) (hp : pc + 1 = pc') (r : Rn p e below (T.setTop (mkF m pc' L (.int ((x.toUInt32 >>> (y &&& 31).toUInt32).toInt32) :: S))) G) : Rn p e below (T.setTop (mkF m pc L (.int y :: .int x :: S))) G := by
  subst hp; exact Rn.st (fun t q => XS.iushr X.here hx rfl hd rfl q) r
theorem R.lcmp (X : Stand p l e R s m args below meth c T locs cells slots) (hx : p.tables.exec = Jvm.exec) {x y : Int64} (hd : decode c.code pc = .ok (.lcmp, 1)) (hp : pc + 1 = pc') (r : Rn p e below (T.setTop (mkF m pc' L (.int (lcmpW x y) :: S))) G) : Rn p e below (T.setTop (mkF m pc L (.long y :: .long x :: S))) G := by
  subst hp; exact Rn.st (fun t q => XS.lcmp X.here hx rfl hd rfl q) r
theorem R.idiv (X : Stand p l e R s m args below meth c T locs cells slots) (hx : p.tables.exec = Jvm.exec) {x y : Int32} (hd : decode c.code pc = .ok (.idiv, 1)) (hy : y ≠ 0) (hp : pc + 1 = pc') (r : Rn p e below (T.setTop (mkF m pc' L (.int (x / y) :: S))) G) : Rn p e below (T.setTop (mkF m pc L (.int y :: .int x :: S))) G := by
  subst hp; exact Rn.st (fun t q => XS.idiv X.here hx rfl hd rfl hy q) r
theorem R.ldiv (X : Stand p l e R s m args below meth c T locs cells slots) (hx : p.tables.exec = Jvm.exec) {x y : Int64} (hd : decode c.code pc = .ok (.ldiv, 1)) (hy : y ≠ 0) (hp : pc + 1 = pc') (r : Rn p e below (T.setTop (mkF m pc' L (.long (x / y) :: S))) G) : Rn p e below (T.setTop (mkF m pc L (.long y :: .long x :: S))) G := by
  subst hp; exact Rn.st (fun t q => XS.ldiv X.here hx rfl hd rfl hy q) r
theorem R.lrem (X : Stand p l e R s m args below meth c T locs cells slots) (hx : p.tables.exec = Jvm.exec) {x y : Int64} (hd : decode c.code pc = .ok (.lrem, 1)) (hy : y ≠ 0) (hp : pc + 1 = pc') (r : Rn p e below (T.setTop (mkF m pc' L (.long (x - (x / y) * y) :: S))) G) : Rn p e below (T.setTop (mkF m pc L (.long y :: .long x :: S))) G := by
  subst hp; exact Rn.st (fun t q => XS.lrem X.here hx rfl hd rfl hy q) r
theorem R.iinc (X : Stand p l e R s m args below meth c T locs cells slots) (hx : p.tables.exec = Jvm.exec) {k : Nat} {cst : Int} {x : Int32} (hd : decode c.code pc = .ok (.iinc k cst, 3)) (hl : L[k]? = some (.val (.int x))) (hl' : storeLocals L k (.int (x + Int32.ofInt cst)) = some L') (hp : pc + 3 = pc') (r : Rn p e below (T.setTop (mkF m pc' L' (S))) G) : Rn p e below (T.setTop (mkF m pc L (S))) G := by
  subst hp; exact Rn.st (fun t q => XS.iinc X.here hx rfl hd hl hl' q) r
theorem R.dup (X : Stand p l e R s m args below meth c T locs cells slots) (hx : p.tables.exec = Jvm.exec) {x : Value} (hd : decode c.code pc = .ok (.dup, 1)) (hc : x.category = 1) (hp : pc + 1 = pc') (r : Rn p e below (T.setTop (mkF m pc' L (x :: x :: S))) G) : Rn p e below (T.setTop (mkF m pc L (x :: S))) G := by
  subst hp; exact Rn.st (fun t q => XS.dup X.here hx rfl hd rfl hc q) r
theorem R.pop (X : Stand p l e R s m args below meth c T locs cells slots) (hx : p.tables.exec = Jvm.exec) {x : Value} (hd : decode c.code pc = .ok (.pop, 1)) (hc : x.category = 1) (hp : pc + 1 = pc') (r : Rn p e below (T.setTop (mkF m pc' L (S))) G) : Rn p e below (T.setTop (mkF m pc L (x :: S))) G := by
  subst hp; exact Rn.st (fun t q => XS.pop X.here hx rfl hd rfl hc q) r
theorem R.ifYes (X : Stand p l e R s m args below meth c T locs cells slots) (hx : p.tables.exec = Jvm.exec) {cd : ClassFile.Cond} {x : Int32} {o : Int} (hd : decode c.code pc = .ok (.ifCond cd o, 3)) (hc : if_icmp.holds cd x 0 = true) (ho : 0 ≤ (pc : Int) + o) (hp : ((pc : Int) + o).toNat = pc') (r : Rn p e below (T.setTop (mkF m pc' L S)) G) : Rn p e below (T.setTop (mkF m pc L (.int x :: S))) G :=
  Rn.st (fun t q => XS.ifYes X.here hx rfl rfl hd rfl ((if0 _ _).trans hc) ho hp q) r
theorem R.ifNo (X : Stand p l e R s m args below meth c T locs cells slots) (hx : p.tables.exec = Jvm.exec) {cd : ClassFile.Cond} {x : Int32} {o : Int} (hd : decode c.code pc = .ok (.ifCond cd o, 3)) (hc : if_icmp.holds cd x 0 = false) (hp : pc + 3 = pc') (r : Rn p e below (T.setTop (mkF m pc' L (S))) G) : Rn p e below (T.setTop (mkF m pc L (.int x :: S))) G := by
  subst hp; exact Rn.st (fun t q => XS.ifNo X.here hx rfl hd rfl ((if0 _ _).trans hc) q) r
theorem R.icmpYes (X : Stand p l e R s m args below meth c T locs cells slots) (hx : p.tables.exec = Jvm.exec) {cd : ClassFile.Cond} {x y : Int32} {o : Int} (hd : decode c.code pc = .ok (.if_icmp cd o, 3)) (hc : if_icmp.holds cd x y = true) (ho : 0 ≤ (pc : Int) + o) (hp : ((pc : Int) + o).toNat = pc') (r : Rn p e below (T.setTop (mkF m pc' L S)) G) : Rn p e below (T.setTop (mkF m pc L (.int y :: .int x :: S))) G :=
  Rn.st (fun t q => XS.icmpYes X.here hx rfl rfl hd rfl hc ho hp q) r
theorem R.icmpNo (X : Stand p l e R s m args below meth c T locs cells slots) (hx : p.tables.exec = Jvm.exec) {cd : ClassFile.Cond} {x y : Int32} {o : Int} (hd : decode c.code pc = .ok (.if_icmp cd o, 3)) (hc : if_icmp.holds cd x y = false) (hp : pc + 3 = pc') (r : Rn p e below (T.setTop (mkF m pc' L (S))) G) : Rn p e below (T.setTop (mkF m pc L (.int y :: .int x :: S))) G := by
  subst hp; exact Rn.st (fun t q => XS.icmpNo X.here hx rfl hd rfl hc q) r
theorem R.goto (X : Stand p l e R s m args below meth c T locs cells slots) (hx : p.tables.exec = Jvm.exec)  {o : Int} (hd : decode c.code pc = .ok (.goto o, 3)) (ho : 0 ≤ (pc : Int) + o) (hp : ((pc : Int) + o).toNat = pc') (r : Rn p e below (T.setTop (mkF m pc' L S)) G) : Rn p e below (T.setTop (mkF m pc L (S))) G :=
  Rn.st (fun t q => XS.goto X.here hx rfl rfl hd ho hp q) r
theorem R.ifnonnullYes (X : Stand p l e R s m args below meth c T locs cells slots) (hx : p.tables.exec = Jvm.exec) {b : Addr} {o : Int} (hd : decode c.code pc = .ok (.ifnonnull o, 3)) (ho : 0 ≤ (pc : Int) + o) (hp : ((pc : Int) + o).toNat = pc') (r : Rn p e below (T.setTop (mkF m pc' L S)) G) : Rn p e below (T.setTop (mkF m pc L (.ref b :: S))) G :=
  Rn.st (fun t q => XS.ifnonnullYes X.here hx rfl rfl hd rfl ho hp q) r
end RSteps
section RBig
variable {p : Program} {l : Launch} {e : Env} {R : Room} {s : State} {m : MethodId} {args : Array Value} {below : List Frame} {meth : Method} {c : Code} {T : State} {locs : List Loc} {cells slots : Nat} {G : Outcome → State → Prop} {L L' : Array Slot} {S : List Value} {pc pc' : Nat} {Z : State} {a0 : Array Value} {h : Heap} {a : Addr} {own : String} {index : Nat}
theorem R.getF (X : Stand p l e R s m args below meth c T locs cells slots) (hx : p.tables.exec = Jvm.exec) (hZ : Z.Warmed39 s.vm) {R0 O n d host : String} (hown : s.vm.findClass own = some m.cls) (w : (Jvm.Cond.fieldLink own index R0 n d).before a0 Z = true ∨ (Jvm.Cond.fieldLinkNest own index R0 n d host).before a0 Z = true) (via : Via Z R0 O n d) (eT : T.heap = h) {v : Value} (F : Fld Z h a O n d v)
    (hd : decode c.code pc = .ok (.getfield index, 3)) (hp : pc + 3 = pc') (K : ∀ T', Stand p l e R s m args below meth c T' locs cells slots → T'.heap = h → Rn p e below (T'.setTop (mkF m pc' L (v :: S))) G) : Rn p e below (T.setTop (mkF m pc L (.ref a :: S))) G := by
  subst hp
  obtain ⟨T', X', e', st⟩ := getF X hx hZ hown w via eT F (g := mkF m pc L (.ref a :: S)) rfl rfl hd
  exact Rn.st st (K T' X' e')
theorem R.getS (X : Stand p l e R s m args below meth c T locs cells slots) (hx : p.tables.exec = Jvm.exec) (hZ : Z.Warmed39 s.vm) {R0 O n d host : String} (hown : s.vm.findClass own = some m.cls) (w : (Jvm.Cond.fieldLink own index R0 n d).before a0 Z = true ∨ (Jvm.Cond.fieldLinkNest own index R0 n d host).before a0 Z = true) (via : Via Z R0 O n d) (eT : T.heap = h) {v : Value} (F : Sta Z h O n d v)
    (hd : decode c.code pc = .ok (.getstatic index, 3)) (hp : pc + 3 = pc') (K : ∀ T', Stand p l e R s m args below meth c T' locs cells slots → T'.heap = h → Rn p e below (T'.setTop (mkF m pc' L (v :: S))) G) : Rn p e below (T.setTop (mkF m pc L S)) G := by
  subst hp
  obtain ⟨T', X', e', st⟩ := getS2 X hx hZ hown w via eT F (g := mkF m pc L S) rfl hd
  exact Rn.st st (K T' X' e')
theorem R.putF (X : Stand p l e R s m args below meth c T locs cells slots) (hx : p.tables.exec = Jvm.exec) (hZ : Z.Warmed39 s.vm) {R0 O n d host C : String} {kk : Nat} {ty : FieldType} (hown : s.vm.findClass own = some m.cls) (w : (Jvm.Cond.fieldLink own index R0 n d).before a0 Z = true ∨ (Jvm.Cond.fieldLinkNest own index R0 n d host).before a0 Z = true) (via : Via Z R0 O n d) (eT : T.heap = h) {v old : Value} (F : Fld Z h a O n d old) (E : Exa Z h a C)
    (Ly : (Jvm.Cond.lays C O n d).before a0 Z = true ∨ ((Jvm.Cond.laysFinal C O n d).before a0 Z = true ∧ own = O ∧ meth.name = "<init>")) (wi : (Jvm.Cond.instantiable C kk).before a0 Z = true) (hty : parseFieldDescriptor d = some ty) (hn : narrow ty v = v) (hf : fits ty v = true)
    (hd : decode c.code pc = .ok (.putfield index, 3)) (hp : pc + 3 = pc') (K : ∀ T' h', Stand p l e R s m args below meth c T' (locs ++ [⟨a, Jvm.RoadKit.slotOf Z O n d⟩]) cells slots → T'.heap = h' → Wr h h' a (Jvm.RoadKit.slotOf Z O n d) v → Rn p e below (T'.setTop (mkF m pc' L S)) G) : Rn p e below (T.setTop (mkF m pc L (v :: .ref a :: S))) G := by
  subst hp
  obtain ⟨T', h', X', e', W', st⟩ := putF X hx hZ hown w via eT F E Ly wi hty hn hf (g := mkF m pc L (v :: .ref a :: S)) rfl rfl hd
  exact Rn.st st (K T' h' X' e' W')
theorem R.newO (X : Stand p l e R s m args below meth c T locs cells slots) (hx : p.tables.exec = Jvm.exec) (hZ : Z.Warmed39 s.vm) {C : String} {n : Nat} (hown : s.vm.findClass own = some m.cls) (w : (Jvm.Cond.classLink own index C).before a0 Z = true) (wi : (Jvm.Cond.instantiable C n).before a0 Z = true) (wz : (Jvm.Cond.initialized C).before a0 Z = true) (eT : T.heap = h)
    (hd : decode c.code pc = .ok (.new index, 3)) (hp : pc + 3 = pc') (hc : cells + 1 ≤ R.cells) (hl : slots + n ≤ R.slots)
    (K : ∀ T' h' b, b = h.size → Stand p l e R s m args below meth c T' locs (cells + 1) (slots + n) → T'.heap = h' → Ext h h' → Exa Z h' b C → (∀ {O nm d : String} {ty : FieldType}, Laid Z a0 C O nm d → parseFieldDescriptor d = some ty → Fld Z h' b O nm d (defaultValue ty)) → Rn p e below (T'.setTop (mkF m pc' L (.ref b :: S))) G) : Rn p e below (T.setTop (mkF m pc L S)) G := by
  subst hp
  obtain ⟨T', h', X', e', E', A', D', -, st⟩ := newO X hx hZ hown w wi wz eT (g := mkF m pc L S) rfl hd hc hl
  exact Rn.st st (K T' h' _ rfl X' e' E' A' D')
theorem R.newP (X : Stand p l e R s m args below meth c T locs cells slots) (hx : p.tables.exec = Jvm.exec) (hZ : Z.Warmed39 s.vm) {aty : ArrayType} {ty : FieldType} (hty : newarray.typeOf aty = ty) (w : (Jvm.Cond.arrayClass ty).before a0 Z = true) (eT : T.heap = h) {n : Int32} (hn : ¬ n < 0) {cap : Nat} (hcap : n.toNatClampNeg ≤ cap) (hb : cap * 8 ≤ 536870912) {ad : String} (had : "[" ++ ty.toString = ad)
    (hd : decode c.code pc = .ok (.newarray aty, 2)) (hp : pc + 2 = pc') (hc : cells + 1 ≤ R.cells) (hl : slots + cap ≤ R.slots)
    (K : ∀ T' h' b k, b = h.size → Stand p l e R s m args below meth c T' locs (cells + 1) (slots + cap) → T'.heap = h' → Ext h h' → Exa Z h' b ad → Arh Z h' b k ty n [] [] (defaultValue ty) → Rn p e below (T'.setTop (mkF m pc' L (.ref b :: S))) G) : Rn p e below (T.setTop (mkF m pc L (.int n :: S))) G := by
  subst hp hty
  obtain ⟨T', h', k, X', e', E', A', EE, st⟩ := newPE X hx hZ w eT (g := mkF m pc L (.int n :: S)) rfl hd rfl hn hcap hb hc hl had
  exact Rn.st st (K T' h' _ k rfl X' e' E' EE (Arv.new A' hn).arh)
section Arr
variable {k : ClassId} {z : Int32} {hs : List (Int32 × Value)} {vs : List Value} {dv : Value} {j : Int32}
theorem R.alen (X : Stand p l e R s m args below meth c T locs cells slots) (hx : p.tables.exec = Jvm.exec) (hZ : Z.Warmed39 s.vm) (eT : T.heap = h) {ty : FieldType} (F : Arh Z h a k ty z hs vs dv) (hd : decode c.code pc = .ok (.arraylength, 1)) (hp : pc + 1 = pc') (r : Rn p e below (T.setTop (mkF m pc' L (.int z :: S))) G) : Rn p e below (T.setTop (mkF m pc L (.ref a :: S))) G := by
  subst hp
  obtain ⟨cl, Ar, qA, SA, NA, HA, GA⟩ := F
  exact Rn.st (fun t q => X.arraylength hx (by rw [eT]; exact Ar.1) (State.isArrayOf_alike hZ.alike Ar.2.1) (g := mkF m pc L (.ref a :: S)) rfl rfl hd _ (by rw [len_of SA NA]; exact q)) r
end Arr
theorem R.ldc2J (X : Stand p l e R s m args below meth c T locs cells slots) (hx : p.tables.exec = Jvm.exec) (hZ : Z.Warmed39 s.vm) {b : Int64} (hown : s.vm.findClass own = some m.cls) (w : (Jvm.Cond.constantLong own index b).before a0 Z = true) (hd : decode c.code pc = .ok (.ldc2_w index, 3)) (hp : pc + 3 = pc') (r : Rn p e below (T.setTop (mkF m pc' L (.long b :: S))) G) : Rn p e below (T.setTop (mkF m pc L S)) G := by
  subst hp; exact Rn.st (fun t q => X.ldc2Long hx hown (mvT hZ w) (g := mkF m pc L S) rfl hd _ q) r
theorem R.initO (X : Stand p l e R s m args below meth c T locs cells slots) (hx : p.tables.exec = Jvm.exec) (hZ : Z.Warmed39 s.vm) (hown : s.vm.findClass own = some m.cls) (w1 : (Jvm.Cond.methodLink own index Lib.objectInit).before a0 Z = true) (w2 : (Jvm.Cond.instanceMethod Lib.objectInit).before a0 Z = true) (w3 : (Jvm.Cond.code Lib.objectInit ⟨#[0xb1]⟩ 1 none).before a0 Z = true) (eT : T.heap = h) (hsize : L.size = c.maxLocals)
    (hd : decode c.code pc = .ok (.invokespecial index, 3)) (hp : pc + 3 = pc') (hf : 1 ≤ R.frames) {W : Nat} (hW : (S.map fun v => v.category).sum ≤ W) (hl : W + 12 ≤ R.locals)
    (K : ∀ T', Stand p l e R s m args below meth c T' locs cells slots → T'.heap = h → Rn p e below (T'.setTop (mkF m pc' L S)) G) : Rn p e below (T.setTop (mkF m pc L (.ref a :: S))) G := by
  subst hp
  obtain ⟨T', X', e', st⟩ := initO X hx hZ hown w1 w2 w3 eT (g := mkF m pc L (.ref a :: S)) rfl hsize rfl hd hf (W := W) (by show 2 * 0 + _ ≤ W; rw [Nat.mul_zero, Nat.zero_add]; exact hW) hl
  exact Rn.st st (K T' X' e')
section Calls
variable {y : MethodName} {bytes : ByteArray} {maxL : Nat} {ret : Option FieldType} {rm : Room} {as' : List Value} {Q : Option Value → Heap → List Loc → Prop} {S0 : List Value} {W : Nat}
theorem R.callS (X : Stand p l e R s m args below meth c T locs cells slots) (hx : p.tables.exec = Jvm.exec) (hZ : Z.Warmed39 s.vm) (hown : s.vm.findClass own = some m.cls) (w1 : (Jvm.Cond.methodLink own index y).before a0 Z = true) (w2 : (Jvm.Cond.static y).before a0 Z = true) (w3 : (Jvm.Cond.initialized y.cls).before a0 Z = true) (w4 : (Jvm.Cond.code y bytes maxL ret).before a0 Z = true) (hy : y.cls ≠ "java/lang/invoke/MethodHandle" ∧ y.cls ≠ "java/lang/invoke/VarHandle") (eT : T.heap = h)
    (hM : MetFree l y (head1 [Jvm.Cond.code y bytes maxL ret] rm) (fun a U => a = as'.toArray ∧ Z.Warmed39 U.vm ∧ U.heap = h) (fun _ _ _ _ _ => True) (fun _ U o U' => ∃ v L, o = .returned v ∧ Q v U'.heap L ∧ FrameEnd U o U' L rm.cells rm.slots))
    (hf : rm.frames + 1 ≤ R.frames) (hW : (S.map fun v => v.category).sum ≤ W) (hl : W + (maxL + 11) + rm.locals ≤ R.locals) (hsize : L.size = c.maxLocals) (hlen : ∀ sig, parseMethodDescriptor y.desc = some sig → as'.length = sig.parameters.length) (hst : S0 = as'.reverse ++ S) (hd : decode c.code pc = .ok (.invokestatic index, 3)) (hp : pc + 3 = pc') (hc : cells + rm.cells ≤ R.cells) (hs : slots + rm.slots ≤ R.slots)
    (K : ∀ v T' L1, Stand p l e R s m args below meth c T' (locs ++ L1) (cells + rm.cells) (slots + rm.slots) → Q v T'.heap L1 → Rn p e below (T'.setTop (mkF m pc' L (v.toList ++ S))) G) : Rn p e below (T.setTop (mkF m pc L S0)) G := by
  subst hp
  obtain ⟨v, vm1, ⟨T', L2, k', n'⟩, -, X', ⟨Lc, hQ, l1, y1, z1⟩, st⟩ := Jvm.LawKit.callS X hx (y := y) hown (mvT hZ w1) (mvT hZ w2) (mvT hZ w3) (mvT hZ w4) hy (backOf (W := W) hM hZ w4 w3 hf hl) (g := mkF m pc L S0) rfl hsize (argsL := as') (rest := S) hlen hst (by show 2 * 0 + _ ≤ W; rw [Nat.mul_zero, Nat.zero_add]; exact hW) hd (fun _ _ => ⟨rfl, eT, hc, hs⟩)
  dsimp only [Pt.U, Pt.locs, Pt.cells, Pt.slots] at X' l1 y1 z1 st hQ
  subst l1 y1 z1
  exact Rn.st st (K v T' Lc X' hQ)
theorem R.special (X : Stand p l e R s m args below meth c T locs cells slots) (hx : p.tables.exec = Jvm.exec) (hZ : Z.Warmed39 s.vm) (hy1 : y.name = "<init>") (hown : s.vm.findClass own = some m.cls) (w1 : (Jvm.Cond.methodLink own index y).before a0 Z = true) (w2 : (Jvm.Cond.instanceMethod y).before a0 Z = true) (w3 : (Jvm.Cond.initialized y.cls).before a0 Z = true) (w4 : (Jvm.Cond.code y bytes maxL none).before a0 Z = true) (hy : y.cls ≠ "java/lang/invoke/MethodHandle" ∧ y.cls ≠ "java/lang/invoke/VarHandle") (eT : T.heap = h)
    (hM : MetFree l y (head1 [Jvm.Cond.code y bytes maxL none] rm) (fun u U => u = (.ref a :: as').toArray ∧ Z.Warmed39 U.vm ∧ U.heap = h) (fun _ _ _ _ _ => True) (fun _ U o U' => ∃ v L, o = .returned v ∧ Q v U'.heap L ∧ FrameEnd U o U' L rm.cells rm.slots))
    (hf : rm.frames + 1 ≤ R.frames) (hW : (S.map fun v => v.category).sum ≤ W) (hl : W + (maxL + 11) + rm.locals ≤ R.locals) (hsize : L.size = c.maxLocals) (hlen : ∀ sig, parseMethodDescriptor y.desc = some sig → as'.length = sig.parameters.length) (hst : S0 = as'.reverse ++ .ref a :: S) (hd : decode c.code pc = .ok (.invokespecial index, 3)) (hp : pc + 3 = pc') (hc : cells + rm.cells ≤ R.cells) (hs : slots + rm.slots ≤ R.slots)
    (K : ∀ v T' L1, Stand p l e R s m args below meth c T' (locs ++ L1) (cells + rm.cells) (slots + rm.slots) → Q v T'.heap L1 → Rn p e below (T'.setTop (mkF m pc' L (v.toList ++ S))) G) : Rn p e below (T.setTop (mkF m pc L S0)) G := by
  subst hp
  obtain ⟨v, vm1, ⟨T', L2, k', n'⟩, -, X', ⟨Lc, hQ, l1, y1, z1⟩, st⟩ := X.specialBack hx (y := y) hy1 hown (mvT hZ w1) (mvT hZ w2) (mvT hZ w4) hy (backOf (W := W) hM hZ w4 w3 hf hl) (g := mkF m pc L S0) rfl hsize (Steps.refl _) (a := a) (argsL := as') (rest := S) hlen hst (by show 2 * 0 + _ ≤ W; rw [Nat.mul_zero, Nat.zero_add]; exact hW) hd (fun _ _ => ⟨rfl, eT, hc, hs⟩)
  dsimp only [Pt.U, Pt.locs, Pt.cells, Pt.slots] at X' l1 y1 z1 st hQ
  subst l1 y1 z1
  exact Rn.st (fun t q => st.trans q) (K v T' Lc X' hQ)
theorem R.virtual (X : Stand p l e R s m args below meth c T locs cells slots) (hx : p.tables.exec = Jvm.exec) (hZ : Z.Warmed39 s.vm) {C : String} {z : MethodName} (hown : s.vm.findClass own = some m.cls) (w1 : (Jvm.Cond.methodLink own index y).before a0 Z = true) (w2 : (Jvm.Cond.declares y).before a0 Z = true) (hnf : NotFace s y) (w5 : (Jvm.Cond.selects C y z).before a0 Z = true) (w6 : (Jvm.Cond.instanceMethod z).before a0 Z = true) (w3 : (Jvm.Cond.initialized z.cls).before a0 Z = true) (w4 : (Jvm.Cond.code z bytes maxL ret).before a0 Z = true) (hy : y.cls ≠ "java/lang/invoke/MethodHandle" ∧ y.cls ≠ "java/lang/invoke/VarHandle") (eT : T.heap = h) (E : Exa Z h a C)
    (hM : MetFree l z (head1 [Jvm.Cond.code z bytes maxL ret] rm) (fun u U => u = (.ref a :: as').toArray ∧ Z.Warmed39 U.vm ∧ U.heap = h) (fun _ _ _ _ _ => True) (fun _ U o U' => ∃ v L, o = .returned v ∧ Q v U'.heap L ∧ FrameEnd U o U' L rm.cells rm.slots))
    (hf : rm.frames + 1 ≤ R.frames) (hW : (S.map fun v => v.category).sum ≤ W) (hl : W + (maxL + 11) + rm.locals ≤ R.locals) (hsize : L.size = c.maxLocals) (hlen : ∀ sig, parseMethodDescriptor y.desc = some sig → as'.length = sig.parameters.length) (hst : S0 = as'.reverse ++ .ref a :: S) (hd : decode c.code pc = .ok (.invokevirtual index, 3)) (hp : pc + 3 = pc') (hc : cells + rm.cells ≤ R.cells) (hs : slots + rm.slots ≤ R.slots)
    (K : ∀ v T' L1, Stand p l e R s m args below meth c T' (locs ++ L1) (cells + rm.cells) (slots + rm.slots) → Q v T'.heap L1 → Rn p e below (T'.setTop (mkF m pc' L (v.toList ++ S))) G) : Rn p e below (T.setTop (mkF m pc L S0)) G := by
  subst hp
  obtain ⟨cq, kq, qa, qb, qc⟩ := isOf hZ eT E
  obtain ⟨v, vm1, ⟨T', L2, k', n'⟩, -, X', ⟨Lc, hQ, l1, y1, z1⟩, st⟩ := X.virtualBack hx (y := y) (z := z) hown (mvT hZ w1) (mvT hZ w2) hnf (mvT hZ w5) (mvT hZ w6) hy (backOf (W := W) hM hZ w4 w3 hf hl) qa qc (g := mkF m pc L S0) rfl hsize (Steps.refl _) (argsL := as') (rest := S) hlen hst (by show 2 * 0 + _ ≤ W; rw [Nat.mul_zero, Nat.zero_add]; exact hW) hd (fun _ _ => ⟨rfl, eT, hc, hs⟩)
  dsimp only [Pt.U, Pt.locs, Pt.cells, Pt.slots] at X' l1 y1 z1 st hQ
  subst l1 y1 z1
  exact Rn.st (fun t q => st.trans q) (K v T' Lc X' hQ)
end Calls
end RBig
section RMore
variable {p : Program} {l : Launch} {e : Env} {R : Room} {s : State} {m : MethodId} {args : Array Value} {below : List Frame} {meth : Method} {c : Code} {T : State} {locs : List Loc} {cells slots : Nat} {G : Outcome → State → Prop} {L L' : Array Slot} {S : List Value} {pc pc' : Nat} {Z : State} {a0 : Array Value} {h : Heap} {a : Addr} {own : String} {index : Nat}
end RMore
section RMore2
variable {p : Program} {l : Launch} {e : Env} {R : Room} {s : State} {m : MethodId} {args : Array Value} {below : List Frame} {meth : Method} {c : Code} {T : State} {locs : List Loc} {cells slots : Nat} {G : Outcome → State → Prop} {L L' : Array Slot} {S : List Value} {pc pc' : Nat} {Z : State} {a0 : Array Value} {h : Heap} {a : Addr} {own : String} {index : Nat}
/-- an array of so many references of a class -/
def own_AR (Z : State) (h : Heap) (b : Addr) (C : String) (n : Nat) : Prop := ∃ cl : Cell, Arr Z h b cl (.object C) ∧ cl.slots.size = n ∧ Ovr Z cl.cls C
theorem own_AR.other {Z : State} {h h' : Heap} {a b : Addr} {sl : Nat} {v : Value} {C : String} {n : Nat} (F : own_AR Z h b C n) (W : Wr h h' a sl v) (hne : b ≠ a) : own_AR Z h' b C n := by
  obtain ⟨cl, A, q⟩ := F
  exact ⟨cl, Arr.other W A hne, q⟩
/-- the cache of boxes of a class -/
def own_BX (Z : State) (CC K : String) (ca : Addr) : Prop := Sta Z Z.heap CC "cache" ("[L" ++ K ++ ";") (.ref ca) ∧ ∃ cl : Cell, Arr Z Z.heap ca cl (.object K) ∧ cl.slots.size = 256 ∧ ∀ k : Int32, 0 ≤ k.toInt → k.toInt < 256 → ∃ a : Addr, cl.slots[k.toNatClampNeg]? = some (.ref a) ∧ Exa Z Z.heap a K
theorem own_size {n : Nat} {k : Int32} {z : Nat} (h : n < 2 ^ 31) (e : n.toInt32 = k) (ek : k.toInt = (z : Int)) : n = z := by
  have u := congrArg Int32.toInt e
  rw [len_toInt h, ek] at u
  omega
end RMore2
section RBy
variable {p : Program} {l : Launch} {e : Env} {R : Room} {s : State} {m : MethodId} {args : Array Value} {below : List Frame} {meth : Method} {c : Code} {T : State} {locs : List Loc} {cells slots : Nat} {G : Outcome → State → Prop} {L L' : Array Slot} {S : List Value} {pc pc' : Nat} {Z : State} {a0 : Array Value} {h h' : Heap} {a b : Addr} {own : String} {index : Nat} {z : Int32} {f : Nat → Int32}
/-- a byte[] of length z that holds f -/
def own_By (Z : State) (h : Heap) (b : Addr) (z : Int32) (f : Nat → Int32) : Prop := ∃ c : Cell, Arr Z h b c .byte ∧ c.slots.size = z.toNatClampNeg ∧ ¬ z < 0 ∧ (∀ i, i < c.slots.size → c.slots[i]? = some (.int (f i))) ∧ ∀ i, i < c.slots.size → fits .byte (.int (f i)) = true
theorem own_By.lt (F : own_By Z h b z f) : b < h.size := by obtain ⟨c, A, -⟩ := F; exact A.lt
theorem own_By.ext (F : own_By Z h b z f) (E : Ext h h') : own_By Z h' b z f := by obtain ⟨c, A, r⟩ := F; exact ⟨c, A.ext E, r⟩
theorem own_By.other {sl : Nat} {v : Value} (F : own_By Z h b z f) (W : Wr h h' a sl v) (q : b ≠ a) : own_By Z h' b z f := by obtain ⟨c, A, r⟩ := F; exact ⟨c, A.other W q, r⟩
theorem own_By.keep {ws : List Addr} (F : own_By Z h b z f) (K : Keep h h' ws) (q : b ∉ ws) : own_By Z h' b z f := by obtain ⟨c, A, r⟩ := F; exact ⟨c, ⟨K.2.1 b c A.1 q, A.2⟩, r⟩
theorem own_By.nneg (F : own_By Z h b z f) : ¬ z < 0 := by obtain ⟨c, A, -, q, -⟩ := F; exact q
theorem own_By.of {k : ClassId} {hs : List (Int32 × Value)} {vs : List Value} {dv : Value} (F : Arh Z h b k .byte z hs vs dv) (q : ∀ i, i < z.toNatClampNeg → getH hs vs dv i = .int (f i)) : own_By Z h b z f := by
  obtain ⟨c, A, -, S, N, H, G⟩ := F
  exact ⟨c, A, S, N, fun i hi => (H i hi).trans (congrArg some (q i (S ▸ hi))), fun i hi => by rw [← q i (S ▸ hi)]; exact G i hi⟩
theorem own_By.congr {g : Nat → Int32} (F : own_By Z h b z f) (q : ∀ i, i < z.toNatClampNeg → g i = f i) : own_By Z h b z g := by
  obtain ⟨c, A, S, N, H, G⟩ := F
  exact ⟨c, A, S, N, fun i hi => by rw [q i (S ▸ hi)]; exact H i hi, fun i hi => by rw [q i (S ▸ hi)]; exact G i hi⟩
def own_lst (n : Nat) (f : Nat → Int32) : List Value := (List.range n).map fun i => .int (f i)
theorem own_lst_len (n : Nat) (f : Nat → Int32) : (own_lst n f).length = n := by simp [own_lst]
theorem own_lst_get {n i : Nat} {f : Nat → Int32} (h : i < n) (d : Value) : (own_lst n f).getD i d = .int (f i) := by simp [own_lst, h]
theorem own_By.arv (F : own_By Z h b z f) : ∃ k, Arv Z h b k .byte z (own_lst z.toNatClampNeg f) (.int 0) := by
  obtain ⟨c, A, S, N, H, G⟩ := F
  exact ⟨c.cls, c, A, rfl, S, N, fun i hi => by rw [own_lst_get (S ▸ hi)]; exact H i hi, fun i hi => by rw [own_lst_get (S ▸ hi)]; exact G i hi⟩
/-- f with v at j -/
def own_up (f : Nat → Int32) (j : Nat) (v : Int32) : Nat → Int32 := fun i => if i = j then v else f i
/-- n of g's from o on, laid into f at d -/
def own_cp (f : Nat → Int32) (d n : Nat) (g : Nat → Int32) (o : Nat) : Nat → Int32 := fun i => if d ≤ i ∧ i < d + n then g (o + (i - d)) else f i
theorem R.alenY (X : Stand p l e R s m args below meth c T locs cells slots) (hx : p.tables.exec = Jvm.exec) (hZ : Z.Warmed39 s.vm) (eT : T.heap = h) (F : own_By Z h a z f) (hd : decode c.code pc = .ok (.arraylength, 1)) (hp : pc + 1 = pc') (r : Rn p e below (T.setTop (mkF m pc' L (.int z :: S))) G) : Rn p e below (T.setTop (mkF m pc L (.ref a :: S))) G := by
  subst hp
  obtain ⟨cl, Ar, SA, NA, HA, GA⟩ := F
  exact Rn.st (fun t q => X.arraylength hx (by rw [eT]; exact Ar.1) (State.isArrayOf_alike hZ.alike Ar.2.1) (g := mkF m pc L (.ref a :: S)) rfl rfl hd _ (by rw [len_of SA NA]; exact q)) r
theorem R.baloadY {j v : Int32} (X : Stand p l e R s m args below meth c T locs cells slots) (hx : p.tables.exec = Jvm.exec) (hZ : Z.Warmed39 s.vm) (eT : T.heap = h) (F : own_By Z h a z f) (hb : ¬ j < 0 ∧ j < z) (hv : f j.toNatClampNeg = v) (hd : decode c.code pc = .ok (.baload, 1)) (hp : pc + 1 = pc') (r : Rn p e below (T.setTop (mkF m pc' L (.int v :: S))) G) : Rn p e below (T.setTop (mkF m pc L (.int j :: .ref a :: S))) G := by
  subst hp
  obtain ⟨cl, Ar, SA, NA, HA, GA⟩ := F
  have hin := inb_of SA hb
  exact Rn.st (fun t q => X.baloadBytes hx (by rw [eT]; exact Ar.1) (State.isArrayOf_alike hZ.alike Ar.2.1) Ar.2.2 hin (by rw [← hv]; exact HA _ (Nat.lt_of_not_le fun y => hin (Or.inr y))) (g := mkF m pc L (.int j :: .ref a :: S)) rfl rfl hd _ q) r
theorem R.bastoreY {j x v : Int32} (X : Stand p l e R s m args below meth c T locs cells slots) (hx : p.tables.exec = Jvm.exec) (hZ : Z.Warmed39 s.vm) (eT : T.heap = h) (F : own_By Z h a z f) (hb : ¬ j < 0 ∧ j < z) (hv : nar .byte x = v) (hd : decode c.code pc = .ok (.bastore, 1)) (hp : pc + 1 = pc')
    (K : ∀ T' h', Stand p l e R s m args below meth c T' (locs ++ [⟨a, j.toNatClampNeg⟩]) cells slots → T'.heap = h' → Wr h h' a j.toNatClampNeg (.int v) → own_By Z h' a z (own_up f j.toNatClampNeg v) → Rn p e below (T'.setTop (mkF m pc' L S)) G) : Rn p e below (T.setTop (mkF m pc L (.int x :: .int j :: .ref a :: S))) G := by
  subst hp hv
  obtain ⟨kk, F'⟩ := F.arv
  obtain ⟨cl, Ar, qA, SA, NA, HA, GA⟩ := F'.arh
  have hin := inb_of SA hb
  obtain ⟨T', h', X', e', W', st⟩ := stB X hx hZ eT Ar (j := j) hin (g := mkF m pc L (.int x :: .int j :: .ref a :: S)) rfl rfl hd
  refine Rn.st st (K T' h' X' e' W' (own_By.of (Arh.push Ar qA SA NA HA GA (fits_nar_byte x) W' hin) fun i hi => ?_))
  have ei : j.toInt = (j.toNatClampNeg : Int) := nat_of hb.1
  show (if j.toInt = (i : Int) then Value.int (nar .byte x) else getH [] _ _ i) = _
  unfold own_up
  by_cases q : i = j.toNatClampNeg
  · rw [if_pos (by rw [ei, q]), if_pos q]
  · rw [if_neg (fun y => q (by rw [ei] at y; exact (Int.ofNat.inj y).symm)), if_neg q]
    exact own_lst_get hi _
theorem R.newY (X : Stand p l e R s m args below meth c T locs cells slots) (hx : p.tables.exec = Jvm.exec) (hZ : Z.Warmed39 s.vm) (w : (Jvm.Cond.arrayClass .byte).before a0 Z = true) (eT : T.heap = h) {n : Int32} (hn : ¬ n < 0) {cap : Nat} (hcap : n.toNatClampNeg ≤ cap) (hb : cap * 8 ≤ 536870912)
    (hd : decode c.code pc = .ok (.newarray .byte, 2)) (hp : pc + 2 = pc') (hc : cells + 1 ≤ R.cells) (hl : slots + cap ≤ R.slots)
    (K : ∀ T' h' b, b = h.size → Stand p l e R s m args below meth c T' locs (cells + 1) (slots + cap) → T'.heap = h' → Ext h h' → own_By Z h' b n (fun _ => 0) → Rn p e below (T'.setTop (mkF m pc' L (.ref b :: S))) G) : Rn p e below (T.setTop (mkF m pc L (.int n :: S))) G := by
  refine Jvm.Pilot.@@N@@.R.newP X hx hZ (ty := .byte) rfl w eT hn hcap hb (ad := "[B") (by decide) hd hp hc hl ?_
  intro T' h' b k g X' e' E' _ A
  exact K T' h' b g X' e' E' (own_By.of A fun i _ => by simp [getH, defaultValue])
theorem R.copyY {zs zd sp dp nn : Int32} {fs fd : Nat → Int32} {n0 W : Nat} (X : Stand p l e R s m args below meth c T locs cells slots) (hx : p.tables.exec = Jvm.exec) (hZ : Z.Warmed39 s.vm) (hown : s.vm.findClass own = some m.cls)
    (w1 : (Jvm.Cond.methodLink own index Jvm.Stand.acN).before a0 Z = true) (w2 : (Jvm.Cond.native Jvm.Stand.acN).before a0 Z = true) (w3 : (Jvm.Cond.static Jvm.Stand.acN).before a0 Z = true) (w4 : (Jvm.Cond.initialized "java/lang/System").before a0 Z = true) (eT : T.heap = h)
    (A : own_By Z h a zs fs) (B : own_By Z h b zd fd) (h1 : 0 ≤ sp.toInt) (h2 : 0 ≤ dp.toInt) (h3 : 0 ≤ nn.toInt) (h4 : sp.toInt + nn.toInt ≤ zs.toInt) (h5 : dp.toInt + nn.toInt ≤ zd.toInt) (N : Fr n0 locs) (ge : n0 ≤ b)
    (hsize : L.size = c.maxLocals) (hd : decode c.code pc = .ok (.invokestatic index, 3)) (hp : pc + 3 = pc') (hf : 1 ≤ R.frames) (hW : (S.map fun v => v.category).sum ≤ W) (hlo : W + (nativeFrameWords "java/lang/System" "arraycopy" 5 + 11) ≤ R.locals)
    (K : ∀ T' h' L1, Stand p l e R s m args below meth c T' L1 cells slots → T'.heap = h' → Fr n0 L1 → Keep h h' [b] → own_By Z h' b zd (own_cp fd dp.toInt.toNat nn.toInt.toNat fs sp.toInt.toNat) → Rn p e below (T'.setTop (mkF m pc' L S)) G) : Rn p e below (T.setTop (mkF m pc L (.int nn :: .int dp :: .ref b :: .int sp :: .ref a :: S))) G := by
  subst hp
  obtain ⟨ka, A'⟩ := A.arv
  obtain ⟨kb, B'⟩ := B.arv
  have t0 : (0 : Int32).toInt = 0 := by decide
  have nl : ∀ {x : Int32}, 0 ≤ x.toInt → ¬ x < 0 := fun {x} q y => by rw [Int32.lt_iff_toInt_lt, t0] at y; omega
  have cl : ∀ x : Int32, x.toNatClampNeg = x.toInt.toNat := fun x => rfl
  obtain ⟨T', h', L1, X', e', N', K', V', st⟩ := cpA X hx hZ hown w1 w2 w3 w4 eT A' B' (Or.inl ⟨rfl, rfl⟩) (nl h1) (nl h2) (nl h3) (by simp only [cl]; omega) (by simp only [cl]; omega) rfl (by rw [own_lst_len]; simp only [cl]; omega) N ge (g := mkF m pc L (.int nn :: .int dp :: .ref b :: .int sp :: .ref a :: S)) rfl hsize (rest := S) rfl hd hf (by show 2 * 0 + _ ≤ W; rw [Nat.mul_zero, Nat.zero_add]; exact hW) hlo
  refine Rn.st st (K T' h' L1 X' e' N' K' (own_By.of V'.arh fun i hi => ?_))
  simp only [cl] at hi ⊢
  show List.getD _ i _ = _
  unfold own_cp
  have e1 : ((own_lst zd.toInt.toNat fd).take dp.toInt.toNat).length = dp.toInt.toNat := by rw [List.length_take, own_lst_len]; omega
  rw [List.getD_eq_getElem?_getD, List.append_assoc, List.getElem?_append, e1]
  by_cases q1 : i < dp.toInt.toNat
  · rw [if_pos q1, if_neg (by omega), List.getElem?_take, if_pos q1, ← List.getD_eq_getElem?_getD]
    exact own_lst_get hi _
  · rw [if_neg q1, List.getElem?_append, List.length_map, List.length_range]
    by_cases q2 : i < dp.toInt.toNat + nn.toInt.toNat
    · rw [if_pos (by omega), if_pos ⟨by omega, q2⟩, List.getElem?_map, List.getElem?_range (by omega)]
      exact own_lst_get (by omega) _
    · rw [if_neg (by omega), if_neg (by omega), List.getElem?_drop, ← List.getD_eq_getElem?_getD]
      rw [show dp.toInt.toNat + nn.toInt.toNat + (i - dp.toInt.toNat - nn.toInt.toNat) = i from by omega]
      exact own_lst_get hi _
section ArrM
variable {k : ClassId} {hs : List (Int32 × Value)} {vs : List Value} {dv : Value} {j : Int32}
theorem R.laload (X : Stand p l e R s m args below meth c T locs cells slots) (hx : p.tables.exec = Jvm.exec) (hZ : Z.Warmed39 s.vm) (eT : T.heap = h) (F : Arh Z h a k .long z hs vs dv) (hb : ¬ j < 0 ∧ j < z) {v : Value} (hv : getH hs vs dv j.toNatClampNeg = v) (hd : decode c.code pc = .ok (.laload, 1)) (hp : pc + 1 = pc') (r : Rn p e below (T.setTop (mkF m pc' L (v :: S))) G) : Rn p e below (T.setTop (mkF m pc L (.int j :: .ref a :: S))) G := by
  subst hp
  obtain ⟨cl, Ar, qA, SA, NA, HA, GA⟩ := F
  have hin := inb_of SA hb
  exact Rn.st (fun t q => X.laload hx (by rw [eT]; exact Ar.1) (State.isArrayOf_alike hZ.alike Ar.2.1) Ar.2.2 hin (atH HA hin hv) (g := mkF m pc L (.int j :: .ref a :: S)) rfl rfl hd _ q) r
theorem R.caload (X : Stand p l e R s m args below meth c T locs cells slots) (hx : p.tables.exec = Jvm.exec) (hZ : Z.Warmed39 s.vm) (eT : T.heap = h) (F : Arh Z h a k .char z hs vs dv) (hb : ¬ j < 0 ∧ j < z) {v : Value} (hv : getH hs vs dv j.toNatClampNeg = v) (hd : decode c.code pc = .ok (.caload, 1)) (hp : pc + 1 = pc') (r : Rn p e below (T.setTop (mkF m pc' L (v :: S))) G) : Rn p e below (T.setTop (mkF m pc L (.int j :: .ref a :: S))) G := by
  subst hp
  obtain ⟨cl, Ar, qA, SA, NA, HA, GA⟩ := F
  have hin := inb_of SA hb
  exact Rn.st (fun t q => X.caload hx (by rw [eT]; exact Ar.1) (State.isArrayOf_alike hZ.alike Ar.2.1) Ar.2.2 hin (atH HA hin hv) (g := mkF m pc L (.int j :: .ref a :: S)) rfl rfl hd _ q) r
theorem R.lastore (X : Stand p l e R s m args below meth c T locs cells slots) (hx : p.tables.exec = Jvm.exec) (hZ : Z.Warmed39 s.vm) (eT : T.heap = h) (F : Arh Z h a k .long z hs vs dv) (hb : ¬ j < 0 ∧ j < z) {x : Int64} (hd : decode c.code pc = .ok (.lastore, 1)) (hp : pc + 1 = pc')
    (K : ∀ T' h', Stand p l e R s m args below meth c T' (locs ++ [⟨a, j.toNatClampNeg⟩]) cells slots → T'.heap = h' → Wr h h' a j.toNatClampNeg (.long x) → Arh Z h' a k .long z ((j, .long x) :: hs) vs dv → Rn p e below (T'.setTop (mkF m pc' L S)) G) : Rn p e below (T.setTop (mkF m pc L (.long x :: .int j :: .ref a :: S))) G := by
  subst hp
  obtain ⟨cl, Ar, qA, SA, NA, HA, GA⟩ := F
  have hin := inb_of SA hb
  obtain ⟨T', h', X', e', W', st⟩ := stJ X hx hZ eT Ar (j := j) hin (g := mkF m pc L (.long x :: .int j :: .ref a :: S)) rfl rfl hd
  exact Rn.st st (K T' h' X' e' W' (Arh.push Ar qA SA NA HA GA rfl W' hin))
theorem R.castore (X : Stand p l e R s m args below meth c T locs cells slots) (hx : p.tables.exec = Jvm.exec) (hZ : Z.Warmed39 s.vm) (eT : T.heap = h) (F : Arh Z h a k .char z hs vs dv) (hb : ¬ j < 0 ∧ j < z) {x : Int32} (hn : nar .char x = x) (hd : decode c.code pc = .ok (.castore, 1)) (hp : pc + 1 = pc')
    (K : ∀ T' h', Stand p l e R s m args below meth c T' (locs ++ [⟨a, j.toNatClampNeg⟩]) cells slots → T'.heap = h' → Wr h h' a j.toNatClampNeg (.int x) → Arh Z h' a k .char z ((j, .int x) :: hs) vs dv → Rn p e below (T'.setTop (mkF m pc' L S)) G) : Rn p e below (T.setTop (mkF m pc L (.int x :: .int j :: .ref a :: S))) G := by
  subst hp
  obtain ⟨cl, Ar, qA, SA, NA, HA, GA⟩ := F
  have hin := inb_of SA hb
  obtain ⟨T', h', X', e', W', st⟩ := stC X hx hZ eT Ar (j := j) hin (g := mkF m pc L (.int x :: .int j :: .ref a :: S)) rfl rfl hd
  rw [hn] at W'
  exact Rn.st st (K T' h' X' e' W' (Arh.push Ar qA SA NA HA GA (by have q := fits_nar_char x; rw [hn] at q; exact q) W' hin))
end ArrM
end RBy
theorem Rn.retW {p : Program} {l : Launch} {e : Env} {R : Room} {s : State} {m : MethodId} {args : Array Value} {below : List Frame} {meth : Method} {c : Code} {T : State} {locs : List Loc} {cells slots k n : Nat} {A : State} {h : Heap} {vm0 : Vm} {k0 : Nat}
    (X : Stand p l e R (s.setVm vm0) m args below meth c T locs cells slots) (hS : s.Since vm0 k0) (hk : k0 ≤ h.size) (hlk : meth.locks = false) {v : Option Value} (hv : meth.sig.returnType = none → v = none) {Q : Option Value → Vm → Heap → List Loc → Prop} (eT : T.heap = h)
    (last : ∀ fs, (∀ (f : JFrame) (acts : List Action), f.method = m → f.locked = none → f.entered = [] → (doReturn e (T.setTop f) acts v).1 = T.setFrames fs) → Steps p.tables e below A (T.setFrames fs))
    (q : Q v T.vm h locs) (hc : cells ≤ k) (hs : slots ≤ n) : Rn p e below A (fun o U' => ∃ v L, o = .returned v ∧ Q v U'.vm U'.heap L ∧ ReturnedEndW s o U' L k n) := by
  obtain ⟨fs, hr, hrun, hended, hW1, hW2, hW3, hsame⟩ := X.leaveW hS (by rw [eT]; exact hk) hv hlk
  refine ⟨_, _, last fs hr, hrun, hended, _, _, rfl, ?_, hW1, hW2, hW3, hsame.mono hc hs⟩
  show Q v T.vm T.heap locs
  rw [eT]; exact q
section RHeld
variable {p : Program} {l : Launch} {e : Env} {R : Room} {s : State} {m : MethodId} {args : Array Value} {below : List Frame} {meth : Method} {c : Code} {T : State} {locs : List Loc} {cells slots : Nat} {G : Outcome → State → Prop} {L L' : Array Slot} {S : List Value} {pc pc' : Nat} {Z : State} {a0 : Array Value} {h h' : Heap} {a b : Addr} {own : String} {index : Nat} {z : Int32} {f : Nat → Int32} {EL : List (String × Nat)} {vm0 : Vm} {k0 : Nat}
theorem own_decl {y : MethodName} {bytes : ByteArray} {maxL : Nat} {ret : Option FieldType} (w : (Jvm.Cond.instanceMethod y).before a0 Z = true) (wc : (Jvm.Cond.code y bytes maxL ret).before a0 Z = true) : (Jvm.Cond.declares y).before a0 Z = true := by
  obtain ⟨mk, methM, hnamed, hmethM, hstM, habM⟩ := Cond.instanceMethod_spec w
  obtain ⟨m2, cM, q1, -, -, -, -, -, -, hsig⟩ := Cond.code_spec hnamed wc
  cases hmethM.symm.trans q1
  simp [Cond.before, Cond.holds, Cond.value, hnamed, hmethM, hstM, hsig]
theorem own_nf {C : String} {y y' : MethodName} (hc : y.cls = y'.cls) (w : (Jvm.Cond.selects C y' y').before a0 Z = true) : NotFace Z y := fun r0 h0 => by
  obtain ⟨c2, r2, m2, -, -, q3, -, kP, hkP, hkPi⟩ := Cond.selects_spec w
  have u := (findClass_of_methodNamed h0).symm.trans (hc ▸ findClass_of_methodNamed q3)
  rw [Option.some.inj u]
  exact ⟨kP, hkP, hkPi⟩
theorem own_nfS {y : MethodName} (hZ : Z.Warmed39 s.vm) (w : (Jvm.Cond.instanceMethod y).before a0 Z = true) (q : NotFace Z y) : NotFace s y := fun r0 h0 => by
  obtain ⟨mk, methM, hnamed, hmethM, hstM, habM⟩ := Cond.instanceMethod_spec w
  obtain ⟨mk', methM', hnamed', -⟩ := Cond.instanceMethod_spec (mv (args := a0) hZ w)
  cases h0.symm.trans hnamed'
  have e1 := findClass_of_methodNamed hnamed'
  have e2 := findClass_of_methodNamed hnamed
  rw [hZ.alike.findClass, e2] at e1
  obtain ⟨k, hk, hi⟩ := q _ hnamed
  obtain ⟨k', hk', ek⟩ := hZ.alike.2.2 _ _ hk
  refine ⟨k', by rw [← Option.some.inj e1]; exact hk', ?_⟩
  have := congrArg Class.isInterface ek
  first | (rw [← hi]; exact this.symm) | (rw [← hi]; exact this) | simp_all
theorem own_same {y : MethodName} (w : (Jvm.Cond.instanceMethod y).before a0 Z = true) (q : NotFace Z y) (hy : y.cls ≠ "java/lang/invoke/MethodHandle" ∧ y.cls ≠ "java/lang/invoke/VarHandle") : (Jvm.Cond.sameMethod y.cls y.cls y.name y.desc).before a0 Z = true := by
  obtain ⟨mk, methM, hnamed, hmethM, hstM, habM⟩ := Cond.instanceMethod_spec w
  obtain ⟨k, hk, hi⟩ := q _ hnamed
  have e1 := findClass_of_methodNamed hnamed
  have e2 := State.methodFound?_of_named hnamed hy
  have e3 : Z.methodNamed? ⟨y.cls, y.name, y.desc⟩ = some mk := hnamed
  simp [Cond.before, Cond.holds, Cond.value, e1, e2, e3, hk, hi]
theorem R.superV {y : MethodName} {bytes : ByteArray} {maxL : Nat} {ret : Option FieldType} {rm : Room} {as' : List Value} {Q : Option Value → Heap → List Loc → Prop} {S0 : List Value} {W : Nat} (X : Stand p l e R s m args below meth c T locs cells slots) (hx : p.tables.exec = Jvm.exec) (hZ : Z.Warmed39 s.vm) {C : String} (hown : s.vm.findClass own = some m.cls) (w1 : (Jvm.Cond.methodLink own index y).before a0 Z = true) (w2 : (Jvm.Cond.sameMethod y.cls y.cls y.name y.desc).before a0 Z = true) (w6 : (Jvm.Cond.instanceMethod y).before a0 Z = true) (w5 : (Jvm.Cond.superclass own y.cls).before a0 Z = true) (hn : y.name ≠ "<init>") (w3 : (Jvm.Cond.initialized y.cls).before a0 Z = true) (w4 : (Jvm.Cond.code y bytes maxL ret).before a0 Z = true) (hy : y.cls ≠ "java/lang/invoke/MethodHandle" ∧ y.cls ≠ "java/lang/invoke/VarHandle") (eT : T.heap = h) (E : Exa Z h a C)
    (hM : MetFree l y (head1 [Jvm.Cond.code y bytes maxL ret] rm) (fun u U => u = (.ref a :: as').toArray ∧ Z.Warmed39 U.vm ∧ U.heap = h) (fun _ _ _ _ _ => True) (fun _ U o U' => ∃ v L, o = .returned v ∧ Q v U'.heap L ∧ FrameEnd U o U' L rm.cells rm.slots))
    (hf : rm.frames + 1 ≤ R.frames) (hW : (S.map fun v => v.category).sum ≤ W) (hl : W + (maxL + 11) + rm.locals ≤ R.locals) (hsize : L.size = c.maxLocals) (hlen : ∀ sig, parseMethodDescriptor y.desc = some sig → as'.length = sig.parameters.length) (hst : S0 = as'.reverse ++ .ref a :: S) (hd : decode c.code pc = .ok (.invokespecial index, 3)) (hp : pc + 3 = pc') (hc : cells + rm.cells ≤ R.cells) (hs : slots + rm.slots ≤ R.slots)
    (K : ∀ v T' L1, Stand p l e R s m args below meth c T' (locs ++ L1) (cells + rm.cells) (slots + rm.slots) → Q v T'.heap L1 → Rn p e below (T'.setTop (mkF m pc' L (v.toList ++ S))) G) : Rn p e below (T.setTop (mkF m pc L S0)) G := by
  subst hp
  obtain ⟨v, vm1, ⟨T', L2, k', n'⟩, -, X', ⟨Lc, hQ, l1, y1, z1⟩, st⟩ := Jvm.RoadKit.superBack X hx hZ (y := y) hown w1 w2 w6 w5 hn (backOf (W := W) hM hZ w4 w3 hf hl) eT (Ins.self E) (g := mkF m pc L S0) rfl hsize w4 (argsL := as') (rest := S) hlen hst (by show 2 * 0 + _ ≤ W; rw [Nat.mul_zero, Nat.zero_add]; exact hW) hd (fun _ _ => ⟨rfl, eT, hc, hs⟩)
  dsimp only [Pt.U, Pt.locs, Pt.cells, Pt.slots] at X' l1 y1 z1 st hQ
  subst l1 y1 z1
  exact Rn.st (fun t q => st.trans q) (K v T' Lc X' hQ)
/-- a callee that may intern, whose law tells of the tables too -/
theorem own_backH {y : MethodName} {bytes : ByteArray} {maxL : Nat} {ret : Option FieldType} {rm : Room} {len W : Nat} {as' : Array Value} {sf : List Addr} {Q : Option Value → Vm → Heap → List Loc → Prop}
    (hM : MetFree l y (head1 [Jvm.Cond.code y bytes maxL ret] rm) (fun u U => u = as' ∧ Z.Warmed39 U.vm ∧ U.heap = h ∧ CHv Z EL U.vm h ∧ ∀ x ∈ sf, Safe Z EL U.vm h x) (fun _ _ _ _ _ => True) (fun _ U o U' => ∃ v L, o = .returned v ∧ Q v U'.vm U'.heap L ∧ ReturnedEndW U o U' L rm.cells rm.slots))
    (hZ : Z.Warmed39 vm0) (wc : (Jvm.Cond.code y bytes maxL ret).before a0 Z = true) (wz : (Jvm.Cond.initialized y.cls).before a0 Z = true) (hf : rm.frames + 1 ≤ R.frames) (hl : W + (maxL + 11) + rm.locals ≤ R.locals) (hEL : EW Z a0 EL) (H : CHv Z EL vm0 h) (hsf : ∀ x ∈ sf, x < h.size ∧ Safe Z EL vm0 h x) :
    BackS l R p e below (s.setVm vm0) args y len W (fun A a => a = as' ∧ A.U.heap = h ∧ A.cells + rm.cells ≤ R.cells ∧ A.slots + rm.slots ≤ R.slots)
      (fun A _ v B => ∃ L, Q v B.U.vm B.U.heap L ∧ B.locs = A.locs ++ L ∧ B.cells = A.cells + rm.cells ∧ B.slots = A.slots + rm.slots) :=
  BackS.of_freeW (bytes := bytes) (maxL := maxL) (ret := ret) (E := fun _ _ o t L k n => k = rm.cells ∧ n = rm.slots ∧ ∃ v, o = .returned v ∧ Q v t.vm t.heap L) hM hf hl
    (fun m meth c A a Y hp => have hU : Z.Warmed39 A.U.vm := wtrans (s := s.setVm vm0) hZ Y.warmed
      ⟨by show (Cond.and _ .tt).before a A.U = true; rw [Cond.before_and, mv hU wc]; rfl, mv hU wc, mv hU wz, hp.2.2.1, hp.2.2.2⟩)
    (fun m meth c A a g mk Y hp => have C1 := CHv.at Y hZ hEL H
      ⟨hp.1, wtrans (s := s.setVm vm0) hZ Y.warmed, hp.2.1, C1.1, fun x hx => C1.safe (hsf x hx).1 (hsf x hx).2⟩) (fun _ _ _ _ _ _ _ _ _ => trivial)
    (fun _ _ _ _ ⟨v, L, h1, h2, h3⟩ => ⟨L, _, _, h3, rfl, rfl, v, h1, h2⟩)
    (fun m meth c A a g mk v t L k n Y hp _ _ ⟨e1, e2, v', e3, e4⟩ => by cases e3; subst e1 e2; exact ⟨L, e4, rfl, rfl, rfl⟩)
section CallsH
variable {y : MethodName} {bytes : ByteArray} {maxL : Nat} {rm : Room} {as' : List Value} {sf : List Addr} {Q : Option Value → Vm → Heap → List Loc → Prop} {S0 : List Value} {W : Nat}
theorem R.specialH (X : Stand p l e R (s.setVm vm0) m args below meth c T locs cells slots) (hx : p.tables.exec = Jvm.exec) (hZ : Z.Warmed39 (s.setVm vm0).vm) (hS : s.Since vm0 k0) (hk : k0 ≤ h.size) (hEL : EW Z a0 EL) (H : CHv Z EL vm0 h) (hsf : ∀ x ∈ sf, x < h.size ∧ Safe Z EL vm0 h x) (hy1 : y.name = "<init>") (hown : (s.setVm vm0).vm.findClass own = some m.cls) (w1 : (Jvm.Cond.methodLink own index y).before a0 Z = true) (w2 : (Jvm.Cond.instanceMethod y).before a0 Z = true) (w3 : (Jvm.Cond.initialized y.cls).before a0 Z = true) (w4 : (Jvm.Cond.code y bytes maxL none).before a0 Z = true) (hy : y.cls ≠ "java/lang/invoke/MethodHandle" ∧ y.cls ≠ "java/lang/invoke/VarHandle") (eT : T.heap = h)
    (hM : MetFree l y (head1 [Jvm.Cond.code y bytes maxL none] rm) (fun u U => u = (.ref a :: as').toArray ∧ Z.Warmed39 U.vm ∧ U.heap = h ∧ CHv Z EL U.vm h ∧ ∀ x ∈ sf, Safe Z EL U.vm h x) (fun _ _ _ _ _ => True) (fun _ U o U' => ∃ v L, o = .returned v ∧ Q v U'.vm U'.heap L ∧ ReturnedEndW U o U' L rm.cells rm.slots))
    (hf : rm.frames + 1 ≤ R.frames) (hW : (S.map fun v => v.category).sum ≤ W) (hl : W + (maxL + 11) + rm.locals ≤ R.locals) (hsize : L.size = c.maxLocals) (hlen : ∀ sig, parseMethodDescriptor y.desc = some sig → as'.length = sig.parameters.length) (hst : S0 = as'.reverse ++ .ref a :: S) (hd : decode c.code pc = .ok (.invokespecial index, 3)) (hp : pc + 3 = pc') (hc : cells + rm.cells ≤ R.cells) (hs : slots + rm.slots ≤ R.slots)
    (K : ∀ v T' L1 k1, Stand p l e R (s.setVm T'.vm) m args below meth c T' (locs ++ L1) (cells + rm.cells) (slots + rm.slots) → s.Since T'.vm k1 → k1 ≤ T'.heap.size → Z.Warmed39 (s.setVm T'.vm).vm → (s.setVm T'.vm).vm.findClass own = some m.cls → Q v T'.vm T'.heap L1 → Rn p e below (T'.setTop (mkF m pc' L (v.toList ++ S))) G) : Rn p e below (T.setTop (mkF m pc L S0)) G := by
  subst hp eT
  obtain ⟨v, vm1, ⟨T', L2, k', n'⟩, -, X', h2, hg, ⟨Lc, hQ, l1, y1, z1⟩, st⟩ := X.specialBackS hx (y := y) hy1 hown (mvT hZ w1) (mvT hZ w2) (mvT hZ w4) hy (own_backH (W := W) hM hZ w4 w3 hf hl hEL H hsf) (g := mkF m pc L S0) rfl hsize (Steps.refl _) (a := a) (argsL := as') (rest := S) hlen hst (by show 2 * 0 + _ ≤ W; rw [Nat.mul_zero, Nat.zero_add]; exact hW) hd (fun _ _ => ⟨rfl, rfl, hc, hs⟩)
  dsimp only [Pt.U, Pt.locs, Pt.cells, Pt.slots] at X' l1 y1 z1 st hQ h2 hg
  subst l1 y1 z1
  obtain ⟨X2, hS2, hZ2, ho2⟩ := rebS hS hk X' h2 hg hZ hown
  exact Rn.st (fun t q => st.trans q) (K v T' Lc _ X2 hS2 (Nat.le_refl _) hZ2 ho2 hQ)
theorem R.virtualH {ret : Option FieldType} (X : Stand p l e R (s.setVm vm0) m args below meth c T locs cells slots) (hx : p.tables.exec = Jvm.exec) (hZ : Z.Warmed39 (s.setVm vm0).vm) (hS : s.Since vm0 k0) (hk : k0 ≤ h.size) (hEL : EW Z a0 EL) (H : CHv Z EL vm0 h) (hsf : ∀ x ∈ sf, x < h.size ∧ Safe Z EL vm0 h x) {C : String} (hown : (s.setVm vm0).vm.findClass own = some m.cls) (w1 : (Jvm.Cond.methodLink own index y).before a0 Z = true) (w2 : (Jvm.Cond.declares y).before a0 Z = true) (w5 : (Jvm.Cond.selects C y y).before a0 Z = true) (w6 : (Jvm.Cond.instanceMethod y).before a0 Z = true) (w3 : (Jvm.Cond.initialized y.cls).before a0 Z = true) (w4 : (Jvm.Cond.code y bytes maxL ret).before a0 Z = true) (hy : y.cls ≠ "java/lang/invoke/MethodHandle" ∧ y.cls ≠ "java/lang/invoke/VarHandle") (eT : T.heap = h) (E : Exa Z h a C)
    (hM : MetFree l y (head1 [Jvm.Cond.code y bytes maxL ret] rm) (fun u U => u = (.ref a :: as').toArray ∧ Z.Warmed39 U.vm ∧ U.heap = h ∧ CHv Z EL U.vm h ∧ ∀ x ∈ sf, Safe Z EL U.vm h x) (fun _ _ _ _ _ => True) (fun _ U o U' => ∃ v L, o = .returned v ∧ Q v U'.vm U'.heap L ∧ ReturnedEndW U o U' L rm.cells rm.slots))
    (hf : rm.frames + 1 ≤ R.frames) (hW : (S.map fun v => v.category).sum ≤ W) (hl : W + (maxL + 11) + rm.locals ≤ R.locals) (hsize : L.size = c.maxLocals) (hlen : ∀ sig, parseMethodDescriptor y.desc = some sig → as'.length = sig.parameters.length) (hst : S0 = as'.reverse ++ .ref a :: S) (hd : decode c.code pc = .ok (.invokevirtual index, 3)) (hp : pc + 3 = pc') (hc : cells + rm.cells ≤ R.cells) (hs : slots + rm.slots ≤ R.slots)
    (K : ∀ v T' L1 k1, Stand p l e R (s.setVm T'.vm) m args below meth c T' (locs ++ L1) (cells + rm.cells) (slots + rm.slots) → s.Since T'.vm k1 → k1 ≤ T'.heap.size → Z.Warmed39 (s.setVm T'.vm).vm → (s.setVm T'.vm).vm.findClass own = some m.cls → Q v T'.vm T'.heap L1 → Rn p e below (T'.setTop (mkF m pc' L (v.toList ++ S))) G) : Rn p e below (T.setTop (mkF m pc L S0)) G := by
  subst hp eT
  obtain ⟨cq, kq, qa, qb, qc⟩ := isOf hZ rfl E
  obtain ⟨v, vm1, ⟨T', L2, k', n'⟩, -, X', h2, hg, ⟨Lc, hQ, l1, y1, z1⟩, st⟩ := X.virtualBackS hx (y := y) (z := y) hown (mvT hZ w1) (mvT hZ w2) (notFace_of_selects (args := #[]) (mvT hZ w5)) (mvT hZ w5) (mvT hZ w6) hy (own_backH (W := W) hM hZ w4 w3 hf hl hEL H hsf) qa qc (g := mkF m pc L S0) rfl hsize (Steps.refl _) (argsL := as') (rest := S) hlen hst (by show 2 * 0 + _ ≤ W; rw [Nat.mul_zero, Nat.zero_add]; exact hW) hd (fun _ _ => ⟨rfl, rfl, hc, hs⟩)
  dsimp only [Pt.U, Pt.locs, Pt.cells, Pt.slots] at X' l1 y1 z1 st hQ h2 hg
  subst l1 y1 z1
  obtain ⟨X2, hS2, hZ2, ho2⟩ := rebS hS hk X' h2 hg hZ hown
  exact Rn.st (fun t q => st.trans q) (K v T' Lc _ X2 hS2 (Nat.le_refl _) hZ2 ho2 hQ)
end CallsH
theorem R.ldcH {text : String} {vs : List Value} {n : Nat} (X : Stand p l e R (s.setVm vm0) m args below meth c T locs cells slots) (hx : p.tables.exec = Jvm.exec) (hZ : Z.Warmed39 (s.setVm vm0).vm) (hS : s.Since vm0 k0) (hk : k0 ≤ h.size) (hEL : EW Z a0 EL) (hmem : (own, index) ∈ EL) (H : CHv Z EL vm0 h) (hown : (s.setVm vm0).vm.findClass own = some m.cls) (w : (Jvm.Cond.stringLink own index text).before a0 Z = true) (wS : ∀ a ∈ Bundle.stringAtoms, a.before a0 Z = true) (eT : T.heap = h)
    (ht : (∀ c ∈ text.toList, c.toNat < 256) ∧ text.toList.map (fun c => Value.int (Jvm.Lit.byteI c.toNat.toUInt16)) = vs) (hz : ¬ z < 0) (hl : z.toNatClampNeg = vs.length) (hf : ∀ i, i < z.toNatClampNeg → vs.getD i (.int 0) = .int (f i)) (hn : 4 * text.toList.length ≤ n) (hbig : n ≤ 536870912)
    (hd : decode c.code pc = .ok (.ldc index, 2)) (hp : pc + 2 = pc') (hc : cells + 2 ≤ R.cells) (hs : slots + (n + 4) ≤ R.slots)
    (K : ∀ T' h' k1 a b, Stand p l e R (s.setVm T'.vm) m args below meth c T' locs (cells + 2) (slots + (n + 4)) → T'.heap = h' → Ext h h' → s.Since T'.vm k1 → k1 ≤ h'.size → Z.Warmed39 (s.setVm T'.vm).vm → (s.setVm T'.vm).vm.findClass own = some m.cls → Exa Z h' a "java/lang/String" → Fld Z h' a "java/lang/String" "coder" "B" (.int 0) → Fld Z h' a "java/lang/String" "value" "[B" (.ref b) → own_By Z h' b z f → CHr Z EL vm0 h T'.vm h' → (∀ x, Safe Z EL T'.vm h' x → x ≠ a ∧ x ≠ b) → Rn p e below (T'.setTop (mkF m pc' L (.ref a :: S))) G) : Rn p e below (T.setTop (mkF m pc L S)) G := by
  subst hp
  obtain ⟨a, T', h', k1, b, k, X', e', E', hS', hk', hZ', ho', Ea, Fc, Fv, Ab, -, -, hC, -, hne, st⟩ := ldcCH X hx hZ hown w wS eT hS hk hEL hmem H ht hz hl (g := mkF m pc L S) rfl hd hn hbig hc hs
  exact Rn.st st (K T' h' k1 a b X' e' E' hS' hk' hZ' ho' Ea Fc Fv (own_By.of Ab.arh hf) hC hne)
end RHeld
/-- a has n digits -/
def own_ND (a n : Nat) : Prop := 1 ≤ n ∧ n ≤ 10 ∧ a < 10 ^ n ∧ (n = 1 ∨ 10 ^ (n - 1) ≤ a)
def own_sg (x : Int) : Nat := if x < 0 then 1 else 0
def own_SZ (x : Int) (r : Int32) : Prop := ∃ n, own_ND x.natAbs n ∧ r.toInt = n + own_sg x
def own_DN (a : Int) (r : Int32) : Prop := ∃ n, own_ND a.toNat n ∧ r.toInt = n
/-- g' is g with a's n digits (and the sign) laid before cp -/
def own_GC (g g' : Nat → Int32) (cp a sg n : Nat) : Prop := (∀ j, j < n → (g' (cp - 1 - j)).toInt = 48 + ((a / 10 ^ j % 10 : Nat) : Int)) ∧ (sg = 1 → g' (cp - 1 - n) = 45) ∧ (∀ k, k + n + sg < cp → g' k = g k) ∧ ∀ k, cp ≤ k → g' k = g k
def own_on : Nat → Int32 := fun i => Int32.ofNat (48 + i % 10)
def own_tn : Nat → Int32 := fun i => Int32.ofNat (48 + i / 10)
def own_DG (Z : State) (dO dT : Addr) : Prop := (Sta Z Z.heap "java/lang/Integer" "DigitOnes" "[B" (.ref dO) ∧ own_By Z Z.heap dO (100 : Int32) own_on) ∧ Sta Z Z.heap "java/lang/Integer" "DigitTens" "[B" (.ref dT) ∧ own_By Z Z.heap dT (100 : Int32) own_tn
theorem own_ofN {n : Nat} (h : n < 2147483648) : (Int32.ofNat n).toInt = n := by
  exact Int32.toInt_ofNat_of_lt h
theorem own_onI (i : Nat) : (own_on i).toInt = 48 + ((i % 10 : Nat) : Int) := by unfold own_on; rw [own_ofN (by omega)]; omega
theorem own_tnI {i : Nat} (h : i < 100) : (own_tn i).toInt = 48 + ((i / 10 : Nat) : Int) := by unfold own_tn; rw [own_ofN (by omega)]; omega
theorem own_narB {x : Int32} (h : 0 ≤ x.toInt ∧ x.toInt < 128) : nar .byte x = x := by
  have q := c_i2b x
  have e : (nar .byte x).toInt = x.toInt8.toInt32.toInt := rfl
  exact Int32.toInt_inj.mp (by omega)
theorem own_nar_on (i : Nat) : nar .byte (own_on i) = own_on i := own_narB (by rw [own_onI]; omega)
theorem own_nar_tn {i : Nat} (h : i < 100) : nar .byte (own_tn i) = own_tn i := own_narB (by rw [own_tnI h]; omega)
theorem own_lt0 {x : Int32} (h : x < (0 : Int32)) : x.toInt < 0 := by rw [Int32.lt_iff_toInt_lt] at h; exact h
theorem own_ge0 {x : Int32} (h : ¬ x < (0 : Int32)) : 0 ≤ x.toInt := by
  rw [Int32.lt_iff_toInt_lt] at h; have : (0 : Int32).toInt = 0 := by decide
  omega
theorem own_neg {x : Int32} (h : 0 ≤ x.toInt) : (-x).toInt = -x.toInt := by
  have q := Int32.toInt_lt x
  rw [Int32.toInt_neg, Int.bmod_eq_of_le (by omega) (by omega)]
theorem own_ltL {p x : Int32} {n : Int} (hp : p.toInt = n) (h : p < x) : n < x.toInt := by rw [Int32.lt_iff_toInt_lt, hp] at h; exact h
theorem own_nltL {p x : Int32} {n : Int} (hp : p.toInt = n) (h : ¬ p < x) : ¬ n < x.toInt := by rw [Int32.lt_iff_toInt_lt, hp] at h; exact h
theorem own_ltR {p x : Int32} {n : Int} (hp : p.toInt = n) (h : x < p) : x.toInt < n := by rw [Int32.lt_iff_toInt_lt, hp] at h; exact h
theorem own_nltR {p x : Int32} {n : Int} (hp : p.toInt = n) (h : ¬ x < p) : ¬ x.toInt < n := by rw [Int32.lt_iff_toInt_lt, hp] at h; exact h
theorem own_gtI {p x : Int32} {n : Int} (hp : p.toInt = n) (h : n < x.toInt) : p < x := by rw [Int32.lt_iff_toInt_lt, hp]; exact h
/-- compact strings are on -/
def own_CS (Z : State) (cs : Int32) : Prop := Sta Z Z.heap "java/lang/String" "COMPACT_STRINGS" "Z" (.int cs) ∧ ¬ cs = (0 : Int32)
/-- the formatter of Preconditions -/
def own_FM (Z : State) : Prop := (∃ fo, Sta Z Z.heap "jdk/internal/util/Preconditions" "SIOOBE_FORMATTER" "Ljava/util/function/BiFunction;" (.ref fo)) ∨ Sta Z Z.heap "jdk/internal/util/Preconditions" "SIOOBE_FORMATTER" "Ljava/util/function/BiFunction;" .null
theorem own_nn {z : Int32} (h : ¬ z < 0) : 0 ≤ z.toInt := by
  rw [Int32.lt_iff_toInt_lt] at h; have : (0 : Int32).toInt = 0 := by decide
  omega
theorem own_narC (x : Int32) : (nar .char x).toInt = x.toInt % 65536 := by
  have q : (nar .char x).toInt = x.toUInt32.toUInt16.toUInt32.toInt32.toInt := rfl
  have h := c_i2c x
  omega
theorem own_and255 (x : Int32) : (x &&& (255 : Int32)).toInt = x.toInt % 256 := c_mask x 255 8 (by decide) (by decide)
theorem own_ch1 (x : Int32) : (nar .char ((x &&& (255 : Int32)).toUInt32.toUInt16.toUInt32.toInt32)).toInt = x.toInt % 256 := by
  have a := own_narC ((x &&& (255 : Int32)).toUInt32.toUInt16.toUInt32.toInt32)
  have b := own_narC (x &&& (255 : Int32))
  have c := own_and255 x
  have b' : ((x &&& (255 : Int32)).toUInt32.toUInt16.toUInt32.toInt32).toInt = (x &&& (255 : Int32)).toInt % 65536 := b
  rw [b', c] at a
  omega
theorem own_ch2 {r : Int32} {x : Int} (h : r.toInt = x % 256) : (nar .char r).toInt = x % 256 := by rw [own_narC, h]; omega
theorem own_ens {n : Int32} (h : 0 ≤ n.toInt ∧ n.toInt ≤ 16) : ¬ (0 : Int32) < n - (16 : Int32) := by
  rw [Int32.lt_iff_toInt_lt, own_subI] <;> (have t : (16 : Int32).toInt = 16 := (by decide); have t0 : (0 : Int32).toInt = 0 := (by decide); omega)
theorem own_shr0 (z : Int32) : (z >>> ((0 : Int32) &&& 31)) = z := by
  rw [show ((0 : Int32) &&& 31) = 0 from by decide]; exact Int32.shiftRight_zero
theorem own_shl0 (z : Int32) : (z <<< ((0 : Int32) &&& 31)) = z := by
  rw [show ((0 : Int32) &&& 31) = 0 from by decide]; exact Int32.shiftLeft_zero
theorem own_mn1 {a b : Int32} (h : b < a) : b.toInt = min a.toInt b.toInt := by rw [Int32.lt_iff_toInt_lt] at h; omega
theorem own_mn2 {a b : Int32} (h : ¬ b < a) : a.toInt = min a.toInt b.toInt := by rw [Int32.lt_iff_toInt_lt] at h; omega
theorem own_lc {a b : Int64} : lcmpW a b < (0 : Int32) ↔ a.toInt < b.toInt := by
  rw [← Int64.lt_iff_toInt_lt]; unfold lcmpW
  rw [Int64.lt_iff_toInt_lt]
  by_cases h1 : a.toInt < b.toInt
  · have h2 : ¬ b < a := fun q => by rw [Int64.lt_iff_toInt_lt] at q; omega
    have h3 : ¬ a = b := fun q => by rw [q] at h1; omega
    rw [if_neg h2, if_neg h3]; exact ⟨fun _ => h1, fun _ => by decide⟩
  · by_cases h2 : b < a
    · rw [if_pos h2]; exact ⟨fun q => absurd q (by decide), fun q => absurd q h1⟩
    · have h3 : a = b := Int64.toInt_inj.mp (by rw [Int64.lt_iff_toInt_lt] at h2; omega)
      rw [if_neg h2, if_pos h3]; exact ⟨fun q => absurd q (by decide), fun q => absurd q h1⟩
theorem own_ab1 {a : Int64} (h : lcmpW a (0 : Int64) < (0 : Int32)) (hb : -9223372036854775808 < a.toInt) : (-a).toInt = a.toInt.natAbs := by
  rw [own_lc] at h
  have z : (0 : Int64).toInt = 0 := by decide
  have hl := Int64.toInt_lt a
  rw [Int64.toInt_neg, Int.bmod_eq_of_le (by omega) (by omega)]; omega
theorem own_ab2 {a : Int64} (h : ¬ lcmpW a (0 : Int64) < (0 : Int32)) : a.toInt = a.toInt.natAbs := by
  rw [own_lc] at h
  have z : (0 : Int64).toInt = 0 := by decide
  omega
theorem own_lcT {a b : Int64} {n : Int} (hb : b.toInt = n) (h : lcmpW a b < (0 : Int32)) : a.toInt < n := by rw [own_lc, hb] at h; exact h
theorem own_lcF {a b : Int64} {n : Int} (hb : b.toInt = n) (h : ¬ lcmpW a b < (0 : Int32)) : ¬ a.toInt < n := by rw [own_lc, hb] at h; exact h
theorem own_nd10 {a n : Nat} (h : own_ND a n) : n = 1 ∨ n = 2 ∨ n = 3 ∨ n = 4 ∨ n = 5 ∨ n = 6 ∨ n = 7 ∨ n = 8 ∨ n = 9 ∨ n = 10 := by have := h.1; have := h.2.1; omega
theorem own_nd3 {a n : Nat} (h : own_ND a n) (hb : 100 ≤ a) : 3 ≤ n ∧ own_ND (a / 100) (n - 2) := by
  rcases own_nd10 h with rfl | rfl | rfl | rfl | rfl | rfl | rfl | rfl | rfl | rfl <;> simp only [own_ND, Nat.reducePow, Nat.reduceSub] at h ⊢ <;> omega
theorem own_nd2 {n : Nat} {x : Int} (h : own_ND (-x).toNat n) (hb : x < -9) : 2 ≤ n := by
  rcases own_nd10 h with rfl | rfl | rfl | rfl | rfl | rfl | rfl | rfl | rfl | rfl <;> simp only [own_ND, Nat.reducePow, Nat.reduceSub] at h ⊢ <;> omega
theorem own_ndS {a n : Nat} (h : own_ND a n) : (a < 10 → n = 1) ∧ (10 ≤ a → a < 100 → n = 2) := by
  rcases own_nd10 h with rfl | rfl | rfl | rfl | rfl | rfl | rfl | rfl | rfl | rfl <;> simp only [own_ND, Nat.reducePow, Nat.reduceSub] at h <;> refine ⟨fun _ => ?_, fun _ _ => ?_⟩ <;> omega
theorem own_ndU {a n m : Nat} (h : own_ND a n) (k : own_ND a m) : n = m := by
  have key : ∀ {n m : Nat}, own_ND a n → own_ND a m → ¬ n < m := fun {n m} h k q => by
    rcases k.2.2.2 with e | e
    · have := h.1; omega
    · have := Nat.pow_le_pow_right (n := 10) (by decide) (show n ≤ m - 1 by omega)
      have := h.2.2.1
      omega
  have := key h k
  have := key k h
  omega
theorem own_ndq {x q : Int32} {n : Nat} (hx0 : x.toInt ≤ 0) (eq : q.toInt = -((-x.toInt) / 100)) (h : own_ND ((-x.toInt).toNat / 100) n) : own_ND (-q.toInt).toNat n := by
  rw [show (-q.toInt).toNat = (-x.toInt).toNat / 100 from by omega]; exact h
theorem own_qr {x q r : Int32} (hx0 : x.toInt ≤ 0) (hq : (x / (100 : Int32)) = q) (hr : ((q * (100 : Int32)) - x) = r) : q.toInt = -((-x.toInt) / 100) ∧ r.toInt = (-x.toInt) % 100 := by
  have c := c_idiv x (100 : Int32) 100 (by decide) (by decide)
  have lo := Int32.le_toInt x
  have e1 : q.toInt = -((-x.toInt) / 100) := by
    rw [hq] at c
    by_cases z : x.toInt < 0
    · exact c.2 z
    · have z0 : x.toInt = 0 := by omega
      have := c.1 (by omega)
      rw [z0] at this ⊢; omega
  refine ⟨e1, ?_⟩
  have t : (100 : Int32).toInt = 100 := by decide
  have m : (q * (100 : Int32)).toInt = q.toInt * 100 := by rw [own_mulI] <;> rw [t]; omega
  rw [← hr, own_subI] <;> rw [m] <;> omega
theorem own_tr {x r : Int32} (hx0 : x.toInt ≤ 0) (er : r.toInt = (-x.toInt) % 100) : r.toNatClampNeg = (-x.toInt).toNat % 100 := by
  show r.toInt.toNat = _
  omega
theorem own_neg2 {x : Int32} (hx0 : x.toInt ≤ 0) (hsm : -100 < x.toInt) : (-x).toInt = -x.toInt := by rw [Int32.toInt_neg, Int.bmod_eq_of_le (by omega) (by omega)]
theorem own_cln {x : Int32} (tx : (-x).toInt = -x.toInt) : (-x).toNatClampNeg = (-x.toInt).toNat := by show (-x).toInt.toNat = _; rw [tx]
theorem own_nng {x : Int32} (h : 0 ≤ x.toInt) : ¬ x < 0 := by
  rw [Int32.lt_iff_toInt_lt]; have : (0 : Int32).toInt = 0 := by decide
  omega
theorem own_b100 {x r : Int32} (er : r.toInt = (-x.toInt) % 100) : ¬ r < 0 ∧ r < (100 : Int32) := own_bd (by have t : (100 : Int32).toInt = 100 := (by decide); omega)
theorem own_b100' {x : Int32} (tx : (-x).toInt = -x.toInt) (hx0 : x.toInt ≤ 0) (hsm : -100 < x.toInt) : ¬ (-x) < 0 ∧ (-x) < (100 : Int32) := own_bd (by have t : (100 : Int32).toInt = 100 := (by decide); omega)
theorem own_m1 {cp : Int32} (h : 1 ≤ cp.toInt) : (cp + (-1 : Int32)).toInt = cp.toInt - 1 := by
  have t : (-1 : Int32).toInt = -1 := by decide
  have q := Int32.toInt_lt cp
  rw [own_addI] <;> rw [t] <;> omega
theorem own_m2 {cp : Int32} (h : 2 ≤ cp.toInt) : ((cp + (-1 : Int32)) + (-1 : Int32)).toInt = cp.toInt - 2 := by rw [own_m1 (by rw [own_m1 (by omega)]; omega), own_m1 (by omega)]; omega
theorem own_m3 {cp : Int32} (h : 3 ≤ cp.toInt) : (((cp + (-1 : Int32)) + (-1 : Int32)) + (-1 : Int32)).toInt = cp.toInt - 3 := by rw [own_m1 (by rw [own_m2 (by omega)]; omega), own_m2 (by omega)]; omega
theorem own_bp1 {cp : Int32} (h : 1 ≤ cp.toInt) (h2 : cp.toInt ≤ 16) : ¬ (cp + (-1 : Int32)) < 0 ∧ (cp + (-1 : Int32)) < (16 : Int32) := own_bd (by have t : (16 : Int32).toInt = 16 := (by decide); rw [own_m1 h]; omega)
theorem own_bp2 {cp : Int32} (h : 2 ≤ cp.toInt) (h2 : cp.toInt ≤ 16) : ¬ ((cp + (-1 : Int32)) + (-1 : Int32)) < 0 ∧ ((cp + (-1 : Int32)) + (-1 : Int32)) < (16 : Int32) := own_bd (by have t : (16 : Int32).toInt = 16 := (by decide); rw [own_m2 h]; omega)
theorem own_bp3 {cp : Int32} (h : 3 ≤ cp.toInt) (h2 : cp.toInt ≤ 16) : ¬ (((cp + (-1 : Int32)) + (-1 : Int32)) + (-1 : Int32)) < 0 ∧ (((cp + (-1 : Int32)) + (-1 : Int32)) + (-1 : Int32)) < (16 : Int32) := own_bd (by have t : (16 : Int32).toInt = 16 := (by decide); rw [own_m3 h]; omega)
theorem own_cl1 {cp : Int32} (h : 1 ≤ cp.toInt) : (cp + (-1 : Int32)).toNatClampNeg = cp.toInt.toNat - 1 := by show (cp + (-1 : Int32)).toInt.toNat = _; rw [own_m1 h]; omega
theorem own_cl2 {cp : Int32} (h : 2 ≤ cp.toInt) : ((cp + (-1 : Int32)) + (-1 : Int32)).toNatClampNeg = cp.toInt.toNat - 2 := by show ((cp + (-1 : Int32)) + (-1 : Int32)).toInt.toNat = _; rw [own_m2 h]; omega
theorem own_cl3 {cp : Int32} (h : 3 ≤ cp.toInt) : (((cp + (-1 : Int32)) + (-1 : Int32)) + (-1 : Int32)).toNatClampNeg = cp.toInt.toNat - 3 := by show (((cp + (-1 : Int32)) + (-1 : Int32)) + (-1 : Int32)).toInt.toNat = _; rw [own_m3 h]; omega
theorem own_hcp {cp : Int32} {n sg : Nat} (h : (n : Int) + sg ≤ cp.toInt ∧ cp.toInt ≤ 16) (h3 : 3 ≤ n) : ((n - 2 : Nat) : Int) + sg ≤ ((cp + (-1 : Int32)) + (-1 : Int32)).toInt ∧ ((cp + (-1 : Int32)) + (-1 : Int32)).toInt ≤ 16 := by rw [own_m2 (by omega)]; omega
theorem own_sg01 (x : Int) : own_sg x = 0 ∨ own_sg x = 1 := by unfold own_sg; split <;> omega
theorem own_sg1 {sv : Int32} {x : Int} (h : sv.toInt = own_sg x) (hn : ¬ sv = (0 : Int32)) : own_sg x = 1 := by
  rcases own_sg01 x with q | q
  · exact absurd (Int32.toInt_inj.mp (show sv.toInt = (0 : Int32).toInt by rw [h, q]; decide)) hn
  · exact q
theorem own_sg0 {sv : Int32} {x : Int} (h : sv.toInt = own_sg x) (hn : sv = (0 : Int32)) : own_sg x = 0 := by
  rw [hn] at h; have : (0 : Int32).toInt = 0 := by decide
  omega
theorem own_up_hit {f : Nat → Int32} {i j : Nat} {v : Int32} (h : i = j) : own_up f j v i = v := if_pos h
theorem own_up_miss {f : Nat → Int32} {i j : Nat} {v : Int32} (h : i ≠ j) : own_up f j v i = f i := if_neg h
theorem own_gstepN {g g' : Nat → Int32} {cp a sg n : Nat} {v1 v2 : Int32} (hn : 3 ≤ n) (hcp : n + sg ≤ cp) (h1 : v1.toInt = 48 + ((a % 100 % 10 : Nat) : Int)) (h2 : v2.toInt = 48 + ((a % 100 / 10 : Nat) : Int)) (H : own_GC (own_up (own_up g (cp - 1) v1) (cp - 2) v2) g' (cp - 2) (a / 100) sg (n - 2)) : own_GC g g' cp a sg n := by
  obtain ⟨H1, H2, H3, H4⟩ := H
  refine ⟨fun j hj => ?_, fun q => ?_, fun k hk => ?_, fun k hk => ?_⟩
  · by_cases j0 : j = 0
    · subst j0
      rw [show cp - 1 - 0 = cp - 1 from rfl, H4 _ (by omega), own_up_miss (by omega), own_up_hit rfl, h1]
      simp only [Nat.pow_zero, Nat.div_one]; omega
    · by_cases j1 : j = 1
      · subst j1
        rw [show cp - 1 - 1 = cp - 2 from by omega, H4 _ (by omega), own_up_hit rfl, h2]
        simp only [Nat.pow_one]; omega
      · have q := H1 (j - 2) (by omega)
        rw [show cp - 2 - 1 - (j - 2) = cp - 1 - j from by omega, Nat.div_div_eq_div_mul, show 100 * 10 ^ (j - 2) = 10 ^ j from by
          rw [show (100 : Nat) = 10 ^ 2 from rfl, ← Nat.pow_add, show 2 + (j - 2) = j from by omega]] at q
        exact q
  · have := H2 q
    rw [show cp - 2 - 1 - (n - 2) = cp - 1 - n from by omega] at this
    exact this
  · rw [H3 k (by omega), own_up_miss (by omega), own_up_miss (by omega)]
  · rw [H4 k (by omega), own_up_miss (by omega), own_up_miss (by omega)]
theorem own_gstep {g g' : Nat → Int32} {x cp q : Int32} {v1 v2 : Int32} {sg n : Nat} (hx0 : x.toInt ≤ 0) (eq : q.toInt = -((-x.toInt) / 100)) (hn : own_ND (-x.toInt).toNat n) (hbig : 100 ≤ (-x.toInt).toNat) (hcp : (n : Int) + sg ≤ cp.toInt ∧ cp.toInt ≤ 16) (h1 : v1.toInt = 48 + (((-x.toInt).toNat % 100 % 10 : Nat) : Int)) (h2 : v2.toInt = 48 + (((-x.toInt).toNat % 100 / 10 : Nat) : Int))
    (H : own_GC (own_up (own_up g (cp + (-1 : Int32)).toNatClampNeg v1) ((cp + (-1 : Int32)) + (-1 : Int32)).toNatClampNeg v2) g' ((cp + (-1 : Int32)) + (-1 : Int32)).toInt.toNat (-q.toInt).toNat sg (n - 2)) : own_GC g g' cp.toInt.toNat (-x.toInt).toNat sg n := by
  have n3 := (own_nd3 hn hbig).1
  rw [own_cl1 (by omega), own_cl2 (by omega), own_m2 (by omega), show (-q.toInt).toNat = (-x.toInt).toNat / 100 from by omega, show (cp.toInt - 2).toNat = cp.toInt.toNat - 2 from by omega] at H
  exact own_gstepN n3 (by omega) h1 h2 H
theorem own_ge1 {g : Nat → Int32} {x cp : Int32} {sg n : Nat} (hx0 : x.toInt ≤ 0) (hsm : -100 < x.toInt) (h9 : ¬ x.toInt < -9) (hn : own_ND (-x.toInt).toNat n) (hcp : (n : Int) + sg ≤ cp.toInt ∧ cp.toInt ≤ 16) (hs : sg = 0) : own_GC g (own_up g (cp + (-1 : Int32)).toNatClampNeg (own_on (-x).toNatClampNeg)) cp.toInt.toNat (-x.toInt).toNat sg n := by
  have n1 := (own_ndS hn).1 (by omega)
  subst n1 hs
  rw [own_cl1 (by omega), own_cln (own_neg2 hx0 hsm)]
  refine ⟨fun j hj => ?_, fun q => absurd q (by decide), fun k hk => own_up_miss (by omega), fun k hk => own_up_miss (by omega)⟩
  obtain rfl : j = 0 := by omega
  rw [own_up_hit (by omega), own_onI]; simp only [Nat.pow_zero, Nat.div_one]
theorem own_ge2 {g : Nat → Int32} {x cp : Int32} {sg n : Nat} (hx0 : x.toInt ≤ 0) (hsm : -100 < x.toInt) (h9 : x.toInt < -9) (hn : own_ND (-x.toInt).toNat n) (hcp : (n : Int) + sg ≤ cp.toInt ∧ cp.toInt ≤ 16) (hs : sg = 0) : own_GC g (own_up (own_up g (cp + (-1 : Int32)).toNatClampNeg (own_on (-x).toNatClampNeg)) ((cp + (-1 : Int32)) + (-1 : Int32)).toNatClampNeg (own_tn (-x).toNatClampNeg)) cp.toInt.toNat (-x.toInt).toNat sg n := by
  have n1 := (own_ndS hn).2 (by omega) (by omega)
  subst n1 hs
  rw [own_cl1 (by omega), own_cl2 (by omega), own_cln (own_neg2 hx0 hsm)]
  refine ⟨fun j hj => ?_, fun q => absurd q (by decide), fun k hk => by rw [own_up_miss (by omega), own_up_miss (by omega)], fun k hk => by rw [own_up_miss (by omega), own_up_miss (by omega)]⟩
  rcases (show j = 0 ∨ j = 1 by omega) with rfl | rfl
  · rw [own_up_miss (by omega), own_up_hit (by omega), own_onI]; simp only [Nat.pow_zero, Nat.div_one]
  · rw [own_up_hit (by omega), own_tnI (by omega)]; simp only [Nat.pow_one]; omega
theorem own_ge3 {g : Nat → Int32} {x cp : Int32} {sg n : Nat} (hx0 : x.toInt ≤ 0) (hsm : -100 < x.toInt) (h9 : ¬ x.toInt < -9) (hn : own_ND (-x.toInt).toNat n) (hcp : (n : Int) + sg ≤ cp.toInt ∧ cp.toInt ≤ 16) (hs : sg = 1) : own_GC g (own_up (own_up g (cp + (-1 : Int32)).toNatClampNeg (own_on (-x).toNatClampNeg)) ((cp + (-1 : Int32)) + (-1 : Int32)).toNatClampNeg (45 : Int32)) cp.toInt.toNat (-x.toInt).toNat sg n := by
  have n1 := (own_ndS hn).1 (by omega)
  subst n1 hs
  rw [own_cl1 (by omega), own_cl2 (by omega), own_cln (own_neg2 hx0 hsm)]
  refine ⟨fun j hj => ?_, fun q => own_up_hit (by omega), fun k hk => by rw [own_up_miss (by omega), own_up_miss (by omega)], fun k hk => by rw [own_up_miss (by omega), own_up_miss (by omega)]⟩
  obtain rfl : j = 0 := by omega
  rw [own_up_miss (by omega), own_up_hit (by omega), own_onI]; simp only [Nat.pow_zero, Nat.div_one]
theorem own_ge4 {g : Nat → Int32} {x cp : Int32} {sg n : Nat} (hx0 : x.toInt ≤ 0) (hsm : -100 < x.toInt) (h9 : x.toInt < -9) (hn : own_ND (-x.toInt).toNat n) (hcp : (n : Int) + sg ≤ cp.toInt ∧ cp.toInt ≤ 16) (hs : sg = 1) : own_GC g (own_up (own_up (own_up g (cp + (-1 : Int32)).toNatClampNeg (own_on (-x).toNatClampNeg)) ((cp + (-1 : Int32)) + (-1 : Int32)).toNatClampNeg (own_tn (-x).toNatClampNeg)) (((cp + (-1 : Int32)) + (-1 : Int32)) + (-1 : Int32)).toNatClampNeg (45 : Int32)) cp.toInt.toNat (-x.toInt).toNat sg n := by
  have n1 := (own_ndS hn).2 (by omega) (by omega)
  subst n1 hs
  rw [own_cl1 (by omega), own_cl2 (by omega), own_cl3 (by omega), own_cln (own_neg2 hx0 hsm)]
  refine ⟨fun j hj => ?_, fun q => own_up_hit (by omega), fun k hk => by rw [own_up_miss (by omega), own_up_miss (by omega), own_up_miss (by omega)], fun k hk => by rw [own_up_miss (by omega), own_up_miss (by omega), own_up_miss (by omega)]⟩
  rcases (show j = 0 ∨ j = 1 by omega) with rfl | rfl
  · rw [own_up_miss (by omega), own_up_miss (by omega), own_up_hit (by omega), own_onI]; simp only [Nat.pow_zero, Nat.div_one]
  · rw [own_up_miss (by omega), own_up_hit (by omega), own_tnI (by omega)]; simp only [Nat.pow_one]; omega
theorem own_min16 {p r : Int32} (h : 0 ≤ p.toInt ∧ p.toInt < 16) (e : r.toInt = min ((16 : Int32) - (0 : Int32)).toInt p.toInt) : r = p := Int32.toInt_inj.mp (by have t : ((16 : Int32) - (0 : Int32)).toInt = 16 := (by decide); omega)
theorem own_ne16 {p : Int32} (h : 0 ≤ p.toInt ∧ p.toInt < 16) : ¬ p = (16 : Int32) := fun q => by rw [q] at h; exact absurd h.2 (by decide)
theorem own_nar_i2b (x : Int32) : nar .byte (x.toInt8.toInt32) = (x.toInt8.toInt32) := by
  have q := c_i2b x
  have r := c_i2b x.toInt8.toInt32
  have e : (nar .byte (x.toInt8.toInt32)).toInt = x.toInt8.toInt32.toInt8.toInt32.toInt := rfl
  exact Int32.toInt_inj.mp (by omega)
theorem own_le255 {x : Int32} (h : 0 ≤ x.toInt ∧ x.toInt ≤ 255) : ¬ (255 : Int32) < x := by
  rw [Int32.lt_iff_toInt_lt]; have t : (255 : Int32).toInt = 255 := by decide
  omega
/-- what Place.toString spells -/
def own_TS (f F : Nat → Int32) (z sg nd a : Nat) : Prop := (∀ i, i < z → F i = f i) ∧ F z = 58 ∧ (sg = 1 → F (z + 1) = 45) ∧ ∀ j, j < nd → (F (z + sg + nd - j)).toInt = 48 + ((a / 10 ^ j % 10 : Nat) : Int)
theorem own_cp_in {f g : Nat → Int32} {d n o i : Nat} (h : d ≤ i ∧ i < d + n) : own_cp f d n g o i = g (o + (i - d)) := if_pos h
theorem own_cp_out {f g : Nat → Int32} {d n o i : Nat} (h : ¬ (d ≤ i ∧ i < d + n)) : own_cp f d n g o i = f i := if_neg h
theorem own_ts {f g' : Nat → Int32} {z c' : Int32} {sg nd a : Nat} (hz0 : 0 ≤ z.toInt) (c1 : ((0 : Int32) + z).toInt = z.toInt) (c2 : (((0 : Int32) + z) + (1 : Int32)).toInt = z.toInt + 1) (ct : c'.toInt = (((0 : Int32) + z) + (1 : Int32)).toInt + sg + nd)
    (gc : own_GC (own_cp (own_cp (fun _ => 0) (0 : Int32).toInt.toNat z.toInt.toNat f (0 : Int32).toInt.toNat) ((0 : Int32) + z).toInt.toNat (1 : Int32).toInt.toNat (fun _ => (58 : Int32)) (0 : Int32).toInt.toNat) g' c'.toInt.toNat a sg nd) :
    own_TS f (own_cp (fun _ => 0) 0 c'.toInt.toNat g' 0) z.toInt.toNat sg nd a := by
  obtain ⟨G1, G2, G3, G4⟩ := gc
  have t0 : (0 : Int32).toInt.toNat = 0 := by decide
  have t1 : (1 : Int32).toInt.toNat = 1 := by decide
  have e : c'.toInt.toNat = z.toInt.toNat + 1 + sg + nd := by omega
  have F : ∀ i, i < c'.toInt.toNat → own_cp (fun _ => 0) 0 c'.toInt.toNat g' 0 i = g' i := fun i hi => by rw [own_cp_in ⟨Nat.zero_le _, by omega⟩, Nat.zero_add, Nat.sub_zero]
  rw [c1, t0, t1] at G3
  refine ⟨fun i hi => ?_, ?_, fun q => ?_, fun j hj => ?_⟩
  · rw [F i (by omega), G3 i (by omega), own_cp_out (by omega), own_cp_in ⟨Nat.zero_le _, by omega⟩, Nat.zero_add, Nat.sub_zero]
  · rw [F _ (by omega), G3 _ (by omega), own_cp_in ⟨Nat.le_refl _, by omega⟩]
  · rw [F _ (by omega), show z.toInt.toNat + 1 = c'.toInt.toNat - 1 - nd from by omega]; exact G2 q
  · rw [F _ (by omega), show z.toInt.toNat + sg + nd - j = c'.toInt.toNat - 1 - j from by omega]; exact G1 j hj
theorem own_ix {p k : Int32} (h3 : 0 ≤ k.toInt) (hlt : k.toInt < p.toInt) (h2 : p.toInt ≤ 10) : ((p - (1 : Int32)) - k).toInt = p.toInt - 1 - k.toInt := by
  have t : (1 : Int32).toInt = 1 := by decide
  have e : (p - (1 : Int32)).toInt = p.toInt - 1 := by rw [own_subI] <;> rw [t]; omega
  rw [own_subI] <;> rw [e]; omega
theorem own_ps {a b z : Int32} (h1 : 0 ≤ a.toInt + b.toInt) (h2 : a.toInt + b.toInt < z.toInt) : (a + b).toInt = a.toInt + b.toInt := by
  have q := Int32.toInt_lt z
  rw [own_addI]; omega
theorem own_10 {j : Int32} (h0 : 0 ≤ j.toInt) (h1 : j.toInt < 10) : j = 0 ∨ j = 1 ∨ j = 2 ∨ j = 3 ∨ j = 4 ∨ j = 5 ∨ j = 6 ∨ j = 7 ∨ j = 8 ∨ j = 9 := by
  have q : ∀ {n : Int32} {k : Int}, n.toInt = k → j.toInt = k → j = n := fun a b => Int32.toInt_inj.mp (b.trans a.symm)
  rcases (show j.toInt = 0 ∨ j.toInt = 1 ∨ j.toInt = 2 ∨ j.toInt = 3 ∨ j.toInt = 4 ∨ j.toInt = 5 ∨ j.toInt = 6 ∨ j.toInt = 7 ∨ j.toInt = 8 ∨ j.toInt = 9 by omega) with e | e | e | e | e | e | e | e | e | e
  · exact Or.inl (q (by decide) e)
  · exact Or.inr (Or.inl (q (by decide) e))
  · exact Or.inr (Or.inr (Or.inl (q (by decide) e)))
  · exact Or.inr (Or.inr (Or.inr (Or.inl (q (by decide) e))))
  · exact Or.inr (Or.inr (Or.inr (Or.inr (Or.inl (q (by decide) e)))))
  · exact Or.inr (Or.inr (Or.inr (Or.inr (Or.inr (Or.inl (q (by decide) e))))))
  · exact Or.inr (Or.inr (Or.inr (Or.inr (Or.inr (Or.inr (Or.inl (q (by decide) e)))))))
  · exact Or.inr (Or.inr (Or.inr (Or.inr (Or.inr (Or.inr (Or.inr (Or.inl (q (by decide) e))))))))
  · exact Or.inr (Or.inr (Or.inr (Or.inr (Or.inr (Or.inr (Or.inr (Or.inr (Or.inl (q (by decide) e)))))))))
  · exact Or.inr (Or.inr (Or.inr (Or.inr (Or.inr (Or.inr (Or.inr (Or.inr (Or.inr (q (by decide) e)))))))))
theorem own_pw {j : Int32} (h0 : 0 ≤ j.toInt) (h1 : j.toInt < 10) : ∃ pw : Int64, getH [((9 : Int32), (.long (1000000000 : Int64))), ((8 : Int32), (.long (100000000 : Int64))), ((7 : Int32), (.long (10000000 : Int64))), ((6 : Int32), (.long (1000000 : Int64))), ((5 : Int32), (.long (100000 : Int64))), ((4 : Int32), (.long (10000 : Int64))), ((3 : Int32), (.long (1000 : Int64))), ((2 : Int32), (.long (100 : Int64))), ((1 : Int32), (.long (10 : Int64))), ((0 : Int32), (.long (1 : Int64)))] [] (.long (0 : Int64)) j.toNatClampNeg = (.long pw) ∧ pw.toInt = (10 ^ j.toInt.toNat : Nat) := by
  rcases own_10 h0 h1 with rfl | rfl | rfl | rfl | rfl | rfl | rfl | rfl | rfl | rfl
  · exact ⟨1, rfl, by decide⟩
  · exact ⟨10, rfl, by decide⟩
  · exact ⟨100, rfl, by decide⟩
  · exact ⟨1000, rfl, by decide⟩
  · exact ⟨10000, rfl, by decide⟩
  · exact ⟨100000, rfl, by decide⟩
  · exact ⟨1000000, rfl, by decide⟩
  · exact ⟨10000000, rfl, by decide⟩
  · exact ⟨100000000, rfl, by decide⟩
  · exact ⟨1000000000, rfl, by decide⟩
theorem own_pw0 {pw : Int64} {e : Nat} (h : pw.toInt = (10 ^ e : Nat)) : pw ≠ (0 : Int64) := fun q => by
  have p := Nat.pow_pos (n := e) (show 0 < 10 by decide)
  rw [q, show (0 : Int64).toInt = 0 from by decide] at h
  omega
theorem own_dig {p k a b : Int32} {q j pw : Int64} {f : Nat → Int32} {r : Int32} (h4 : 0 ≤ q.toInt) (epw : pw.toInt = (10 ^ ((p - (1 : Int32)) - k).toInt.toNat : Nat)) (eix : ((p - (1 : Int32)) - k).toInt = p.toInt - 1 - k.toInt) (eps : (a + b).toInt = a.toInt + b.toInt) (k3 : (f (a.toInt + b.toInt).toNat).toInt = 48 + ((q.toInt.toNat / 10 ^ (p.toInt - 1 - k.toInt).toNat % 10 : Nat) : Int))
    (hj : ((q / pw) - ((q / pw) / (10 : Int64)) * (10 : Int64)) = j) (ch : r.toInt = (f (a + b).toNatClampNeg).toInt % 256) : r = ((48 : Int32) + j.toInt32).toUInt32.toUInt16.toUInt32.toInt32 := by
  have pp := Nat.pow_pos (n := ((p - (1 : Int32)) - k).toInt.toNat) (show 0 < 10 by decide)
  have d1 := (c_ldiv q pw _ epw (fun e => by rw [e, show (-1 : Int64).toInt = -1 from by decide] at epw; omega)).1 h4
  have d0 : 0 ≤ (q / pw).toInt := by rw [d1]; exact Int.ediv_nonneg h4 (by omega)
  have d2 := (c_lrem (q / pw) (10 : Int64) 10 (by decide)).1 d0
  rw [hj, d1] at d2
  have ee : q.toInt / ((10 ^ ((p - (1 : Int32)) - k).toInt.toNat : Nat) : Int) = ((q.toInt.toNat / 10 ^ (p.toInt - 1 - k.toInt).toNat : Nat) : Int) := by
    rw [← eix, Int.natCast_ediv, Int.toNat_of_nonneg h4]
  rw [ee] at d2
  have e1 : (a + b).toNatClampNeg = (a.toInt + b.toInt).toNat := by show (a + b).toInt.toNat = _; rw [eps]
  rw [e1, k3] at ch
  generalize q.toInt.toNat / 10 ^ (p.toInt - 1 - k.toInt).toNat = D at d2 ch
  have l2 := c_l2i j
  have b1 := own_b j.toInt32
  have s1 : ((48 : Int32) + j.toInt32).toInt = 48 + j.toInt32.toInt := by rw [own_addI] <;> (have t : (48 : Int32).toInt = 48 := (by decide); omega)
  have cc := c_i2c ((48 : Int32) + j.toInt32)
  exact Int32.toInt_inj.mp (by omega)
theorem own_chr {x r : Int32} (h : ((x &&& (255 : Int32)).toUInt32.toUInt16.toUInt32.toInt32) = r) : 0 ≤ r.toInt ∧ r.toInt ≤ 255 := by
  have a := own_and255 x
  have b := c_i2c (x &&& (255 : Int32))
  rw [h] at b
  omega
theorem own_narCi {x : Int32} (h : 0 ≤ x.toInt ∧ x.toInt ≤ 255) : nar .char x = x := Int32.toInt_inj.mp (by rw [own_narC]; omega)
theorem own_03 {a r : Int32} (h : (a &&& (3 : Int32)) = r) : r = (0 : Int32) ∨ r = (1 : Int32) ∨ r = (2 : Int32) ∨ r = (3 : Int32) := by
  have b := c_and a (3 : Int32) (by decide)
  rw [h] at b
  have e3 : (3 : Int32).toInt = 3 := by decide
  have k : r.toInt = 0 ∨ r.toInt = 1 ∨ r.toInt = 2 ∨ r.toInt = 3 := by omega
  rcases k with k | k | k | k
  · exact Or.inl (Int32.toInt_inj.mp (k.trans (by decide)))
  · exact Or.inr (Or.inl (Int32.toInt_inj.mp (k.trans (by decide))))
  · exact Or.inr (Or.inr (Or.inl (Int32.toInt_inj.mp (k.trans (by decide)))))
  · exact Or.inr (Or.inr (Or.inr (Int32.toInt_inj.mp (k.trans (by decide)))))
theorem own_len {z l r : Int32} {n : Nat} {k : Int} (hl : l.toInt = k) (er : r.toInt = n) (hn : n ≤ 10) (hz : z.toInt = k + n ∧ 0 ≤ k ∧ k ≤ 5) : z = (l + r) := Int32.toInt_inj.mp (by rw [own_addI] <;> omega)
theorem own_ltI {l z : Int32} {k : Int} (hl : l.toInt = k) (h : k < z.toInt) : l < z := by rw [Int32.lt_iff_toInt_lt, hl]; exact h
theorem own_chk {ff : Nat → Int32} {i : Nat} {c r : Int32} (e : ff i = c.toInt8.toInt32) (hc : 0 ≤ c.toInt ∧ c.toInt ≤ 255) (h : r.toInt = (ff i).toInt % 256) : r = c := Int32.toInt_inj.mp (by have q := c_i2b c; rw [e] at h; omega)
theorem own_chv {ff : Nat → Int32} {i : Nat} {v r : Int32} (e : ff i = v) (hv : v.toInt % 256 = v.toInt) (h : r.toInt = (ff i).toInt % 256) : r = v := Int32.toInt_inj.mp (by rw [e] at h; omega)
theorem own_hk {f ff : Nat → Int32} {z zr rr B K : Int32} {q : Int64} {sg sv nd a : Nat} (ts : own_TS f ff z.toInt.toNat sg nd a) (er : rr.toInt = nd) (eq : q.toInt.toNat = a) (ct : zr.toInt = z.toInt + 1 + sg + nd) (hsg : sg = sv) (hz : 0 ≤ z.toInt) (hB : B.toInt = z.toInt + 1 + sv) (hK : 0 ≤ K.toInt) : K.toInt < rr.toInt → 0 ≤ B.toInt + K.toInt ∧ B.toInt + K.toInt < zr.toInt ∧ (ff (B.toInt + K.toInt).toNat).toInt = 48 + ((q.toInt.toNat / 10 ^ (rr.toInt - 1 - K.toInt).toNat % 10 : Nat) : Int) := fun h => by
  subst hsg
  refine ⟨by omega, by omega, ?_⟩
  have t := ts.2.2.2 (rr.toInt - 1 - K.toInt).toNat (by omega)
  rw [show z.toInt.toNat + sg + nd - (rr.toInt - 1 - K.toInt).toNat = (B.toInt + K.toInt).toNat from by omega] at t
  rw [eq]; exact t
theorem own_ew {Z : State} {aZ : Array Value} (hw : ∀ d ∈ tables_1, d.before aZ Z = true) : EW Z aZ consts_1 := EW.cons (hw _ (List.mem_of_getElem? (i := 126) rfl)) (by decide) (EW.cons (hw _ (List.mem_of_getElem? (i := 225) rfl)) (by decide) EW.nil)
theorem own_ws {Z : State} {aZ : Array Value} (hw : ∀ d ∈ tables_1, d.before aZ Z = true) : ∀ a ∈ Bundle.stringAtoms, a.before aZ Z = true := by
  intro a ha
  simp only [Bundle.stringAtoms, List.mem_cons, List.not_mem_nil, or_false] at ha
  rcases ha with rfl | rfl | rfl | rfl | rfl | rfl | rfl
  · exact hw _ (List.mem_of_getElem? (i := 13) rfl)
  · exact hw _ (List.mem_of_getElem? (i := 12) rfl)
  · exact hw _ (List.mem_of_getElem? (i := 29) rfl)
  · exact hw _ (List.mem_of_getElem? (i := 39) rfl)
  · exact hw _ (List.mem_of_getElem? (i := 37) rfl)
  · exact hw _ (List.mem_of_getElem? (i := 127) rfl)
  · exact hw _ (List.mem_of_getElem? (i := 128) rfl)
theorem own_bya {Z : State} {args : Array Value} {t : Term} {f : Nat → Int32} {Y : Term} (ts : ∀ idx, t.eval args Z none idx Z = t.eval args Z none [] Z) (wa : (Jvm.Cond.arrayClass .byte).before args Z = true) (w3 : (Jvm.Cond.exactly t "[B").before args Z = true) (w4 : (Jvm.Cond.eq (.length t) (.int (100 : Int32))).before args Z = true) (w5 : (Jvm.Cond.all t (.eq (.elem t (.index 0)) Y)).before args Z = true)
    (hy : ∀ k : Int32, 0 ≤ k.toInt → k.toInt < 100 → Y.eval args Z none [k.toNatClampNeg] Z = some (.int (f k.toNatClampNeg))) (hf : ∀ i, i < 100 → fits .byte (.int (f i)) = true) : ∃ a, t.eval args Z none [] Z = some (.ref a) ∧ own_By Z Z.heap a (100 : Int32) f := by
  have hlen := Cond.eq_int w4 rfl
  obtain ⟨sd, SA, hev, harrAt, -⟩ := Term.length_spec hlen
  obtain ⟨a3, c3, cell3, k3, e1, e2, e3, e4, e5, e6, -⟩ := Cond.exactly_spec w3
  cases hev.symm.trans e1
  obtain ⟨c4, k4, comp, f1, f2, f3⟩ := Cond.arrayClass_spec wa
  have hcell : Z.heap[sd]? = some SA ∧ SA.vm ≠ .unknown := by
    simp only [State.arrayAt?, Option.bind_eq_bind, Option.bind_eq_some_iff] at harrAt
    obtain ⟨c0, h1, k0, h2, h3⟩ := harrAt
    split at h3
    · cases h3
    · rename_i hn
      have h4 : c0 = SA := by split at h3 <;> simp_all
      subst h4
      exact ⟨h1, fun q => hn (Or.inl q)⟩
  cases hcell.1.symm.trans e3
  cases (show Z.vm.findClass "[B" = some c4 from f1).symm.trans e2
  have hA : Z.isArrayOf SA .byte := ⟨(fun q r => by rw [r] at e5; cases e5), k4, by rw [e6]; exact f2, comp, f3⟩
  have A : Arr Z Z.heap sd SA .byte := ⟨hcell.1, hA, hcell.2⟩
  have q := IntBox.length_fwd w4 hev A.1 A.2.1 A.2.2
  have sz : SA.slots.size = 100 := own_size q.1 q.2 (by decide)
  have cl : ((100 : Int32)).toNatClampNeg = 100 := by decide
  refine ⟨sd, hev, SA, A, by rw [sz, cl], by decide, fun i hi => ?_, fun i hi => hf i (by omega)⟩
  have ki : (Int32.ofNat i).toInt = i := own_ofN (by omega)
  have kc : (Int32.ofNat i).toNatClampNeg = i := by show (Int32.ofNat i).toInt.toNat = _; rw [ki]; omega
  have nn : ¬ (Int32.ofNat i) < 0 := own_nng (by omega)
  have u1 := Cond.all_elim hev (A.fin (Vm.Alike.refl _)) (Cond.before_iff.mp w5) i hi
  have u2 := eqv_i (by have z := hy (Int32.ofNat i) (by omega) (by omega); rw [kc] at z; exact z) u1
  have u3 := elem_f (idx := [(Int32.ofNat i).toNatClampNeg]) ((ts _).trans hev) (idx_at nn) (A.fin (Vm.Alike.refl _)) nn
  rw [kc] at u3
  exact u3.symm.trans u2
theorem own_fb {x : Int32} (h : -128 ≤ x.toInt ∧ x.toInt ≤ 127) : fits .byte (.int x) = true := by
  have e1 : (-128 : Int32).toInt = -128 := by decide
  have e2 : (127 : Int32).toInt = 127 := by decide
  simp only [fits, Bool.and_eq_true, decide_eq_true_eq]
  rw [Int32.le_iff_toInt_le, Int32.le_iff_toInt_le, e1, e2]; exact h
theorem own_dg {Z : State} {args : Array Value} (h : ∀ c ∈ jdkStatics_1, c.before args Z = true) (wa : (Jvm.Cond.arrayClass .byte).before args Z = true) : ∃ dO dT, own_DG Z dO dT := by
  have t10 : (10 : Int32).toInt = 10 := by decide
  have t48 : (48 : Int32).toInt = 48 := by decide
  have kk : ∀ k : Int32, 0 ≤ k.toInt → (k.toInt.toNat : Int) = k.toInt := fun k q => by omega
  obtain ⟨dO, e1, B1⟩ := own_bya (f := own_on) (fun idx => by simp only [Term.eval]) wa (h _ (List.mem_of_getElem? (i := 12) rfl)) (h _ (List.mem_of_getElem? (i := 13) rfl)) (h _ (List.mem_of_getElem? (i := 14) rfl)) (fun k h0 h1 => by
    have nn := own_nng h0
    have ei := idx_at (args := args) (s := Z) (first := Z) (o := none) nn
    have er := (c_irem k (10 : Int32) 10 t10).1 h0
    have e3 : (48 : Int32) + k % (10 : Int32) = own_on k.toNatClampNeg := Int32.toInt_inj.mp (by
      rw [own_onI, own_addI] <;> rw [er, t48]
      · show 48 + k.toInt % 10 = 48 + ((k.toInt.toNat % 10 : Nat) : Int); omega
      · omega)
    rw [← e3]
    have e4 : (Term.rem (.index 0) (.int (10 : Int32))).eval args Z none [k.toNatClampNeg] Z = some (.int (k % (10 : Int32))) := by simp [Term.eval, ei] at *; first | done | simp_all
    simp only [Term.eval] at e4 ei ⊢
    first | (rw [e4]; rfl) | simp_all) (fun i hi => own_fb (by rw [own_onI]; omega))
  obtain ⟨dT, e2, B2⟩ := own_bya (f := own_tn) (fun idx => by simp only [Term.eval]) wa (h _ (List.mem_of_getElem? (i := 17) rfl)) (h _ (List.mem_of_getElem? (i := 18) rfl)) (h _ (List.mem_of_getElem? (i := 19) rfl)) (fun k h0 h1 => by
    have nn := own_nng h0
    have ei := idx_at (args := args) (s := Z) (first := Z) (o := none) nn
    have er := (c_idiv k (10 : Int32) 10 t10 (by decide)).1 h0
    have e3 : (48 : Int32) + k / (10 : Int32) = own_tn k.toNatClampNeg := Int32.toInt_inj.mp (by
      rw [own_tnI (i := k.toNatClampNeg) (show k.toInt.toNat < 100 by omega), own_addI] <;> rw [er, t48]
      · show 48 + k.toInt / 10 = 48 + ((k.toInt.toNat / 10 : Nat) : Int); omega
      · omega)
    rw [← e3]
    have e4 : (Term.div (.index 0) (.int (10 : Int32))).eval args Z none [k.toNatClampNeg] Z = some (.int (k / (10 : Int32))) := by simp [Term.eval, ei] at *; first | done | simp_all
    simp only [Term.eval] at e4 ei ⊢
    first | (rw [e4]; rfl) | simp_all) (fun i hi => own_fb (by rw [own_tnI hi]; omega))
  exact ⟨dO, dT, ⟨Sta.start e1 (Or.inl (h _ (List.mem_of_getElem? (i := 11) rfl))), B1⟩, Sta.start e2 (Or.inl (h _ (List.mem_of_getElem? (i := 16) rfl))), B2⟩
theorem own_fm {Z : State} {args : Array Value} (h : ∀ c ∈ jdkStatics_1, c.before args Z = true) : own_FM Z := by
  obtain ⟨v, ev, hr⟩ := isR_v (Cond.before_iff.mp (h _ (List.mem_of_getElem? (i := 8) rfl)))
  rcases ref_cases hr with rfl | ⟨a, rfl⟩
  · exact Or.inr (Sta.start ev (Or.inl (h _ (List.mem_of_getElem? (i := 7) rfl))))
  · exact Or.inl ⟨a, Sta.start ev (Or.inl (h _ (List.mem_of_getElem? (i := 7) rfl)))⟩
theorem d34_0 : decode jdk_29_method_69_code 0 = .ok (.iload_n 0, 1) := by decide +kernel
theorem d34_1 : decode jdk_29_method_69_code 1 = .ok (.iload_n 1, 1) := by decide +kernel
theorem d34_2 : decode jdk_29_method_69_code 2 = .ok (.if_icmp .gt 7, 3) := by decide +kernel
theorem d34_9 : decode jdk_29_method_69_code 9 = .ok (.iload_n 1, 1) := by decide +kernel
theorem d34_10 : decode jdk_29_method_69_code 10 = .ok (.ireturn, 1) := by decide +kernel
theorem d34_5 : decode jdk_29_method_69_code 5 = .ok (.iload_n 0, 1) := by decide +kernel
theorem d34_6 : decode jdk_29_method_69_code 6 = .ok (.goto 4, 3) := by decide +kernel
theorem ef_34 (m : MethodId) (x0 : Int32) (x1 : Int32) : entryFrame m #[(.int x0), (.int x1)] 2 = mkF m 0 #[.val (.int x0), .val (.int x1)] [] := by first | (simp [entryFrame, mkF, argsToLocals, Value.category]; done) | rfl
def Q34 (Z : State) (p0 : Int32) (p1 : Int32) (h0 : Heap) (n0 : Nat) (vQ : Option Value) (hQ_ : Heap) (LQ : List Loc) : Prop := ∃ r : Int32, vQ = some (.int r) ∧ Fr n0 LQ ∧ hQ_ = h0 ∧ (r.toInt = min p0.toInt p1.toInt)
def Fn34 (Z : State) (p0 : Int32) (p1 : Int32) (h0 : Heap) (n0 : Nat) (sQ : State) (oQ : Outcome) (UQ : State) : Prop := ∃ vQ LQ, oQ = .returned vQ ∧ Q34 Z p0 p1 h0 n0 vQ UQ.heap LQ ∧ FrameEnd sQ oQ UQ LQ ({ frames := 0, cells := 0, slots := 0, locals := 0 } : Room).cells ({ frames := 0, cells := 0, slots := 0, locals := 0 } : Room).slots
set_option maxRecDepth 65536 in
set_option maxHeartbeats 40000000 in
theorem rm34 (l : Launch) (Z : State) (aZ : Array Value) (hw : ∀ d ∈ tables_1, d.before aZ Z = true) (ws : List Jvm.Cond) (p0 : Int32) (p1 : Int32) (h0 : Heap) (n0 : Nat) (Z0 : n0 ≤ h0.size) :
    MetFree l (⟨"java/lang/Math", "min", "(II)I"⟩ : MethodName) (head1 (Jvm.Cond.code (⟨"java/lang/Math", "min", "(II)I"⟩ : MethodName) jdk_29_method_69_code 2 (some .int) :: ws) ({ frames := 0, cells := 0, slots := 0, locals := 0 } : Room)) (fun aQ UQ => aQ = #[(.int p0), (.int p1)] ∧ Z.Warmed39 UQ.vm ∧ UQ.heap = h0) (fun _ _ _ _ _ => True) (fun _ UQ oQ UR => ∃ vQ LQ, oQ = .returned vQ ∧ Q34 Z p0 p1 h0 n0 vQ UR.heap LQ ∧ FrameEnd UQ oQ UR LQ ({ frames := 0, cells := 0, slots := 0, locals := 0 } : Room).cells ({ frames := 0, cells := 0, slots := 0, locals := 0 } : Room).slots) := by
  refine MetFree.of_bodySF (Jvm.Free.JP.mathPlain rfl (by decide +kernel)) hisR ?_
  intro p e s m args below meth c s₁ Bd hml0 hP hK
  obtain ⟨rfl, hZ, hh⟩ := hP
  have hx := Bd.exec
  have hby := Bd.bytes
  have hml : c.maxLocals = 2 := hml0
  have hown : s.vm.findClass "java/lang/Math" = some m.cls := findClass_of_methodNamed Bd.named
  have hnm := (name_of_methodNamed Bd.named Bd.method).1
  have X0 : Stand p l e ({ frames := 0, cells := 0, slots := 0, locals := 0 } : Room) s m #[(.int p0), (.int p1)] below meth c s₁ [] 0 0 := Stand.of_body Bd
  have e0 : s₁.heap = h0 := by rw [← hh, Bd.state]; rfl
  have N0 := Fr.nil n0
  have K0 : Keep h0 h0 [] := Keep.refl _ _
  have first_ : Rn p e below (s₁.setTop (mkF m 0 #[.val (.int p0), .val (.int p1)] [])) (Fn34 Z p0 p1 h0 n0 s) := by
    generalize hG : (Fn34 Z p0 p1 h0 n0 s) = G
    refine R.iloadN X0 hx (hb hby d34_0) rfl (pc' := 1) rfl ?_
    refine R.iloadN X0 hx (hb hby d34_1) rfl (pc' := 2) rfl ?_
    by_cases hc2 : p1 < p0
    · refine R.icmpYes X0 hx (hb hby d34_2) (tlt hc2).2.2.1 (by decide) (pc' := 9) (by decide) ?_
      refine R.iloadN X0 hx (hb hby d34_9) rfl (pc' := 10) rfl ?_
      rw [← hG]
      exact Rn.ret X0 (BodyLoose.notSynchronized Bd) (v := some (.int p1)) (fun h => by rw [Bd.returns] at h; cases h) (Q := Q34 Z p0 p1 h0 n0) e0 (fun fs hr => retOut X0 hx (t := .int) Bd.returns rfl (Or.inl ⟨rfl, Or.inl rfl, _, rfl⟩) (hb hby d34_10) hr) ⟨p1, rfl, N0, rfl, (own_mn1 hc2)⟩ (by decide) (by decide)
    · refine R.icmpNo X0 hx (hb hby d34_2) (flt hc2).2.2.1 (pc' := 5) rfl ?_
      refine R.iloadN X0 hx (hb hby d34_5) rfl (pc' := 6) rfl ?_
      refine R.goto X0 hx (hb hby d34_6) (by decide) (pc' := 10) (by decide) ?_
      rw [← hG]
      exact Rn.ret X0 (BodyLoose.notSynchronized Bd) (v := some (.int p0)) (fun h => by rw [Bd.returns] at h; cases h) (Q := Q34 Z p0 p1 h0 n0) e0 (fun fs hr => retOut X0 hx (t := .int) Bd.returns rfl (Or.inl ⟨rfl, Or.inl rfl, _, rfl⟩) (hb hby d34_10) hr) ⟨p0, rfl, N0, rfl, (own_mn2 hc2)⟩ (by decide) (by decide)
  exact (Rn.st (fun t k => castTop (ef_34 m p0 p1) k) first_ : Rn p e below (s₁.setTop (entryFrame m #[(.int p0), (.int p1)] 2)) (Fn34 Z p0 p1 h0 n0 s))
theorem d35_0 : decode jdk_29_method_61_code 0 = .ok (.lload_n 0, 1) := by decide +kernel
theorem d35_1 : decode jdk_29_method_61_code 1 = .ok (.lconst 0, 1) := by decide +kernel
theorem d35_2 : decode jdk_29_method_61_code 2 = .ok (.lcmp, 1) := by decide +kernel
theorem d35_3 : decode jdk_29_method_61_code 3 = .ok (.ifCond .ge 8, 3) := by decide +kernel
theorem d35_6 : decode jdk_29_method_61_code 6 = .ok (.lload_n 0, 1) := by decide +kernel
theorem d35_7 : decode jdk_29_method_61_code 7 = .ok (.lneg, 1) := by decide +kernel
theorem d35_8 : decode jdk_29_method_61_code 8 = .ok (.goto 4, 3) := by decide +kernel
theorem d35_12 : decode jdk_29_method_61_code 12 = .ok (.lreturn, 1) := by decide +kernel
theorem d35_11 : decode jdk_29_method_61_code 11 = .ok (.lload_n 0, 1) := by decide +kernel
theorem ef_35 (m : MethodId) (x0 : Int64) : entryFrame m #[(.long x0)] 2 = mkF m 0 #[.val (.long x0), .second] [] := by first | (simp [entryFrame, mkF, argsToLocals, Value.category]; done) | rfl
def Q35 (Z : State) (q0 : Int64) (h0 : Heap) (n0 : Nat) (vQ : Option Value) (hQ_ : Heap) (LQ : List Loc) : Prop := ∃ r : Int64, vQ = some (.long r) ∧ Fr n0 LQ ∧ hQ_ = h0 ∧ (r.toInt = q0.toInt.natAbs)
def Fn35 (Z : State) (q0 : Int64) (h0 : Heap) (n0 : Nat) (sQ : State) (oQ : Outcome) (UQ : State) : Prop := ∃ vQ LQ, oQ = .returned vQ ∧ Q35 Z q0 h0 n0 vQ UQ.heap LQ ∧ FrameEnd sQ oQ UQ LQ ({ frames := 0, cells := 0, slots := 0, locals := 0 } : Room).cells ({ frames := 0, cells := 0, slots := 0, locals := 0 } : Room).slots
set_option maxRecDepth 65536 in
set_option maxHeartbeats 40000000 in
theorem rm35 (l : Launch) (Z : State) (aZ : Array Value) (hw : ∀ d ∈ tables_1, d.before aZ Z = true) (ws : List Jvm.Cond) (q0 : Int64) (h0 : Heap) (n0 : Nat) (Z0 : n0 ≤ h0.size) (hbb : -9223372036854775808 < q0.toInt) :
    MetFree l (⟨"java/lang/Math", "abs", "(J)J"⟩ : MethodName) (head1 (Jvm.Cond.code (⟨"java/lang/Math", "abs", "(J)J"⟩ : MethodName) jdk_29_method_61_code 2 (some .long) :: ws) ({ frames := 0, cells := 0, slots := 0, locals := 0 } : Room)) (fun aQ UQ => aQ = #[(.long q0)] ∧ Z.Warmed39 UQ.vm ∧ UQ.heap = h0) (fun _ _ _ _ _ => True) (fun _ UQ oQ UR => ∃ vQ LQ, oQ = .returned vQ ∧ Q35 Z q0 h0 n0 vQ UR.heap LQ ∧ FrameEnd UQ oQ UR LQ ({ frames := 0, cells := 0, slots := 0, locals := 0 } : Room).cells ({ frames := 0, cells := 0, slots := 0, locals := 0 } : Room).slots) := by
  refine MetFree.of_bodySF (Jvm.Free.JP.mathPlain rfl (by decide +kernel)) hisR ?_
  intro p e s m args below meth c s₁ Bd hml0 hP hK
  obtain ⟨rfl, hZ, hh⟩ := hP
  have hx := Bd.exec
  have hby := Bd.bytes
  have hml : c.maxLocals = 2 := hml0
  have hown : s.vm.findClass "java/lang/Math" = some m.cls := findClass_of_methodNamed Bd.named
  have hnm := (name_of_methodNamed Bd.named Bd.method).1
  have X0 : Stand p l e ({ frames := 0, cells := 0, slots := 0, locals := 0 } : Room) s m #[(.long q0)] below meth c s₁ [] 0 0 := Stand.of_body Bd
  have e0 : s₁.heap = h0 := by rw [← hh, Bd.state]; rfl
  have N0 := Fr.nil n0
  have K0 : Keep h0 h0 [] := Keep.refl _ _
  have first_ : Rn p e below (s₁.setTop (mkF m 0 #[.val (.long q0), .second] [])) (Fn35 Z q0 h0 n0 s) := by
    generalize hG : (Fn35 Z q0 h0 n0 s) = G
    refine R.lloadN X0 hx (hb hby d35_0) rfl (pc' := 1) rfl ?_
    refine R.lconst X0 hx (hb hby d35_1) (v := (0 : Int64)) (by decide) (pc' := 2) rfl ?_
    refine R.lcmp X0 hx (hb hby d35_2) (pc' := 3) rfl ?_
    by_cases hc3 : (lcmpW q0 (0 : Int64)) < (0 : Int32)
    · refine R.ifNo X0 hx (hb hby d35_3) (tlt hc3).2.1 (pc' := 6) rfl ?_
      refine R.lloadN X0 hx (hb hby d35_6) rfl (pc' := 7) rfl ?_
      refine R.lneg X0 hx (hb hby d35_7) (pc' := 8) rfl ?_
      refine R.goto X0 hx (hb hby d35_8) (by decide) (pc' := 12) (by decide) ?_
      rw [← hG]
      exact Rn.ret X0 (BodyLoose.notSynchronized Bd) (v := some (.long (-q0))) (fun h => by rw [Bd.returns] at h; cases h) (Q := Q35 Z q0 h0 n0) e0 (fun fs hr => retOut X0 hx (t := .long) Bd.returns rfl (Or.inr (Or.inl ⟨rfl, rfl, _, rfl⟩)) (hb hby d35_12) hr) ⟨(-q0), rfl, N0, rfl, (own_ab1 hc3 hbb)⟩ (by decide) (by decide)
    · refine R.ifYes X0 hx (hb hby d35_3) (flt hc3).2.1 (by decide) (pc' := 11) (by decide) ?_
      refine R.lloadN X0 hx (hb hby d35_11) rfl (pc' := 12) rfl ?_
      rw [← hG]
      exact Rn.ret X0 (BodyLoose.notSynchronized Bd) (v := some (.long q0)) (fun h => by rw [Bd.returns] at h; cases h) (Q := Q35 Z q0 h0 n0) e0 (fun fs hr => retOut X0 hx (t := .long) Bd.returns rfl (Or.inr (Or.inl ⟨rfl, rfl, _, rfl⟩)) (hb hby d35_12) hr) ⟨q0, rfl, N0, rfl, (own_ab2 hc3)⟩ (by decide) (by decide)
  exact (Rn.st (fun t k => castTop (ef_35 m q0) k) first_ : Rn p e below (s₁.setTop (entryFrame m #[(.long q0)] 2)) (Fn35 Z q0 h0 n0 s))
theorem d33_0 : decode jdk_65_method_131_code 0 = .ok (.iload_n 1, 1) := by decide +kernel
theorem d33_1 : decode jdk_65_method_131_code 1 = .ok (.iload_n 0, 1) := by decide +kernel
theorem d33_2 : decode jdk_65_method_131_code 2 = .ok (.if_icmp .ge 35, 3) := by decide +kernel
theorem d33_37 : decode jdk_65_method_131_code 37 = .ok (.return_, 1) := by decide +kernel
theorem pn_0 : plainName "java/util/Arrays" = true := by first | (simp [plainName, overriddenIn]; done) | decide +kernel
theorem ef_33 (m : MethodId) (x0 : Int32) (x1 : Int32) : entryFrame m #[(.int x0), (.int x1)] 2 = mkF m 0 #[.val (.int x0), .val (.int x1)] [] := by first | (simp [entryFrame, mkF, argsToLocals, Value.category]; done) | rfl
def Q33 (Z : State) (p0 : Int32) (p1 : Int32) (h0 : Heap) (n0 : Nat) (vQ : Option Value) (hQ_ : Heap) (LQ : List Loc) : Prop := vQ = none ∧ Fr n0 LQ ∧ hQ_ = h0
def Fn33 (Z : State) (p0 : Int32) (p1 : Int32) (h0 : Heap) (n0 : Nat) (sQ : State) (oQ : Outcome) (UQ : State) : Prop := ∃ vQ LQ, oQ = .returned vQ ∧ Q33 Z p0 p1 h0 n0 vQ UQ.heap LQ ∧ FrameEnd sQ oQ UQ LQ ({ frames := 0, cells := 0, slots := 0, locals := 0 } : Room).cells ({ frames := 0, cells := 0, slots := 0, locals := 0 } : Room).slots
set_option maxRecDepth 65536 in
set_option maxHeartbeats 40000000 in
theorem rm33 (l : Launch) (Z : State) (aZ : Array Value) (hw : ∀ d ∈ tables_1, d.before aZ Z = true) (ws : List Jvm.Cond) (p0 : Int32) (p1 : Int32) (h0 : Heap) (n0 : Nat) (Z0 : n0 ≤ h0.size) (hl : ¬ p1 < p0) :
    MetFree l (⟨"java/util/Arrays", "checkLength", "(II)V"⟩ : MethodName) (head1 (Jvm.Cond.code (⟨"java/util/Arrays", "checkLength", "(II)V"⟩ : MethodName) jdk_65_method_131_code 2 none :: ws) ({ frames := 0, cells := 0, slots := 0, locals := 0 } : Room)) (fun aQ UQ => aQ = #[(.int p0), (.int p1)] ∧ Z.Warmed39 UQ.vm ∧ UQ.heap = h0) (fun _ _ _ _ _ => True) (fun _ UQ oQ UR => ∃ vQ LQ, oQ = .returned vQ ∧ Q33 Z p0 p1 h0 n0 vQ UR.heap LQ ∧ FrameEnd UQ oQ UR LQ ({ frames := 0, cells := 0, slots := 0, locals := 0 } : Room).cells ({ frames := 0, cells := 0, slots := 0, locals := 0 } : Room).slots) := by
  refine MetFree.of_bodySF (plainFor_of_name pn_0) hisR ?_
  intro p e s m args below meth c s₁ Bd hml0 hP hK
  obtain ⟨rfl, hZ, hh⟩ := hP
  have hx := Bd.exec
  have hby := Bd.bytes
  have hml : c.maxLocals = 2 := hml0
  have hown : s.vm.findClass "java/util/Arrays" = some m.cls := findClass_of_methodNamed Bd.named
  have hnm := (name_of_methodNamed Bd.named Bd.method).1
  have X0 : Stand p l e ({ frames := 0, cells := 0, slots := 0, locals := 0 } : Room) s m #[(.int p0), (.int p1)] below meth c s₁ [] 0 0 := Stand.of_body Bd
  have e0 : s₁.heap = h0 := by rw [← hh, Bd.state]; rfl
  have N0 := Fr.nil n0
  have K0 : Keep h0 h0 [] := Keep.refl _ _
  have first_ : Rn p e below (s₁.setTop (mkF m 0 #[.val (.int p0), .val (.int p1)] [])) (Fn33 Z p0 p1 h0 n0 s) := by
    generalize hG : (Fn33 Z p0 p1 h0 n0 s) = G
    refine R.iloadN X0 hx (hb hby d33_0) rfl (pc' := 1) rfl ?_
    refine R.iloadN X0 hx (hb hby d33_1) rfl (pc' := 2) rfl ?_
    refine R.icmpYes X0 hx (hb hby d33_2) (flt (hl : ¬ (p1 < p0))).2.1 (by decide) (pc' := 37) (by decide) ?_
    rw [← hG]
    exact Rn.ret X0 (BodyLoose.notSynchronized Bd) (v := none) (fun _ => rfl) (Q := Q33 Z p0 p1 h0 n0) e0 (fun fs hr => X0.returnOut hx Bd.returns (hb hby d33_37) hr) ⟨rfl, N0, rfl⟩ (by decide) (by decide)
  exact (Rn.st (fun t k => castTop (ef_33 m p0 p1) k) first_ : Rn p e below (s₁.setTop (entryFrame m #[(.int p0), (.int p1)] 2)) (Fn33 Z p0 p1 h0 n0 s))
theorem d41_0 : decode jdk_41_method_11_code 0 = .ok (.iload_n 0, 1) := by decide +kernel
theorem d41_1 : decode jdk_41_method_11_code 1 = .ok (.ifCond .lt 8, 3) := by decide +kernel
theorem d41_4 : decode jdk_41_method_11_code 4 = .ok (.iload_n 0, 1) := by decide +kernel
theorem d41_5 : decode jdk_41_method_11_code 5 = .ok (.iload_n 1, 1) := by decide +kernel
theorem d41_6 : decode jdk_41_method_11_code 6 = .ok (.if_icmp .lt 10, 3) := by decide +kernel
theorem d41_16 : decode jdk_41_method_11_code 16 = .ok (.iload_n 0, 1) := by decide +kernel
theorem d41_17 : decode jdk_41_method_11_code 17 = .ok (.ireturn, 1) := by decide +kernel
theorem pn_1 : plainName "jdk/internal/util/Preconditions" = true := by first | (simp [plainName, overriddenIn]; done) | decide +kernel
theorem ef_41 (m : MethodId) (x0 : Int32) (x1 : Int32) (x2 : Addr) : entryFrame m #[(.int x0), (.int x1), (.ref x2)] 3 = mkF m 0 #[.val (.int x0), .val (.int x1), .val (.ref x2)] [] := by first | (simp [entryFrame, mkF, argsToLocals, Value.category]; done) | rfl
def Q41 (Z : State) (p0 : Int32) (p1 : Int32) (a2 : Addr) (h0 : Heap) (n0 : Nat) (vQ : Option Value) (hQ_ : Heap) (LQ : List Loc) : Prop := vQ = some (.int p0) ∧ Fr n0 LQ ∧ hQ_ = h0
def Fn41 (Z : State) (p0 : Int32) (p1 : Int32) (a2 : Addr) (h0 : Heap) (n0 : Nat) (sQ : State) (oQ : Outcome) (UQ : State) : Prop := ∃ vQ LQ, oQ = .returned vQ ∧ Q41 Z p0 p1 a2 h0 n0 vQ UQ.heap LQ ∧ FrameEnd sQ oQ UQ LQ ({ frames := 0, cells := 0, slots := 0, locals := 0 } : Room).cells ({ frames := 0, cells := 0, slots := 0, locals := 0 } : Room).slots
set_option maxRecDepth 65536 in
set_option maxHeartbeats 40000000 in
theorem rm41 (l : Launch) (Z : State) (aZ : Array Value) (hw : ∀ d ∈ tables_1, d.before aZ Z = true) (ws : List Jvm.Cond) (p0 : Int32) (p1 : Int32) (a2 : Addr) (h0 : Heap) (n0 : Nat) (Z0 : n0 ≤ h0.size) (h0_ : ¬ p0 < 0) (h1_ : p0 < p1) :
    MetFree l (⟨"jdk/internal/util/Preconditions", "checkIndex", "(IILjava/util/function/BiFunction;)I"⟩ : MethodName) (head1 (Jvm.Cond.code (⟨"jdk/internal/util/Preconditions", "checkIndex", "(IILjava/util/function/BiFunction;)I"⟩ : MethodName) jdk_41_method_11_code 3 (some .int) :: ws) ({ frames := 0, cells := 0, slots := 0, locals := 0 } : Room)) (fun aQ UQ => aQ = #[(.int p0), (.int p1), (.ref a2)] ∧ Z.Warmed39 UQ.vm ∧ UQ.heap = h0) (fun _ _ _ _ _ => True) (fun _ UQ oQ UR => ∃ vQ LQ, oQ = .returned vQ ∧ Q41 Z p0 p1 a2 h0 n0 vQ UR.heap LQ ∧ FrameEnd UQ oQ UR LQ ({ frames := 0, cells := 0, slots := 0, locals := 0 } : Room).cells ({ frames := 0, cells := 0, slots := 0, locals := 0 } : Room).slots) := by
  refine MetFree.of_bodySF (plainFor_of_name pn_1) hisR ?_
  intro p e s m args below meth c s₁ Bd hml0 hP hK
  obtain ⟨rfl, hZ, hh⟩ := hP
  have hx := Bd.exec
  have hby := Bd.bytes
  have hml : c.maxLocals = 3 := hml0
  have hown : s.vm.findClass "jdk/internal/util/Preconditions" = some m.cls := findClass_of_methodNamed Bd.named
  have hnm := (name_of_methodNamed Bd.named Bd.method).1
  have X0 : Stand p l e ({ frames := 0, cells := 0, slots := 0, locals := 0 } : Room) s m #[(.int p0), (.int p1), (.ref a2)] below meth c s₁ [] 0 0 := Stand.of_body Bd
  have e0 : s₁.heap = h0 := by rw [← hh, Bd.state]; rfl
  have N0 := Fr.nil n0
  have K0 : Keep h0 h0 [] := Keep.refl _ _
  have first_ : Rn p e below (s₁.setTop (mkF m 0 #[.val (.int p0), .val (.int p1), .val (.ref a2)] [])) (Fn41 Z p0 p1 a2 h0 n0 s) := by
    generalize hG : (Fn41 Z p0 p1 a2 h0 n0 s) = G
    refine R.iloadN X0 hx (hb hby d41_0) rfl (pc' := 1) rfl ?_
    refine R.ifNo X0 hx (hb hby d41_1) (flt (h0_ : ¬ (p0 < (0 : Int32)))).1 (pc' := 4) rfl ?_
    refine R.iloadN X0 hx (hb hby d41_4) rfl (pc' := 5) rfl ?_
    refine R.iloadN X0 hx (hb hby d41_5) rfl (pc' := 6) rfl ?_
    refine R.icmpYes X0 hx (hb hby d41_6) (tlt (h1_ : p0 < p1)).1 (by decide) (pc' := 16) (by decide) ?_
    refine R.iloadN X0 hx (hb hby d41_16) rfl (pc' := 17) rfl ?_
    rw [← hG]
    exact Rn.ret X0 (BodyLoose.notSynchronized Bd) (v := some (.int p0)) (fun h => by rw [Bd.returns] at h; cases h) (Q := Q41 Z p0 p1 a2 h0 n0) e0 (fun fs hr => retOut X0 hx (t := .int) Bd.returns rfl (Or.inl ⟨rfl, Or.inl rfl, _, rfl⟩) (hb hby d41_17) hr) ⟨rfl, N0, rfl⟩ (by decide) (by decide)
  exact (Rn.st (fun t k => castTop (ef_41 m p0 p1 a2) k) first_ : Rn p e below (s₁.setTop (entryFrame m #[(.int p0), (.int p1), (.ref a2)] 3)) (Fn41 Z p0 p1 a2 h0 n0 s))
theorem d15_0 : decode jdk_42_method_152_code 0 = .ok (.getstatic 38, 3) := by decide +kernel
theorem d15_3 : decode jdk_42_method_152_code 3 = .ok (.ifCond .eq 10, 3) := by decide +kernel
theorem d15_6 : decode jdk_42_method_152_code 6 = .ok (.aload_n 0, 1) := by decide +kernel
theorem d15_7 : decode jdk_42_method_152_code 7 = .ok (.getfield 15, 3) := by decide +kernel
theorem d15_10 : decode jdk_42_method_152_code 10 = .ok (.goto 4, 3) := by decide +kernel
theorem d15_14 : decode jdk_42_method_152_code 14 = .ok (.ireturn, 1) := by decide +kernel
theorem pn_2 : plainName "java/lang/String" = true := by first | (simp [plainName, overriddenIn]; done) | decide +kernel
theorem ef_15 (m : MethodId) (x0 : Addr) : entryFrame m #[(.ref x0)] 1 = mkF m 0 #[.val (.ref x0)] [] := by first | (simp [entryFrame, mkF, argsToLocals, Value.category]; done) | rfl
def Q15 (Z : State) (a0 : Addr) (cs : Int32) (h0 : Heap) (n0 : Nat) (vQ : Option Value) (hQ_ : Heap) (LQ : List Loc) : Prop := vQ = some (.int (0 : Int32)) ∧ Fr n0 LQ ∧ hQ_ = h0
def Fn15 (Z : State) (a0 : Addr) (cs : Int32) (h0 : Heap) (n0 : Nat) (sQ : State) (oQ : Outcome) (UQ : State) : Prop := ∃ vQ LQ, oQ = .returned vQ ∧ Q15 Z a0 cs h0 n0 vQ UQ.heap LQ ∧ FrameEnd sQ oQ UQ LQ ({ frames := 0, cells := 0, slots := 0, locals := 0 } : Room).cells ({ frames := 0, cells := 0, slots := 0, locals := 0 } : Room).slots
set_option maxRecDepth 65536 in
set_option maxHeartbeats 40000000 in
theorem rm15 (l : Launch) (Z : State) (aZ : Array Value) (hw : ∀ d ∈ tables_1, d.before aZ Z = true) (ws : List Jvm.Cond) (a0 : Addr) (cs : Int32) (h0 : Heap) (n0 : Nat) (Z0 : n0 ≤ h0.size) (OL : Old Z n0 h0) (CS : own_CS Z cs) (F_coder_a0 : Fld Z h0 a0 "java/lang/String" "coder" "B" (.int (0 : Int32))) :
    MetFree l (⟨"java/lang/String", "coder", "()B"⟩ : MethodName) (head1 (Jvm.Cond.code (⟨"java/lang/String", "coder", "()B"⟩ : MethodName) jdk_42_method_152_code 1 (some .byte) :: ws) ({ frames := 0, cells := 0, slots := 0, locals := 0 } : Room)) (fun aQ UQ => aQ = #[(.ref a0)] ∧ Z.Warmed39 UQ.vm ∧ UQ.heap = h0) (fun _ _ _ _ _ => True) (fun _ UQ oQ UR => ∃ vQ LQ, oQ = .returned vQ ∧ Q15 Z a0 cs h0 n0 vQ UR.heap LQ ∧ FrameEnd UQ oQ UR LQ ({ frames := 0, cells := 0, slots := 0, locals := 0 } : Room).cells ({ frames := 0, cells := 0, slots := 0, locals := 0 } : Room).slots) := by
  refine MetFree.of_bodySF (plainFor_of_name pn_2) hisR ?_
  intro p e s m args below meth c s₁ Bd hml0 hP hK
  obtain ⟨rfl, hZ, hh⟩ := hP
  have hx := Bd.exec
  have hby := Bd.bytes
  have hml : c.maxLocals = 1 := hml0
  have hown : s.vm.findClass "java/lang/String" = some m.cls := findClass_of_methodNamed Bd.named
  have hnm := (name_of_methodNamed Bd.named Bd.method).1
  have X0 : Stand p l e ({ frames := 0, cells := 0, slots := 0, locals := 0 } : Room) s m #[(.ref a0)] below meth c s₁ [] 0 0 := Stand.of_body Bd
  have e0 : s₁.heap = h0 := by rw [← hh, Bd.state]; rfl
  have N0 := Fr.nil n0
  have K0 : Keep h0 h0 [] := Keep.refl _ _
  have w_24 := hw _ (List.mem_of_getElem? (i := 24) rfl)
  have w_36 := hw _ (List.mem_of_getElem? (i := 36) rfl)
  have first_ : Rn p e below (s₁.setTop (mkF m 0 #[.val (.ref a0)] [])) (Fn15 Z a0 cs h0 n0 s) := by
    generalize hG : (Fn15 Z a0 cs h0 n0 s) = G
    have S_CS := CS.1.ext OL.2
    refine R.getS X0 hx hZ hown (host := "") (Or.inl w_24) Via.refl e0 S_CS (hb hby d15_0) (pc' := 3) rfl ?_; intro T1 X1 e1
    refine R.ifNo X1 hx (hb hby d15_3) (feq (CS.2 : ¬ (cs = (0 : Int32)))).1 (pc' := 6) rfl ?_
    refine R.aloadN X1 hx (hb hby d15_6) rfl rfl (pc' := 7) rfl ?_
    refine R.getF X1 hx hZ hown (host := "") (Or.inl w_36) Via.refl e1 F_coder_a0 (hb hby d15_7) (pc' := 10) rfl ?_; intro T2 X2 e2
    refine R.goto X2 hx (hb hby d15_10) (by decide) (pc' := 14) (by decide) ?_
    rw [← hG]
    exact Rn.ret X2 (BodyLoose.notSynchronized Bd) (v := some (.int (0 : Int32))) (fun h => by rw [Bd.returns] at h; cases h) (Q := Q15 Z a0 cs h0 n0) e2 (fun fs hr => retN X2 hx (t := .byte) Bd.returns (by simp) (hb hby d15_14) hr) ⟨rfl, N0, rfl⟩ (by decide) (by decide)
  exact (Rn.st (fun t k => castTop (ef_15 m a0) k) first_ : Rn p e below (s₁.setTop (entryFrame m #[(.ref a0)] 1)) (Fn15 Z a0 cs h0 n0 s))
theorem d38_0 : decode jdk_42_method_154_code 0 = .ok (.getstatic 38, 3) := by decide +kernel
theorem d38_3 : decode jdk_42_method_154_code 3 = .ok (.ifCond .eq 14, 3) := by decide +kernel
theorem d38_6 : decode jdk_42_method_154_code 6 = .ok (.aload_n 0, 1) := by decide +kernel
theorem d38_7 : decode jdk_42_method_154_code 7 = .ok (.getfield 15, 3) := by decide +kernel
theorem d38_10 : decode jdk_42_method_154_code 10 = .ok (.ifCond .ne 7, 3) := by decide +kernel
theorem d38_13 : decode jdk_42_method_154_code 13 = .ok (.iconst 1, 1) := by decide +kernel
theorem d38_14 : decode jdk_42_method_154_code 14 = .ok (.goto 4, 3) := by decide +kernel
theorem d38_18 : decode jdk_42_method_154_code 18 = .ok (.ireturn, 1) := by decide +kernel
theorem ef_38 (m : MethodId) (x0 : Addr) : entryFrame m #[(.ref x0)] 1 = mkF m 0 #[.val (.ref x0)] [] := by first | (simp [entryFrame, mkF, argsToLocals, Value.category]; done) | rfl
def Q38 (Z : State) (a0 : Addr) (cs : Int32) (h0 : Heap) (n0 : Nat) (vQ : Option Value) (hQ_ : Heap) (LQ : List Loc) : Prop := vQ = some (.int (1 : Int32)) ∧ Fr n0 LQ ∧ hQ_ = h0
def Fn38 (Z : State) (a0 : Addr) (cs : Int32) (h0 : Heap) (n0 : Nat) (sQ : State) (oQ : Outcome) (UQ : State) : Prop := ∃ vQ LQ, oQ = .returned vQ ∧ Q38 Z a0 cs h0 n0 vQ UQ.heap LQ ∧ FrameEnd sQ oQ UQ LQ ({ frames := 0, cells := 0, slots := 0, locals := 0 } : Room).cells ({ frames := 0, cells := 0, slots := 0, locals := 0 } : Room).slots
set_option maxRecDepth 65536 in
set_option maxHeartbeats 40000000 in
theorem rm38 (l : Launch) (Z : State) (aZ : Array Value) (hw : ∀ d ∈ tables_1, d.before aZ Z = true) (ws : List Jvm.Cond) (a0 : Addr) (cs : Int32) (h0 : Heap) (n0 : Nat) (Z0 : n0 ≤ h0.size) (OL : Old Z n0 h0) (CS : own_CS Z cs) (F_coder_a0 : Fld Z h0 a0 "java/lang/String" "coder" "B" (.int (0 : Int32))) :
    MetFree l (⟨"java/lang/String", "isLatin1", "()Z"⟩ : MethodName) (head1 (Jvm.Cond.code (⟨"java/lang/String", "isLatin1", "()Z"⟩ : MethodName) jdk_42_method_154_code 1 (some .boolean) :: ws) ({ frames := 0, cells := 0, slots := 0, locals := 0 } : Room)) (fun aQ UQ => aQ = #[(.ref a0)] ∧ Z.Warmed39 UQ.vm ∧ UQ.heap = h0) (fun _ _ _ _ _ => True) (fun _ UQ oQ UR => ∃ vQ LQ, oQ = .returned vQ ∧ Q38 Z a0 cs h0 n0 vQ UR.heap LQ ∧ FrameEnd UQ oQ UR LQ ({ frames := 0, cells := 0, slots := 0, locals := 0 } : Room).cells ({ frames := 0, cells := 0, slots := 0, locals := 0 } : Room).slots) := by
  refine MetFree.of_bodySF (plainFor_of_name pn_2) hisR ?_
  intro p e s m args below meth c s₁ Bd hml0 hP hK
  obtain ⟨rfl, hZ, hh⟩ := hP
  have hx := Bd.exec
  have hby := Bd.bytes
  have hml : c.maxLocals = 1 := hml0
  have hown : s.vm.findClass "java/lang/String" = some m.cls := findClass_of_methodNamed Bd.named
  have hnm := (name_of_methodNamed Bd.named Bd.method).1
  have X0 : Stand p l e ({ frames := 0, cells := 0, slots := 0, locals := 0 } : Room) s m #[(.ref a0)] below meth c s₁ [] 0 0 := Stand.of_body Bd
  have e0 : s₁.heap = h0 := by rw [← hh, Bd.state]; rfl
  have N0 := Fr.nil n0
  have K0 : Keep h0 h0 [] := Keep.refl _ _
  have w_24 := hw _ (List.mem_of_getElem? (i := 24) rfl)
  have w_36 := hw _ (List.mem_of_getElem? (i := 36) rfl)
  have first_ : Rn p e below (s₁.setTop (mkF m 0 #[.val (.ref a0)] [])) (Fn38 Z a0 cs h0 n0 s) := by
    generalize hG : (Fn38 Z a0 cs h0 n0 s) = G
    have S_CS := CS.1.ext OL.2
    refine R.getS X0 hx hZ hown (host := "") (Or.inl w_24) Via.refl e0 S_CS (hb hby d38_0) (pc' := 3) rfl ?_; intro T1 X1 e1
    refine R.ifNo X1 hx (hb hby d38_3) (feq (CS.2 : ¬ (cs = (0 : Int32)))).1 (pc' := 6) rfl ?_
    refine R.aloadN X1 hx (hb hby d38_6) rfl rfl (pc' := 7) rfl ?_
    refine R.getF X1 hx hZ hown (host := "") (Or.inl w_36) Via.refl e1 F_coder_a0 (hb hby d38_7) (pc' := 10) rfl ?_; intro T2 X2 e2
    refine R.ifNo X2 hx (hb hby d38_10) (teq (by decide : (0 : Int32) = (0 : Int32))).2 (pc' := 13) rfl ?_
    refine R.iconst X2 hx (hb hby d38_13) (v := (1 : Int32)) (by decide) (pc' := 14) rfl ?_
    refine R.goto X2 hx (hb hby d38_14) (by decide) (pc' := 18) (by decide) ?_
    rw [← hG]
    exact Rn.ret X2 (BodyLoose.notSynchronized Bd) (v := some (.int (1 : Int32))) (fun h => by rw [Bd.returns] at h; cases h) (Q := Q38 Z a0 cs h0 n0) e2 (fun fs hr => retN X2 hx (t := .boolean) Bd.returns (by simp) (hb hby d38_18) hr) ⟨rfl, N0, rfl⟩ (by decide) (by decide)
  exact (Rn.st (fun t k => castTop (ef_38 m a0) k) first_ : Rn p e below (s₁.setTop (entryFrame m #[(.ref a0)] 1)) (Fn38 Z a0 cs h0 n0 s))
theorem d23_0 : decode jdk_68_method_68_code 0 = .ok (.getstatic 18, 3) := by decide +kernel
theorem d23_3 : decode jdk_68_method_68_code 3 = .ok (.ifCond .eq 14, 3) := by decide +kernel
theorem d23_6 : decode jdk_68_method_68_code 6 = .ok (.aload_n 0, 1) := by decide +kernel
theorem d23_7 : decode jdk_68_method_68_code 7 = .ok (.getfield 22, 3) := by decide +kernel
theorem d23_10 : decode jdk_68_method_68_code 10 = .ok (.ifCond .ne 7, 3) := by decide +kernel
theorem d23_13 : decode jdk_68_method_68_code 13 = .ok (.iconst 1, 1) := by decide +kernel
theorem d23_14 : decode jdk_68_method_68_code 14 = .ok (.goto 4, 3) := by decide +kernel
theorem d23_18 : decode jdk_68_method_68_code 18 = .ok (.ireturn, 1) := by decide +kernel
theorem pn_3 : plainName "java/lang/AbstractStringBuilder" = true := by first | (simp [plainName, overriddenIn]; done) | decide +kernel
theorem ef_23 (m : MethodId) (x0 : Addr) : entryFrame m #[(.ref x0)] 1 = mkF m 0 #[.val (.ref x0)] [] := by first | (simp [entryFrame, mkF, argsToLocals, Value.category]; done) | rfl
def Q23 (Z : State) (a0 : Addr) (cs : Int32) (h0 : Heap) (n0 : Nat) (vQ : Option Value) (hQ_ : Heap) (LQ : List Loc) : Prop := vQ = some (.int (1 : Int32)) ∧ Fr n0 LQ ∧ hQ_ = h0
def Fn23 (Z : State) (a0 : Addr) (cs : Int32) (h0 : Heap) (n0 : Nat) (sQ : State) (oQ : Outcome) (UQ : State) : Prop := ∃ vQ LQ, oQ = .returned vQ ∧ Q23 Z a0 cs h0 n0 vQ UQ.heap LQ ∧ FrameEnd sQ oQ UQ LQ ({ frames := 0, cells := 0, slots := 0, locals := 0 } : Room).cells ({ frames := 0, cells := 0, slots := 0, locals := 0 } : Room).slots
set_option maxRecDepth 65536 in
set_option maxHeartbeats 40000000 in
theorem rm23 (l : Launch) (Z : State) (aZ : Array Value) (hw : ∀ d ∈ tables_1, d.before aZ Z = true) (ws : List Jvm.Cond) (a0 : Addr) (cs : Int32) (h0 : Heap) (n0 : Nat) (Z0 : n0 ≤ h0.size) (OL : Old Z n0 h0) (CS : own_CS Z cs) (F_coder_a0 : Fld Z h0 a0 "java/lang/AbstractStringBuilder" "coder" "B" (.int (0 : Int32))) :
    MetFree l (⟨"java/lang/AbstractStringBuilder", "isLatin1", "()Z"⟩ : MethodName) (head1 (Jvm.Cond.code (⟨"java/lang/AbstractStringBuilder", "isLatin1", "()Z"⟩ : MethodName) jdk_68_method_68_code 1 (some .boolean) :: ws) ({ frames := 0, cells := 0, slots := 0, locals := 0 } : Room)) (fun aQ UQ => aQ = #[(.ref a0)] ∧ Z.Warmed39 UQ.vm ∧ UQ.heap = h0) (fun _ _ _ _ _ => True) (fun _ UQ oQ UR => ∃ vQ LQ, oQ = .returned vQ ∧ Q23 Z a0 cs h0 n0 vQ UR.heap LQ ∧ FrameEnd UQ oQ UR LQ ({ frames := 0, cells := 0, slots := 0, locals := 0 } : Room).cells ({ frames := 0, cells := 0, slots := 0, locals := 0 } : Room).slots) := by
  refine MetFree.of_bodySF (plainFor_of_name pn_3) hisR ?_
  intro p e s m args below meth c s₁ Bd hml0 hP hK
  obtain ⟨rfl, hZ, hh⟩ := hP
  have hx := Bd.exec
  have hby := Bd.bytes
  have hml : c.maxLocals = 1 := hml0
  have hown : s.vm.findClass "java/lang/AbstractStringBuilder" = some m.cls := findClass_of_methodNamed Bd.named
  have hnm := (name_of_methodNamed Bd.named Bd.method).1
  have X0 : Stand p l e ({ frames := 0, cells := 0, slots := 0, locals := 0 } : Room) s m #[(.ref a0)] below meth c s₁ [] 0 0 := Stand.of_body Bd
  have e0 : s₁.heap = h0 := by rw [← hh, Bd.state]; rfl
  have N0 := Fr.nil n0
  have K0 : Keep h0 h0 [] := Keep.refl _ _
  have w_74 := hw _ (List.mem_of_getElem? (i := 74) rfl)
  have w_77 := hw _ (List.mem_of_getElem? (i := 77) rfl)
  have first_ : Rn p e below (s₁.setTop (mkF m 0 #[.val (.ref a0)] [])) (Fn23 Z a0 cs h0 n0 s) := by
    generalize hG : (Fn23 Z a0 cs h0 n0 s) = G
    have S_CS := CS.1.ext OL.2
    refine R.getS X0 hx hZ hown (host := "") (Or.inl w_74) Via.refl e0 S_CS (hb hby d23_0) (pc' := 3) rfl ?_; intro T1 X1 e1
    refine R.ifNo X1 hx (hb hby d23_3) (feq (CS.2 : ¬ (cs = (0 : Int32)))).1 (pc' := 6) rfl ?_
    refine R.aloadN X1 hx (hb hby d23_6) rfl rfl (pc' := 7) rfl ?_
    refine R.getF X1 hx hZ hown (host := "") (Or.inl w_77) Via.refl e1 F_coder_a0 (hb hby d23_7) (pc' := 10) rfl ?_; intro T2 X2 e2
    refine R.ifNo X2 hx (hb hby d23_10) (teq (by decide : (0 : Int32) = (0 : Int32))).2 (pc' := 13) rfl ?_
    refine R.iconst X2 hx (hb hby d23_13) (v := (1 : Int32)) (by decide) (pc' := 14) rfl ?_
    refine R.goto X2 hx (hb hby d23_14) (by decide) (pc' := 18) (by decide) ?_
    rw [← hG]
    exact Rn.ret X2 (BodyLoose.notSynchronized Bd) (v := some (.int (1 : Int32))) (fun h => by rw [Bd.returns] at h; cases h) (Q := Q23 Z a0 cs h0 n0) e2 (fun fs hr => retN X2 hx (t := .boolean) Bd.returns (by simp) (hb hby d23_18) hr) ⟨rfl, N0, rfl⟩ (by decide) (by decide)
  exact (Rn.st (fun t k => castTop (ef_23 m a0) k) first_ : Rn p e below (s₁.setTop (entryFrame m #[(.ref a0)] 1)) (Fn23 Z a0 cs h0 n0 s))
theorem d28_0 : decode jdk_68_method_64_code 0 = .ok (.aload_n 0, 1) := by decide +kernel
theorem d28_1 : decode jdk_68_method_64_code 1 = .ok (.getfield 15, 3) := by decide +kernel
theorem d28_4 : decode jdk_68_method_64_code 4 = .ok (.areturn, 1) := by decide +kernel
theorem ef_28 (m : MethodId) (x0 : Addr) : entryFrame m #[(.ref x0)] 1 = mkF m 0 #[.val (.ref x0)] [] := by first | (simp [entryFrame, mkF, argsToLocals, Value.category]; done) | rfl
def Q28 (Z : State) (a0 : Addr) (b : Addr) (h0 : Heap) (n0 : Nat) (vQ : Option Value) (hQ_ : Heap) (LQ : List Loc) : Prop := vQ = some (.ref b) ∧ Fr n0 LQ ∧ hQ_ = h0
def Fn28 (Z : State) (a0 : Addr) (b : Addr) (h0 : Heap) (n0 : Nat) (sQ : State) (oQ : Outcome) (UQ : State) : Prop := ∃ vQ LQ, oQ = .returned vQ ∧ Q28 Z a0 b h0 n0 vQ UQ.heap LQ ∧ FrameEnd sQ oQ UQ LQ ({ frames := 0, cells := 0, slots := 0, locals := 0 } : Room).cells ({ frames := 0, cells := 0, slots := 0, locals := 0 } : Room).slots
set_option maxRecDepth 65536 in
set_option maxHeartbeats 40000000 in
theorem rm28 (l : Launch) (Z : State) (aZ : Array Value) (hw : ∀ d ∈ tables_1, d.before aZ Z = true) (ws : List Jvm.Cond) (a0 : Addr) (b : Addr) (h0 : Heap) (n0 : Nat) (Z0 : n0 ≤ h0.size) (F_value_a0 : Fld Z h0 a0 "java/lang/AbstractStringBuilder" "value" "[B" (.ref b)) :
    MetFree l (⟨"java/lang/AbstractStringBuilder", "getValue", "()[B"⟩ : MethodName) (head1 (Jvm.Cond.code (⟨"java/lang/AbstractStringBuilder", "getValue", "()[B"⟩ : MethodName) jdk_68_method_64_code 1 (some (.array .byte)) :: ws) ({ frames := 0, cells := 0, slots := 0, locals := 0 } : Room)) (fun aQ UQ => aQ = #[(.ref a0)] ∧ Z.Warmed39 UQ.vm ∧ UQ.heap = h0) (fun _ _ _ _ _ => True) (fun _ UQ oQ UR => ∃ vQ LQ, oQ = .returned vQ ∧ Q28 Z a0 b h0 n0 vQ UR.heap LQ ∧ FrameEnd UQ oQ UR LQ ({ frames := 0, cells := 0, slots := 0, locals := 0 } : Room).cells ({ frames := 0, cells := 0, slots := 0, locals := 0 } : Room).slots) := by
  refine MetFree.of_bodySF (plainFor_of_name pn_3) hisR ?_
  intro p e s m args below meth c s₁ Bd hml0 hP hK
  obtain ⟨rfl, hZ, hh⟩ := hP
  have hx := Bd.exec
  have hby := Bd.bytes
  have hml : c.maxLocals = 1 := hml0
  have hown : s.vm.findClass "java/lang/AbstractStringBuilder" = some m.cls := findClass_of_methodNamed Bd.named
  have hnm := (name_of_methodNamed Bd.named Bd.method).1
  have X0 : Stand p l e ({ frames := 0, cells := 0, slots := 0, locals := 0 } : Room) s m #[(.ref a0)] below meth c s₁ [] 0 0 := Stand.of_body Bd
  have e0 : s₁.heap = h0 := by rw [← hh, Bd.state]; rfl
  have N0 := Fr.nil n0
  have K0 : Keep h0 h0 [] := Keep.refl _ _
  have w_75 := hw _ (List.mem_of_getElem? (i := 75) rfl)
  have first_ : Rn p e below (s₁.setTop (mkF m 0 #[.val (.ref a0)] [])) (Fn28 Z a0 b h0 n0 s) := by
    generalize hG : (Fn28 Z a0 b h0 n0 s) = G
    refine R.aloadN X0 hx (hb hby d28_0) rfl rfl (pc' := 1) rfl ?_
    refine R.getF X0 hx hZ hown (host := "") (Or.inl w_75) Via.refl e0 F_value_a0 (hb hby d28_1) (pc' := 4) rfl ?_; intro T1 X1 e1
    rw [← hG]
    exact Rn.ret X1 (BodyLoose.notSynchronized Bd) (v := some (.ref b)) (fun h => by rw [Bd.returns] at h; cases h) (Q := Q28 Z a0 b h0 n0) e1 (fun fs hr => retOut X1 hx (t := (.array .byte)) Bd.returns rfl (Or.inr (Or.inr (Or.inr (Or.inr ⟨rfl, rfl, rfl⟩)))) (hb hby d28_4) hr) ⟨rfl, N0, rfl⟩ (by decide) (by decide)
  exact (Rn.st (fun t k => castTop (ef_28 m a0) k) first_ : Rn p e below (s₁.setTop (entryFrame m #[(.ref a0)] 1)) (Fn28 Z a0 b h0 n0 s))
theorem d30_0 : decode jdk_68_method_6_code 0 = .ok (.aload_n 0, 1) := by decide +kernel
theorem d30_1 : decode jdk_68_method_6_code 1 = .ok (.getfield 79, 3) := by decide +kernel
theorem d30_4 : decode jdk_68_method_6_code 4 = .ok (.ireturn, 1) := by decide +kernel
theorem ef_30 (m : MethodId) (x0 : Addr) : entryFrame m #[(.ref x0)] 1 = mkF m 0 #[.val (.ref x0)] [] := by first | (simp [entryFrame, mkF, argsToLocals, Value.category]; done) | rfl
def Q30 (Z : State) (a0 : Addr) (n : Int32) (h0 : Heap) (n0 : Nat) (vQ : Option Value) (hQ_ : Heap) (LQ : List Loc) : Prop := vQ = some (.int n) ∧ Fr n0 LQ ∧ hQ_ = h0
def Fn30 (Z : State) (a0 : Addr) (n : Int32) (h0 : Heap) (n0 : Nat) (sQ : State) (oQ : Outcome) (UQ : State) : Prop := ∃ vQ LQ, oQ = .returned vQ ∧ Q30 Z a0 n h0 n0 vQ UQ.heap LQ ∧ FrameEnd sQ oQ UQ LQ ({ frames := 0, cells := 0, slots := 0, locals := 0 } : Room).cells ({ frames := 0, cells := 0, slots := 0, locals := 0 } : Room).slots
set_option maxRecDepth 65536 in
set_option maxHeartbeats 40000000 in
theorem rm30 (l : Launch) (Z : State) (aZ : Array Value) (hw : ∀ d ∈ tables_1, d.before aZ Z = true) (ws : List Jvm.Cond) (a0 : Addr) (n : Int32) (h0 : Heap) (n0 : Nat) (Z0 : n0 ≤ h0.size) (F_count_a0 : Fld Z h0 a0 "java/lang/AbstractStringBuilder" "count" "I" (.int n)) :
    MetFree l (⟨"java/lang/AbstractStringBuilder", "length", "()I"⟩ : MethodName) (head1 (Jvm.Cond.code (⟨"java/lang/AbstractStringBuilder", "length", "()I"⟩ : MethodName) jdk_68_method_6_code 1 (some .int) :: ws) ({ frames := 0, cells := 0, slots := 0, locals := 0 } : Room)) (fun aQ UQ => aQ = #[(.ref a0)] ∧ Z.Warmed39 UQ.vm ∧ UQ.heap = h0) (fun _ _ _ _ _ => True) (fun _ UQ oQ UR => ∃ vQ LQ, oQ = .returned vQ ∧ Q30 Z a0 n h0 n0 vQ UR.heap LQ ∧ FrameEnd UQ oQ UR LQ ({ frames := 0, cells := 0, slots := 0, locals := 0 } : Room).cells ({ frames := 0, cells := 0, slots := 0, locals := 0 } : Room).slots) := by
  refine MetFree.of_bodySF (plainFor_of_name pn_3) hisR ?_
  intro p e s m args below meth c s₁ Bd hml0 hP hK
  obtain ⟨rfl, hZ, hh⟩ := hP
  have hx := Bd.exec
  have hby := Bd.bytes
  have hml : c.maxLocals = 1 := hml0
  have hown : s.vm.findClass "java/lang/AbstractStringBuilder" = some m.cls := findClass_of_methodNamed Bd.named
  have hnm := (name_of_methodNamed Bd.named Bd.method).1
  have X0 : Stand p l e ({ frames := 0, cells := 0, slots := 0, locals := 0 } : Room) s m #[(.ref a0)] below meth c s₁ [] 0 0 := Stand.of_body Bd
  have e0 : s₁.heap = h0 := by rw [← hh, Bd.state]; rfl
  have N0 := Fr.nil n0
  have K0 : Keep h0 h0 [] := Keep.refl _ _
  have w_99 := hw _ (List.mem_of_getElem? (i := 99) rfl)
  have first_ : Rn p e below (s₁.setTop (mkF m 0 #[.val (.ref a0)] [])) (Fn30 Z a0 n h0 n0 s) := by
    generalize hG : (Fn30 Z a0 n h0 n0 s) = G
    refine R.aloadN X0 hx (hb hby d30_0) rfl rfl (pc' := 1) rfl ?_
    refine R.getF X0 hx hZ hown (host := "") (Or.inl w_99) Via.refl e0 F_count_a0 (hb hby d30_1) (pc' := 4) rfl ?_; intro T1 X1 e1
    rw [← hG]
    exact Rn.ret X1 (BodyLoose.notSynchronized Bd) (v := some (.int n)) (fun h => by rw [Bd.returns] at h; cases h) (Q := Q30 Z a0 n h0 n0) e1 (fun fs hr => retOut X1 hx (t := .int) Bd.returns rfl (Or.inl ⟨rfl, Or.inl rfl, _, rfl⟩) (hb hby d30_4) hr) ⟨rfl, N0, rfl⟩ (by decide) (by decide)
  exact (Rn.st (fun t k => castTop (ef_30 m a0) k) first_ : Rn p e below (s₁.setTop (entryFrame m #[(.ref a0)] 1)) (Fn30 Z a0 n h0 n0 s))
theorem d29_0 : decode jdk_67_method_93_code 0 = .ok (.aload_n 0, 1) := by decide +kernel
theorem d29_1 : decode jdk_67_method_93_code 1 = .ok (.invokespecial 343, 3) := by decide +kernel
theorem pd_0 : parseMethodDescriptor "()I" = some ⟨[], some .int⟩ := by decide +kernel
abbrev mY0 : MethodName := (⟨"java/lang/AbstractStringBuilder", "length", "()I"⟩ : MethodName)
abbrev mY1 : MethodName := (⟨"java/lang/AbstractStringBuilder", "ensureCapacityInternal", "(I)V"⟩ : MethodName)
theorem d29_4 : decode jdk_67_method_93_code 4 = .ok (.ireturn, 1) := by decide +kernel
theorem pn_4 : plainName "java/lang/StringBuilder" = true := by first | (simp [plainName, overriddenIn]; done) | decide +kernel
theorem ef_29 (m : MethodId) (x0 : Addr) : entryFrame m #[(.ref x0)] 1 = mkF m 0 #[.val (.ref x0)] [] := by first | (simp [entryFrame, mkF, argsToLocals, Value.category]; done) | rfl
def Q29 (Z : State) (a0 : Addr) (n : Int32) (h0 : Heap) (n0 : Nat) (vQ : Option Value) (hQ_ : Heap) (LQ : List Loc) : Prop := vQ = some (.int n) ∧ Fr n0 LQ ∧ hQ_ = h0
def Fn29 (Z : State) (a0 : Addr) (n : Int32) (h0 : Heap) (n0 : Nat) (sQ : State) (oQ : Outcome) (UQ : State) : Prop := ∃ vQ LQ, oQ = .returned vQ ∧ Q29 Z a0 n h0 n0 vQ UQ.heap LQ ∧ FrameEnd sQ oQ UQ LQ ({ frames := 1, cells := 0, slots := 0, locals := 12 } : Room).cells ({ frames := 1, cells := 0, slots := 0, locals := 12 } : Room).slots
set_option maxRecDepth 65536 in
set_option maxHeartbeats 40000000 in
theorem rm29 (l : Launch) (Z : State) (aZ : Array Value) (hw : ∀ d ∈ tables_1, d.before aZ Z = true) (ws : List Jvm.Cond) (a0 : Addr) (n : Int32) (h0 : Heap) (n0 : Nat) (Z0 : n0 ≤ h0.size) (E_a0 : Exa Z h0 a0 "java/lang/StringBuilder") (F_count_a0 : Fld Z h0 a0 "java/lang/AbstractStringBuilder" "count" "I" (.int n)) :
    MetFree l (⟨"java/lang/StringBuilder", "length", "()I"⟩ : MethodName) (head1 (Jvm.Cond.code (⟨"java/lang/StringBuilder", "length", "()I"⟩ : MethodName) jdk_67_method_93_code 1 (some .int) :: ws) ({ frames := 1, cells := 0, slots := 0, locals := 12 } : Room)) (fun aQ UQ => aQ = #[(.ref a0)] ∧ Z.Warmed39 UQ.vm ∧ UQ.heap = h0) (fun _ _ _ _ _ => True) (fun _ UQ oQ UR => ∃ vQ LQ, oQ = .returned vQ ∧ Q29 Z a0 n h0 n0 vQ UR.heap LQ ∧ FrameEnd UQ oQ UR LQ ({ frames := 1, cells := 0, slots := 0, locals := 12 } : Room).cells ({ frames := 1, cells := 0, slots := 0, locals := 12 } : Room).slots) := by
  refine MetFree.of_bodySF (plainFor_of_name pn_4) hisR ?_
  intro p e s m args below meth c s₁ Bd hml0 hP hK
  obtain ⟨rfl, hZ, hh⟩ := hP
  have hx := Bd.exec
  have hby := Bd.bytes
  have hml : c.maxLocals = 1 := hml0
  have hown : s.vm.findClass "java/lang/StringBuilder" = some m.cls := findClass_of_methodNamed Bd.named
  have hnm := (name_of_methodNamed Bd.named Bd.method).1
  have X0 : Stand p l e ({ frames := 1, cells := 0, slots := 0, locals := 12 } : Room) s m #[(.ref a0)] below meth c s₁ [] 0 0 := Stand.of_body Bd
  have e0 : s₁.heap = h0 := by rw [← hh, Bd.state]; rfl
  have N0 := Fr.nil n0
  have K0 : Keep h0 h0 [] := Keep.refl _ _
  have w_71 := hw _ (List.mem_of_getElem? (i := 71) rfl)
  have w_86 := hw _ (List.mem_of_getElem? (i := 86) rfl)
  have w_104 := hw _ (List.mem_of_getElem? (i := 104) rfl)
  have w_170 := hw _ (List.mem_of_getElem? (i := 170) rfl)
  have w_174 := hw _ (List.mem_of_getElem? (i := 174) rfl)
  have w_175 := hw _ (List.mem_of_getElem? (i := 175) rfl)
  have first_ : Rn p e below (s₁.setTop (mkF m 0 #[.val (.ref a0)] [])) (Fn29 Z a0 n h0 n0 s) := by
    generalize hG : (Fn29 Z a0 n h0 n0 s) = G
    refine R.aloadN X0 hx (hb hby d29_0) rfl rfl (pc' := 1) rfl ?_
    refine R.superV X0 hx hZ (y := mY0) hown w_174 (own_same w_170 (own_nf (y := mY0) (y' := mY1) rfl w_104) (by decide)) w_170 w_86 (by decide) w_71 w_175 (by decide) e0 E_a0 (rm30 l Z aZ hw [] a0 n h0 n0 Z0 F_count_a0) (by decide) (W := 0) (Nat.le_of_eq rfl) (by decide) (by rw [hml]; rfl) (lenOf pd_0 rfl) rfl (hb hby d29_1) (pc' := 4) rfl (by decide) (by decide) ?_; intro v1 T1 L1 X1 hQ1
    obtain ⟨rfl, N1q, e1⟩ := hQ1
    have N1 := Fr.app N0 N1q
    rw [← hG]
    exact Rn.ret X1 (BodyLoose.notSynchronized Bd) (v := some (.int n)) (fun h => by rw [Bd.returns] at h; cases h) (Q := Q29 Z a0 n h0 n0) e1 (fun fs hr => retOut X1 hx (t := .int) Bd.returns rfl (Or.inl ⟨rfl, Or.inl rfl, _, rfl⟩) (hb hby d29_4) hr) ⟨rfl, N1, rfl⟩ (by decide) (by decide)
  exact (Rn.st (fun t k => castTop (ef_29 m a0) k) first_ : Rn p e below (s₁.setTop (entryFrame m #[(.ref a0)] 1)) (Fn29 Z a0 n h0 n0 s))
theorem d14_0 : decode jdk_42_method_54_code 0 = .ok (.aload_n 0, 1) := by decide +kernel
theorem d14_1 : decode jdk_42_method_54_code 1 = .ok (.getfield 9, 3) := by decide +kernel
theorem d14_4 : decode jdk_42_method_54_code 4 = .ok (.arraylength, 1) := by decide +kernel
theorem d14_5 : decode jdk_42_method_54_code 5 = .ok (.aload_n 0, 1) := by decide +kernel
theorem d14_6 : decode jdk_42_method_54_code 6 = .ok (.invokevirtual 335, 3) := by decide +kernel
theorem pd_1 : parseMethodDescriptor "()B" = some ⟨[], some .byte⟩ := by decide +kernel
abbrev mY2 : MethodName := (⟨"java/lang/String", "coder", "()B"⟩ : MethodName)
theorem d14_9 : decode jdk_42_method_54_code 9 = .ok (.ishr, 1) := by decide +kernel
theorem d14_10 : decode jdk_42_method_54_code 10 = .ok (.ireturn, 1) := by decide +kernel
theorem ef_14 (m : MethodId) (x0 : Addr) : entryFrame m #[(.ref x0)] 1 = mkF m 0 #[.val (.ref x0)] [] := by first | (simp [entryFrame, mkF, argsToLocals, Value.category]; done) | rfl
def Q14 (Z : State) (a0 : Addr) (cs : Int32) (b : Addr) (z : Int32) (f : Nat → Int32) (h0 : Heap) (n0 : Nat) (vQ : Option Value) (hQ_ : Heap) (LQ : List Loc) : Prop := vQ = some (.int z) ∧ Fr n0 LQ ∧ hQ_ = h0
def Fn14 (Z : State) (a0 : Addr) (cs : Int32) (b : Addr) (z : Int32) (f : Nat → Int32) (h0 : Heap) (n0 : Nat) (sQ : State) (oQ : Outcome) (UQ : State) : Prop := ∃ vQ LQ, oQ = .returned vQ ∧ Q14 Z a0 cs b z f h0 n0 vQ UQ.heap LQ ∧ FrameEnd sQ oQ UQ LQ ({ frames := 1, cells := 0, slots := 0, locals := 13 } : Room).cells ({ frames := 1, cells := 0, slots := 0, locals := 13 } : Room).slots
set_option maxRecDepth 65536 in
set_option maxHeartbeats 40000000 in
theorem rm14 (l : Launch) (Z : State) (aZ : Array Value) (hw : ∀ d ∈ tables_1, d.before aZ Z = true) (ws : List Jvm.Cond) (a0 : Addr) (cs : Int32) (b : Addr) (z : Int32) (f : Nat → Int32) (h0 : Heap) (n0 : Nat) (Z0 : n0 ≤ h0.size) (OL : Old Z n0 h0) (CS : own_CS Z cs) (E_a0 : Exa Z h0 a0 "java/lang/String") (F_coder_a0 : Fld Z h0 a0 "java/lang/String" "coder" "B" (.int (0 : Int32))) (F_value_a0 : Fld Z h0 a0 "java/lang/String" "value" "[B" (.ref b)) (Y_b : own_By Z h0 b z f) :
    MetFree l (⟨"java/lang/String", "length", "()I"⟩ : MethodName) (head1 (Jvm.Cond.code (⟨"java/lang/String", "length", "()I"⟩ : MethodName) jdk_42_method_54_code 1 (some .int) :: ws) ({ frames := 1, cells := 0, slots := 0, locals := 13 } : Room)) (fun aQ UQ => aQ = #[(.ref a0)] ∧ Z.Warmed39 UQ.vm ∧ UQ.heap = h0) (fun _ _ _ _ _ => True) (fun _ UQ oQ UR => ∃ vQ LQ, oQ = .returned vQ ∧ Q14 Z a0 cs b z f h0 n0 vQ UR.heap LQ ∧ FrameEnd UQ oQ UR LQ ({ frames := 1, cells := 0, slots := 0, locals := 13 } : Room).cells ({ frames := 1, cells := 0, slots := 0, locals := 13 } : Room).slots) := by
  refine MetFree.of_bodySF (plainFor_of_name pn_2) hisR ?_
  intro p e s m args below meth c s₁ Bd hml0 hP hK
  obtain ⟨rfl, hZ, hh⟩ := hP
  have hx := Bd.exec
  have hby := Bd.bytes
  have hml : c.maxLocals = 1 := hml0
  have hown : s.vm.findClass "java/lang/String" = some m.cls := findClass_of_methodNamed Bd.named
  have hnm := (name_of_methodNamed Bd.named Bd.method).1
  have X0 : Stand p l e ({ frames := 1, cells := 0, slots := 0, locals := 13 } : Room) s m #[(.ref a0)] below meth c s₁ [] 0 0 := Stand.of_body Bd
  have e0 : s₁.heap = h0 := by rw [← hh, Bd.state]; rfl
  have N0 := Fr.nil n0
  have K0 : Keep h0 h0 [] := Keep.refl _ _
  have w_13 := hw _ (List.mem_of_getElem? (i := 13) rfl)
  have w_38 := hw _ (List.mem_of_getElem? (i := 38) rfl)
  have w_94 := hw _ (List.mem_of_getElem? (i := 94) rfl)
  have w_95 := hw _ (List.mem_of_getElem? (i := 95) rfl)
  have w_96 := hw _ (List.mem_of_getElem? (i := 96) rfl)
  have w_97 := hw _ (List.mem_of_getElem? (i := 97) rfl)
  have w_98 := hw _ (List.mem_of_getElem? (i := 98) rfl)
  have first_ : Rn p e below (s₁.setTop (mkF m 0 #[.val (.ref a0)] [])) (Fn14 Z a0 cs b z f h0 n0 s) := by
    generalize hG : (Fn14 Z a0 cs b z f h0 n0 s) = G
    refine R.aloadN X0 hx (hb hby d14_0) rfl rfl (pc' := 1) rfl ?_
    refine R.getF X0 hx hZ hown (host := "") (Or.inl w_38) Via.refl e0 F_value_a0 (hb hby d14_1) (pc' := 4) rfl ?_; intro T1 X1 e1
    refine R.alenY X1 hx hZ e1 Y_b (hb hby d14_4) (pc' := 5) rfl ?_
    refine R.aloadN X1 hx (hb hby d14_5) rfl rfl (pc' := 6) rfl ?_
    refine R.virtual X1 hx hZ (y := mY2) (z := mY2) hown w_94 w_95 (notFace_of_selects (args := #[]) (mvT hZ w_97)) w_97 w_96 w_13 w_98 (by decide) e1 E_a0 (rm15 l Z aZ hw [] a0 cs h0 n0 Z0 OL CS F_coder_a0) (by decide) (W := 1) (Nat.le_of_eq rfl) (by decide) (by rw [hml]; rfl) (lenOf pd_1 rfl) rfl (hb hby d14_6) (pc' := 9) rfl (by decide) (by decide) ?_; intro v2 T2 L2 X2 hQ2
    obtain ⟨rfl, N2q, e2⟩ := hQ2
    have N2 := Fr.app N0 N2q
    refine R.ishr X2 hx (hb hby d14_9) (pc' := 10) rfl ?_
    show Rn p e below (T2.setTop (mkF m 10 #[.val (.ref a0)] [(.int (z >>> ((0 : Int32) &&& 31)))])) G
    rw [own_shr0]
    rw [← hG]
    exact Rn.ret X2 (BodyLoose.notSynchronized Bd) (v := some (.int z)) (fun h => by rw [Bd.returns] at h; cases h) (Q := Q14 Z a0 cs b z f h0 n0) e2 (fun fs hr => retOut X2 hx (t := .int) Bd.returns rfl (Or.inl ⟨rfl, Or.inl rfl, _, rfl⟩) (hb hby d14_10) hr) ⟨rfl, N2, rfl⟩ (by decide) (by decide)
  exact (Rn.st (fun t k => castTop (ef_14 m a0) k) first_ : Rn p e below (s₁.setTop (entryFrame m #[(.ref a0)] 1)) (Fn14 Z a0 cs b z f h0 n0 s))
theorem ef_cin (m : MethodId) (x0 : Int32) (x1 : Int32) : entryFrame m #[(.int x0), (.int x1), .null] 3 = mkF m 0 #[.val (.int x0), .val (.int x1), .val .null] [] := by first | (simp [entryFrame, mkF, argsToLocals, Value.category]; done) | rfl
def Qcin (Z : State) (p0 : Int32) (p1 : Int32) (h0 : Heap) (n0 : Nat) (vQ : Option Value) (hQ_ : Heap) (LQ : List Loc) : Prop := vQ = some (.int p0) ∧ Fr n0 LQ ∧ hQ_ = h0
def Fncin (Z : State) (p0 : Int32) (p1 : Int32) (h0 : Heap) (n0 : Nat) (sQ : State) (oQ : Outcome) (UQ : State) : Prop := ∃ vQ LQ, oQ = .returned vQ ∧ Qcin Z p0 p1 h0 n0 vQ UQ.heap LQ ∧ FrameEnd sQ oQ UQ LQ ({ frames := 0, cells := 0, slots := 0, locals := 0 } : Room).cells ({ frames := 0, cells := 0, slots := 0, locals := 0 } : Room).slots
set_option maxRecDepth 65536 in
set_option maxHeartbeats 40000000 in
theorem rmcin (l : Launch) (Z : State) (aZ : Array Value) (hw : ∀ d ∈ tables_1, d.before aZ Z = true) (ws : List Jvm.Cond) (p0 : Int32) (p1 : Int32) (h0 : Heap) (n0 : Nat) (Z0 : n0 ≤ h0.size) (h0_ : ¬ p0 < 0) (h1_ : p0 < p1) :
    MetFree l (⟨"jdk/internal/util/Preconditions", "checkIndex", "(IILjava/util/function/BiFunction;)I"⟩ : MethodName) (head1 (Jvm.Cond.code (⟨"jdk/internal/util/Preconditions", "checkIndex", "(IILjava/util/function/BiFunction;)I"⟩ : MethodName) jdk_41_method_11_code 3 (some .int) :: ws) ({ frames := 0, cells := 0, slots := 0, locals := 0 } : Room)) (fun aQ UQ => aQ = #[(.int p0), (.int p1), .null] ∧ Z.Warmed39 UQ.vm ∧ UQ.heap = h0) (fun _ _ _ _ _ => True) (fun _ UQ oQ UR => ∃ vQ LQ, oQ = .returned vQ ∧ Qcin Z p0 p1 h0 n0 vQ UR.heap LQ ∧ FrameEnd UQ oQ UR LQ ({ frames := 0, cells := 0, slots := 0, locals := 0 } : Room).cells ({ frames := 0, cells := 0, slots := 0, locals := 0 } : Room).slots) := by
  refine MetFree.of_bodySF (plainFor_of_name pn_1) hisR ?_
  intro p e s m args below meth c s₁ Bd hml0 hP hK
  obtain ⟨rfl, hZ, hh⟩ := hP
  have hx := Bd.exec
  have hby := Bd.bytes
  have hml : c.maxLocals = 3 := hml0
  have hown : s.vm.findClass "jdk/internal/util/Preconditions" = some m.cls := findClass_of_methodNamed Bd.named
  have hnm := (name_of_methodNamed Bd.named Bd.method).1
  have X0 : Stand p l e ({ frames := 0, cells := 0, slots := 0, locals := 0 } : Room) s m #[(.int p0), (.int p1), .null] below meth c s₁ [] 0 0 := Stand.of_body Bd
  have e0 : s₁.heap = h0 := by rw [← hh, Bd.state]; rfl
  have N0 := Fr.nil n0
  have K0 : Keep h0 h0 [] := Keep.refl _ _
  have first_ : Rn p e below (s₁.setTop (mkF m 0 #[.val (.int p0), .val (.int p1), .val .null] [])) (Fncin Z p0 p1 h0 n0 s) := by
    generalize hG : (Fncin Z p0 p1 h0 n0 s) = G
    refine R.iloadN X0 hx (hb hby d41_0) rfl (pc' := 1) rfl ?_
    refine R.ifNo X0 hx (hb hby d41_1) (flt (h0_ : ¬ (p0 < (0 : Int32)))).1 (pc' := 4) rfl ?_
    refine R.iloadN X0 hx (hb hby d41_4) rfl (pc' := 5) rfl ?_
    refine R.iloadN X0 hx (hb hby d41_5) rfl (pc' := 6) rfl ?_
    refine R.icmpYes X0 hx (hb hby d41_6) (tlt (h1_ : p0 < p1)).1 (by decide) (pc' := 16) (by decide) ?_
    refine R.iloadN X0 hx (hb hby d41_16) rfl (pc' := 17) rfl ?_
    rw [← hG]
    exact Rn.ret X0 (BodyLoose.notSynchronized Bd) (v := some (.int p0)) (fun h => by rw [Bd.returns] at h; cases h) (Q := Qcin Z p0 p1 h0 n0) e0 (fun fs hr => retOut X0 hx (t := .int) Bd.returns rfl (Or.inl ⟨rfl, Or.inl rfl, _, rfl⟩) (hb hby d41_17) hr) ⟨rfl, N0, rfl⟩ (by decide) (by decide)
  exact (Rn.st (fun t k => castTop (ef_cin m p0 p1) k) first_ : Rn p e below (s₁.setTop (entryFrame m #[(.int p0), (.int p1), .null] 3)) (Fncin Z p0 p1 h0 n0 s))
theorem d40_0 : decode jdk_42_method_155_code 0 = .ok (.iload_n 0, 1) := by decide +kernel
theorem d40_1 : decode jdk_42_method_155_code 1 = .ok (.iload_n 1, 1) := by decide +kernel
theorem d40_2 : decode jdk_42_method_155_code 2 = .ok (.getstatic 1053, 3) := by decide +kernel
theorem d40_5 : decode jdk_42_method_155_code 5 = .ok (.invokestatic 1059, 3) := by decide +kernel
theorem pd_2 : parseMethodDescriptor "(IILjava/util/function/BiFunction;)I" = some ⟨[.int, .int, (.object "java/util/function/BiFunction")], some .int⟩ := by decide +kernel
abbrev mY3 : MethodName := (⟨"jdk/internal/util/Preconditions", "checkIndex", "(IILjava/util/function/BiFunction;)I"⟩ : MethodName)
theorem d40_8 : decode jdk_42_method_155_code 8 = .ok (.pop, 1) := by decide +kernel
theorem d40_9 : decode jdk_42_method_155_code 9 = .ok (.return_, 1) := by decide +kernel
theorem ef_40 (m : MethodId) (x0 : Int32) (x1 : Int32) : entryFrame m #[(.int x0), (.int x1)] 2 = mkF m 0 #[.val (.int x0), .val (.int x1)] [] := by first | (simp [entryFrame, mkF, argsToLocals, Value.category]; done) | rfl
def Q40 (Z : State) (p0 : Int32) (p1 : Int32) (h0 : Heap) (n0 : Nat) (vQ : Option Value) (hQ_ : Heap) (LQ : List Loc) : Prop := vQ = none ∧ Fr n0 LQ ∧ hQ_ = h0
def Fn40 (Z : State) (p0 : Int32) (p1 : Int32) (h0 : Heap) (n0 : Nat) (sQ : State) (oQ : Outcome) (UQ : State) : Prop := ∃ vQ LQ, oQ = .returned vQ ∧ Q40 Z p0 p1 h0 n0 vQ UQ.heap LQ ∧ FrameEnd sQ oQ UQ LQ ({ frames := 1, cells := 0, slots := 0, locals := 14 } : Room).cells ({ frames := 1, cells := 0, slots := 0, locals := 14 } : Room).slots
set_option maxRecDepth 65536 in
set_option maxHeartbeats 40000000 in
theorem rm40 (l : Launch) (Z : State) (aZ : Array Value) (hw : ∀ d ∈ tables_1, d.before aZ Z = true) (ws : List Jvm.Cond) (p0 : Int32) (p1 : Int32) (h0 : Heap) (n0 : Nat) (Z0 : n0 ≤ h0.size) (OL : Old Z n0 h0) (FM : own_FM Z) (h0_ : ¬ p0 < 0) (h1_ : p0 < p1) :
    MetFree l (⟨"java/lang/String", "checkIndex", "(II)V"⟩ : MethodName) (head1 (Jvm.Cond.code (⟨"java/lang/String", "checkIndex", "(II)V"⟩ : MethodName) jdk_42_method_155_code 2 none :: ws) ({ frames := 1, cells := 0, slots := 0, locals := 14 } : Room)) (fun aQ UQ => aQ = #[(.int p0), (.int p1)] ∧ Z.Warmed39 UQ.vm ∧ UQ.heap = h0) (fun _ _ _ _ _ => True) (fun _ UQ oQ UR => ∃ vQ LQ, oQ = .returned vQ ∧ Q40 Z p0 p1 h0 n0 vQ UR.heap LQ ∧ FrameEnd UQ oQ UR LQ ({ frames := 1, cells := 0, slots := 0, locals := 14 } : Room).cells ({ frames := 1, cells := 0, slots := 0, locals := 14 } : Room).slots) := by
  refine MetFree.of_bodySF (plainFor_of_name pn_2) hisR ?_
  intro p e s m args below meth c s₁ Bd hml0 hP hK
  obtain ⟨rfl, hZ, hh⟩ := hP
  have hx := Bd.exec
  have hby := Bd.bytes
  have hml : c.maxLocals = 2 := hml0
  have hown : s.vm.findClass "java/lang/String" = some m.cls := findClass_of_methodNamed Bd.named
  have hnm := (name_of_methodNamed Bd.named Bd.method).1
  have X0 : Stand p l e ({ frames := 1, cells := 0, slots := 0, locals := 14 } : Room) s m #[(.int p0), (.int p1)] below meth c s₁ [] 0 0 := Stand.of_body Bd
  have e0 : s₁.heap = h0 := by rw [← hh, Bd.state]; rfl
  have N0 := Fr.nil n0
  have K0 : Keep h0 h0 [] := Keep.refl _ _
  have w_217 := hw _ (List.mem_of_getElem? (i := 217) rfl)
  have w_218 := hw _ (List.mem_of_getElem? (i := 218) rfl)
  have w_219 := hw _ (List.mem_of_getElem? (i := 219) rfl)
  have w_220 := hw _ (List.mem_of_getElem? (i := 220) rfl)
  have w_221 := hw _ (List.mem_of_getElem? (i := 221) rfl)
  have first_ : Rn p e below (s₁.setTop (mkF m 0 #[.val (.int p0), .val (.int p1)] [])) (Fn40 Z p0 p1 h0 n0 s) := by
    generalize hG : (Fn40 Z p0 p1 h0 n0 s) = G
    refine R.iloadN X0 hx (hb hby d40_0) rfl (pc' := 1) rfl ?_
    refine R.iloadN X0 hx (hb hby d40_1) rfl (pc' := 2) rfl ?_
    rcases FM with ⟨fo, FM⟩ | FM
    · have S_FM := FM.ext OL.2
      refine R.getS X0 hx hZ hown (host := "") (Or.inl w_217) Via.refl e0 S_FM (hb hby d40_2) (pc' := 5) rfl ?_; intro T1 X1 e1
      refine R.callS X1 hx hZ (y := mY3) hown w_219 w_220 w_218 w_221 (by decide) e1 (rm41 l Z aZ hw [] p0 p1 fo h0 n0 Z0 h0_ h1_) (by decide) (W := 0) (Nat.le_of_eq rfl) (by decide) (by rw [hml]; rfl) (lenOf pd_2 rfl) rfl (hb hby d40_5) (pc' := 8) rfl (by decide) (by decide) ?_; intro v2 T2 L2 X2 hQ2
      obtain ⟨rfl, N2q, e2⟩ := hQ2
      have N2 := Fr.app N0 N2q
      refine R.pop X2 hx (hb hby d40_8) rfl (pc' := 9) rfl ?_
      rw [← hG]
      exact Rn.ret X2 (BodyLoose.notSynchronized Bd) (v := none) (fun _ => rfl) (Q := Q40 Z p0 p1 h0 n0) e2 (fun fs hr => X2.returnOut hx Bd.returns (hb hby d40_9) hr) ⟨rfl, N2, rfl⟩ (by decide) (by decide)
    · have S_FM := FM.ext OL.2
      refine R.getS X0 hx hZ hown (host := "") (Or.inl w_217) Via.refl e0 S_FM (hb hby d40_2) (pc' := 5) rfl ?_; intro T3 X3 e3
      refine R.callS X3 hx hZ (y := mY3) hown w_219 w_220 w_218 w_221 (by decide) e3 (rmcin l Z aZ hw [] p0 p1 h0 n0 Z0 h0_ h1_) (by decide) (W := 0) (Nat.le_of_eq rfl) (by decide) (by rw [hml]; rfl) (lenOf pd_2 rfl) rfl (hb hby d40_5) (pc' := 8) rfl (by decide) (by decide) ?_; intro v4 T4 L4 X4 hQ4
      obtain ⟨rfl, N4q, e4⟩ := hQ4
      have N4 := Fr.app N0 N4q
      refine R.pop X4 hx (hb hby d40_8) rfl (pc' := 9) rfl ?_
      rw [← hG]
      exact Rn.ret X4 (BodyLoose.notSynchronized Bd) (v := none) (fun _ => rfl) (Q := Q40 Z p0 p1 h0 n0) e4 (fun fs hr => X4.returnOut hx Bd.returns (hb hby d40_9) hr) ⟨rfl, N4, rfl⟩ (by decide) (by decide)
  exact (Rn.st (fun t k => castTop (ef_40 m p0 p1) k) first_ : Rn p e below (s₁.setTop (entryFrame m #[(.int p0), (.int p1)] 2)) (Fn40 Z p0 p1 h0 n0 s))
theorem d39_0 : decode jdk_43_method_2_code 0 = .ok (.iload_n 1, 1) := by decide +kernel
theorem d39_1 : decode jdk_43_method_2_code 1 = .ok (.aload_n 0, 1) := by decide +kernel
theorem d39_2 : decode jdk_43_method_2_code 2 = .ok (.arraylength, 1) := by decide +kernel
theorem d39_3 : decode jdk_43_method_2_code 3 = .ok (.invokestatic 9, 3) := by decide +kernel
theorem pd_3 : parseMethodDescriptor "(II)V" = some ⟨[.int, .int], none⟩ := by decide +kernel
abbrev mY4 : MethodName := (⟨"java/lang/String", "checkIndex", "(II)V"⟩ : MethodName)
theorem d39_6 : decode jdk_43_method_2_code 6 = .ok (.aload_n 0, 1) := by decide +kernel
theorem d39_7 : decode jdk_43_method_2_code 7 = .ok (.iload_n 1, 1) := by decide +kernel
theorem d39_8 : decode jdk_43_method_2_code 8 = .ok (.baload, 1) := by decide +kernel
theorem d39_9 : decode jdk_43_method_2_code 9 = .ok (.sipush 255, 3) := by decide +kernel
theorem d39_12 : decode jdk_43_method_2_code 12 = .ok (.iand, 1) := by decide +kernel
theorem d39_13 : decode jdk_43_method_2_code 13 = .ok (.i2c, 1) := by decide +kernel
theorem d39_14 : decode jdk_43_method_2_code 14 = .ok (.ireturn, 1) := by decide +kernel
theorem pn_5 : plainName "java/lang/StringLatin1" = true := by first | (simp [plainName, overriddenIn]; done) | decide +kernel
theorem ef_39 (m : MethodId) (x0 : Addr) (x1 : Int32) : entryFrame m #[(.ref x0), (.int x1)] 2 = mkF m 0 #[.val (.ref x0), .val (.int x1)] [] := by first | (simp [entryFrame, mkF, argsToLocals, Value.category]; done) | rfl
def Q39 (Z : State) (a0 : Addr) (p1 : Int32) (z : Int32) (f : Nat → Int32) (h0 : Heap) (n0 : Nat) (vQ : Option Value) (hQ_ : Heap) (LQ : List Loc) : Prop := ∃ r : Int32, vQ = some (.int r) ∧ Fr n0 LQ ∧ hQ_ = h0 ∧ (r.toInt = (f p1.toNatClampNeg).toInt % 256)
def Fn39 (Z : State) (a0 : Addr) (p1 : Int32) (z : Int32) (f : Nat → Int32) (h0 : Heap) (n0 : Nat) (sQ : State) (oQ : Outcome) (UQ : State) : Prop := ∃ vQ LQ, oQ = .returned vQ ∧ Q39 Z a0 p1 z f h0 n0 vQ UQ.heap LQ ∧ FrameEnd sQ oQ UQ LQ ({ frames := 2, cells := 0, slots := 0, locals := 27 } : Room).cells ({ frames := 2, cells := 0, slots := 0, locals := 27 } : Room).slots
set_option maxRecDepth 65536 in
set_option maxHeartbeats 40000000 in
theorem rm39 (l : Launch) (Z : State) (aZ : Array Value) (hw : ∀ d ∈ tables_1, d.before aZ Z = true) (ws : List Jvm.Cond) (a0 : Addr) (p1 : Int32) (z : Int32) (f : Nat → Int32) (h0 : Heap) (n0 : Nat) (Z0 : n0 ≤ h0.size) (OL : Old Z n0 h0) (FM : own_FM Z) (Y_a0 : own_By Z h0 a0 z f) (h0_ : ¬ p1 < 0) (h1_ : p1 < z) :
    MetFree l (⟨"java/lang/StringLatin1", "charAt", "([BI)C"⟩ : MethodName) (head1 (Jvm.Cond.code (⟨"java/lang/StringLatin1", "charAt", "([BI)C"⟩ : MethodName) jdk_43_method_2_code 2 (some .char) :: ws) ({ frames := 2, cells := 0, slots := 0, locals := 27 } : Room)) (fun aQ UQ => aQ = #[(.ref a0), (.int p1)] ∧ Z.Warmed39 UQ.vm ∧ UQ.heap = h0) (fun _ _ _ _ _ => True) (fun _ UQ oQ UR => ∃ vQ LQ, oQ = .returned vQ ∧ Q39 Z a0 p1 z f h0 n0 vQ UR.heap LQ ∧ FrameEnd UQ oQ UR LQ ({ frames := 2, cells := 0, slots := 0, locals := 27 } : Room).cells ({ frames := 2, cells := 0, slots := 0, locals := 27 } : Room).slots) := by
  refine MetFree.of_bodySF (plainFor_of_name pn_5) hisR ?_
  intro p e s m args below meth c s₁ Bd hml0 hP hK
  obtain ⟨rfl, hZ, hh⟩ := hP
  have hx := Bd.exec
  have hby := Bd.bytes
  have hml : c.maxLocals = 2 := hml0
  have hown : s.vm.findClass "java/lang/StringLatin1" = some m.cls := findClass_of_methodNamed Bd.named
  have hnm := (name_of_methodNamed Bd.named Bd.method).1
  have X0 : Stand p l e ({ frames := 2, cells := 0, slots := 0, locals := 27 } : Room) s m #[(.ref a0), (.int p1)] below meth c s₁ [] 0 0 := Stand.of_body Bd
  have e0 : s₁.heap = h0 := by rw [← hh, Bd.state]; rfl
  have N0 := Fr.nil n0
  have K0 : Keep h0 h0 [] := Keep.refl _ _
  have w_13 := hw _ (List.mem_of_getElem? (i := 13) rfl)
  have w_214 := hw _ (List.mem_of_getElem? (i := 214) rfl)
  have w_215 := hw _ (List.mem_of_getElem? (i := 215) rfl)
  have w_216 := hw _ (List.mem_of_getElem? (i := 216) rfl)
  have first_ : Rn p e below (s₁.setTop (mkF m 0 #[.val (.ref a0), .val (.int p1)] [])) (Fn39 Z a0 p1 z f h0 n0 s) := by
    generalize hG : (Fn39 Z a0 p1 z f h0 n0 s) = G
    refine R.iloadN X0 hx (hb hby d39_0) rfl (pc' := 1) rfl ?_
    refine R.aloadN X0 hx (hb hby d39_1) rfl rfl (pc' := 2) rfl ?_
    refine R.alenY X0 hx hZ e0 Y_a0 (hb hby d39_2) (pc' := 3) rfl ?_
    refine R.callS X0 hx hZ (y := mY4) hown w_214 w_215 w_13 w_216 (by decide) e0 (rm40 l Z aZ hw [] p1 z h0 n0 Z0 OL FM (h0_) (h1_)) (by decide) (W := 0) (Nat.le_of_eq rfl) (by decide) (by rw [hml]; rfl) (lenOf pd_3 rfl) rfl (hb hby d39_3) (pc' := 6) rfl (by decide) (by decide) ?_; intro v1 T1 L1 X1 hQ1
    obtain ⟨rfl, N1q, e1⟩ := hQ1
    have N1 := Fr.app N0 N1q
    refine R.aloadN X1 hx (hb hby d39_6) rfl rfl (pc' := 7) rfl ?_
    refine R.iloadN X1 hx (hb hby d39_7) rfl (pc' := 8) rfl ?_
    refine R.baloadY X1 hx hZ e1 Y_a0 (⟨h0_, h1_⟩ : ¬ p1 < 0 ∧ p1 < z) (v := (f p1.toNatClampNeg)) (rfl) (hb hby d39_8) (pc' := 9) rfl ?_
    refine R.sipush X1 hx (hb hby d39_9) (v := (255 : Int32)) (by decide) (pc' := 12) rfl ?_
    refine R.iand X1 hx (hb hby d39_12) rfl (pc' := 13) rfl ?_
    refine R.i2c X1 hx (hb hby d39_13) (pc' := 14) rfl ?_
    rw [← hG]
    exact Rn.ret X1 (BodyLoose.notSynchronized Bd) (v := some (.int (nar .char (((f p1.toNatClampNeg) &&& (255 : Int32)).toUInt32.toUInt16.toUInt32.toInt32)))) (fun h => by rw [Bd.returns] at h; cases h) (Q := Q39 Z a0 p1 z f h0 n0) e1 (fun fs hr => retN X1 hx (t := .char) Bd.returns (by simp) (hb hby d39_14) hr) ⟨(nar .char (((f p1.toNatClampNeg) &&& (255 : Int32)).toUInt32.toUInt16.toUInt32.toInt32)), rfl, N1, rfl, (own_ch1 _)⟩ (by decide) (by decide)
  exact (Rn.st (fun t k => castTop (ef_39 m a0 p1) k) first_ : Rn p e below (s₁.setTop (entryFrame m #[(.ref a0), (.int p1)] 2)) (Fn39 Z a0 p1 z f h0 n0 s))
theorem d37_0 : decode jdk_42_method_56_code 0 = .ok (.aload_n 0, 1) := by decide +kernel
theorem d37_1 : decode jdk_42_method_56_code 1 = .ok (.invokevirtual 492, 3) := by decide +kernel
theorem pd_4 : parseMethodDescriptor "()Z" = some ⟨[], some .boolean⟩ := by decide +kernel
abbrev mY5 : MethodName := (⟨"java/lang/String", "isLatin1", "()Z"⟩ : MethodName)
theorem d37_4 : decode jdk_42_method_56_code 4 = .ok (.ifCond .eq 12, 3) := by decide +kernel
theorem d37_7 : decode jdk_42_method_56_code 7 = .ok (.aload_n 0, 1) := by decide +kernel
theorem d37_8 : decode jdk_42_method_56_code 8 = .ok (.getfield 9, 3) := by decide +kernel
theorem d37_11 : decode jdk_42_method_56_code 11 = .ok (.iload_n 1, 1) := by decide +kernel
theorem d37_12 : decode jdk_42_method_56_code 12 = .ok (.invokestatic 495, 3) := by decide +kernel
theorem pd_5 : parseMethodDescriptor "([BI)C" = some ⟨[(.array .byte), .int], some .char⟩ := by decide +kernel
abbrev mY6 : MethodName := (⟨"java/lang/StringLatin1", "charAt", "([BI)C"⟩ : MethodName)
theorem d37_15 : decode jdk_42_method_56_code 15 = .ok (.ireturn, 1) := by decide +kernel
theorem ef_37 (m : MethodId) (x0 : Addr) (x1 : Int32) : entryFrame m #[(.ref x0), (.int x1)] 2 = mkF m 0 #[.val (.ref x0), .val (.int x1)] [] := by first | (simp [entryFrame, mkF, argsToLocals, Value.category]; done) | rfl
def Q37 (Z : State) (a0 : Addr) (p1 : Int32) (cs : Int32) (b : Addr) (z : Int32) (f : Nat → Int32) (h0 : Heap) (n0 : Nat) (vQ : Option Value) (hQ_ : Heap) (LQ : List Loc) : Prop := ∃ r : Int32, vQ = some (.int r) ∧ Fr n0 LQ ∧ hQ_ = h0 ∧ (r.toInt = (f p1.toNatClampNeg).toInt % 256)
def Fn37 (Z : State) (a0 : Addr) (p1 : Int32) (cs : Int32) (b : Addr) (z : Int32) (f : Nat → Int32) (h0 : Heap) (n0 : Nat) (sQ : State) (oQ : Outcome) (UQ : State) : Prop := ∃ vQ LQ, oQ = .returned vQ ∧ Q37 Z a0 p1 cs b z f h0 n0 vQ UQ.heap LQ ∧ FrameEnd sQ oQ UQ LQ ({ frames := 3, cells := 0, slots := 0, locals := 40 } : Room).cells ({ frames := 3, cells := 0, slots := 0, locals := 40 } : Room).slots
set_option maxRecDepth 65536 in
set_option maxHeartbeats 40000000 in
theorem rm37 (l : Launch) (Z : State) (aZ : Array Value) (hw : ∀ d ∈ tables_1, d.before aZ Z = true) (ws : List Jvm.Cond) (a0 : Addr) (p1 : Int32) (cs : Int32) (b : Addr) (z : Int32) (f : Nat → Int32) (h0 : Heap) (n0 : Nat) (Z0 : n0 ≤ h0.size) (OL : Old Z n0 h0) (CS : own_CS Z cs) (FM : own_FM Z) (E_a0 : Exa Z h0 a0 "java/lang/String") (F_coder_a0 : Fld Z h0 a0 "java/lang/String" "coder" "B" (.int (0 : Int32))) (F_value_a0 : Fld Z h0 a0 "java/lang/String" "value" "[B" (.ref b)) (Y_b : own_By Z h0 b z f) (h0_ : ¬ p1 < 0) (h1_ : p1 < z) :
    MetFree l (⟨"java/lang/String", "charAt", "(I)C"⟩ : MethodName) (head1 (Jvm.Cond.code (⟨"java/lang/String", "charAt", "(I)C"⟩ : MethodName) jdk_42_method_56_code 2 (some .char) :: ws) ({ frames := 3, cells := 0, slots := 0, locals := 40 } : Room)) (fun aQ UQ => aQ = #[(.ref a0), (.int p1)] ∧ Z.Warmed39 UQ.vm ∧ UQ.heap = h0) (fun _ _ _ _ _ => True) (fun _ UQ oQ UR => ∃ vQ LQ, oQ = .returned vQ ∧ Q37 Z a0 p1 cs b z f h0 n0 vQ UR.heap LQ ∧ FrameEnd UQ oQ UR LQ ({ frames := 3, cells := 0, slots := 0, locals := 40 } : Room).cells ({ frames := 3, cells := 0, slots := 0, locals := 40 } : Room).slots) := by
  refine MetFree.of_bodySF (plainFor_of_name pn_2) hisR ?_
  intro p e s m args below meth c s₁ Bd hml0 hP hK
  obtain ⟨rfl, hZ, hh⟩ := hP
  have hx := Bd.exec
  have hby := Bd.bytes
  have hml : c.maxLocals = 2 := hml0
  have hown : s.vm.findClass "java/lang/String" = some m.cls := findClass_of_methodNamed Bd.named
  have hnm := (name_of_methodNamed Bd.named Bd.method).1
  have X0 : Stand p l e ({ frames := 3, cells := 0, slots := 0, locals := 40 } : Room) s m #[(.ref a0), (.int p1)] below meth c s₁ [] 0 0 := Stand.of_body Bd
  have e0 : s₁.heap = h0 := by rw [← hh, Bd.state]; rfl
  have N0 := Fr.nil n0
  have K0 : Keep h0 h0 [] := Keep.refl _ _
  have w_13 := hw _ (List.mem_of_getElem? (i := 13) rfl)
  have w_38 := hw _ (List.mem_of_getElem? (i := 38) rfl)
  have w_205 := hw _ (List.mem_of_getElem? (i := 205) rfl)
  have w_206 := hw _ (List.mem_of_getElem? (i := 206) rfl)
  have w_207 := hw _ (List.mem_of_getElem? (i := 207) rfl)
  have w_208 := hw _ (List.mem_of_getElem? (i := 208) rfl)
  have w_209 := hw _ (List.mem_of_getElem? (i := 209) rfl)
  have w_210 := hw _ (List.mem_of_getElem? (i := 210) rfl)
  have w_211 := hw _ (List.mem_of_getElem? (i := 211) rfl)
  have w_212 := hw _ (List.mem_of_getElem? (i := 212) rfl)
  have w_213 := hw _ (List.mem_of_getElem? (i := 213) rfl)
  have first_ : Rn p e below (s₁.setTop (mkF m 0 #[.val (.ref a0), .val (.int p1)] [])) (Fn37 Z a0 p1 cs b z f h0 n0 s) := by
    generalize hG : (Fn37 Z a0 p1 cs b z f h0 n0 s) = G
    refine R.aloadN X0 hx (hb hby d37_0) rfl rfl (pc' := 1) rfl ?_
    refine R.virtual X0 hx hZ (y := mY5) (z := mY5) hown w_205 w_206 (notFace_of_selects (args := #[]) (mvT hZ w_208)) w_208 w_207 w_13 w_209 (by decide) e0 E_a0 (rm38 l Z aZ hw [] a0 cs h0 n0 Z0 OL CS F_coder_a0) (by decide) (W := 0) (Nat.le_of_eq rfl) (by decide) (by rw [hml]; rfl) (lenOf pd_4 rfl) rfl (hb hby d37_1) (pc' := 4) rfl (by decide) (by decide) ?_; intro v1 T1 L1 X1 hQ1
    obtain ⟨rfl, N1q, e1⟩ := hQ1
    have N1 := Fr.app N0 N1q
    refine R.ifNo X1 hx (hb hby d37_4) (feq (by decide : ¬ ((1 : Int32) = (0 : Int32)))).1 (pc' := 7) rfl ?_
    refine R.aloadN X1 hx (hb hby d37_7) rfl rfl (pc' := 8) rfl ?_
    refine R.getF X1 hx hZ hown (host := "") (Or.inl w_38) Via.refl e1 F_value_a0 (hb hby d37_8) (pc' := 11) rfl ?_; intro T2 X2 e2
    refine R.iloadN X2 hx (hb hby d37_11) rfl (pc' := 12) rfl ?_
    refine R.callS X2 hx hZ (y := mY6) hown w_210 w_211 w_212 w_213 (by decide) e2 (rm39 l Z aZ hw [] b p1 z f h0 n0 Z0 OL FM Y_b (h0_) (h1_)) (by decide) (W := 0) (Nat.le_of_eq rfl) (by decide) (by rw [hml]; rfl) (lenOf pd_5 rfl) rfl (hb hby d37_12) (pc' := 15) rfl (by decide) (by decide) ?_; intro v3 T3 L3 X3 hQ3
    obtain ⟨r_3, rfl, N3q, e3, P3_0⟩ := hQ3
    have N3 := Fr.app N1 N3q
    have ch_3 := P3_0
    rw [← hG]
    exact Rn.ret X3 (BodyLoose.notSynchronized Bd) (v := some (.int (nar .char r_3))) (fun h => by rw [Bd.returns] at h; cases h) (Q := Q37 Z a0 p1 cs b z f h0 n0) e3 (fun fs hr => retN X3 hx (t := .char) Bd.returns (by simp) (hb hby d37_15) hr) ⟨(nar .char r_3), rfl, N3, rfl, (own_ch2 ch_3)⟩ (by decide) (by decide)
  exact (Rn.st (fun t k => castTop (ef_37 m a0 p1) k) first_ : Rn p e below (s₁.setTop (entryFrame m #[(.ref a0), (.int p1)] 2)) (Fn37 Z a0 p1 cs b z f h0 n0 s))
theorem d16_0 : decode jdk_68_method_9_code 0 = .ok (.aload_n 0, 1) := by decide +kernel
theorem d16_1 : decode jdk_68_method_9_code 1 = .ok (.getfield 15, 3) := by decide +kernel
theorem d16_4 : decode jdk_68_method_9_code 4 = .ok (.arraylength, 1) := by decide +kernel
theorem d16_5 : decode jdk_68_method_9_code 5 = .ok (.aload_n 0, 1) := by decide +kernel
theorem d16_6 : decode jdk_68_method_9_code 6 = .ok (.getfield 22, 3) := by decide +kernel
theorem d16_9 : decode jdk_68_method_9_code 9 = .ok (.ishr, 1) := by decide +kernel
theorem d16_10 : decode jdk_68_method_9_code 10 = .ok (.istore_n 2, 1) := by decide +kernel
theorem d16_11 : decode jdk_68_method_9_code 11 = .ok (.iload_n 1, 1) := by decide +kernel
theorem d16_12 : decode jdk_68_method_9_code 12 = .ok (.iload_n 2, 1) := by decide +kernel
theorem d16_13 : decode jdk_68_method_9_code 13 = .ok (.isub, 1) := by decide +kernel
theorem d16_14 : decode jdk_68_method_9_code 14 = .ok (.ifCond .le 24, 3) := by decide +kernel
theorem d16_38 : decode jdk_68_method_9_code 38 = .ok (.return_, 1) := by decide +kernel
theorem ef_16 (m : MethodId) (x0 : Addr) (x1 : Int32) : entryFrame m #[(.ref x0), (.int x1)] 3 = mkF m 0 #[.val (.ref x0), .val (.int x1), .unset] [] := by first | (simp [entryFrame, mkF, argsToLocals, Value.category]; done) | rfl
def Q16 (Z : State) (a0 : Addr) (p1 : Int32) (b : Addr) (f : Nat → Int32) (h0 : Heap) (n0 : Nat) (vQ : Option Value) (hQ_ : Heap) (LQ : List Loc) : Prop := vQ = none ∧ Fr n0 LQ ∧ hQ_ = h0
def Fn16 (Z : State) (a0 : Addr) (p1 : Int32) (b : Addr) (f : Nat → Int32) (h0 : Heap) (n0 : Nat) (sQ : State) (oQ : Outcome) (UQ : State) : Prop := ∃ vQ LQ, oQ = .returned vQ ∧ Q16 Z a0 p1 b f h0 n0 vQ UQ.heap LQ ∧ FrameEnd sQ oQ UQ LQ ({ frames := 0, cells := 0, slots := 0, locals := 0 } : Room).cells ({ frames := 0, cells := 0, slots := 0, locals := 0 } : Room).slots
set_option maxRecDepth 65536 in
set_option maxHeartbeats 40000000 in
theorem rm16 (l : Launch) (Z : State) (aZ : Array Value) (hw : ∀ d ∈ tables_1, d.before aZ Z = true) (ws : List Jvm.Cond) (a0 : Addr) (p1 : Int32) (b : Addr) (f : Nat → Int32) (h0 : Heap) (n0 : Nat) (Z0 : n0 ≤ h0.size) (F_coder_a0 : Fld Z h0 a0 "java/lang/AbstractStringBuilder" "coder" "B" (.int (0 : Int32))) (F_value_a0 : Fld Z h0 a0 "java/lang/AbstractStringBuilder" "value" "[B" (.ref b)) (Y_b : own_By Z h0 b (16 : Int32) f) (hc : 0 ≤ p1.toInt ∧ p1.toInt ≤ 16) :
    MetFree l (⟨"java/lang/AbstractStringBuilder", "ensureCapacityInternal", "(I)V"⟩ : MethodName) (head1 (Jvm.Cond.code (⟨"java/lang/AbstractStringBuilder", "ensureCapacityInternal", "(I)V"⟩ : MethodName) jdk_68_method_9_code 3 none :: ws) ({ frames := 0, cells := 0, slots := 0, locals := 0 } : Room)) (fun aQ UQ => aQ = #[(.ref a0), (.int p1)] ∧ Z.Warmed39 UQ.vm ∧ UQ.heap = h0) (fun _ _ _ _ _ => True) (fun _ UQ oQ UR => ∃ vQ LQ, oQ = .returned vQ ∧ Q16 Z a0 p1 b f h0 n0 vQ UR.heap LQ ∧ FrameEnd UQ oQ UR LQ ({ frames := 0, cells := 0, slots := 0, locals := 0 } : Room).cells ({ frames := 0, cells := 0, slots := 0, locals := 0 } : Room).slots) := by
  refine MetFree.of_bodySF (plainFor_of_name pn_3) hisR ?_
  intro p e s m args below meth c s₁ Bd hml0 hP hK
  obtain ⟨rfl, hZ, hh⟩ := hP
  have hx := Bd.exec
  have hby := Bd.bytes
  have hml : c.maxLocals = 3 := hml0
  have hown : s.vm.findClass "java/lang/AbstractStringBuilder" = some m.cls := findClass_of_methodNamed Bd.named
  have hnm := (name_of_methodNamed Bd.named Bd.method).1
  have X0 : Stand p l e ({ frames := 0, cells := 0, slots := 0, locals := 0 } : Room) s m #[(.ref a0), (.int p1)] below meth c s₁ [] 0 0 := Stand.of_body Bd
  have e0 : s₁.heap = h0 := by rw [← hh, Bd.state]; rfl
  have N0 := Fr.nil n0
  have K0 : Keep h0 h0 [] := Keep.refl _ _
  have w_75 := hw _ (List.mem_of_getElem? (i := 75) rfl)
  have w_77 := hw _ (List.mem_of_getElem? (i := 77) rfl)
  have first_ : Rn p e below (s₁.setTop (mkF m 0 #[.val (.ref a0), .val (.int p1), .unset] [])) (Fn16 Z a0 p1 b f h0 n0 s) := by
    generalize hG : (Fn16 Z a0 p1 b f h0 n0 s) = G
    refine R.aloadN X0 hx (hb hby d16_0) rfl rfl (pc' := 1) rfl ?_
    refine R.getF X0 hx hZ hown (host := "") (Or.inl w_75) Via.refl e0 F_value_a0 (hb hby d16_1) (pc' := 4) rfl ?_; intro T1 X1 e1
    refine R.alenY X1 hx hZ e1 Y_b (hb hby d16_4) (pc' := 5) rfl ?_
    refine R.aloadN X1 hx (hb hby d16_5) rfl rfl (pc' := 6) rfl ?_
    refine R.getF X1 hx hZ hown (host := "") (Or.inl w_77) Via.refl e1 F_coder_a0 (hb hby d16_6) (pc' := 9) rfl ?_; intro T2 X2 e2
    refine R.ishr X2 hx (hb hby d16_9) (pc' := 10) rfl ?_
    show Rn p e below (T2.setTop (mkF m 10 #[.val (.ref a0), .val (.int p1), .unset] [(.int ((16 : Int32) >>> ((0 : Int32) &&& 31)))])) G
    rw [own_shr0]
    refine R.istoreN X2 hx (hb hby d16_10) (L' := #[.val (.ref a0), .val (.int p1), .val (.int (16 : Int32))]) rfl (pc' := 11) rfl ?_
    refine R.iloadN X2 hx (hb hby d16_11) rfl (pc' := 12) rfl ?_
    refine R.iloadN X2 hx (hb hby d16_12) rfl (pc' := 13) rfl ?_
    refine R.isub X2 hx (hb hby d16_13) rfl (pc' := 14) rfl ?_
    refine R.ifYes X2 hx (hb hby d16_14) (flt (own_ens hc : ¬ ((0 : Int32) < (p1 - (16 : Int32))))).2.2.2 (by decide) (pc' := 38) (by decide) ?_
    rw [← hG]
    exact Rn.ret X2 (BodyLoose.notSynchronized Bd) (v := none) (fun _ => rfl) (Q := Q16 Z a0 p1 b f h0 n0) e2 (fun fs hr => X2.returnOut hx Bd.returns (hb hby d16_38) hr) ⟨rfl, N0, rfl⟩ (by decide) (by decide)
  exact (Rn.st (fun t k => castTop (ef_16 m a0 p1) k) first_ : Rn p e below (s₁.setTop (entryFrame m #[(.ref a0), (.int p1)] 3)) (Fn16 Z a0 p1 b f h0 n0 s))
theorem d18_0 : decode jdk_68_method_71_code 0 = .ok (.getstatic 18, 3) := by decide +kernel
theorem d18_3 : decode jdk_68_method_71_code 3 = .ok (.ifCond .eq 18, 3) := by decide +kernel
theorem d18_6 : decode jdk_68_method_71_code 6 = .ok (.aload_n 0, 1) := by decide +kernel
theorem d18_7 : decode jdk_68_method_71_code 7 = .ok (.getfield 22, 3) := by decide +kernel
theorem d18_10 : decode jdk_68_method_71_code 10 = .ok (.aload_n 1, 1) := by decide +kernel
theorem d18_11 : decode jdk_68_method_71_code 11 = .ok (.invokevirtual 40, 3) := by decide +kernel
theorem d18_14 : decode jdk_68_method_71_code 14 = .ok (.if_icmp .eq 7, 3) := by decide +kernel
theorem d18_21 : decode jdk_68_method_71_code 21 = .ok (.return_, 1) := by decide +kernel
theorem ef_18 (m : MethodId) (x0 : Addr) (x1 : Addr) : entryFrame m #[(.ref x0), (.ref x1)] 2 = mkF m 0 #[.val (.ref x0), .val (.ref x1)] [] := by first | (simp [entryFrame, mkF, argsToLocals, Value.category]; done) | rfl
def Q18 (Z : State) (a0 : Addr) (a1 : Addr) (cs : Int32) (h0 : Heap) (n0 : Nat) (vQ : Option Value) (hQ_ : Heap) (LQ : List Loc) : Prop := vQ = none ∧ Fr n0 LQ ∧ hQ_ = h0
def Fn18 (Z : State) (a0 : Addr) (a1 : Addr) (cs : Int32) (h0 : Heap) (n0 : Nat) (sQ : State) (oQ : Outcome) (UQ : State) : Prop := ∃ vQ LQ, oQ = .returned vQ ∧ Q18 Z a0 a1 cs h0 n0 vQ UQ.heap LQ ∧ FrameEnd sQ oQ UQ LQ ({ frames := 1, cells := 0, slots := 0, locals := 13 } : Room).cells ({ frames := 1, cells := 0, slots := 0, locals := 13 } : Room).slots
set_option maxRecDepth 65536 in
set_option maxHeartbeats 40000000 in
theorem rm18 (l : Launch) (Z : State) (aZ : Array Value) (hw : ∀ d ∈ tables_1, d.before aZ Z = true) (ws : List Jvm.Cond) (a0 : Addr) (a1 : Addr) (cs : Int32) (h0 : Heap) (n0 : Nat) (Z0 : n0 ≤ h0.size) (OL : Old Z n0 h0) (CS : own_CS Z cs) (F_coder_a0 : Fld Z h0 a0 "java/lang/AbstractStringBuilder" "coder" "B" (.int (0 : Int32))) (E_a1 : Exa Z h0 a1 "java/lang/String") (F_coder_a1 : Fld Z h0 a1 "java/lang/String" "coder" "B" (.int (0 : Int32))) :
    MetFree l (⟨"java/lang/AbstractStringBuilder", "inflateIfNeededFor", "(Ljava/lang/String;)V"⟩ : MethodName) (head1 (Jvm.Cond.code (⟨"java/lang/AbstractStringBuilder", "inflateIfNeededFor", "(Ljava/lang/String;)V"⟩ : MethodName) jdk_68_method_71_code 2 none :: ws) ({ frames := 1, cells := 0, slots := 0, locals := 13 } : Room)) (fun aQ UQ => aQ = #[(.ref a0), (.ref a1)] ∧ Z.Warmed39 UQ.vm ∧ UQ.heap = h0) (fun _ _ _ _ _ => True) (fun _ UQ oQ UR => ∃ vQ LQ, oQ = .returned vQ ∧ Q18 Z a0 a1 cs h0 n0 vQ UR.heap LQ ∧ FrameEnd UQ oQ UR LQ ({ frames := 1, cells := 0, slots := 0, locals := 13 } : Room).cells ({ frames := 1, cells := 0, slots := 0, locals := 13 } : Room).slots) := by
  refine MetFree.of_bodySF (plainFor_of_name pn_3) hisR ?_
  intro p e s m args below meth c s₁ Bd hml0 hP hK
  obtain ⟨rfl, hZ, hh⟩ := hP
  have hx := Bd.exec
  have hby := Bd.bytes
  have hml : c.maxLocals = 2 := hml0
  have hown : s.vm.findClass "java/lang/AbstractStringBuilder" = some m.cls := findClass_of_methodNamed Bd.named
  have hnm := (name_of_methodNamed Bd.named Bd.method).1
  have X0 : Stand p l e ({ frames := 1, cells := 0, slots := 0, locals := 13 } : Room) s m #[(.ref a0), (.ref a1)] below meth c s₁ [] 0 0 := Stand.of_body Bd
  have e0 : s₁.heap = h0 := by rw [← hh, Bd.state]; rfl
  have N0 := Fr.nil n0
  have K0 : Keep h0 h0 [] := Keep.refl _ _
  have w_13 := hw _ (List.mem_of_getElem? (i := 13) rfl)
  have w_74 := hw _ (List.mem_of_getElem? (i := 74) rfl)
  have w_77 := hw _ (List.mem_of_getElem? (i := 77) rfl)
  have w_95 := hw _ (List.mem_of_getElem? (i := 95) rfl)
  have w_96 := hw _ (List.mem_of_getElem? (i := 96) rfl)
  have w_97 := hw _ (List.mem_of_getElem? (i := 97) rfl)
  have w_98 := hw _ (List.mem_of_getElem? (i := 98) rfl)
  have w_116 := hw _ (List.mem_of_getElem? (i := 116) rfl)
  have first_ : Rn p e below (s₁.setTop (mkF m 0 #[.val (.ref a0), .val (.ref a1)] [])) (Fn18 Z a0 a1 cs h0 n0 s) := by
    generalize hG : (Fn18 Z a0 a1 cs h0 n0 s) = G
    have S_CS := CS.1.ext OL.2
    refine R.getS X0 hx hZ hown (host := "") (Or.inl w_74) Via.refl e0 S_CS (hb hby d18_0) (pc' := 3) rfl ?_; intro T1 X1 e1
    refine R.ifNo X1 hx (hb hby d18_3) (feq (CS.2 : ¬ (cs = (0 : Int32)))).1 (pc' := 6) rfl ?_
    refine R.aloadN X1 hx (hb hby d18_6) rfl rfl (pc' := 7) rfl ?_
    refine R.getF X1 hx hZ hown (host := "") (Or.inl w_77) Via.refl e1 F_coder_a0 (hb hby d18_7) (pc' := 10) rfl ?_; intro T2 X2 e2
    refine R.aloadN X2 hx (hb hby d18_10) rfl rfl (pc' := 11) rfl ?_
    refine R.virtual X2 hx hZ (y := mY2) (z := mY2) hown w_116 w_95 (notFace_of_selects (args := #[]) (mvT hZ w_97)) w_97 w_96 w_13 w_98 (by decide) e2 E_a1 (rm15 l Z aZ hw [] a1 cs h0 n0 Z0 OL CS F_coder_a1) (by decide) (W := 1) (Nat.le_of_eq rfl) (by decide) (by rw [hml]; rfl) (lenOf pd_1 rfl) rfl (hb hby d18_11) (pc' := 14) rfl (by decide) (by decide) ?_; intro v3 T3 L3 X3 hQ3
    obtain ⟨rfl, N3q, e3⟩ := hQ3
    have N3 := Fr.app N0 N3q
    refine R.icmpYes X3 hx (hb hby d18_14) (teq (by decide : (0 : Int32) = (0 : Int32))).1 (by decide) (pc' := 21) (by decide) ?_
    rw [← hG]
    exact Rn.ret X3 (BodyLoose.notSynchronized Bd) (v := none) (fun _ => rfl) (Q := Q18 Z a0 a1 cs h0 n0) e3 (fun fs hr => X3.returnOut hx Bd.returns (hb hby d18_21) hr) ⟨rfl, N3, rfl⟩ (by decide) (by decide)
  exact (Rn.st (fun t k => castTop (ef_18 m a0 a1) k) first_ : Rn p e below (s₁.setTop (entryFrame m #[(.ref a0), (.ref a1)] 2)) (Fn18 Z a0 a1 cs h0 n0 s))
theorem d19_0 : decode jdk_42_method_147_code 0 = .ok (.aload_n 0, 1) := by decide +kernel
theorem d19_1 : decode jdk_42_method_147_code 1 = .ok (.invokevirtual 335, 3) := by decide +kernel
theorem d19_4 : decode jdk_42_method_147_code 4 = .ok (.iload_n 3, 1) := by decide +kernel
theorem d19_5 : decode jdk_42_method_147_code 5 = .ok (.if_icmp .ne 23, 3) := by decide +kernel
theorem d19_8 : decode jdk_42_method_147_code 8 = .ok (.aload_n 0, 1) := by decide +kernel
theorem d19_9 : decode jdk_42_method_147_code 9 = .ok (.getfield 9, 3) := by decide +kernel
theorem d19_12 : decode jdk_42_method_147_code 12 = .ok (.iconst 0, 1) := by decide +kernel
theorem d19_13 : decode jdk_42_method_147_code 13 = .ok (.aload_n 1, 1) := by decide +kernel
theorem d19_14 : decode jdk_42_method_147_code 14 = .ok (.iload_n 2, 1) := by decide +kernel
theorem d19_15 : decode jdk_42_method_147_code 15 = .ok (.iload_n 3, 1) := by decide +kernel
theorem d19_16 : decode jdk_42_method_147_code 16 = .ok (.ishl, 1) := by decide +kernel
theorem d19_17 : decode jdk_42_method_147_code 17 = .ok (.aload_n 0, 1) := by decide +kernel
theorem d19_18 : decode jdk_42_method_147_code 18 = .ok (.getfield 9, 3) := by decide +kernel
theorem d19_21 : decode jdk_42_method_147_code 21 = .ok (.arraylength, 1) := by decide +kernel
theorem d19_22 : decode jdk_42_method_147_code 22 = .ok (.invokestatic 212, 3) := by decide +kernel
theorem d19_25 : decode jdk_42_method_147_code 25 = .ok (.goto 18, 3) := by decide +kernel
theorem d19_43 : decode jdk_42_method_147_code 43 = .ok (.return_, 1) := by decide +kernel
theorem ef_19 (m : MethodId) (x0 : Addr) (x1 : Addr) (x2 : Int32) : entryFrame m #[(.ref x0), (.ref x1), (.int x2), (.int (0 : Int32))] 4 = mkF m 0 #[.val (.ref x0), .val (.ref x1), .val (.int x2), .val (.int (0 : Int32))] [] := by first | (simp [entryFrame, mkF, argsToLocals, Value.category]; done) | rfl
def Q19 (Z : State) (a0 : Addr) (a1 : Addr) (p2 : Int32) (cs : Int32) (b : Addr) (z : Int32) (f : Nat → Int32) (y : Int32) (g : Nat → Int32) (h0 : Heap) (n0 : Nat) (vQ : Option Value) (hQ_ : Heap) (LQ : List Loc) : Prop := vQ = none ∧ Fr n0 LQ ∧ Keep h0 hQ_ [a1] ∧ (own_By Z hQ_ a1 y (own_cp g p2.toInt.toNat z.toInt.toNat f (0 : Int32).toInt.toNat))
def Fn19 (Z : State) (a0 : Addr) (a1 : Addr) (p2 : Int32) (cs : Int32) (b : Addr) (z : Int32) (f : Nat → Int32) (y : Int32) (g : Nat → Int32) (h0 : Heap) (n0 : Nat) (sQ : State) (oQ : Outcome) (UQ : State) : Prop := ∃ vQ LQ, oQ = .returned vQ ∧ Q19 Z a0 a1 p2 cs b z f y g h0 n0 vQ UQ.heap LQ ∧ FrameEnd sQ oQ UQ LQ ({ frames := 1, cells := 0, slots := 0, locals := 18 } : Room).cells ({ frames := 1, cells := 0, slots := 0, locals := 18 } : Room).slots
set_option maxRecDepth 65536 in
set_option maxHeartbeats 40000000 in
theorem rm19 (l : Launch) (Z : State) (aZ : Array Value) (hw : ∀ d ∈ tables_1, d.before aZ Z = true) (ws : List Jvm.Cond) (a0 : Addr) (a1 : Addr) (p2 : Int32) (cs : Int32) (b : Addr) (z : Int32) (f : Nat → Int32) (y : Int32) (g : Nat → Int32) (h0 : Heap) (n0 : Nat) (Z0 : n0 ≤ h0.size) (OL : Old Z n0 h0) (CS : own_CS Z cs) (E_a0 : Exa Z h0 a0 "java/lang/String") (F_coder_a0 : Fld Z h0 a0 "java/lang/String" "coder" "B" (.int (0 : Int32))) (F_value_a0 : Fld Z h0 a0 "java/lang/String" "value" "[B" (.ref b)) (Y_b : own_By Z h0 b z f) (Y_a1 : own_By Z h0 a1 y g) (g_a1 : n0 ≤ a1) (hr : 0 ≤ p2.toInt ∧ p2.toInt + z.toInt ≤ y.toInt) :
    MetFree l (⟨"java/lang/String", "getBytes", "([BIB)V"⟩ : MethodName) (head1 (Jvm.Cond.code (⟨"java/lang/String", "getBytes", "([BIB)V"⟩ : MethodName) jdk_42_method_147_code 4 none :: ws) ({ frames := 1, cells := 0, slots := 0, locals := 18 } : Room)) (fun aQ UQ => aQ = #[(.ref a0), (.ref a1), (.int p2), (.int (0 : Int32))] ∧ Z.Warmed39 UQ.vm ∧ UQ.heap = h0) (fun _ _ _ _ _ => True) (fun _ UQ oQ UR => ∃ vQ LQ, oQ = .returned vQ ∧ Q19 Z a0 a1 p2 cs b z f y g h0 n0 vQ UR.heap LQ ∧ FrameEnd UQ oQ UR LQ ({ frames := 1, cells := 0, slots := 0, locals := 18 } : Room).cells ({ frames := 1, cells := 0, slots := 0, locals := 18 } : Room).slots) := by
  refine MetFree.of_bodySF (plainFor_of_name pn_2) hisR ?_
  intro p e s m args below meth c s₁ Bd hml0 hP hK
  obtain ⟨rfl, hZ, hh⟩ := hP
  have hx := Bd.exec
  have hby := Bd.bytes
  have hml : c.maxLocals = 4 := hml0
  have hown : s.vm.findClass "java/lang/String" = some m.cls := findClass_of_methodNamed Bd.named
  have hnm := (name_of_methodNamed Bd.named Bd.method).1
  have X0 : Stand p l e ({ frames := 1, cells := 0, slots := 0, locals := 18 } : Room) s m #[(.ref a0), (.ref a1), (.int p2), (.int (0 : Int32))] below meth c s₁ [] 0 0 := Stand.of_body Bd
  have e0 : s₁.heap = h0 := by rw [← hh, Bd.state]; rfl
  have N0 := Fr.nil n0
  have K0 : Keep h0 h0 [a1] := Keep.refl _ _
  have w_13 := hw _ (List.mem_of_getElem? (i := 13) rfl)
  have w_38 := hw _ (List.mem_of_getElem? (i := 38) rfl)
  have w_94 := hw _ (List.mem_of_getElem? (i := 94) rfl)
  have w_95 := hw _ (List.mem_of_getElem? (i := 95) rfl)
  have w_96 := hw _ (List.mem_of_getElem? (i := 96) rfl)
  have w_97 := hw _ (List.mem_of_getElem? (i := 97) rfl)
  have w_98 := hw _ (List.mem_of_getElem? (i := 98) rfl)
  have w_122 := hw _ (List.mem_of_getElem? (i := 122) rfl)
  have w_123 := hw _ (List.mem_of_getElem? (i := 123) rfl)
  have w_124 := hw _ (List.mem_of_getElem? (i := 124) rfl)
  have w_125 := hw _ (List.mem_of_getElem? (i := 125) rfl)
  have first_ : Rn p e below (s₁.setTop (mkF m 0 #[.val (.ref a0), .val (.ref a1), .val (.int p2), .val (.int (0 : Int32))] [])) (Fn19 Z a0 a1 p2 cs b z f y g h0 n0 s) := by
    generalize hG : (Fn19 Z a0 a1 p2 cs b z f y g h0 n0 s) = G
    refine R.aloadN X0 hx (hb hby d19_0) rfl rfl (pc' := 1) rfl ?_
    refine R.virtual X0 hx hZ (y := mY2) (z := mY2) hown w_94 w_95 (notFace_of_selects (args := #[]) (mvT hZ w_97)) w_97 w_96 w_13 w_98 (by decide) e0 E_a0 (rm15 l Z aZ hw [] a0 cs h0 n0 Z0 OL CS F_coder_a0) (by decide) (W := 0) (Nat.le_of_eq rfl) (by decide) (by rw [hml]; rfl) (lenOf pd_1 rfl) rfl (hb hby d19_1) (pc' := 4) rfl (by decide) (by decide) ?_; intro v1 T1 L1 X1 hQ1
    obtain ⟨rfl, N1q, e1⟩ := hQ1
    have N1 := Fr.app N0 N1q
    refine R.iloadN X1 hx (hb hby d19_4) rfl (pc' := 5) rfl ?_
    refine R.icmpNo X1 hx (hb hby d19_5) (teq (by decide : (0 : Int32) = (0 : Int32))).2 (pc' := 8) rfl ?_
    refine R.aloadN X1 hx (hb hby d19_8) rfl rfl (pc' := 9) rfl ?_
    refine R.getF X1 hx hZ hown (host := "") (Or.inl w_38) Via.refl e1 F_value_a0 (hb hby d19_9) (pc' := 12) rfl ?_; intro T2 X2 e2
    refine R.iconst X2 hx (hb hby d19_12) (v := (0 : Int32)) (by decide) (pc' := 13) rfl ?_
    refine R.aloadN X2 hx (hb hby d19_13) rfl rfl (pc' := 14) rfl ?_
    refine R.iloadN X2 hx (hb hby d19_14) rfl (pc' := 15) rfl ?_
    refine R.iloadN X2 hx (hb hby d19_15) rfl (pc' := 16) rfl ?_
    refine R.ishl X2 hx (hb hby d19_16) (pc' := 17) rfl ?_
    show Rn p e below (T2.setTop (mkF m 17 #[.val (.ref a0), .val (.ref a1), .val (.int p2), .val (.int (0 : Int32))] [(.int (p2 <<< ((0 : Int32) &&& 31))), (.ref a1), (.int (0 : Int32)), (.ref b)])) G
    rw [own_shl0]
    refine R.aloadN X2 hx (hb hby d19_17) rfl rfl (pc' := 18) rfl ?_
    refine R.getF X2 hx hZ hown (host := "") (Or.inl w_38) Via.refl e2 F_value_a0 (hb hby d19_18) (pc' := 21) rfl ?_; intro T3 X3 e3
    refine R.alenY X3 hx hZ e3 Y_b (hb hby d19_21) (pc' := 22) rfl ?_
    refine R.copyY X3 hx hZ hown w_122 w_125 w_123 w_124 e3 Y_b Y_a1 (by decide) (hr.1) (own_nn Y_b.nneg) (by have t0 : (0 : Int32).toInt = 0 := (by decide); omega) (hr.2) N1 g_a1 (by rw [hml]; rfl) (hb hby d19_22) (pc' := 25) rfl (by decide) (W := 0) (Nat.le_of_eq rfl) (by decide) ?_; intro T5 h5 L5 X5 e5 N5 Kc5 V5
    have K5 : Keep h0 h5 [a1] := K0.trans Kc5 ((allS (Or.inl (List.mem_of_getElem? (i := 0) rfl)) all0))
    have Z5 : n0 ≤ h5.size := Nat.le_trans Z0 Kc5.1
    have OL := OL.keep Kc5 (allS g_a1 all0)
    have E_a0 := E_a0.keep Kc5
    have Y_a1 : own_By Z h5 a1 y (own_cp g p2.toInt.toNat z.toInt.toNat f (0 : Int32).toInt.toNat) := V5
    refine R.goto X5 hx (hb hby d19_25) (by decide) (pc' := 43) (by decide) ?_
    rw [← hG]
    exact Rn.ret X5 (BodyLoose.notSynchronized Bd) (v := none) (fun _ => rfl) (Q := Q19 Z a0 a1 p2 cs b z f y g h0 n0) e5 (fun fs hr => X5.returnOut hx Bd.returns (hb hby d19_43) hr) ⟨rfl, N5, K5, Y_a1⟩ (by decide) (by decide)
  exact (Rn.st (fun t k => castTop (ef_19 m a0 a1 p2) k) first_ : Rn p e below (s₁.setTop (entryFrame m #[(.ref a0), (.ref a1), (.int p2), (.int (0 : Int32))] 4)) (Fn19 Z a0 a1 p2 cs b z f y g h0 n0 s))
theorem d17_0 : decode jdk_68_method_73_code 0 = .ok (.aload_n 0, 1) := by decide +kernel
theorem d17_1 : decode jdk_68_method_73_code 1 = .ok (.aload_n 2, 1) := by decide +kernel
theorem d17_2 : decode jdk_68_method_73_code 2 = .ok (.invokevirtual 397, 3) := by decide +kernel
theorem pd_6 : parseMethodDescriptor "(Ljava/lang/String;)V" = some ⟨[(.object "java/lang/String")], none⟩ := by decide +kernel
abbrev mY7 : MethodName := (⟨"java/lang/AbstractStringBuilder", "inflateIfNeededFor", "(Ljava/lang/String;)V"⟩ : MethodName)
theorem d17_5 : decode jdk_68_method_73_code 5 = .ok (.aload_n 2, 1) := by decide +kernel
theorem d17_6 : decode jdk_68_method_73_code 6 = .ok (.aload_n 0, 1) := by decide +kernel
theorem d17_7 : decode jdk_68_method_73_code 7 = .ok (.getfield 15, 3) := by decide +kernel
theorem d17_10 : decode jdk_68_method_73_code 10 = .ok (.iload_n 1, 1) := by decide +kernel
theorem d17_11 : decode jdk_68_method_73_code 11 = .ok (.aload_n 0, 1) := by decide +kernel
theorem d17_12 : decode jdk_68_method_73_code 12 = .ok (.getfield 22, 3) := by decide +kernel
theorem d17_15 : decode jdk_68_method_73_code 15 = .ok (.invokevirtual 399, 3) := by decide +kernel
theorem pd_7 : parseMethodDescriptor "([BIB)V" = some ⟨[(.array .byte), .int, .byte], none⟩ := by decide +kernel
abbrev mY8 : MethodName := (⟨"java/lang/String", "getBytes", "([BIB)V"⟩ : MethodName)
theorem d17_18 : decode jdk_68_method_73_code 18 = .ok (.return_, 1) := by decide +kernel
theorem ef_17 (m : MethodId) (x0 : Addr) (x1 : Int32) (x2 : Addr) : entryFrame m #[(.ref x0), (.int x1), (.ref x2)] 3 = mkF m 0 #[.val (.ref x0), .val (.int x1), .val (.ref x2)] [] := by first | (simp [entryFrame, mkF, argsToLocals, Value.category]; done) | rfl
def Q17 (Z : State) (a0 : Addr) (p1 : Int32) (a2 : Addr) (cs : Int32) (b : Addr) (z : Int32) (f : Nat → Int32) (d : Addr) (g : Nat → Int32) (h0 : Heap) (n0 : Nat) (vQ : Option Value) (hQ_ : Heap) (LQ : List Loc) : Prop := vQ = none ∧ Fr n0 LQ ∧ Keep h0 hQ_ [d] ∧ (own_By Z hQ_ d (16 : Int32) (own_cp g p1.toInt.toNat z.toInt.toNat f (0 : Int32).toInt.toNat))
def Fn17 (Z : State) (a0 : Addr) (p1 : Int32) (a2 : Addr) (cs : Int32) (b : Addr) (z : Int32) (f : Nat → Int32) (d : Addr) (g : Nat → Int32) (h0 : Heap) (n0 : Nat) (sQ : State) (oQ : Outcome) (UQ : State) : Prop := ∃ vQ LQ, oQ = .returned vQ ∧ Q17 Z a0 p1 a2 cs b z f d g h0 n0 vQ UQ.heap LQ ∧ FrameEnd sQ oQ UQ LQ ({ frames := 2, cells := 0, slots := 0, locals := 33 } : Room).cells ({ frames := 2, cells := 0, slots := 0, locals := 33 } : Room).slots
set_option maxRecDepth 65536 in
set_option maxHeartbeats 40000000 in
theorem rm17 (l : Launch) (Z : State) (aZ : Array Value) (hw : ∀ d ∈ tables_1, d.before aZ Z = true) (ws : List Jvm.Cond) (a0 : Addr) (p1 : Int32) (a2 : Addr) (cs : Int32) (b : Addr) (z : Int32) (f : Nat → Int32) (d : Addr) (g : Nat → Int32) (h0 : Heap) (n0 : Nat) (Z0 : n0 ≤ h0.size) (OL : Old Z n0 h0) (CS : own_CS Z cs) (E_a0 : Exa Z h0 a0 "java/lang/StringBuilder") (F_coder_a0 : Fld Z h0 a0 "java/lang/AbstractStringBuilder" "coder" "B" (.int (0 : Int32))) (F_value_a0 : Fld Z h0 a0 "java/lang/AbstractStringBuilder" "value" "[B" (.ref d)) (Y_d : own_By Z h0 d (16 : Int32) g) (g_d : n0 ≤ d) (E_a2 : Exa Z h0 a2 "java/lang/String") (F_coder_a2 : Fld Z h0 a2 "java/lang/String" "coder" "B" (.int (0 : Int32))) (F_value_a2 : Fld Z h0 a2 "java/lang/String" "value" "[B" (.ref b)) (Y_b : own_By Z h0 b z f) (hr : 0 ≤ p1.toInt ∧ p1.toInt + z.toInt ≤ 16) :
    MetFree l (⟨"java/lang/AbstractStringBuilder", "putStringAt", "(ILjava/lang/String;)V"⟩ : MethodName) (head1 (Jvm.Cond.code (⟨"java/lang/AbstractStringBuilder", "putStringAt", "(ILjava/lang/String;)V"⟩ : MethodName) jdk_68_method_73_code 3 none :: ws) ({ frames := 2, cells := 0, slots := 0, locals := 33 } : Room)) (fun aQ UQ => aQ = #[(.ref a0), (.int p1), (.ref a2)] ∧ Z.Warmed39 UQ.vm ∧ UQ.heap = h0) (fun _ _ _ _ _ => True) (fun _ UQ oQ UR => ∃ vQ LQ, oQ = .returned vQ ∧ Q17 Z a0 p1 a2 cs b z f d g h0 n0 vQ UR.heap LQ ∧ FrameEnd UQ oQ UR LQ ({ frames := 2, cells := 0, slots := 0, locals := 33 } : Room).cells ({ frames := 2, cells := 0, slots := 0, locals := 33 } : Room).slots) := by
  refine MetFree.of_bodySF (plainFor_of_name pn_3) hisR ?_
  intro p e s m args below meth c s₁ Bd hml0 hP hK
  obtain ⟨rfl, hZ, hh⟩ := hP
  have hx := Bd.exec
  have hby := Bd.bytes
  have hml : c.maxLocals = 3 := hml0
  have hown : s.vm.findClass "java/lang/AbstractStringBuilder" = some m.cls := findClass_of_methodNamed Bd.named
  have hnm := (name_of_methodNamed Bd.named Bd.method).1
  have X0 : Stand p l e ({ frames := 2, cells := 0, slots := 0, locals := 33 } : Room) s m #[(.ref a0), (.int p1), (.ref a2)] below meth c s₁ [] 0 0 := Stand.of_body Bd
  have e0 : s₁.heap = h0 := by rw [← hh, Bd.state]; rfl
  have N0 := Fr.nil n0
  have K0 : Keep h0 h0 [d] := Keep.refl _ _
  have w_13 := hw _ (List.mem_of_getElem? (i := 13) rfl)
  have w_71 := hw _ (List.mem_of_getElem? (i := 71) rfl)
  have w_75 := hw _ (List.mem_of_getElem? (i := 75) rfl)
  have w_77 := hw _ (List.mem_of_getElem? (i := 77) rfl)
  have w_111 := hw _ (List.mem_of_getElem? (i := 111) rfl)
  have w_112 := hw _ (List.mem_of_getElem? (i := 112) rfl)
  have w_114 := hw _ (List.mem_of_getElem? (i := 114) rfl)
  have w_115 := hw _ (List.mem_of_getElem? (i := 115) rfl)
  have w_117 := hw _ (List.mem_of_getElem? (i := 117) rfl)
  have w_118 := hw _ (List.mem_of_getElem? (i := 118) rfl)
  have w_119 := hw _ (List.mem_of_getElem? (i := 119) rfl)
  have w_120 := hw _ (List.mem_of_getElem? (i := 120) rfl)
  have w_121 := hw _ (List.mem_of_getElem? (i := 121) rfl)
  have first_ : Rn p e below (s₁.setTop (mkF m 0 #[.val (.ref a0), .val (.int p1), .val (.ref a2)] [])) (Fn17 Z a0 p1 a2 cs b z f d g h0 n0 s) := by
    generalize hG : (Fn17 Z a0 p1 a2 cs b z f d g h0 n0 s) = G
    refine R.aloadN X0 hx (hb hby d17_0) rfl rfl (pc' := 1) rfl ?_
    refine R.aloadN X0 hx (hb hby d17_1) rfl rfl (pc' := 2) rfl ?_
    refine R.virtual X0 hx hZ (y := mY7) (z := mY7) hown w_111 (own_decl w_112 w_115) (notFace_of_selects (args := #[]) (mvT hZ w_114)) w_114 w_112 w_71 w_115 (by decide) e0 E_a0 (rm18 l Z aZ hw [] a0 a2 cs h0 n0 Z0 OL CS F_coder_a0 E_a2 F_coder_a2) (by decide) (W := 0) (Nat.le_of_eq rfl) (by decide) (by rw [hml]; rfl) (lenOf pd_6 rfl) rfl (hb hby d17_2) (pc' := 5) rfl (by decide) (by decide) ?_; intro v1 T1 L1 X1 hQ1
    obtain ⟨rfl, N1q, e1⟩ := hQ1
    have N1 := Fr.app N0 N1q
    refine R.aloadN X1 hx (hb hby d17_5) rfl rfl (pc' := 6) rfl ?_
    refine R.aloadN X1 hx (hb hby d17_6) rfl rfl (pc' := 7) rfl ?_
    refine R.getF X1 hx hZ hown (host := "") (Or.inl w_75) Via.refl e1 F_value_a0 (hb hby d17_7) (pc' := 10) rfl ?_; intro T2 X2 e2
    refine R.iloadN X2 hx (hb hby d17_10) rfl (pc' := 11) rfl ?_
    refine R.aloadN X2 hx (hb hby d17_11) rfl rfl (pc' := 12) rfl ?_
    refine R.getF X2 hx hZ hown (host := "") (Or.inl w_77) Via.refl e2 F_coder_a0 (hb hby d17_12) (pc' := 15) rfl ?_; intro T3 X3 e3
    refine R.virtual X3 hx hZ (y := mY8) (z := mY8) hown w_117 w_118 (notFace_of_selects (args := #[]) (mvT hZ w_120)) w_120 w_119 w_13 w_121 (by decide) e3 E_a2 (rm19 l Z aZ hw [] a2 d p1 cs b z f (16 : Int32) g h0 n0 Z0 OL CS E_a2 F_coder_a2 F_value_a2 Y_b Y_d g_d (hr)) (by decide) (W := 0) (Nat.le_of_eq rfl) (by decide) (by rw [hml]; rfl) (lenOf pd_7 rfl) rfl (hb hby d17_15) (pc' := 18) rfl (by decide) (by decide) ?_; intro v4 T4 L4 X4 hQ4
    obtain ⟨rfl, N4q, Kc4, P4_0⟩ := hQ4
    have N4 := Fr.app N1 N4q
    generalize e4 : T4.heap = h4 at Kc4 P4_0
    have K4 : Keep h0 h4 [d] := K0.trans Kc4 ((allS (Or.inl (List.mem_of_getElem? (i := 0) rfl)) all0))
    have Z4 : n0 ≤ h4.size := Nat.le_trans Z0 Kc4.1
    have OL := OL.keep Kc4 (allS g_d all0)
    have E_a0 := E_a0.keep Kc4
    have E_a2 := E_a2.keep Kc4
    have Y_d : own_By Z h4 d (16 : Int32) (own_cp g p1.toInt.toNat z.toInt.toNat f (0 : Int32).toInt.toNat) := P4_0
    rw [← hG]
    exact Rn.ret X4 (BodyLoose.notSynchronized Bd) (v := none) (fun _ => rfl) (Q := Q17 Z a0 p1 a2 cs b z f d g h0 n0) e4 (fun fs hr => X4.returnOut hx Bd.returns (hb hby d17_18) hr) ⟨rfl, N4, K4, Y_d⟩ (by decide) (by decide)
  exact (Rn.st (fun t k => castTop (ef_17 m a0 p1 a2) k) first_ : Rn p e below (s₁.setTop (entryFrame m #[(.ref a0), (.int p1), (.ref a2)] 3)) (Fn17 Z a0 p1 a2 cs b z f d g h0 n0 s))
theorem d13_0 : decode jdk_68_method_22_code 0 = .ok (.aload_n 1, 1) := by decide +kernel
theorem d13_1 : decode jdk_68_method_22_code 1 = .ok (.ifnonnull 8, 3) := by decide +kernel
theorem d13_9 : decode jdk_68_method_22_code 9 = .ok (.aload_n 1, 1) := by decide +kernel
theorem d13_10 : decode jdk_68_method_22_code 10 = .ok (.invokevirtual 32, 3) := by decide +kernel
abbrev mY9 : MethodName := (⟨"java/lang/String", "length", "()I"⟩ : MethodName)
theorem d13_13 : decode jdk_68_method_22_code 13 = .ok (.istore_n 2, 1) := by decide +kernel
theorem d13_14 : decode jdk_68_method_22_code 14 = .ok (.aload_n 0, 1) := by decide +kernel
theorem d13_15 : decode jdk_68_method_22_code 15 = .ok (.aload_n 0, 1) := by decide +kernel
theorem d13_16 : decode jdk_68_method_22_code 16 = .ok (.getfield 79, 3) := by decide +kernel
theorem d13_19 : decode jdk_68_method_22_code 19 = .ok (.iload_n 2, 1) := by decide +kernel
theorem d13_20 : decode jdk_68_method_22_code 20 = .ok (.iadd, 1) := by decide +kernel
theorem d13_21 : decode jdk_68_method_22_code 21 = .ok (.invokevirtual 100, 3) := by decide +kernel
theorem pd_8 : parseMethodDescriptor "(I)V" = some ⟨[.int], none⟩ := by decide +kernel
theorem d13_24 : decode jdk_68_method_22_code 24 = .ok (.aload_n 0, 1) := by decide +kernel
theorem d13_25 : decode jdk_68_method_22_code 25 = .ok (.aload_n 0, 1) := by decide +kernel
theorem d13_26 : decode jdk_68_method_22_code 26 = .ok (.getfield 79, 3) := by decide +kernel
theorem d13_29 : decode jdk_68_method_22_code 29 = .ok (.aload_n 1, 1) := by decide +kernel
theorem d13_30 : decode jdk_68_method_22_code 30 = .ok (.invokevirtual 208, 3) := by decide +kernel
theorem pd_9 : parseMethodDescriptor "(ILjava/lang/String;)V" = some ⟨[.int, (.object "java/lang/String")], none⟩ := by decide +kernel
abbrev mY10 : MethodName := (⟨"java/lang/AbstractStringBuilder", "putStringAt", "(ILjava/lang/String;)V"⟩ : MethodName)
theorem d13_33 : decode jdk_68_method_22_code 33 = .ok (.aload_n 0, 1) := by decide +kernel
theorem d13_34 : decode jdk_68_method_22_code 34 = .ok (.dup, 1) := by decide +kernel
theorem d13_35 : decode jdk_68_method_22_code 35 = .ok (.getfield 79, 3) := by decide +kernel
theorem d13_38 : decode jdk_68_method_22_code 38 = .ok (.iload_n 2, 1) := by decide +kernel
theorem d13_39 : decode jdk_68_method_22_code 39 = .ok (.iadd, 1) := by decide +kernel
theorem d13_40 : decode jdk_68_method_22_code 40 = .ok (.putfield 79, 3) := by decide +kernel
theorem d13_43 : decode jdk_68_method_22_code 43 = .ok (.aload_n 0, 1) := by decide +kernel
theorem d13_44 : decode jdk_68_method_22_code 44 = .ok (.areturn, 1) := by decide +kernel
theorem ef_13 (m : MethodId) (x0 : Addr) (x1 : Addr) : entryFrame m #[(.ref x0), (.ref x1)] 3 = mkF m 0 #[.val (.ref x0), .val (.ref x1), .unset] [] := by first | (simp [entryFrame, mkF, argsToLocals, Value.category]; done) | rfl
def Q13 (Z : State) (a0 : Addr) (a1 : Addr) (cs : Int32) (b : Addr) (z : Int32) (f : Nat → Int32) (d : Addr) (n : Int32) (g : Nat → Int32) (h0 : Heap) (n0 : Nat) (vQ : Option Value) (hQ_ : Heap) (LQ : List Loc) : Prop := vQ = some (.ref a0) ∧ Fr n0 LQ ∧ Keep h0 hQ_ [a0, d] ∧ (Exa Z hQ_ a0 "java/lang/StringBuilder") ∧ (Fld Z hQ_ a0 "java/lang/AbstractStringBuilder" "coder" "B" (.int (0 : Int32))) ∧ (Fld Z hQ_ a0 "java/lang/AbstractStringBuilder" "value" "[B" (.ref d)) ∧ (Fld Z hQ_ a0 "java/lang/AbstractStringBuilder" "count" "I" (.int (n + z))) ∧ (own_By Z hQ_ d (16 : Int32) (own_cp g n.toInt.toNat z.toInt.toNat f (0 : Int32).toInt.toNat))
def Fn13 (Z : State) (a0 : Addr) (a1 : Addr) (cs : Int32) (b : Addr) (z : Int32) (f : Nat → Int32) (d : Addr) (n : Int32) (g : Nat → Int32) (h0 : Heap) (n0 : Nat) (sQ : State) (oQ : Outcome) (UQ : State) : Prop := ∃ vQ LQ, oQ = .returned vQ ∧ Q13 Z a0 a1 cs b z f d n g h0 n0 vQ UQ.heap LQ ∧ FrameEnd sQ oQ UQ LQ ({ frames := 3, cells := 0, slots := 0, locals := 47 } : Room).cells ({ frames := 3, cells := 0, slots := 0, locals := 47 } : Room).slots
set_option maxRecDepth 65536 in
set_option maxHeartbeats 40000000 in
theorem rm13 (l : Launch) (Z : State) (aZ : Array Value) (hw : ∀ d ∈ tables_1, d.before aZ Z = true) (ws : List Jvm.Cond) (a0 : Addr) (a1 : Addr) (cs : Int32) (b : Addr) (z : Int32) (f : Nat → Int32) (d : Addr) (n : Int32) (g : Nat → Int32) (h0 : Heap) (n0 : Nat) (Z0 : n0 ≤ h0.size) (OL : Old Z n0 h0) (CS : own_CS Z cs) (E_a0 : Exa Z h0 a0 "java/lang/StringBuilder") (F_coder_a0 : Fld Z h0 a0 "java/lang/AbstractStringBuilder" "coder" "B" (.int (0 : Int32))) (F_value_a0 : Fld Z h0 a0 "java/lang/AbstractStringBuilder" "value" "[B" (.ref d)) (F_count_a0 : Fld Z h0 a0 "java/lang/AbstractStringBuilder" "count" "I" (.int n)) (Y_d : own_By Z h0 d (16 : Int32) g) (g_a0 : n0 ≤ a0) (g_d : n0 ≤ d) (ne_a0_d : a0 ≠ d) (E_a1 : Exa Z h0 a1 "java/lang/String") (F_coder_a1 : Fld Z h0 a1 "java/lang/String" "coder" "B" (.int (0 : Int32))) (F_value_a1 : Fld Z h0 a1 "java/lang/String" "value" "[B" (.ref b)) (Y_b : own_By Z h0 b z f) (hr : 0 ≤ n.toInt ∧ n.toInt + z.toInt ≤ 16) :
    MetFree l (⟨"java/lang/AbstractStringBuilder", "append", "(Ljava/lang/String;)Ljava/lang/AbstractStringBuilder;"⟩ : MethodName) (head1 (Jvm.Cond.code (⟨"java/lang/AbstractStringBuilder", "append", "(Ljava/lang/String;)Ljava/lang/AbstractStringBuilder;"⟩ : MethodName) jdk_68_method_22_code 3 (some (.object "java/lang/AbstractStringBuilder")) :: ws) ({ frames := 3, cells := 0, slots := 0, locals := 47 } : Room)) (fun aQ UQ => aQ = #[(.ref a0), (.ref a1)] ∧ Z.Warmed39 UQ.vm ∧ UQ.heap = h0) (fun _ _ _ _ _ => True) (fun _ UQ oQ UR => ∃ vQ LQ, oQ = .returned vQ ∧ Q13 Z a0 a1 cs b z f d n g h0 n0 vQ UR.heap LQ ∧ FrameEnd UQ oQ UR LQ ({ frames := 3, cells := 0, slots := 0, locals := 47 } : Room).cells ({ frames := 3, cells := 0, slots := 0, locals := 47 } : Room).slots) := by
  refine MetFree.of_bodySF (plainFor_of_name pn_3) hisR ?_
  intro p e s m args below meth c s₁ Bd hml0 hP hK
  obtain ⟨rfl, hZ, hh⟩ := hP
  have hx := Bd.exec
  have hby := Bd.bytes
  have hml : c.maxLocals = 3 := hml0
  have hown : s.vm.findClass "java/lang/AbstractStringBuilder" = some m.cls := findClass_of_methodNamed Bd.named
  have hnm := (name_of_methodNamed Bd.named Bd.method).1
  have X0 : Stand p l e ({ frames := 3, cells := 0, slots := 0, locals := 47 } : Room) s m #[(.ref a0), (.ref a1)] below meth c s₁ [] 0 0 := Stand.of_body Bd
  have e0 : s₁.heap = h0 := by rw [← hh, Bd.state]; rfl
  have N0 := Fr.nil n0
  have K0 : Keep h0 h0 [a0, d] := Keep.refl _ _
  have w_13 := hw _ (List.mem_of_getElem? (i := 13) rfl)
  have w_62 := hw _ (List.mem_of_getElem? (i := 62) rfl)
  have w_71 := hw _ (List.mem_of_getElem? (i := 71) rfl)
  have w_76 := hw _ (List.mem_of_getElem? (i := 76) rfl)
  have w_78 := hw _ (List.mem_of_getElem? (i := 78) rfl)
  have w_89 := hw _ (List.mem_of_getElem? (i := 89) rfl)
  have w_90 := hw _ (List.mem_of_getElem? (i := 90) rfl)
  have w_91 := hw _ (List.mem_of_getElem? (i := 91) rfl)
  have w_92 := hw _ (List.mem_of_getElem? (i := 92) rfl)
  have w_93 := hw _ (List.mem_of_getElem? (i := 93) rfl)
  have w_99 := hw _ (List.mem_of_getElem? (i := 99) rfl)
  have w_100 := hw _ (List.mem_of_getElem? (i := 100) rfl)
  have w_101 := hw _ (List.mem_of_getElem? (i := 101) rfl)
  have w_102 := hw _ (List.mem_of_getElem? (i := 102) rfl)
  have w_104 := hw _ (List.mem_of_getElem? (i := 104) rfl)
  have w_105 := hw _ (List.mem_of_getElem? (i := 105) rfl)
  have w_106 := hw _ (List.mem_of_getElem? (i := 106) rfl)
  have w_107 := hw _ (List.mem_of_getElem? (i := 107) rfl)
  have w_109 := hw _ (List.mem_of_getElem? (i := 109) rfl)
  have w_110 := hw _ (List.mem_of_getElem? (i := 110) rfl)
  have first_ : Rn p e below (s₁.setTop (mkF m 0 #[.val (.ref a0), .val (.ref a1), .unset] [])) (Fn13 Z a0 a1 cs b z f d n g h0 n0 s) := by
    generalize hG : (Fn13 Z a0 a1 cs b z f d n g h0 n0 s) = G
    refine R.aloadN X0 hx (hb hby d13_0) rfl rfl (pc' := 1) rfl ?_
    refine R.ifnonnullYes X0 hx (hb hby d13_1) (by decide) (pc' := 9) (by decide) ?_
    refine R.aloadN X0 hx (hb hby d13_9) rfl rfl (pc' := 10) rfl ?_
    have hz0 := own_nn Y_b.nneg
    refine R.virtual X0 hx hZ (y := mY9) (z := mY9) hown w_89 w_90 (notFace_of_selects (args := #[]) (mvT hZ w_92)) w_92 w_91 w_13 w_93 (by decide) e0 E_a1 (rm14 l Z aZ hw [] a1 cs b z f h0 n0 Z0 OL CS E_a1 F_coder_a1 F_value_a1 Y_b) (by decide) (W := 0) (Nat.le_of_eq rfl) (by decide) (by rw [hml]; rfl) (lenOf pd_0 rfl) rfl (hb hby d13_10) (pc' := 13) rfl (by decide) (by decide) ?_; intro v1 T1 L1 X1 hQ1
    obtain ⟨rfl, N1q, e1⟩ := hQ1
    have N1 := Fr.app N0 N1q
    refine R.istoreN X1 hx (hb hby d13_13) (L' := #[.val (.ref a0), .val (.ref a1), .val (.int z)]) rfl (pc' := 14) rfl ?_
    refine R.aloadN X1 hx (hb hby d13_14) rfl rfl (pc' := 15) rfl ?_
    refine R.aloadN X1 hx (hb hby d13_15) rfl rfl (pc' := 16) rfl ?_
    refine R.getF X1 hx hZ hown (host := "") (Or.inl w_99) Via.refl e1 F_count_a0 (hb hby d13_16) (pc' := 19) rfl ?_; intro T2 X2 e2
    refine R.iloadN X2 hx (hb hby d13_19) rfl (pc' := 20) rfl ?_
    refine R.iadd X2 hx (hb hby d13_20) rfl (pc' := 21) rfl ?_
    refine R.virtual X2 hx hZ (y := mY1) (z := mY1) hown w_101 (own_decl w_102 w_105) (notFace_of_selects (args := #[]) (mvT hZ w_104)) w_104 w_102 w_71 w_105 (by decide) e2 E_a0 (rm16 l Z aZ hw [] a0 (n + z) d g h0 n0 Z0 F_coder_a0 F_value_a0 Y_d (by rw [own_addI] <;> omega)) (by decide) (W := 0) (Nat.le_of_eq rfl) (by decide) (by rw [hml]; rfl) (lenOf pd_8 rfl) rfl (hb hby d13_21) (pc' := 24) rfl (by decide) (by decide) ?_; intro v3 T3 L3 X3 hQ3
    obtain ⟨rfl, N3q, e3⟩ := hQ3
    have N3 := Fr.app N1 N3q
    refine R.aloadN X3 hx (hb hby d13_24) rfl rfl (pc' := 25) rfl ?_
    refine R.aloadN X3 hx (hb hby d13_25) rfl rfl (pc' := 26) rfl ?_
    refine R.getF X3 hx hZ hown (host := "") (Or.inl w_99) Via.refl e3 F_count_a0 (hb hby d13_26) (pc' := 29) rfl ?_; intro T4 X4 e4
    refine R.aloadN X4 hx (hb hby d13_29) rfl rfl (pc' := 30) rfl ?_
    refine R.virtual X4 hx hZ (y := mY10) (z := mY10) hown w_106 (own_decl w_107 w_110) (notFace_of_selects (args := #[]) (mvT hZ w_109)) w_109 w_107 w_71 w_110 (by decide) e4 E_a0 (rm17 l Z aZ hw [] a0 n a1 cs b z f d g h0 n0 Z0 OL CS E_a0 F_coder_a0 F_value_a0 Y_d g_d E_a1 F_coder_a1 F_value_a1 Y_b (hr)) (by decide) (W := 0) (Nat.le_of_eq rfl) (by decide) (by rw [hml]; rfl) (lenOf pd_9 rfl) rfl (hb hby d13_30) (pc' := 33) rfl (by decide) (by decide) ?_; intro v5 T5 L5 X5 hQ5
    obtain ⟨rfl, N5q, Kc5, P5_0⟩ := hQ5
    have N5 := Fr.app N3 N5q
    generalize e5 : T5.heap = h5 at Kc5 P5_0
    have K5 : Keep h0 h5 [a0, d] := K0.trans Kc5 ((allS (Or.inl (List.mem_of_getElem? (i := 1) rfl)) all0))
    have Z5 : n0 ≤ h5.size := Nat.le_trans Z0 Kc5.1
    have OL := OL.keep Kc5 (allS g_d all0)
    have E_a0 := E_a0.keep Kc5
    have F_coder_a0 := F_coder_a0.keep Kc5 (ninS ne_a0_d nin0)
    have F_value_a0 := F_value_a0.keep Kc5 (ninS ne_a0_d nin0)
    have F_count_a0 := F_count_a0.keep Kc5 (ninS ne_a0_d nin0)
    have E_a1 := E_a1.keep Kc5
    have Y_d : own_By Z h5 d (16 : Int32) (own_cp g n.toInt.toNat z.toInt.toNat f (0 : Int32).toInt.toNat) := P5_0
    refine R.aloadN X5 hx (hb hby d13_33) rfl rfl (pc' := 34) rfl ?_
    refine R.dup X5 hx (hb hby d13_34) rfl (pc' := 35) rfl ?_
    refine R.getF X5 hx hZ hown (host := "") (Or.inl w_99) Via.refl e5 F_count_a0 (hb hby d13_35) (pc' := 38) rfl ?_; intro T6 X6 e6
    refine R.iloadN X6 hx (hb hby d13_38) rfl (pc' := 39) rfl ?_
    refine R.iadd X6 hx (hb hby d13_39) rfl (pc' := 40) rfl ?_
    refine R.putF X6 hx hZ hown (host := "") (Or.inl w_99) Via.refl e6 F_count_a0 E_a0 (Or.inl w_100) w_62 (ty := .int) (by decide) rfl rfl (hb hby d13_40) (pc' := 43) rfl ?_; intro T7 h7 X7 e7 W7
    have OL := OL.wr W7 g_a0
    have E_a0 := E_a0.wr W7
    have F_coder_a0 := F_coder_a0.other W7 (Or.inr (slot_ne (Or.inl w_78) (Or.inl w_100) (by decide) (t := .byte) (t' := .int) (by decide) (by decide)))
    have F_value_a0 := F_value_a0.other W7 (Or.inr (slot_ne (Or.inl w_76) (Or.inl w_100) (by decide) (t := (.array .byte)) (t' := .int) (by decide) (by decide)))
    have E_a1 := E_a1.wr W7
    have Y_d := Y_d.other W7 (Ne.symm ne_a0_d)
    have F_count_a0 : Fld Z h7 a0 "java/lang/AbstractStringBuilder" "count" "I" (.int (n + z)) := F_count_a0.same W7
    have N7 := Fr.snoc X7 N5 g_a0
    have K7 : Keep h0 h7 [a0, d] := K5.wr W7 (Or.inl (List.mem_of_getElem? (i := 0) rfl))
    have Z7 : n0 ≤ h7.size := Nat.le_trans Z5 (Keep.of_wr W7).1
    refine R.aloadN X7 hx (hb hby d13_43) rfl rfl (pc' := 44) rfl ?_
    rw [← hG]
    exact Rn.ret X7 (BodyLoose.notSynchronized Bd) (v := some (.ref a0)) (fun h => by rw [Bd.returns] at h; cases h) (Q := Q13 Z a0 a1 cs b z f d n g h0 n0) e7 (fun fs hr => retOut X7 hx (t := (.object "java/lang/AbstractStringBuilder")) Bd.returns rfl (Or.inr (Or.inr (Or.inr (Or.inr ⟨rfl, rfl, rfl⟩)))) (hb hby d13_44) hr) ⟨rfl, N7, K7, E_a0, F_coder_a0, F_value_a0, F_count_a0, Y_d⟩ (by decide) (by decide)
  exact (Rn.st (fun t k => castTop (ef_13 m a0 a1) k) first_ : Rn p e below (s₁.setTop (entryFrame m #[(.ref a0), (.ref a1)] 3)) (Fn13 Z a0 a1 cs b z f d n g h0 n0 s))
theorem d12_0 : decode jdk_67_method_7_code 0 = .ok (.aload_n 0, 1) := by decide +kernel
theorem d12_1 : decode jdk_67_method_7_code 1 = .ok (.aload_n 1, 1) := by decide +kernel
theorem d12_2 : decode jdk_67_method_7_code 2 = .ok (.invokespecial 29, 3) := by decide +kernel
theorem pd_10 : parseMethodDescriptor "(Ljava/lang/String;)Ljava/lang/AbstractStringBuilder;" = some ⟨[(.object "java/lang/String")], some (.object "java/lang/AbstractStringBuilder")⟩ := by decide +kernel
abbrev mY11 : MethodName := (⟨"java/lang/AbstractStringBuilder", "append", "(Ljava/lang/String;)Ljava/lang/AbstractStringBuilder;"⟩ : MethodName)
theorem d12_5 : decode jdk_67_method_7_code 5 = .ok (.pop, 1) := by decide +kernel
theorem d12_6 : decode jdk_67_method_7_code 6 = .ok (.aload_n 0, 1) := by decide +kernel
theorem d12_7 : decode jdk_67_method_7_code 7 = .ok (.areturn, 1) := by decide +kernel
theorem ef_12 (m : MethodId) (x0 : Addr) (x1 : Addr) : entryFrame m #[(.ref x0), (.ref x1)] 2 = mkF m 0 #[.val (.ref x0), .val (.ref x1)] [] := by first | (simp [entryFrame, mkF, argsToLocals, Value.category]; done) | rfl
def Q12 (Z : State) (a0 : Addr) (a1 : Addr) (cs : Int32) (b : Addr) (z : Int32) (f : Nat → Int32) (d : Addr) (n : Int32) (g : Nat → Int32) (h0 : Heap) (n0 : Nat) (vQ : Option Value) (hQ_ : Heap) (LQ : List Loc) : Prop := vQ = some (.ref a0) ∧ Fr n0 LQ ∧ Keep h0 hQ_ [a0, d] ∧ (Exa Z hQ_ a0 "java/lang/StringBuilder") ∧ (Fld Z hQ_ a0 "java/lang/AbstractStringBuilder" "coder" "B" (.int (0 : Int32))) ∧ (Fld Z hQ_ a0 "java/lang/AbstractStringBuilder" "value" "[B" (.ref d)) ∧ (Fld Z hQ_ a0 "java/lang/AbstractStringBuilder" "count" "I" (.int (n + z))) ∧ (own_By Z hQ_ d (16 : Int32) (own_cp g n.toInt.toNat z.toInt.toNat f (0 : Int32).toInt.toNat))
def Fn12 (Z : State) (a0 : Addr) (a1 : Addr) (cs : Int32) (b : Addr) (z : Int32) (f : Nat → Int32) (d : Addr) (n : Int32) (g : Nat → Int32) (h0 : Heap) (n0 : Nat) (sQ : State) (oQ : Outcome) (UQ : State) : Prop := ∃ vQ LQ, oQ = .returned vQ ∧ Q12 Z a0 a1 cs b z f d n g h0 n0 vQ UQ.heap LQ ∧ FrameEnd sQ oQ UQ LQ ({ frames := 4, cells := 0, slots := 0, locals := 61 } : Room).cells ({ frames := 4, cells := 0, slots := 0, locals := 61 } : Room).slots
set_option maxRecDepth 65536 in
set_option maxHeartbeats 40000000 in
theorem rm12 (l : Launch) (Z : State) (aZ : Array Value) (hw : ∀ d ∈ tables_1, d.before aZ Z = true) (ws : List Jvm.Cond) (a0 : Addr) (a1 : Addr) (cs : Int32) (b : Addr) (z : Int32) (f : Nat → Int32) (d : Addr) (n : Int32) (g : Nat → Int32) (h0 : Heap) (n0 : Nat) (Z0 : n0 ≤ h0.size) (OL : Old Z n0 h0) (CS : own_CS Z cs) (E_a0 : Exa Z h0 a0 "java/lang/StringBuilder") (F_coder_a0 : Fld Z h0 a0 "java/lang/AbstractStringBuilder" "coder" "B" (.int (0 : Int32))) (F_value_a0 : Fld Z h0 a0 "java/lang/AbstractStringBuilder" "value" "[B" (.ref d)) (F_count_a0 : Fld Z h0 a0 "java/lang/AbstractStringBuilder" "count" "I" (.int n)) (Y_d : own_By Z h0 d (16 : Int32) g) (g_a0 : n0 ≤ a0) (g_d : n0 ≤ d) (ne_a0_d : a0 ≠ d) (E_a1 : Exa Z h0 a1 "java/lang/String") (F_coder_a1 : Fld Z h0 a1 "java/lang/String" "coder" "B" (.int (0 : Int32))) (F_value_a1 : Fld Z h0 a1 "java/lang/String" "value" "[B" (.ref b)) (Y_b : own_By Z h0 b z f) (hr : 0 ≤ n.toInt ∧ n.toInt + z.toInt ≤ 16) :
    MetFree l (⟨"java/lang/StringBuilder", "append", "(Ljava/lang/String;)Ljava/lang/StringBuilder;"⟩ : MethodName) (head1 (Jvm.Cond.code (⟨"java/lang/StringBuilder", "append", "(Ljava/lang/String;)Ljava/lang/StringBuilder;"⟩ : MethodName) jdk_67_method_7_code 2 (some (.object "java/lang/StringBuilder")) :: ws) ({ frames := 4, cells := 0, slots := 0, locals := 61 } : Room)) (fun aQ UQ => aQ = #[(.ref a0), (.ref a1)] ∧ Z.Warmed39 UQ.vm ∧ UQ.heap = h0) (fun _ _ _ _ _ => True) (fun _ UQ oQ UR => ∃ vQ LQ, oQ = .returned vQ ∧ Q12 Z a0 a1 cs b z f d n g h0 n0 vQ UR.heap LQ ∧ FrameEnd UQ oQ UR LQ ({ frames := 4, cells := 0, slots := 0, locals := 61 } : Room).cells ({ frames := 4, cells := 0, slots := 0, locals := 61 } : Room).slots) := by
  refine MetFree.of_bodySF (plainFor_of_name pn_4) hisR ?_
  intro p e s m args below meth c s₁ Bd hml0 hP hK
  obtain ⟨rfl, hZ, hh⟩ := hP
  have hx := Bd.exec
  have hby := Bd.bytes
  have hml : c.maxLocals = 2 := hml0
  have hown : s.vm.findClass "java/lang/StringBuilder" = some m.cls := findClass_of_methodNamed Bd.named
  have hnm := (name_of_methodNamed Bd.named Bd.method).1
  have X0 : Stand p l e ({ frames := 4, cells := 0, slots := 0, locals := 61 } : Room) s m #[(.ref a0), (.ref a1)] below meth c s₁ [] 0 0 := Stand.of_body Bd
  have e0 : s₁.heap = h0 := by rw [← hh, Bd.state]; rfl
  have N0 := Fr.nil n0
  have K0 : Keep h0 h0 [a0, d] := Keep.refl _ _
  have w_71 := hw _ (List.mem_of_getElem? (i := 71) rfl)
  have w_84 := hw _ (List.mem_of_getElem? (i := 84) rfl)
  have w_85 := hw _ (List.mem_of_getElem? (i := 85) rfl)
  have w_86 := hw _ (List.mem_of_getElem? (i := 86) rfl)
  have w_88 := hw _ (List.mem_of_getElem? (i := 88) rfl)
  have w_104 := hw _ (List.mem_of_getElem? (i := 104) rfl)
  have first_ : Rn p e below (s₁.setTop (mkF m 0 #[.val (.ref a0), .val (.ref a1)] [])) (Fn12 Z a0 a1 cs b z f d n g h0 n0 s) := by
    generalize hG : (Fn12 Z a0 a1 cs b z f d n g h0 n0 s) = G
    refine R.aloadN X0 hx (hb hby d12_0) rfl rfl (pc' := 1) rfl ?_
    refine R.aloadN X0 hx (hb hby d12_1) rfl rfl (pc' := 2) rfl ?_
    refine R.superV X0 hx hZ (y := mY11) hown w_84 (own_same w_85 (own_nf (y := mY11) (y' := mY1) rfl w_104) (by decide)) w_85 w_86 (by decide) w_71 w_88 (by decide) e0 E_a0 (rm13 l Z aZ hw [] a0 a1 cs b z f d n g h0 n0 Z0 OL CS E_a0 F_coder_a0 F_value_a0 F_count_a0 Y_d g_a0 g_d ne_a0_d E_a1 F_coder_a1 F_value_a1 Y_b hr) (by decide) (W := 0) (Nat.le_of_eq rfl) (by decide) (by rw [hml]; rfl) (lenOf pd_10 rfl) rfl (hb hby d12_2) (pc' := 5) rfl (by decide) (by decide) ?_; intro v1 T1 L1 X1 hQ1
    obtain ⟨rfl, N1q, Kc1, P1_0, P1_1, P1_2, P1_3, P1_4⟩ := hQ1
    have N1 := Fr.app N0 N1q
    generalize e1 : T1.heap = h1 at Kc1 P1_0 P1_1 P1_2 P1_3 P1_4
    have K1 : Keep h0 h1 [a0, d] := K0.trans Kc1 ((allS (Or.inl (List.mem_of_getElem? (i := 0) rfl)) (allS (Or.inl (List.mem_of_getElem? (i := 1) rfl)) all0)))
    have Z1 : n0 ≤ h1.size := Nat.le_trans Z0 Kc1.1
    have OL := OL.keep Kc1 (allS g_a0 (allS g_d all0))
    have E_a1 := E_a1.keep Kc1
    have E_a0 : Exa Z h1 a0 "java/lang/StringBuilder" := P1_0
    have F_coder_a0 : Fld Z h1 a0 "java/lang/AbstractStringBuilder" "coder" "B" (.int (0 : Int32)) := P1_1
    have F_value_a0 : Fld Z h1 a0 "java/lang/AbstractStringBuilder" "value" "[B" (.ref d) := P1_2
    have F_count_a0 : Fld Z h1 a0 "java/lang/AbstractStringBuilder" "count" "I" (.int (n + z)) := P1_3
    have Y_d : own_By Z h1 d (16 : Int32) (own_cp g n.toInt.toNat z.toInt.toNat f (0 : Int32).toInt.toNat) := P1_4
    refine R.pop X1 hx (hb hby d12_5) rfl (pc' := 6) rfl ?_
    refine R.aloadN X1 hx (hb hby d12_6) rfl rfl (pc' := 7) rfl ?_
    rw [← hG]
    exact Rn.ret X1 (BodyLoose.notSynchronized Bd) (v := some (.ref a0)) (fun h => by rw [Bd.returns] at h; cases h) (Q := Q12 Z a0 a1 cs b z f d n g h0 n0) e1 (fun fs hr => retOut X1 hx (t := (.object "java/lang/StringBuilder")) Bd.returns rfl (Or.inr (Or.inr (Or.inr (Or.inr ⟨rfl, rfl, rfl⟩)))) (hb hby d12_7) hr) ⟨rfl, N1, K1, E_a0, F_coder_a0, F_value_a0, F_count_a0, Y_d⟩ (by decide) (by decide)
  exact (Rn.st (fun t k => castTop (ef_12 m a0 a1) k) first_ : Rn p e below (s₁.setTop (entryFrame m #[(.ref a0), (.ref a1)] 2)) (Fn12 Z a0 a1 cs b z f d n g h0 n0 s))
theorem d22_0 : decode jdk_33_method_13_code 0 = .ok (.iconst 1, 1) := by decide +kernel
theorem d22_1 : decode jdk_33_method_13_code 1 = .ok (.istore_n 1, 1) := by decide +kernel
theorem d22_2 : decode jdk_33_method_13_code 2 = .ok (.iload_n 0, 1) := by decide +kernel
theorem d22_3 : decode jdk_33_method_13_code 3 = .ok (.ifCond .lt 8, 3) := by decide +kernel
theorem d22_11 : decode jdk_33_method_13_code 11 = .ok (.bipush (-10), 2) := by decide +kernel
theorem d22_13 : decode jdk_33_method_13_code 13 = .ok (.istore_n 2, 1) := by decide +kernel
theorem d22_14 : decode jdk_33_method_13_code 14 = .ok (.iconst 1, 1) := by decide +kernel
theorem d22_15 : decode jdk_33_method_13_code 15 = .ok (.istore_n 3, 1) := by decide +kernel
theorem d22_16 : decode jdk_33_method_13_code 16 = .ok (.iload_n 3, 1) := by decide +kernel
theorem d22_17 : decode jdk_33_method_13_code 17 = .ok (.bipush 10, 2) := by decide +kernel
theorem d22_19 : decode jdk_33_method_13_code 19 = .ok (.if_icmp .ge 23, 3) := by decide +kernel
theorem d22_22 : decode jdk_33_method_13_code 22 = .ok (.iload_n 0, 1) := by decide +kernel
theorem d22_23 : decode jdk_33_method_13_code 23 = .ok (.iload_n 2, 1) := by decide +kernel
theorem d22_24 : decode jdk_33_method_13_code 24 = .ok (.if_icmp .le 7, 3) := by decide +kernel
theorem d22_27 : decode jdk_33_method_13_code 27 = .ok (.iload_n 3, 1) := by decide +kernel
theorem d22_28 : decode jdk_33_method_13_code 28 = .ok (.iload_n 1, 1) := by decide +kernel
theorem d22_29 : decode jdk_33_method_13_code 29 = .ok (.iadd, 1) := by decide +kernel
theorem d22_30 : decode jdk_33_method_13_code 30 = .ok (.ireturn, 1) := by decide +kernel
theorem d22_31 : decode jdk_33_method_13_code 31 = .ok (.bipush 10, 2) := by decide +kernel
theorem d22_33 : decode jdk_33_method_13_code 33 = .ok (.iload_n 2, 1) := by decide +kernel
theorem d22_34 : decode jdk_33_method_13_code 34 = .ok (.imul, 1) := by decide +kernel
theorem d22_35 : decode jdk_33_method_13_code 35 = .ok (.istore_n 2, 1) := by decide +kernel
theorem d22_36 : decode jdk_33_method_13_code 36 = .ok (.iinc 3 1, 3) := by decide +kernel
theorem d22_39 : decode jdk_33_method_13_code 39 = .ok (.goto (-23), 3) := by decide +kernel
theorem d22_42 : decode jdk_33_method_13_code 42 = .ok (.bipush 10, 2) := by decide +kernel
theorem d22_44 : decode jdk_33_method_13_code 44 = .ok (.iload_n 1, 1) := by decide +kernel
theorem d22_45 : decode jdk_33_method_13_code 45 = .ok (.iadd, 1) := by decide +kernel
theorem d22_46 : decode jdk_33_method_13_code 46 = .ok (.ireturn, 1) := by decide +kernel
theorem d22_6 : decode jdk_33_method_13_code 6 = .ok (.iconst 0, 1) := by decide +kernel
theorem d22_7 : decode jdk_33_method_13_code 7 = .ok (.istore_n 1, 1) := by decide +kernel
theorem d22_8 : decode jdk_33_method_13_code 8 = .ok (.iload_n 0, 1) := by decide +kernel
theorem d22_9 : decode jdk_33_method_13_code 9 = .ok (.ineg, 1) := by decide +kernel
theorem d22_10 : decode jdk_33_method_13_code 10 = .ok (.istore_n 0, 1) := by decide +kernel
theorem pn_6 : plainName "java/lang/Integer" = true := by first | (simp [plainName, overriddenIn]; done) | decide +kernel
theorem ef_22 (m : MethodId) (x0 : Int32) : entryFrame m #[(.int x0)] 4 = mkF m 0 #[.val (.int x0), .unset, .unset, .unset] [] := by first | (simp [entryFrame, mkF, argsToLocals, Value.category]; done) | rfl
def Q22 (Z : State) (p0 : Int32) (h0 : Heap) (n0 : Nat) (vQ : Option Value) (hQ_ : Heap) (LQ : List Loc) : Prop := ∃ r : Int32, vQ = some (.int r) ∧ Fr n0 LQ ∧ hQ_ = h0 ∧ (own_SZ p0.toInt r)
def Fn22 (Z : State) (p0 : Int32) (h0 : Heap) (n0 : Nat) (sQ : State) (oQ : Outcome) (UQ : State) : Prop := ∃ vQ LQ, oQ = .returned vQ ∧ Q22 Z p0 h0 n0 vQ UQ.heap LQ ∧ FrameEnd sQ oQ UQ LQ ({ frames := 0, cells := 0, slots := 0, locals := 0 } : Room).cells ({ frames := 0, cells := 0, slots := 0, locals := 0 } : Room).slots
set_option maxRecDepth 65536 in
set_option maxHeartbeats 40000000 in
theorem rm22 (l : Launch) (Z : State) (aZ : Array Value) (hw : ∀ d ∈ tables_1, d.before aZ Z = true) (ws : List Jvm.Cond) (p0 : Int32) (h0 : Heap) (n0 : Nat) (Z0 : n0 ≤ h0.size) :
    MetFree l (⟨"java/lang/Integer", "stringSize", "(I)I"⟩ : MethodName) (head1 (Jvm.Cond.code (⟨"java/lang/Integer", "stringSize", "(I)I"⟩ : MethodName) jdk_33_method_13_code 4 (some .int) :: ws) ({ frames := 0, cells := 0, slots := 0, locals := 0 } : Room)) (fun aQ UQ => aQ = #[(.int p0)] ∧ Z.Warmed39 UQ.vm ∧ UQ.heap = h0) (fun _ _ _ _ _ => True) (fun _ UQ oQ UR => ∃ vQ LQ, oQ = .returned vQ ∧ Q22 Z p0 h0 n0 vQ UR.heap LQ ∧ FrameEnd UQ oQ UR LQ ({ frames := 0, cells := 0, slots := 0, locals := 0 } : Room).cells ({ frames := 0, cells := 0, slots := 0, locals := 0 } : Room).slots) := by
  refine MetFree.of_bodySF (plainFor_of_name pn_6) hisR ?_
  intro p e s m args below meth c s₁ Bd hml0 hP hK
  obtain ⟨rfl, hZ, hh⟩ := hP
  have hx := Bd.exec
  have hby := Bd.bytes
  have hml : c.maxLocals = 4 := hml0
  have hown : s.vm.findClass "java/lang/Integer" = some m.cls := findClass_of_methodNamed Bd.named
  have hnm := (name_of_methodNamed Bd.named Bd.method).1
  have X0 : Stand p l e ({ frames := 0, cells := 0, slots := 0, locals := 0 } : Room) s m #[(.int p0)] below meth c s₁ [] 0 0 := Stand.of_body Bd
  have e0 : s₁.heap = h0 := by rw [← hh, Bd.state]; rfl
  have N0 := Fr.nil n0
  have K0 : Keep h0 h0 [] := Keep.refl _ _
  have first_ : Rn p e below (s₁.setTop (mkF m 0 #[.val (.int p0), .unset, .unset, .unset] [])) (Fn22 Z p0 h0 n0 s) := by
    generalize hG : (Fn22 Z p0 h0 n0 s) = G
    refine R.iconst X0 hx (hb hby d22_0) (v := (1 : Int32)) (by decide) (pc' := 1) rfl ?_
    refine R.istoreN X0 hx (hb hby d22_1) (L' := #[.val (.int p0), .val (.int (1 : Int32)), .unset, .unset]) rfl (pc' := 2) rfl ?_
    refine R.iloadN X0 hx (hb hby d22_2) rfl (pc' := 3) rfl ?_
    by_cases hc3 : p0 < (0 : Int32)
    · refine R.ifYes X0 hx (hb hby d22_3) (tlt hc3).1 (by decide) (pc' := 11) (by decide) ?_
      have hneg : p0.toInt < 0 := own_lt0 hc3
      have hxx : p0.toInt = p0.toInt := rfl
      refine R.bipush X0 hx (hb hby d22_11) (v := (-10 : Int32)) (by decide) (pc' := 13) rfl ?_
      refine R.istoreN X0 hx (hb hby d22_13) (L' := #[.val (.int p0), .val (.int (1 : Int32)), .val (.int (-10 : Int32)), .unset]) rfl (pc' := 14) rfl ?_
      refine R.iconst X0 hx (hb hby d22_14) (v := (1 : Int32)) (by decide) (pc' := 15) rfl ?_
      refine R.istoreN X0 hx (hb hby d22_15) (L' := #[.val (.int p0), .val (.int (1 : Int32)), .val (.int (-10 : Int32)), .val (.int (1 : Int32))]) rfl (pc' := 16) rfl ?_
      refine R.iloadN X0 hx (hb hby d22_16) rfl (pc' := 17) rfl ?_
      refine R.bipush X0 hx (hb hby d22_17) (v := (10 : Int32)) (by decide) (pc' := 19) rfl ?_
      refine R.icmpNo X0 hx (hb hby d22_19) (tlt (by decide : (1 : Int32) < (10 : Int32))).2.1 (pc' := 22) rfl ?_
      refine R.iloadN X0 hx (hb hby d22_22) rfl (pc' := 23) rfl ?_
      refine R.iloadN X0 hx (hb hby d22_23) rfl (pc' := 24) rfl ?_
      by_cases hc24 : (-10 : Int32) < p0
      · refine R.icmpNo X0 hx (hb hby d22_24) (tlt hc24).2.2.2 (pc' := 27) rfl ?_
        have up1 : (-10 : Int) < p0.toInt := own_ltL (by decide) hc24
        refine R.iloadN X0 hx (hb hby d22_27) rfl (pc' := 28) rfl ?_
        refine R.iloadN X0 hx (hb hby d22_28) rfl (pc' := 29) rfl ?_
        refine R.iadd X0 hx (hb hby d22_29) (v := (2 : Int32)) (by decide) (pc' := 30) rfl ?_
        rw [← hG]
        exact Rn.ret X0 (BodyLoose.notSynchronized Bd) (v := some (.int (2 : Int32))) (fun h => by rw [Bd.returns] at h; cases h) (Q := Q22 Z p0 h0 n0) e0 (fun fs hr => retOut X0 hx (t := .int) Bd.returns rfl (Or.inl ⟨rfl, Or.inl rfl, _, rfl⟩) (hb hby d22_30) hr) ⟨(2 : Int32), rfl, N0, rfl, (⟨1, ⟨by decide, by decide, by have q := own_b p0; omega, by omega⟩, by unfold own_sg; rw [if_pos (by omega)]; decide⟩)⟩ (by decide) (by decide)
      · refine R.icmpYes X0 hx (hb hby d22_24) (flt hc24).2.2.2 (by decide) (pc' := 31) (by decide) ?_
        have lo1 : ¬ (-10 : Int) < p0.toInt := own_nltL (by decide) hc24
        refine R.bipush X0 hx (hb hby d22_31) (v := (10 : Int32)) (by decide) (pc' := 33) rfl ?_
        refine R.iloadN X0 hx (hb hby d22_33) rfl (pc' := 34) rfl ?_
        refine R.imul X0 hx (hb hby d22_34) (v := (-100 : Int32)) (by decide) (pc' := 35) rfl ?_
        refine R.istoreN X0 hx (hb hby d22_35) (L' := #[.val (.int p0), .val (.int (1 : Int32)), .val (.int (-100 : Int32)), .val (.int (1 : Int32))]) rfl (pc' := 36) rfl ?_
        refine R.iinc X0 hx (hb hby d22_36) rfl (L' := #[.val (.int p0), .val (.int (1 : Int32)), .val (.int (-100 : Int32)), .val (.int (2 : Int32))]) rfl (pc' := 39) rfl ?_
        refine R.goto X0 hx (hb hby d22_39) (by decide) (pc' := 16) (by decide) ?_
        refine R.iloadN X0 hx (hb hby d22_16) rfl (pc' := 17) rfl ?_
        refine R.bipush X0 hx (hb hby d22_17) (v := (10 : Int32)) (by decide) (pc' := 19) rfl ?_
        refine R.icmpNo X0 hx (hb hby d22_19) (tlt (by decide : (2 : Int32) < (10 : Int32))).2.1 (pc' := 22) rfl ?_
        refine R.iloadN X0 hx (hb hby d22_22) rfl (pc' := 23) rfl ?_
        refine R.iloadN X0 hx (hb hby d22_23) rfl (pc' := 24) rfl ?_
        by_cases hc24 : (-100 : Int32) < p0
        · refine R.icmpNo X0 hx (hb hby d22_24) (tlt hc24).2.2.2 (pc' := 27) rfl ?_
          have up2 : (-100 : Int) < p0.toInt := own_ltL (by decide) hc24
          refine R.iloadN X0 hx (hb hby d22_27) rfl (pc' := 28) rfl ?_
          refine R.iloadN X0 hx (hb hby d22_28) rfl (pc' := 29) rfl ?_
          refine R.iadd X0 hx (hb hby d22_29) (v := (3 : Int32)) (by decide) (pc' := 30) rfl ?_
          rw [← hG]
          exact Rn.ret X0 (BodyLoose.notSynchronized Bd) (v := some (.int (3 : Int32))) (fun h => by rw [Bd.returns] at h; cases h) (Q := Q22 Z p0 h0 n0) e0 (fun fs hr => retOut X0 hx (t := .int) Bd.returns rfl (Or.inl ⟨rfl, Or.inl rfl, _, rfl⟩) (hb hby d22_30) hr) ⟨(3 : Int32), rfl, N0, rfl, (⟨2, ⟨by decide, by decide, by have q := own_b p0; omega, by omega⟩, by unfold own_sg; rw [if_pos (by omega)]; decide⟩)⟩ (by decide) (by decide)
        · refine R.icmpYes X0 hx (hb hby d22_24) (flt hc24).2.2.2 (by decide) (pc' := 31) (by decide) ?_
          have lo2 : ¬ (-100 : Int) < p0.toInt := own_nltL (by decide) hc24
          refine R.bipush X0 hx (hb hby d22_31) (v := (10 : Int32)) (by decide) (pc' := 33) rfl ?_
          refine R.iloadN X0 hx (hb hby d22_33) rfl (pc' := 34) rfl ?_
          refine R.imul X0 hx (hb hby d22_34) (v := (-1000 : Int32)) (by decide) (pc' := 35) rfl ?_
          refine R.istoreN X0 hx (hb hby d22_35) (L' := #[.val (.int p0), .val (.int (1 : Int32)), .val (.int (-1000 : Int32)), .val (.int (2 : Int32))]) rfl (pc' := 36) rfl ?_
          refine R.iinc X0 hx (hb hby d22_36) rfl (L' := #[.val (.int p0), .val (.int (1 : Int32)), .val (.int (-1000 : Int32)), .val (.int (3 : Int32))]) rfl (pc' := 39) rfl ?_
          refine R.goto X0 hx (hb hby d22_39) (by decide) (pc' := 16) (by decide) ?_
          refine R.iloadN X0 hx (hb hby d22_16) rfl (pc' := 17) rfl ?_
          refine R.bipush X0 hx (hb hby d22_17) (v := (10 : Int32)) (by decide) (pc' := 19) rfl ?_
          refine R.icmpNo X0 hx (hb hby d22_19) (tlt (by decide : (3 : Int32) < (10 : Int32))).2.1 (pc' := 22) rfl ?_
          refine R.iloadN X0 hx (hb hby d22_22) rfl (pc' := 23) rfl ?_
          refine R.iloadN X0 hx (hb hby d22_23) rfl (pc' := 24) rfl ?_
          by_cases hc24 : (-1000 : Int32) < p0
          · refine R.icmpNo X0 hx (hb hby d22_24) (tlt hc24).2.2.2 (pc' := 27) rfl ?_
            have up3 : (-1000 : Int) < p0.toInt := own_ltL (by decide) hc24
            refine R.iloadN X0 hx (hb hby d22_27) rfl (pc' := 28) rfl ?_
            refine R.iloadN X0 hx (hb hby d22_28) rfl (pc' := 29) rfl ?_
            refine R.iadd X0 hx (hb hby d22_29) (v := (4 : Int32)) (by decide) (pc' := 30) rfl ?_
            rw [← hG]
            exact Rn.ret X0 (BodyLoose.notSynchronized Bd) (v := some (.int (4 : Int32))) (fun h => by rw [Bd.returns] at h; cases h) (Q := Q22 Z p0 h0 n0) e0 (fun fs hr => retOut X0 hx (t := .int) Bd.returns rfl (Or.inl ⟨rfl, Or.inl rfl, _, rfl⟩) (hb hby d22_30) hr) ⟨(4 : Int32), rfl, N0, rfl, (⟨3, ⟨by decide, by decide, by have q := own_b p0; omega, by omega⟩, by unfold own_sg; rw [if_pos (by omega)]; decide⟩)⟩ (by decide) (by decide)
          · refine R.icmpYes X0 hx (hb hby d22_24) (flt hc24).2.2.2 (by decide) (pc' := 31) (by decide) ?_
            have lo3 : ¬ (-1000 : Int) < p0.toInt := own_nltL (by decide) hc24
            refine R.bipush X0 hx (hb hby d22_31) (v := (10 : Int32)) (by decide) (pc' := 33) rfl ?_
            refine R.iloadN X0 hx (hb hby d22_33) rfl (pc' := 34) rfl ?_
            refine R.imul X0 hx (hb hby d22_34) (v := (-10000 : Int32)) (by decide) (pc' := 35) rfl ?_
            refine R.istoreN X0 hx (hb hby d22_35) (L' := #[.val (.int p0), .val (.int (1 : Int32)), .val (.int (-10000 : Int32)), .val (.int (3 : Int32))]) rfl (pc' := 36) rfl ?_
            refine R.iinc X0 hx (hb hby d22_36) rfl (L' := #[.val (.int p0), .val (.int (1 : Int32)), .val (.int (-10000 : Int32)), .val (.int (4 : Int32))]) rfl (pc' := 39) rfl ?_
            refine R.goto X0 hx (hb hby d22_39) (by decide) (pc' := 16) (by decide) ?_
            refine R.iloadN X0 hx (hb hby d22_16) rfl (pc' := 17) rfl ?_
            refine R.bipush X0 hx (hb hby d22_17) (v := (10 : Int32)) (by decide) (pc' := 19) rfl ?_
            refine R.icmpNo X0 hx (hb hby d22_19) (tlt (by decide : (4 : Int32) < (10 : Int32))).2.1 (pc' := 22) rfl ?_
            refine R.iloadN X0 hx (hb hby d22_22) rfl (pc' := 23) rfl ?_
            refine R.iloadN X0 hx (hb hby d22_23) rfl (pc' := 24) rfl ?_
            by_cases hc24 : (-10000 : Int32) < p0
            · refine R.icmpNo X0 hx (hb hby d22_24) (tlt hc24).2.2.2 (pc' := 27) rfl ?_
              have up4 : (-10000 : Int) < p0.toInt := own_ltL (by decide) hc24
              refine R.iloadN X0 hx (hb hby d22_27) rfl (pc' := 28) rfl ?_
              refine R.iloadN X0 hx (hb hby d22_28) rfl (pc' := 29) rfl ?_
              refine R.iadd X0 hx (hb hby d22_29) (v := (5 : Int32)) (by decide) (pc' := 30) rfl ?_
              rw [← hG]
              exact Rn.ret X0 (BodyLoose.notSynchronized Bd) (v := some (.int (5 : Int32))) (fun h => by rw [Bd.returns] at h; cases h) (Q := Q22 Z p0 h0 n0) e0 (fun fs hr => retOut X0 hx (t := .int) Bd.returns rfl (Or.inl ⟨rfl, Or.inl rfl, _, rfl⟩) (hb hby d22_30) hr) ⟨(5 : Int32), rfl, N0, rfl, (⟨4, ⟨by decide, by decide, by have q := own_b p0; omega, by omega⟩, by unfold own_sg; rw [if_pos (by omega)]; decide⟩)⟩ (by decide) (by decide)
            · refine R.icmpYes X0 hx (hb hby d22_24) (flt hc24).2.2.2 (by decide) (pc' := 31) (by decide) ?_
              have lo4 : ¬ (-10000 : Int) < p0.toInt := own_nltL (by decide) hc24
              refine R.bipush X0 hx (hb hby d22_31) (v := (10 : Int32)) (by decide) (pc' := 33) rfl ?_
              refine R.iloadN X0 hx (hb hby d22_33) rfl (pc' := 34) rfl ?_
              refine R.imul X0 hx (hb hby d22_34) (v := (-100000 : Int32)) (by decide) (pc' := 35) rfl ?_
              refine R.istoreN X0 hx (hb hby d22_35) (L' := #[.val (.int p0), .val (.int (1 : Int32)), .val (.int (-100000 : Int32)), .val (.int (4 : Int32))]) rfl (pc' := 36) rfl ?_
              refine R.iinc X0 hx (hb hby d22_36) rfl (L' := #[.val (.int p0), .val (.int (1 : Int32)), .val (.int (-100000 : Int32)), .val (.int (5 : Int32))]) rfl (pc' := 39) rfl ?_
              refine R.goto X0 hx (hb hby d22_39) (by decide) (pc' := 16) (by decide) ?_
              refine R.iloadN X0 hx (hb hby d22_16) rfl (pc' := 17) rfl ?_
              refine R.bipush X0 hx (hb hby d22_17) (v := (10 : Int32)) (by decide) (pc' := 19) rfl ?_
              refine R.icmpNo X0 hx (hb hby d22_19) (tlt (by decide : (5 : Int32) < (10 : Int32))).2.1 (pc' := 22) rfl ?_
              refine R.iloadN X0 hx (hb hby d22_22) rfl (pc' := 23) rfl ?_
              refine R.iloadN X0 hx (hb hby d22_23) rfl (pc' := 24) rfl ?_
              by_cases hc24 : (-100000 : Int32) < p0
              · refine R.icmpNo X0 hx (hb hby d22_24) (tlt hc24).2.2.2 (pc' := 27) rfl ?_
                have up5 : (-100000 : Int) < p0.toInt := own_ltL (by decide) hc24
                refine R.iloadN X0 hx (hb hby d22_27) rfl (pc' := 28) rfl ?_
                refine R.iloadN X0 hx (hb hby d22_28) rfl (pc' := 29) rfl ?_
                refine R.iadd X0 hx (hb hby d22_29) (v := (6 : Int32)) (by decide) (pc' := 30) rfl ?_
                rw [← hG]
                exact Rn.ret X0 (BodyLoose.notSynchronized Bd) (v := some (.int (6 : Int32))) (fun h => by rw [Bd.returns] at h; cases h) (Q := Q22 Z p0 h0 n0) e0 (fun fs hr => retOut X0 hx (t := .int) Bd.returns rfl (Or.inl ⟨rfl, Or.inl rfl, _, rfl⟩) (hb hby d22_30) hr) ⟨(6 : Int32), rfl, N0, rfl, (⟨5, ⟨by decide, by decide, by have q := own_b p0; omega, by omega⟩, by unfold own_sg; rw [if_pos (by omega)]; decide⟩)⟩ (by decide) (by decide)
              · refine R.icmpYes X0 hx (hb hby d22_24) (flt hc24).2.2.2 (by decide) (pc' := 31) (by decide) ?_
                have lo5 : ¬ (-100000 : Int) < p0.toInt := own_nltL (by decide) hc24
                refine R.bipush X0 hx (hb hby d22_31) (v := (10 : Int32)) (by decide) (pc' := 33) rfl ?_
                refine R.iloadN X0 hx (hb hby d22_33) rfl (pc' := 34) rfl ?_
                refine R.imul X0 hx (hb hby d22_34) (v := (-1000000 : Int32)) (by decide) (pc' := 35) rfl ?_
                refine R.istoreN X0 hx (hb hby d22_35) (L' := #[.val (.int p0), .val (.int (1 : Int32)), .val (.int (-1000000 : Int32)), .val (.int (5 : Int32))]) rfl (pc' := 36) rfl ?_
                refine R.iinc X0 hx (hb hby d22_36) rfl (L' := #[.val (.int p0), .val (.int (1 : Int32)), .val (.int (-1000000 : Int32)), .val (.int (6 : Int32))]) rfl (pc' := 39) rfl ?_
                refine R.goto X0 hx (hb hby d22_39) (by decide) (pc' := 16) (by decide) ?_
                refine R.iloadN X0 hx (hb hby d22_16) rfl (pc' := 17) rfl ?_
                refine R.bipush X0 hx (hb hby d22_17) (v := (10 : Int32)) (by decide) (pc' := 19) rfl ?_
                refine R.icmpNo X0 hx (hb hby d22_19) (tlt (by decide : (6 : Int32) < (10 : Int32))).2.1 (pc' := 22) rfl ?_
                refine R.iloadN X0 hx (hb hby d22_22) rfl (pc' := 23) rfl ?_
                refine R.iloadN X0 hx (hb hby d22_23) rfl (pc' := 24) rfl ?_
                by_cases hc24 : (-1000000 : Int32) < p0
                · refine R.icmpNo X0 hx (hb hby d22_24) (tlt hc24).2.2.2 (pc' := 27) rfl ?_
                  have up6 : (-1000000 : Int) < p0.toInt := own_ltL (by decide) hc24
                  refine R.iloadN X0 hx (hb hby d22_27) rfl (pc' := 28) rfl ?_
                  refine R.iloadN X0 hx (hb hby d22_28) rfl (pc' := 29) rfl ?_
                  refine R.iadd X0 hx (hb hby d22_29) (v := (7 : Int32)) (by decide) (pc' := 30) rfl ?_
                  rw [← hG]
                  exact Rn.ret X0 (BodyLoose.notSynchronized Bd) (v := some (.int (7 : Int32))) (fun h => by rw [Bd.returns] at h; cases h) (Q := Q22 Z p0 h0 n0) e0 (fun fs hr => retOut X0 hx (t := .int) Bd.returns rfl (Or.inl ⟨rfl, Or.inl rfl, _, rfl⟩) (hb hby d22_30) hr) ⟨(7 : Int32), rfl, N0, rfl, (⟨6, ⟨by decide, by decide, by have q := own_b p0; omega, by omega⟩, by unfold own_sg; rw [if_pos (by omega)]; decide⟩)⟩ (by decide) (by decide)
                · refine R.icmpYes X0 hx (hb hby d22_24) (flt hc24).2.2.2 (by decide) (pc' := 31) (by decide) ?_
                  have lo6 : ¬ (-1000000 : Int) < p0.toInt := own_nltL (by decide) hc24
                  refine R.bipush X0 hx (hb hby d22_31) (v := (10 : Int32)) (by decide) (pc' := 33) rfl ?_
                  refine R.iloadN X0 hx (hb hby d22_33) rfl (pc' := 34) rfl ?_
                  refine R.imul X0 hx (hb hby d22_34) (v := (-10000000 : Int32)) (by decide) (pc' := 35) rfl ?_
                  refine R.istoreN X0 hx (hb hby d22_35) (L' := #[.val (.int p0), .val (.int (1 : Int32)), .val (.int (-10000000 : Int32)), .val (.int (6 : Int32))]) rfl (pc' := 36) rfl ?_
                  refine R.iinc X0 hx (hb hby d22_36) rfl (L' := #[.val (.int p0), .val (.int (1 : Int32)), .val (.int (-10000000 : Int32)), .val (.int (7 : Int32))]) rfl (pc' := 39) rfl ?_
                  refine R.goto X0 hx (hb hby d22_39) (by decide) (pc' := 16) (by decide) ?_
                  refine R.iloadN X0 hx (hb hby d22_16) rfl (pc' := 17) rfl ?_
                  refine R.bipush X0 hx (hb hby d22_17) (v := (10 : Int32)) (by decide) (pc' := 19) rfl ?_
                  refine R.icmpNo X0 hx (hb hby d22_19) (tlt (by decide : (7 : Int32) < (10 : Int32))).2.1 (pc' := 22) rfl ?_
                  refine R.iloadN X0 hx (hb hby d22_22) rfl (pc' := 23) rfl ?_
                  refine R.iloadN X0 hx (hb hby d22_23) rfl (pc' := 24) rfl ?_
                  by_cases hc24 : (-10000000 : Int32) < p0
                  · refine R.icmpNo X0 hx (hb hby d22_24) (tlt hc24).2.2.2 (pc' := 27) rfl ?_
                    have up7 : (-10000000 : Int) < p0.toInt := own_ltL (by decide) hc24
                    refine R.iloadN X0 hx (hb hby d22_27) rfl (pc' := 28) rfl ?_
                    refine R.iloadN X0 hx (hb hby d22_28) rfl (pc' := 29) rfl ?_
                    refine R.iadd X0 hx (hb hby d22_29) (v := (8 : Int32)) (by decide) (pc' := 30) rfl ?_
                    rw [← hG]
                    exact Rn.ret X0 (BodyLoose.notSynchronized Bd) (v := some (.int (8 : Int32))) (fun h => by rw [Bd.returns] at h; cases h) (Q := Q22 Z p0 h0 n0) e0 (fun fs hr => retOut X0 hx (t := .int) Bd.returns rfl (Or.inl ⟨rfl, Or.inl rfl, _, rfl⟩) (hb hby d22_30) hr) ⟨(8 : Int32), rfl, N0, rfl, (⟨7, ⟨by decide, by decide, by have q := own_b p0; omega, by omega⟩, by unfold own_sg; rw [if_pos (by omega)]; decide⟩)⟩ (by decide) (by decide)
                  · refine R.icmpYes X0 hx (hb hby d22_24) (flt hc24).2.2.2 (by decide) (pc' := 31) (by decide) ?_
                    have lo7 : ¬ (-10000000 : Int) < p0.toInt := own_nltL (by decide) hc24
                    refine R.bipush X0 hx (hb hby d22_31) (v := (10 : Int32)) (by decide) (pc' := 33) rfl ?_
                    refine R.iloadN X0 hx (hb hby d22_33) rfl (pc' := 34) rfl ?_
                    refine R.imul X0 hx (hb hby d22_34) (v := (-100000000 : Int32)) (by decide) (pc' := 35) rfl ?_
                    refine R.istoreN X0 hx (hb hby d22_35) (L' := #[.val (.int p0), .val (.int (1 : Int32)), .val (.int (-100000000 : Int32)), .val (.int (7 : Int32))]) rfl (pc' := 36) rfl ?_
                    refine R.iinc X0 hx (hb hby d22_36) rfl (L' := #[.val (.int p0), .val (.int (1 : Int32)), .val (.int (-100000000 : Int32)), .val (.int (8 : Int32))]) rfl (pc' := 39) rfl ?_
                    refine R.goto X0 hx (hb hby d22_39) (by decide) (pc' := 16) (by decide) ?_
                    refine R.iloadN X0 hx (hb hby d22_16) rfl (pc' := 17) rfl ?_
                    refine R.bipush X0 hx (hb hby d22_17) (v := (10 : Int32)) (by decide) (pc' := 19) rfl ?_
                    refine R.icmpNo X0 hx (hb hby d22_19) (tlt (by decide : (8 : Int32) < (10 : Int32))).2.1 (pc' := 22) rfl ?_
                    refine R.iloadN X0 hx (hb hby d22_22) rfl (pc' := 23) rfl ?_
                    refine R.iloadN X0 hx (hb hby d22_23) rfl (pc' := 24) rfl ?_
                    by_cases hc24 : (-100000000 : Int32) < p0
                    · refine R.icmpNo X0 hx (hb hby d22_24) (tlt hc24).2.2.2 (pc' := 27) rfl ?_
                      have up8 : (-100000000 : Int) < p0.toInt := own_ltL (by decide) hc24
                      refine R.iloadN X0 hx (hb hby d22_27) rfl (pc' := 28) rfl ?_
                      refine R.iloadN X0 hx (hb hby d22_28) rfl (pc' := 29) rfl ?_
                      refine R.iadd X0 hx (hb hby d22_29) (v := (9 : Int32)) (by decide) (pc' := 30) rfl ?_
                      rw [← hG]
                      exact Rn.ret X0 (BodyLoose.notSynchronized Bd) (v := some (.int (9 : Int32))) (fun h => by rw [Bd.returns] at h; cases h) (Q := Q22 Z p0 h0 n0) e0 (fun fs hr => retOut X0 hx (t := .int) Bd.returns rfl (Or.inl ⟨rfl, Or.inl rfl, _, rfl⟩) (hb hby d22_30) hr) ⟨(9 : Int32), rfl, N0, rfl, (⟨8, ⟨by decide, by decide, by have q := own_b p0; omega, by omega⟩, by unfold own_sg; rw [if_pos (by omega)]; decide⟩)⟩ (by decide) (by decide)
                    · refine R.icmpYes X0 hx (hb hby d22_24) (flt hc24).2.2.2 (by decide) (pc' := 31) (by decide) ?_
                      have lo8 : ¬ (-100000000 : Int) < p0.toInt := own_nltL (by decide) hc24
                      refine R.bipush X0 hx (hb hby d22_31) (v := (10 : Int32)) (by decide) (pc' := 33) rfl ?_
                      refine R.iloadN X0 hx (hb hby d22_33) rfl (pc' := 34) rfl ?_
                      refine R.imul X0 hx (hb hby d22_34) (v := (-1000000000 : Int32)) (by decide) (pc' := 35) rfl ?_
                      refine R.istoreN X0 hx (hb hby d22_35) (L' := #[.val (.int p0), .val (.int (1 : Int32)), .val (.int (-1000000000 : Int32)), .val (.int (8 : Int32))]) rfl (pc' := 36) rfl ?_
                      refine R.iinc X0 hx (hb hby d22_36) rfl (L' := #[.val (.int p0), .val (.int (1 : Int32)), .val (.int (-1000000000 : Int32)), .val (.int (9 : Int32))]) rfl (pc' := 39) rfl ?_
                      refine R.goto X0 hx (hb hby d22_39) (by decide) (pc' := 16) (by decide) ?_
                      refine R.iloadN X0 hx (hb hby d22_16) rfl (pc' := 17) rfl ?_
                      refine R.bipush X0 hx (hb hby d22_17) (v := (10 : Int32)) (by decide) (pc' := 19) rfl ?_
                      refine R.icmpNo X0 hx (hb hby d22_19) (tlt (by decide : (9 : Int32) < (10 : Int32))).2.1 (pc' := 22) rfl ?_
                      refine R.iloadN X0 hx (hb hby d22_22) rfl (pc' := 23) rfl ?_
                      refine R.iloadN X0 hx (hb hby d22_23) rfl (pc' := 24) rfl ?_
                      by_cases hc24 : (-1000000000 : Int32) < p0
                      · refine R.icmpNo X0 hx (hb hby d22_24) (tlt hc24).2.2.2 (pc' := 27) rfl ?_
                        have up9 : (-1000000000 : Int) < p0.toInt := own_ltL (by decide) hc24
                        refine R.iloadN X0 hx (hb hby d22_27) rfl (pc' := 28) rfl ?_
                        refine R.iloadN X0 hx (hb hby d22_28) rfl (pc' := 29) rfl ?_
                        refine R.iadd X0 hx (hb hby d22_29) (v := (10 : Int32)) (by decide) (pc' := 30) rfl ?_
                        rw [← hG]
                        exact Rn.ret X0 (BodyLoose.notSynchronized Bd) (v := some (.int (10 : Int32))) (fun h => by rw [Bd.returns] at h; cases h) (Q := Q22 Z p0 h0 n0) e0 (fun fs hr => retOut X0 hx (t := .int) Bd.returns rfl (Or.inl ⟨rfl, Or.inl rfl, _, rfl⟩) (hb hby d22_30) hr) ⟨(10 : Int32), rfl, N0, rfl, (⟨9, ⟨by decide, by decide, by have q := own_b p0; omega, by omega⟩, by unfold own_sg; rw [if_pos (by omega)]; decide⟩)⟩ (by decide) (by decide)
                      · refine R.icmpYes X0 hx (hb hby d22_24) (flt hc24).2.2.2 (by decide) (pc' := 31) (by decide) ?_
                        have lo9 : ¬ (-1000000000 : Int) < p0.toInt := own_nltL (by decide) hc24
                        refine R.bipush X0 hx (hb hby d22_31) (v := (10 : Int32)) (by decide) (pc' := 33) rfl ?_
                        refine R.iloadN X0 hx (hb hby d22_33) rfl (pc' := 34) rfl ?_
                        refine R.imul X0 hx (hb hby d22_34) (v := (-10000000000 : Int32)) (by decide) (pc' := 35) rfl ?_
                        refine R.istoreN X0 hx (hb hby d22_35) (L' := #[.val (.int p0), .val (.int (1 : Int32)), .val (.int (-10000000000 : Int32)), .val (.int (9 : Int32))]) rfl (pc' := 36) rfl ?_
                        refine R.iinc X0 hx (hb hby d22_36) rfl (L' := #[.val (.int p0), .val (.int (1 : Int32)), .val (.int (-10000000000 : Int32)), .val (.int (10 : Int32))]) rfl (pc' := 39) rfl ?_
                        refine R.goto X0 hx (hb hby d22_39) (by decide) (pc' := 16) (by decide) ?_
                        refine R.iloadN X0 hx (hb hby d22_16) rfl (pc' := 17) rfl ?_
                        refine R.bipush X0 hx (hb hby d22_17) (v := (10 : Int32)) (by decide) (pc' := 19) rfl ?_
                        refine R.icmpYes X0 hx (hb hby d22_19) (flt (by decide : ¬ ((10 : Int32) < (10 : Int32)))).2.1 (by decide) (pc' := 42) (by decide) ?_
                        refine R.bipush X0 hx (hb hby d22_42) (v := (10 : Int32)) (by decide) (pc' := 44) rfl ?_
                        refine R.iloadN X0 hx (hb hby d22_44) rfl (pc' := 45) rfl ?_
                        refine R.iadd X0 hx (hb hby d22_45) (v := (11 : Int32)) (by decide) (pc' := 46) rfl ?_
                        rw [← hG]
                        exact Rn.ret X0 (BodyLoose.notSynchronized Bd) (v := some (.int (11 : Int32))) (fun h => by rw [Bd.returns] at h; cases h) (Q := Q22 Z p0 h0 n0) e0 (fun fs hr => retOut X0 hx (t := .int) Bd.returns rfl (Or.inl ⟨rfl, Or.inl rfl, _, rfl⟩) (hb hby d22_46) hr) ⟨(11 : Int32), rfl, N0, rfl, (⟨10, ⟨by decide, by decide, by have q := own_b p0; omega, by omega⟩, by unfold own_sg; rw [if_pos (by omega)]; decide⟩)⟩ (by decide) (by decide)
    · refine R.ifNo X0 hx (hb hby d22_3) (flt hc3).1 (pc' := 6) rfl ?_
      refine R.iconst X0 hx (hb hby d22_6) (v := (0 : Int32)) (by decide) (pc' := 7) rfl ?_
      refine R.istoreN X0 hx (hb hby d22_7) (L' := #[.val (.int p0), .val (.int (0 : Int32)), .unset, .unset]) rfl (pc' := 8) rfl ?_
      refine R.iloadN X0 hx (hb hby d22_8) rfl (pc' := 9) rfl ?_
      refine R.ineg X0 hx (hb hby d22_9) (pc' := 10) rfl ?_
      generalize hi1 : (-p0) = i1
      refine R.istoreN X0 hx (hb hby d22_10) (L' := #[.val (.int i1), .val (.int (0 : Int32)), .unset, .unset]) rfl (pc' := 11) rfl ?_
      have hneg : 0 ≤ p0.toInt := own_ge0 hc3
      have hxx : i1.toInt = -p0.toInt := by rw [← hi1]; exact own_neg hneg
      refine R.bipush X0 hx (hb hby d22_11) (v := (-10 : Int32)) (by decide) (pc' := 13) rfl ?_
      refine R.istoreN X0 hx (hb hby d22_13) (L' := #[.val (.int i1), .val (.int (0 : Int32)), .val (.int (-10 : Int32)), .unset]) rfl (pc' := 14) rfl ?_
      refine R.iconst X0 hx (hb hby d22_14) (v := (1 : Int32)) (by decide) (pc' := 15) rfl ?_
      refine R.istoreN X0 hx (hb hby d22_15) (L' := #[.val (.int i1), .val (.int (0 : Int32)), .val (.int (-10 : Int32)), .val (.int (1 : Int32))]) rfl (pc' := 16) rfl ?_
      refine R.iloadN X0 hx (hb hby d22_16) rfl (pc' := 17) rfl ?_
      refine R.bipush X0 hx (hb hby d22_17) (v := (10 : Int32)) (by decide) (pc' := 19) rfl ?_
      refine R.icmpNo X0 hx (hb hby d22_19) (tlt (by decide : (1 : Int32) < (10 : Int32))).2.1 (pc' := 22) rfl ?_
      refine R.iloadN X0 hx (hb hby d22_22) rfl (pc' := 23) rfl ?_
      refine R.iloadN X0 hx (hb hby d22_23) rfl (pc' := 24) rfl ?_
      by_cases hc24 : (-10 : Int32) < i1
      · refine R.icmpNo X0 hx (hb hby d22_24) (tlt hc24).2.2.2 (pc' := 27) rfl ?_
        have up1 : (-10 : Int) < i1.toInt := own_ltL (by decide) hc24
        refine R.iloadN X0 hx (hb hby d22_27) rfl (pc' := 28) rfl ?_
        refine R.iloadN X0 hx (hb hby d22_28) rfl (pc' := 29) rfl ?_
        refine R.iadd X0 hx (hb hby d22_29) (v := (1 : Int32)) (by decide) (pc' := 30) rfl ?_
        rw [← hG]
        exact Rn.ret X0 (BodyLoose.notSynchronized Bd) (v := some (.int (1 : Int32))) (fun h => by rw [Bd.returns] at h; cases h) (Q := Q22 Z p0 h0 n0) e0 (fun fs hr => retOut X0 hx (t := .int) Bd.returns rfl (Or.inl ⟨rfl, Or.inl rfl, _, rfl⟩) (hb hby d22_30) hr) ⟨(1 : Int32), rfl, N0, rfl, (⟨1, ⟨by decide, by decide, by have q := own_b p0; omega, by omega⟩, by unfold own_sg; rw [if_neg (by omega)]; decide⟩)⟩ (by decide) (by decide)
      · refine R.icmpYes X0 hx (hb hby d22_24) (flt hc24).2.2.2 (by decide) (pc' := 31) (by decide) ?_
        have lo1 : ¬ (-10 : Int) < i1.toInt := own_nltL (by decide) hc24
        refine R.bipush X0 hx (hb hby d22_31) (v := (10 : Int32)) (by decide) (pc' := 33) rfl ?_
        refine R.iloadN X0 hx (hb hby d22_33) rfl (pc' := 34) rfl ?_
        refine R.imul X0 hx (hb hby d22_34) (v := (-100 : Int32)) (by decide) (pc' := 35) rfl ?_
        refine R.istoreN X0 hx (hb hby d22_35) (L' := #[.val (.int i1), .val (.int (0 : Int32)), .val (.int (-100 : Int32)), .val (.int (1 : Int32))]) rfl (pc' := 36) rfl ?_
        refine R.iinc X0 hx (hb hby d22_36) rfl (L' := #[.val (.int i1), .val (.int (0 : Int32)), .val (.int (-100 : Int32)), .val (.int (2 : Int32))]) rfl (pc' := 39) rfl ?_
        refine R.goto X0 hx (hb hby d22_39) (by decide) (pc' := 16) (by decide) ?_
        refine R.iloadN X0 hx (hb hby d22_16) rfl (pc' := 17) rfl ?_
        refine R.bipush X0 hx (hb hby d22_17) (v := (10 : Int32)) (by decide) (pc' := 19) rfl ?_
        refine R.icmpNo X0 hx (hb hby d22_19) (tlt (by decide : (2 : Int32) < (10 : Int32))).2.1 (pc' := 22) rfl ?_
        refine R.iloadN X0 hx (hb hby d22_22) rfl (pc' := 23) rfl ?_
        refine R.iloadN X0 hx (hb hby d22_23) rfl (pc' := 24) rfl ?_
        by_cases hc24 : (-100 : Int32) < i1
        · refine R.icmpNo X0 hx (hb hby d22_24) (tlt hc24).2.2.2 (pc' := 27) rfl ?_
          have up2 : (-100 : Int) < i1.toInt := own_ltL (by decide) hc24
          refine R.iloadN X0 hx (hb hby d22_27) rfl (pc' := 28) rfl ?_
          refine R.iloadN X0 hx (hb hby d22_28) rfl (pc' := 29) rfl ?_
          refine R.iadd X0 hx (hb hby d22_29) (v := (2 : Int32)) (by decide) (pc' := 30) rfl ?_
          rw [← hG]
          exact Rn.ret X0 (BodyLoose.notSynchronized Bd) (v := some (.int (2 : Int32))) (fun h => by rw [Bd.returns] at h; cases h) (Q := Q22 Z p0 h0 n0) e0 (fun fs hr => retOut X0 hx (t := .int) Bd.returns rfl (Or.inl ⟨rfl, Or.inl rfl, _, rfl⟩) (hb hby d22_30) hr) ⟨(2 : Int32), rfl, N0, rfl, (⟨2, ⟨by decide, by decide, by have q := own_b p0; omega, by omega⟩, by unfold own_sg; rw [if_neg (by omega)]; decide⟩)⟩ (by decide) (by decide)
        · refine R.icmpYes X0 hx (hb hby d22_24) (flt hc24).2.2.2 (by decide) (pc' := 31) (by decide) ?_
          have lo2 : ¬ (-100 : Int) < i1.toInt := own_nltL (by decide) hc24
          refine R.bipush X0 hx (hb hby d22_31) (v := (10 : Int32)) (by decide) (pc' := 33) rfl ?_
          refine R.iloadN X0 hx (hb hby d22_33) rfl (pc' := 34) rfl ?_
          refine R.imul X0 hx (hb hby d22_34) (v := (-1000 : Int32)) (by decide) (pc' := 35) rfl ?_
          refine R.istoreN X0 hx (hb hby d22_35) (L' := #[.val (.int i1), .val (.int (0 : Int32)), .val (.int (-1000 : Int32)), .val (.int (2 : Int32))]) rfl (pc' := 36) rfl ?_
          refine R.iinc X0 hx (hb hby d22_36) rfl (L' := #[.val (.int i1), .val (.int (0 : Int32)), .val (.int (-1000 : Int32)), .val (.int (3 : Int32))]) rfl (pc' := 39) rfl ?_
          refine R.goto X0 hx (hb hby d22_39) (by decide) (pc' := 16) (by decide) ?_
          refine R.iloadN X0 hx (hb hby d22_16) rfl (pc' := 17) rfl ?_
          refine R.bipush X0 hx (hb hby d22_17) (v := (10 : Int32)) (by decide) (pc' := 19) rfl ?_
          refine R.icmpNo X0 hx (hb hby d22_19) (tlt (by decide : (3 : Int32) < (10 : Int32))).2.1 (pc' := 22) rfl ?_
          refine R.iloadN X0 hx (hb hby d22_22) rfl (pc' := 23) rfl ?_
          refine R.iloadN X0 hx (hb hby d22_23) rfl (pc' := 24) rfl ?_
          by_cases hc24 : (-1000 : Int32) < i1
          · refine R.icmpNo X0 hx (hb hby d22_24) (tlt hc24).2.2.2 (pc' := 27) rfl ?_
            have up3 : (-1000 : Int) < i1.toInt := own_ltL (by decide) hc24
            refine R.iloadN X0 hx (hb hby d22_27) rfl (pc' := 28) rfl ?_
            refine R.iloadN X0 hx (hb hby d22_28) rfl (pc' := 29) rfl ?_
            refine R.iadd X0 hx (hb hby d22_29) (v := (3 : Int32)) (by decide) (pc' := 30) rfl ?_
            rw [← hG]
            exact Rn.ret X0 (BodyLoose.notSynchronized Bd) (v := some (.int (3 : Int32))) (fun h => by rw [Bd.returns] at h; cases h) (Q := Q22 Z p0 h0 n0) e0 (fun fs hr => retOut X0 hx (t := .int) Bd.returns rfl (Or.inl ⟨rfl, Or.inl rfl, _, rfl⟩) (hb hby d22_30) hr) ⟨(3 : Int32), rfl, N0, rfl, (⟨3, ⟨by decide, by decide, by have q := own_b p0; omega, by omega⟩, by unfold own_sg; rw [if_neg (by omega)]; decide⟩)⟩ (by decide) (by decide)
          · refine R.icmpYes X0 hx (hb hby d22_24) (flt hc24).2.2.2 (by decide) (pc' := 31) (by decide) ?_
            have lo3 : ¬ (-1000 : Int) < i1.toInt := own_nltL (by decide) hc24
            refine R.bipush X0 hx (hb hby d22_31) (v := (10 : Int32)) (by decide) (pc' := 33) rfl ?_
            refine R.iloadN X0 hx (hb hby d22_33) rfl (pc' := 34) rfl ?_
            refine R.imul X0 hx (hb hby d22_34) (v := (-10000 : Int32)) (by decide) (pc' := 35) rfl ?_
            refine R.istoreN X0 hx (hb hby d22_35) (L' := #[.val (.int i1), .val (.int (0 : Int32)), .val (.int (-10000 : Int32)), .val (.int (3 : Int32))]) rfl (pc' := 36) rfl ?_
            refine R.iinc X0 hx (hb hby d22_36) rfl (L' := #[.val (.int i1), .val (.int (0 : Int32)), .val (.int (-10000 : Int32)), .val (.int (4 : Int32))]) rfl (pc' := 39) rfl ?_
            refine R.goto X0 hx (hb hby d22_39) (by decide) (pc' := 16) (by decide) ?_
            refine R.iloadN X0 hx (hb hby d22_16) rfl (pc' := 17) rfl ?_
            refine R.bipush X0 hx (hb hby d22_17) (v := (10 : Int32)) (by decide) (pc' := 19) rfl ?_
            refine R.icmpNo X0 hx (hb hby d22_19) (tlt (by decide : (4 : Int32) < (10 : Int32))).2.1 (pc' := 22) rfl ?_
            refine R.iloadN X0 hx (hb hby d22_22) rfl (pc' := 23) rfl ?_
            refine R.iloadN X0 hx (hb hby d22_23) rfl (pc' := 24) rfl ?_
            by_cases hc24 : (-10000 : Int32) < i1
            · refine R.icmpNo X0 hx (hb hby d22_24) (tlt hc24).2.2.2 (pc' := 27) rfl ?_
              have up4 : (-10000 : Int) < i1.toInt := own_ltL (by decide) hc24
              refine R.iloadN X0 hx (hb hby d22_27) rfl (pc' := 28) rfl ?_
              refine R.iloadN X0 hx (hb hby d22_28) rfl (pc' := 29) rfl ?_
              refine R.iadd X0 hx (hb hby d22_29) (v := (4 : Int32)) (by decide) (pc' := 30) rfl ?_
              rw [← hG]
              exact Rn.ret X0 (BodyLoose.notSynchronized Bd) (v := some (.int (4 : Int32))) (fun h => by rw [Bd.returns] at h; cases h) (Q := Q22 Z p0 h0 n0) e0 (fun fs hr => retOut X0 hx (t := .int) Bd.returns rfl (Or.inl ⟨rfl, Or.inl rfl, _, rfl⟩) (hb hby d22_30) hr) ⟨(4 : Int32), rfl, N0, rfl, (⟨4, ⟨by decide, by decide, by have q := own_b p0; omega, by omega⟩, by unfold own_sg; rw [if_neg (by omega)]; decide⟩)⟩ (by decide) (by decide)
            · refine R.icmpYes X0 hx (hb hby d22_24) (flt hc24).2.2.2 (by decide) (pc' := 31) (by decide) ?_
              have lo4 : ¬ (-10000 : Int) < i1.toInt := own_nltL (by decide) hc24
              refine R.bipush X0 hx (hb hby d22_31) (v := (10 : Int32)) (by decide) (pc' := 33) rfl ?_
              refine R.iloadN X0 hx (hb hby d22_33) rfl (pc' := 34) rfl ?_
              refine R.imul X0 hx (hb hby d22_34) (v := (-100000 : Int32)) (by decide) (pc' := 35) rfl ?_
              refine R.istoreN X0 hx (hb hby d22_35) (L' := #[.val (.int i1), .val (.int (0 : Int32)), .val (.int (-100000 : Int32)), .val (.int (4 : Int32))]) rfl (pc' := 36) rfl ?_
              refine R.iinc X0 hx (hb hby d22_36) rfl (L' := #[.val (.int i1), .val (.int (0 : Int32)), .val (.int (-100000 : Int32)), .val (.int (5 : Int32))]) rfl (pc' := 39) rfl ?_
              refine R.goto X0 hx (hb hby d22_39) (by decide) (pc' := 16) (by decide) ?_
              refine R.iloadN X0 hx (hb hby d22_16) rfl (pc' := 17) rfl ?_
              refine R.bipush X0 hx (hb hby d22_17) (v := (10 : Int32)) (by decide) (pc' := 19) rfl ?_
              refine R.icmpNo X0 hx (hb hby d22_19) (tlt (by decide : (5 : Int32) < (10 : Int32))).2.1 (pc' := 22) rfl ?_
              refine R.iloadN X0 hx (hb hby d22_22) rfl (pc' := 23) rfl ?_
              refine R.iloadN X0 hx (hb hby d22_23) rfl (pc' := 24) rfl ?_
              by_cases hc24 : (-100000 : Int32) < i1
              · refine R.icmpNo X0 hx (hb hby d22_24) (tlt hc24).2.2.2 (pc' := 27) rfl ?_
                have up5 : (-100000 : Int) < i1.toInt := own_ltL (by decide) hc24
                refine R.iloadN X0 hx (hb hby d22_27) rfl (pc' := 28) rfl ?_
                refine R.iloadN X0 hx (hb hby d22_28) rfl (pc' := 29) rfl ?_
                refine R.iadd X0 hx (hb hby d22_29) (v := (5 : Int32)) (by decide) (pc' := 30) rfl ?_
                rw [← hG]
                exact Rn.ret X0 (BodyLoose.notSynchronized Bd) (v := some (.int (5 : Int32))) (fun h => by rw [Bd.returns] at h; cases h) (Q := Q22 Z p0 h0 n0) e0 (fun fs hr => retOut X0 hx (t := .int) Bd.returns rfl (Or.inl ⟨rfl, Or.inl rfl, _, rfl⟩) (hb hby d22_30) hr) ⟨(5 : Int32), rfl, N0, rfl, (⟨5, ⟨by decide, by decide, by have q := own_b p0; omega, by omega⟩, by unfold own_sg; rw [if_neg (by omega)]; decide⟩)⟩ (by decide) (by decide)
              · refine R.icmpYes X0 hx (hb hby d22_24) (flt hc24).2.2.2 (by decide) (pc' := 31) (by decide) ?_
                have lo5 : ¬ (-100000 : Int) < i1.toInt := own_nltL (by decide) hc24
                refine R.bipush X0 hx (hb hby d22_31) (v := (10 : Int32)) (by decide) (pc' := 33) rfl ?_
                refine R.iloadN X0 hx (hb hby d22_33) rfl (pc' := 34) rfl ?_
                refine R.imul X0 hx (hb hby d22_34) (v := (-1000000 : Int32)) (by decide) (pc' := 35) rfl ?_
                refine R.istoreN X0 hx (hb hby d22_35) (L' := #[.val (.int i1), .val (.int (0 : Int32)), .val (.int (-1000000 : Int32)), .val (.int (5 : Int32))]) rfl (pc' := 36) rfl ?_
                refine R.iinc X0 hx (hb hby d22_36) rfl (L' := #[.val (.int i1), .val (.int (0 : Int32)), .val (.int (-1000000 : Int32)), .val (.int (6 : Int32))]) rfl (pc' := 39) rfl ?_
                refine R.goto X0 hx (hb hby d22_39) (by decide) (pc' := 16) (by decide) ?_
                refine R.iloadN X0 hx (hb hby d22_16) rfl (pc' := 17) rfl ?_
                refine R.bipush X0 hx (hb hby d22_17) (v := (10 : Int32)) (by decide) (pc' := 19) rfl ?_
                refine R.icmpNo X0 hx (hb hby d22_19) (tlt (by decide : (6 : Int32) < (10 : Int32))).2.1 (pc' := 22) rfl ?_
                refine R.iloadN X0 hx (hb hby d22_22) rfl (pc' := 23) rfl ?_
                refine R.iloadN X0 hx (hb hby d22_23) rfl (pc' := 24) rfl ?_
                by_cases hc24 : (-1000000 : Int32) < i1
                · refine R.icmpNo X0 hx (hb hby d22_24) (tlt hc24).2.2.2 (pc' := 27) rfl ?_
                  have up6 : (-1000000 : Int) < i1.toInt := own_ltL (by decide) hc24
                  refine R.iloadN X0 hx (hb hby d22_27) rfl (pc' := 28) rfl ?_
                  refine R.iloadN X0 hx (hb hby d22_28) rfl (pc' := 29) rfl ?_
                  refine R.iadd X0 hx (hb hby d22_29) (v := (6 : Int32)) (by decide) (pc' := 30) rfl ?_
                  rw [← hG]
                  exact Rn.ret X0 (BodyLoose.notSynchronized Bd) (v := some (.int (6 : Int32))) (fun h => by rw [Bd.returns] at h; cases h) (Q := Q22 Z p0 h0 n0) e0 (fun fs hr => retOut X0 hx (t := .int) Bd.returns rfl (Or.inl ⟨rfl, Or.inl rfl, _, rfl⟩) (hb hby d22_30) hr) ⟨(6 : Int32), rfl, N0, rfl, (⟨6, ⟨by decide, by decide, by have q := own_b p0; omega, by omega⟩, by unfold own_sg; rw [if_neg (by omega)]; decide⟩)⟩ (by decide) (by decide)
                · refine R.icmpYes X0 hx (hb hby d22_24) (flt hc24).2.2.2 (by decide) (pc' := 31) (by decide) ?_
                  have lo6 : ¬ (-1000000 : Int) < i1.toInt := own_nltL (by decide) hc24
                  refine R.bipush X0 hx (hb hby d22_31) (v := (10 : Int32)) (by decide) (pc' := 33) rfl ?_
                  refine R.iloadN X0 hx (hb hby d22_33) rfl (pc' := 34) rfl ?_
                  refine R.imul X0 hx (hb hby d22_34) (v := (-10000000 : Int32)) (by decide) (pc' := 35) rfl ?_
                  refine R.istoreN X0 hx (hb hby d22_35) (L' := #[.val (.int i1), .val (.int (0 : Int32)), .val (.int (-10000000 : Int32)), .val (.int (6 : Int32))]) rfl (pc' := 36) rfl ?_
                  refine R.iinc X0 hx (hb hby d22_36) rfl (L' := #[.val (.int i1), .val (.int (0 : Int32)), .val (.int (-10000000 : Int32)), .val (.int (7 : Int32))]) rfl (pc' := 39) rfl ?_
                  refine R.goto X0 hx (hb hby d22_39) (by decide) (pc' := 16) (by decide) ?_
                  refine R.iloadN X0 hx (hb hby d22_16) rfl (pc' := 17) rfl ?_
                  refine R.bipush X0 hx (hb hby d22_17) (v := (10 : Int32)) (by decide) (pc' := 19) rfl ?_
                  refine R.icmpNo X0 hx (hb hby d22_19) (tlt (by decide : (7 : Int32) < (10 : Int32))).2.1 (pc' := 22) rfl ?_
                  refine R.iloadN X0 hx (hb hby d22_22) rfl (pc' := 23) rfl ?_
                  refine R.iloadN X0 hx (hb hby d22_23) rfl (pc' := 24) rfl ?_
                  by_cases hc24 : (-10000000 : Int32) < i1
                  · refine R.icmpNo X0 hx (hb hby d22_24) (tlt hc24).2.2.2 (pc' := 27) rfl ?_
                    have up7 : (-10000000 : Int) < i1.toInt := own_ltL (by decide) hc24
                    refine R.iloadN X0 hx (hb hby d22_27) rfl (pc' := 28) rfl ?_
                    refine R.iloadN X0 hx (hb hby d22_28) rfl (pc' := 29) rfl ?_
                    refine R.iadd X0 hx (hb hby d22_29) (v := (7 : Int32)) (by decide) (pc' := 30) rfl ?_
                    rw [← hG]
                    exact Rn.ret X0 (BodyLoose.notSynchronized Bd) (v := some (.int (7 : Int32))) (fun h => by rw [Bd.returns] at h; cases h) (Q := Q22 Z p0 h0 n0) e0 (fun fs hr => retOut X0 hx (t := .int) Bd.returns rfl (Or.inl ⟨rfl, Or.inl rfl, _, rfl⟩) (hb hby d22_30) hr) ⟨(7 : Int32), rfl, N0, rfl, (⟨7, ⟨by decide, by decide, by have q := own_b p0; omega, by omega⟩, by unfold own_sg; rw [if_neg (by omega)]; decide⟩)⟩ (by decide) (by decide)
                  · refine R.icmpYes X0 hx (hb hby d22_24) (flt hc24).2.2.2 (by decide) (pc' := 31) (by decide) ?_
                    have lo7 : ¬ (-10000000 : Int) < i1.toInt := own_nltL (by decide) hc24
                    refine R.bipush X0 hx (hb hby d22_31) (v := (10 : Int32)) (by decide) (pc' := 33) rfl ?_
                    refine R.iloadN X0 hx (hb hby d22_33) rfl (pc' := 34) rfl ?_
                    refine R.imul X0 hx (hb hby d22_34) (v := (-100000000 : Int32)) (by decide) (pc' := 35) rfl ?_
                    refine R.istoreN X0 hx (hb hby d22_35) (L' := #[.val (.int i1), .val (.int (0 : Int32)), .val (.int (-100000000 : Int32)), .val (.int (7 : Int32))]) rfl (pc' := 36) rfl ?_
                    refine R.iinc X0 hx (hb hby d22_36) rfl (L' := #[.val (.int i1), .val (.int (0 : Int32)), .val (.int (-100000000 : Int32)), .val (.int (8 : Int32))]) rfl (pc' := 39) rfl ?_
                    refine R.goto X0 hx (hb hby d22_39) (by decide) (pc' := 16) (by decide) ?_
                    refine R.iloadN X0 hx (hb hby d22_16) rfl (pc' := 17) rfl ?_
                    refine R.bipush X0 hx (hb hby d22_17) (v := (10 : Int32)) (by decide) (pc' := 19) rfl ?_
                    refine R.icmpNo X0 hx (hb hby d22_19) (tlt (by decide : (8 : Int32) < (10 : Int32))).2.1 (pc' := 22) rfl ?_
                    refine R.iloadN X0 hx (hb hby d22_22) rfl (pc' := 23) rfl ?_
                    refine R.iloadN X0 hx (hb hby d22_23) rfl (pc' := 24) rfl ?_
                    by_cases hc24 : (-100000000 : Int32) < i1
                    · refine R.icmpNo X0 hx (hb hby d22_24) (tlt hc24).2.2.2 (pc' := 27) rfl ?_
                      have up8 : (-100000000 : Int) < i1.toInt := own_ltL (by decide) hc24
                      refine R.iloadN X0 hx (hb hby d22_27) rfl (pc' := 28) rfl ?_
                      refine R.iloadN X0 hx (hb hby d22_28) rfl (pc' := 29) rfl ?_
                      refine R.iadd X0 hx (hb hby d22_29) (v := (8 : Int32)) (by decide) (pc' := 30) rfl ?_
                      rw [← hG]
                      exact Rn.ret X0 (BodyLoose.notSynchronized Bd) (v := some (.int (8 : Int32))) (fun h => by rw [Bd.returns] at h; cases h) (Q := Q22 Z p0 h0 n0) e0 (fun fs hr => retOut X0 hx (t := .int) Bd.returns rfl (Or.inl ⟨rfl, Or.inl rfl, _, rfl⟩) (hb hby d22_30) hr) ⟨(8 : Int32), rfl, N0, rfl, (⟨8, ⟨by decide, by decide, by have q := own_b p0; omega, by omega⟩, by unfold own_sg; rw [if_neg (by omega)]; decide⟩)⟩ (by decide) (by decide)
                    · refine R.icmpYes X0 hx (hb hby d22_24) (flt hc24).2.2.2 (by decide) (pc' := 31) (by decide) ?_
                      have lo8 : ¬ (-100000000 : Int) < i1.toInt := own_nltL (by decide) hc24
                      refine R.bipush X0 hx (hb hby d22_31) (v := (10 : Int32)) (by decide) (pc' := 33) rfl ?_
                      refine R.iloadN X0 hx (hb hby d22_33) rfl (pc' := 34) rfl ?_
                      refine R.imul X0 hx (hb hby d22_34) (v := (-1000000000 : Int32)) (by decide) (pc' := 35) rfl ?_
                      refine R.istoreN X0 hx (hb hby d22_35) (L' := #[.val (.int i1), .val (.int (0 : Int32)), .val (.int (-1000000000 : Int32)), .val (.int (8 : Int32))]) rfl (pc' := 36) rfl ?_
                      refine R.iinc X0 hx (hb hby d22_36) rfl (L' := #[.val (.int i1), .val (.int (0 : Int32)), .val (.int (-1000000000 : Int32)), .val (.int (9 : Int32))]) rfl (pc' := 39) rfl ?_
                      refine R.goto X0 hx (hb hby d22_39) (by decide) (pc' := 16) (by decide) ?_
                      refine R.iloadN X0 hx (hb hby d22_16) rfl (pc' := 17) rfl ?_
                      refine R.bipush X0 hx (hb hby d22_17) (v := (10 : Int32)) (by decide) (pc' := 19) rfl ?_
                      refine R.icmpNo X0 hx (hb hby d22_19) (tlt (by decide : (9 : Int32) < (10 : Int32))).2.1 (pc' := 22) rfl ?_
                      refine R.iloadN X0 hx (hb hby d22_22) rfl (pc' := 23) rfl ?_
                      refine R.iloadN X0 hx (hb hby d22_23) rfl (pc' := 24) rfl ?_
                      by_cases hc24 : (-1000000000 : Int32) < i1
                      · refine R.icmpNo X0 hx (hb hby d22_24) (tlt hc24).2.2.2 (pc' := 27) rfl ?_
                        have up9 : (-1000000000 : Int) < i1.toInt := own_ltL (by decide) hc24
                        refine R.iloadN X0 hx (hb hby d22_27) rfl (pc' := 28) rfl ?_
                        refine R.iloadN X0 hx (hb hby d22_28) rfl (pc' := 29) rfl ?_
                        refine R.iadd X0 hx (hb hby d22_29) (v := (9 : Int32)) (by decide) (pc' := 30) rfl ?_
                        rw [← hG]
                        exact Rn.ret X0 (BodyLoose.notSynchronized Bd) (v := some (.int (9 : Int32))) (fun h => by rw [Bd.returns] at h; cases h) (Q := Q22 Z p0 h0 n0) e0 (fun fs hr => retOut X0 hx (t := .int) Bd.returns rfl (Or.inl ⟨rfl, Or.inl rfl, _, rfl⟩) (hb hby d22_30) hr) ⟨(9 : Int32), rfl, N0, rfl, (⟨9, ⟨by decide, by decide, by have q := own_b p0; omega, by omega⟩, by unfold own_sg; rw [if_neg (by omega)]; decide⟩)⟩ (by decide) (by decide)
                      · refine R.icmpYes X0 hx (hb hby d22_24) (flt hc24).2.2.2 (by decide) (pc' := 31) (by decide) ?_
                        have lo9 : ¬ (-1000000000 : Int) < i1.toInt := own_nltL (by decide) hc24
                        refine R.bipush X0 hx (hb hby d22_31) (v := (10 : Int32)) (by decide) (pc' := 33) rfl ?_
                        refine R.iloadN X0 hx (hb hby d22_33) rfl (pc' := 34) rfl ?_
                        refine R.imul X0 hx (hb hby d22_34) (v := (-10000000000 : Int32)) (by decide) (pc' := 35) rfl ?_
                        refine R.istoreN X0 hx (hb hby d22_35) (L' := #[.val (.int i1), .val (.int (0 : Int32)), .val (.int (-10000000000 : Int32)), .val (.int (9 : Int32))]) rfl (pc' := 36) rfl ?_
                        refine R.iinc X0 hx (hb hby d22_36) rfl (L' := #[.val (.int i1), .val (.int (0 : Int32)), .val (.int (-10000000000 : Int32)), .val (.int (10 : Int32))]) rfl (pc' := 39) rfl ?_
                        refine R.goto X0 hx (hb hby d22_39) (by decide) (pc' := 16) (by decide) ?_
                        refine R.iloadN X0 hx (hb hby d22_16) rfl (pc' := 17) rfl ?_
                        refine R.bipush X0 hx (hb hby d22_17) (v := (10 : Int32)) (by decide) (pc' := 19) rfl ?_
                        refine R.icmpYes X0 hx (hb hby d22_19) (flt (by decide : ¬ ((10 : Int32) < (10 : Int32)))).2.1 (by decide) (pc' := 42) (by decide) ?_
                        refine R.bipush X0 hx (hb hby d22_42) (v := (10 : Int32)) (by decide) (pc' := 44) rfl ?_
                        refine R.iloadN X0 hx (hb hby d22_44) rfl (pc' := 45) rfl ?_
                        refine R.iadd X0 hx (hb hby d22_45) (v := (10 : Int32)) (by decide) (pc' := 46) rfl ?_
                        rw [← hG]
                        exact Rn.ret X0 (BodyLoose.notSynchronized Bd) (v := some (.int (10 : Int32))) (fun h => by rw [Bd.returns] at h; cases h) (Q := Q22 Z p0 h0 n0) e0 (fun fs hr => retOut X0 hx (t := .int) Bd.returns rfl (Or.inl ⟨rfl, Or.inl rfl, _, rfl⟩) (hb hby d22_46) hr) ⟨(10 : Int32), rfl, N0, rfl, (⟨10, ⟨by decide, by decide, by have q := own_b p0; omega, by omega⟩, by unfold own_sg; rw [if_neg (by omega)]; decide⟩)⟩ (by decide) (by decide)
  exact (Rn.st (fun t k => castTop (ef_22 m p0) k) first_ : Rn p e below (s₁.setTop (entryFrame m #[(.int p0)] 4)) (Fn22 Z p0 h0 n0 s))
theorem d36_0 : decode method_3_code 0 = .ok (.lload_n 0, 1) := by decide +kernel
theorem d36_1 : decode method_3_code 1 = .ok (.ldc2_w 7, 3) := by decide +kernel
theorem d36_4 : decode method_3_code 4 = .ok (.lcmp, 1) := by decide +kernel
theorem d36_5 : decode method_3_code 5 = .ok (.ifCond .ge 5, 3) := by decide +kernel
theorem d36_8 : decode method_3_code 8 = .ok (.iconst 1, 1) := by decide +kernel
theorem d36_9 : decode method_3_code 9 = .ok (.ireturn, 1) := by decide +kernel
theorem d36_10 : decode method_3_code 10 = .ok (.lload_n 0, 1) := by decide +kernel
theorem d36_11 : decode method_3_code 11 = .ok (.ldc2_w 9, 3) := by decide +kernel
theorem d36_14 : decode method_3_code 14 = .ok (.lcmp, 1) := by decide +kernel
theorem d36_15 : decode method_3_code 15 = .ok (.ifCond .ge 5, 3) := by decide +kernel
theorem d36_18 : decode method_3_code 18 = .ok (.iconst 2, 1) := by decide +kernel
theorem d36_19 : decode method_3_code 19 = .ok (.ireturn, 1) := by decide +kernel
theorem d36_20 : decode method_3_code 20 = .ok (.lload_n 0, 1) := by decide +kernel
theorem d36_21 : decode method_3_code 21 = .ok (.ldc2_w 11, 3) := by decide +kernel
theorem d36_24 : decode method_3_code 24 = .ok (.lcmp, 1) := by decide +kernel
theorem d36_25 : decode method_3_code 25 = .ok (.ifCond .ge 5, 3) := by decide +kernel
theorem d36_28 : decode method_3_code 28 = .ok (.iconst 3, 1) := by decide +kernel
theorem d36_29 : decode method_3_code 29 = .ok (.ireturn, 1) := by decide +kernel
theorem d36_30 : decode method_3_code 30 = .ok (.lload_n 0, 1) := by decide +kernel
theorem d36_31 : decode method_3_code 31 = .ok (.ldc2_w 13, 3) := by decide +kernel
theorem d36_34 : decode method_3_code 34 = .ok (.lcmp, 1) := by decide +kernel
theorem d36_35 : decode method_3_code 35 = .ok (.ifCond .ge 5, 3) := by decide +kernel
theorem d36_38 : decode method_3_code 38 = .ok (.iconst 4, 1) := by decide +kernel
theorem d36_39 : decode method_3_code 39 = .ok (.ireturn, 1) := by decide +kernel
theorem d36_40 : decode method_3_code 40 = .ok (.lload_n 0, 1) := by decide +kernel
theorem d36_41 : decode method_3_code 41 = .ok (.ldc2_w 15, 3) := by decide +kernel
theorem d36_44 : decode method_3_code 44 = .ok (.lcmp, 1) := by decide +kernel
theorem d36_45 : decode method_3_code 45 = .ok (.ifCond .ge 5, 3) := by decide +kernel
theorem d36_48 : decode method_3_code 48 = .ok (.iconst 5, 1) := by decide +kernel
theorem d36_49 : decode method_3_code 49 = .ok (.ireturn, 1) := by decide +kernel
theorem d36_50 : decode method_3_code 50 = .ok (.lload_n 0, 1) := by decide +kernel
theorem d36_51 : decode method_3_code 51 = .ok (.ldc2_w 17, 3) := by decide +kernel
theorem d36_54 : decode method_3_code 54 = .ok (.lcmp, 1) := by decide +kernel
theorem d36_55 : decode method_3_code 55 = .ok (.ifCond .ge 6, 3) := by decide +kernel
theorem d36_58 : decode method_3_code 58 = .ok (.bipush 6, 2) := by decide +kernel
theorem d36_60 : decode method_3_code 60 = .ok (.ireturn, 1) := by decide +kernel
theorem d36_61 : decode method_3_code 61 = .ok (.lload_n 0, 1) := by decide +kernel
theorem d36_62 : decode method_3_code 62 = .ok (.ldc2_w 19, 3) := by decide +kernel
theorem d36_65 : decode method_3_code 65 = .ok (.lcmp, 1) := by decide +kernel
theorem d36_66 : decode method_3_code 66 = .ok (.ifCond .ge 6, 3) := by decide +kernel
theorem d36_69 : decode method_3_code 69 = .ok (.bipush 7, 2) := by decide +kernel
theorem d36_71 : decode method_3_code 71 = .ok (.ireturn, 1) := by decide +kernel
theorem d36_72 : decode method_3_code 72 = .ok (.lload_n 0, 1) := by decide +kernel
theorem d36_73 : decode method_3_code 73 = .ok (.ldc2_w 21, 3) := by decide +kernel
theorem d36_76 : decode method_3_code 76 = .ok (.lcmp, 1) := by decide +kernel
theorem d36_77 : decode method_3_code 77 = .ok (.ifCond .ge 6, 3) := by decide +kernel
theorem d36_80 : decode method_3_code 80 = .ok (.bipush 8, 2) := by decide +kernel
theorem d36_82 : decode method_3_code 82 = .ok (.ireturn, 1) := by decide +kernel
theorem d36_83 : decode method_3_code 83 = .ok (.lload_n 0, 1) := by decide +kernel
theorem d36_84 : decode method_3_code 84 = .ok (.ldc2_w 23, 3) := by decide +kernel
theorem d36_87 : decode method_3_code 87 = .ok (.lcmp, 1) := by decide +kernel
theorem d36_88 : decode method_3_code 88 = .ok (.ifCond .ge 6, 3) := by decide +kernel
theorem d36_91 : decode method_3_code 91 = .ok (.bipush 9, 2) := by decide +kernel
theorem d36_93 : decode method_3_code 93 = .ok (.ireturn, 1) := by decide +kernel
theorem d36_94 : decode method_3_code 94 = .ok (.bipush 10, 2) := by decide +kernel
theorem d36_96 : decode method_3_code 96 = .ok (.ireturn, 1) := by decide +kernel
theorem pn_7 : plainName "com/example/apportion/apportion/jsonl/PlaceToStringPinLaw" = true := by first | (simp [plainName, overriddenIn]; done) | decide +kernel
theorem ef_36 (m : MethodId) (x0 : Int64) : entryFrame m #[(.long x0)] 2 = mkF m 0 #[.val (.long x0), .second] [] := by first | (simp [entryFrame, mkF, argsToLocals, Value.category]; done) | rfl
def Q36 (Z : State) (q0 : Int64) (h0 : Heap) (n0 : Nat) (vQ : Option Value) (hQ_ : Heap) (LQ : List Loc) : Prop := ∃ r : Int32, vQ = some (.int r) ∧ Fr n0 LQ ∧ hQ_ = h0 ∧ (own_DN q0.toInt r)
def Fn36 (Z : State) (q0 : Int64) (h0 : Heap) (n0 : Nat) (sQ : State) (oQ : Outcome) (UQ : State) : Prop := ∃ vQ LQ, oQ = .returned vQ ∧ Q36 Z q0 h0 n0 vQ UQ.heap LQ ∧ FrameEnd sQ oQ UQ LQ ({ frames := 0, cells := 0, slots := 0, locals := 0 } : Room).cells ({ frames := 0, cells := 0, slots := 0, locals := 0 } : Room).slots
set_option maxRecDepth 65536 in
set_option maxHeartbeats 40000000 in
theorem rm36 (l : Launch) (Z : State) (aZ : Array Value) (hw : ∀ d ∈ tables_1, d.before aZ Z = true) (ws : List Jvm.Cond) (q0 : Int64) (h0 : Heap) (n0 : Nat) (Z0 : n0 ≤ h0.size) (hq : 0 ≤ q0.toInt ∧ q0.toInt < 10000000000) :
    MetFree l (⟨"com/example/apportion/apportion/jsonl/PlaceToStringPinLaw", "digits", "(J)I"⟩ : MethodName) (head1 (Jvm.Cond.code (⟨"com/example/apportion/apportion/jsonl/PlaceToStringPinLaw", "digits", "(J)I"⟩ : MethodName) method_3_code 2 (some .int) :: ws) ({ frames := 0, cells := 0, slots := 0, locals := 0 } : Room)) (fun aQ UQ => aQ = #[(.long q0)] ∧ Z.Warmed39 UQ.vm ∧ UQ.heap = h0) (fun _ _ _ _ _ => True) (fun _ UQ oQ UR => ∃ vQ LQ, oQ = .returned vQ ∧ Q36 Z q0 h0 n0 vQ UR.heap LQ ∧ FrameEnd UQ oQ UR LQ ({ frames := 0, cells := 0, slots := 0, locals := 0 } : Room).cells ({ frames := 0, cells := 0, slots := 0, locals := 0 } : Room).slots) := by
  refine MetFree.of_bodySF (plainFor_of_name pn_7) hisR ?_
  intro p e s m args below meth c s₁ Bd hml0 hP hK
  obtain ⟨rfl, hZ, hh⟩ := hP
  have hx := Bd.exec
  have hby := Bd.bytes
  have hml : c.maxLocals = 2 := hml0
  have hown : s.vm.findClass "com/example/apportion/apportion/jsonl/PlaceToStringPinLaw" = some m.cls := findClass_of_methodNamed Bd.named
  have hnm := (name_of_methodNamed Bd.named Bd.method).1
  have X0 : Stand p l e ({ frames := 0, cells := 0, slots := 0, locals := 0 } : Room) s m #[(.long q0)] below meth c s₁ [] 0 0 := Stand.of_body Bd
  have e0 : s₁.heap = h0 := by rw [← hh, Bd.state]; rfl
  have N0 := Fr.nil n0
  have K0 : Keep h0 h0 [] := Keep.refl _ _
  have w_2 := hw _ (List.mem_of_getElem? (i := 2) rfl)
  have w_3 := hw _ (List.mem_of_getElem? (i := 3) rfl)
  have w_4 := hw _ (List.mem_of_getElem? (i := 4) rfl)
  have w_5 := hw _ (List.mem_of_getElem? (i := 5) rfl)
  have w_6 := hw _ (List.mem_of_getElem? (i := 6) rfl)
  have w_7 := hw _ (List.mem_of_getElem? (i := 7) rfl)
  have w_8 := hw _ (List.mem_of_getElem? (i := 8) rfl)
  have w_9 := hw _ (List.mem_of_getElem? (i := 9) rfl)
  have w_10 := hw _ (List.mem_of_getElem? (i := 10) rfl)
  have first_ : Rn p e below (s₁.setTop (mkF m 0 #[.val (.long q0), .second] [])) (Fn36 Z q0 h0 n0 s) := by
    generalize hG : (Fn36 Z q0 h0 n0 s) = G
    refine R.lloadN X0 hx (hb hby d36_0) rfl (pc' := 1) rfl ?_
    refine R.ldc2J X0 hx hZ hown w_2 (hb hby d36_1) (pc' := 4) rfl ?_
    refine R.lcmp X0 hx (hb hby d36_4) (pc' := 5) rfl ?_
    by_cases hc5 : (lcmpW q0 (10 : Int64)) < (0 : Int32)
    · refine R.ifNo X0 hx (hb hby d36_5) (tlt hc5).2.1 (pc' := 8) rfl ?_
      have up1 : q0.toInt < 10 := own_lcT (by decide) hc5
      refine R.iconst X0 hx (hb hby d36_8) (v := (1 : Int32)) (by decide) (pc' := 9) rfl ?_
      rw [← hG]
      exact Rn.ret X0 (BodyLoose.notSynchronized Bd) (v := some (.int (1 : Int32))) (fun h => by rw [Bd.returns] at h; cases h) (Q := Q36 Z q0 h0 n0) e0 (fun fs hr => retOut X0 hx (t := .int) Bd.returns rfl (Or.inl ⟨rfl, Or.inl rfl, _, rfl⟩) (hb hby d36_9) hr) ⟨(1 : Int32), rfl, N0, rfl, (⟨1, ⟨by decide, by decide, by omega, by omega⟩, by decide⟩)⟩ (by decide) (by decide)
    · refine R.ifYes X0 hx (hb hby d36_5) (flt hc5).2.1 (by decide) (pc' := 10) (by decide) ?_
      have lo1 : ¬ q0.toInt < 10 := own_lcF (by decide) hc5
      refine R.lloadN X0 hx (hb hby d36_10) rfl (pc' := 11) rfl ?_
      refine R.ldc2J X0 hx hZ hown w_3 (hb hby d36_11) (pc' := 14) rfl ?_
      refine R.lcmp X0 hx (hb hby d36_14) (pc' := 15) rfl ?_
      by_cases hc15 : (lcmpW q0 (100 : Int64)) < (0 : Int32)
      · refine R.ifNo X0 hx (hb hby d36_15) (tlt hc15).2.1 (pc' := 18) rfl ?_
        have up2 : q0.toInt < 100 := own_lcT (by decide) hc15
        refine R.iconst X0 hx (hb hby d36_18) (v := (2 : Int32)) (by decide) (pc' := 19) rfl ?_
        rw [← hG]
        exact Rn.ret X0 (BodyLoose.notSynchronized Bd) (v := some (.int (2 : Int32))) (fun h => by rw [Bd.returns] at h; cases h) (Q := Q36 Z q0 h0 n0) e0 (fun fs hr => retOut X0 hx (t := .int) Bd.returns rfl (Or.inl ⟨rfl, Or.inl rfl, _, rfl⟩) (hb hby d36_19) hr) ⟨(2 : Int32), rfl, N0, rfl, (⟨2, ⟨by decide, by decide, by omega, by omega⟩, by decide⟩)⟩ (by decide) (by decide)
      · refine R.ifYes X0 hx (hb hby d36_15) (flt hc15).2.1 (by decide) (pc' := 20) (by decide) ?_
        have lo2 : ¬ q0.toInt < 100 := own_lcF (by decide) hc15
        refine R.lloadN X0 hx (hb hby d36_20) rfl (pc' := 21) rfl ?_
        refine R.ldc2J X0 hx hZ hown w_4 (hb hby d36_21) (pc' := 24) rfl ?_
        refine R.lcmp X0 hx (hb hby d36_24) (pc' := 25) rfl ?_
        by_cases hc25 : (lcmpW q0 (1000 : Int64)) < (0 : Int32)
        · refine R.ifNo X0 hx (hb hby d36_25) (tlt hc25).2.1 (pc' := 28) rfl ?_
          have up3 : q0.toInt < 1000 := own_lcT (by decide) hc25
          refine R.iconst X0 hx (hb hby d36_28) (v := (3 : Int32)) (by decide) (pc' := 29) rfl ?_
          rw [← hG]
          exact Rn.ret X0 (BodyLoose.notSynchronized Bd) (v := some (.int (3 : Int32))) (fun h => by rw [Bd.returns] at h; cases h) (Q := Q36 Z q0 h0 n0) e0 (fun fs hr => retOut X0 hx (t := .int) Bd.returns rfl (Or.inl ⟨rfl, Or.inl rfl, _, rfl⟩) (hb hby d36_29) hr) ⟨(3 : Int32), rfl, N0, rfl, (⟨3, ⟨by decide, by decide, by omega, by omega⟩, by decide⟩)⟩ (by decide) (by decide)
        · refine R.ifYes X0 hx (hb hby d36_25) (flt hc25).2.1 (by decide) (pc' := 30) (by decide) ?_
          have lo3 : ¬ q0.toInt < 1000 := own_lcF (by decide) hc25
          refine R.lloadN X0 hx (hb hby d36_30) rfl (pc' := 31) rfl ?_
          refine R.ldc2J X0 hx hZ hown w_5 (hb hby d36_31) (pc' := 34) rfl ?_
          refine R.lcmp X0 hx (hb hby d36_34) (pc' := 35) rfl ?_
          by_cases hc35 : (lcmpW q0 (10000 : Int64)) < (0 : Int32)
          · refine R.ifNo X0 hx (hb hby d36_35) (tlt hc35).2.1 (pc' := 38) rfl ?_
            have up4 : q0.toInt < 10000 := own_lcT (by decide) hc35
            refine R.iconst X0 hx (hb hby d36_38) (v := (4 : Int32)) (by decide) (pc' := 39) rfl ?_
            rw [← hG]
            exact Rn.ret X0 (BodyLoose.notSynchronized Bd) (v := some (.int (4 : Int32))) (fun h => by rw [Bd.returns] at h; cases h) (Q := Q36 Z q0 h0 n0) e0 (fun fs hr => retOut X0 hx (t := .int) Bd.returns rfl (Or.inl ⟨rfl, Or.inl rfl, _, rfl⟩) (hb hby d36_39) hr) ⟨(4 : Int32), rfl, N0, rfl, (⟨4, ⟨by decide, by decide, by omega, by omega⟩, by decide⟩)⟩ (by decide) (by decide)
          · refine R.ifYes X0 hx (hb hby d36_35) (flt hc35).2.1 (by decide) (pc' := 40) (by decide) ?_
            have lo4 : ¬ q0.toInt < 10000 := own_lcF (by decide) hc35
            refine R.lloadN X0 hx (hb hby d36_40) rfl (pc' := 41) rfl ?_
            refine R.ldc2J X0 hx hZ hown w_6 (hb hby d36_41) (pc' := 44) rfl ?_
            refine R.lcmp X0 hx (hb hby d36_44) (pc' := 45) rfl ?_
            by_cases hc45 : (lcmpW q0 (100000 : Int64)) < (0 : Int32)
            · refine R.ifNo X0 hx (hb hby d36_45) (tlt hc45).2.1 (pc' := 48) rfl ?_
              have up5 : q0.toInt < 100000 := own_lcT (by decide) hc45
              refine R.iconst X0 hx (hb hby d36_48) (v := (5 : Int32)) (by decide) (pc' := 49) rfl ?_
              rw [← hG]
              exact Rn.ret X0 (BodyLoose.notSynchronized Bd) (v := some (.int (5 : Int32))) (fun h => by rw [Bd.returns] at h; cases h) (Q := Q36 Z q0 h0 n0) e0 (fun fs hr => retOut X0 hx (t := .int) Bd.returns rfl (Or.inl ⟨rfl, Or.inl rfl, _, rfl⟩) (hb hby d36_49) hr) ⟨(5 : Int32), rfl, N0, rfl, (⟨5, ⟨by decide, by decide, by omega, by omega⟩, by decide⟩)⟩ (by decide) (by decide)
            · refine R.ifYes X0 hx (hb hby d36_45) (flt hc45).2.1 (by decide) (pc' := 50) (by decide) ?_
              have lo5 : ¬ q0.toInt < 100000 := own_lcF (by decide) hc45
              refine R.lloadN X0 hx (hb hby d36_50) rfl (pc' := 51) rfl ?_
              refine R.ldc2J X0 hx hZ hown w_7 (hb hby d36_51) (pc' := 54) rfl ?_
              refine R.lcmp X0 hx (hb hby d36_54) (pc' := 55) rfl ?_
              by_cases hc55 : (lcmpW q0 (1000000 : Int64)) < (0 : Int32)
              · refine R.ifNo X0 hx (hb hby d36_55) (tlt hc55).2.1 (pc' := 58) rfl ?_
                have up6 : q0.toInt < 1000000 := own_lcT (by decide) hc55
                refine R.bipush X0 hx (hb hby d36_58) (v := (6 : Int32)) (by decide) (pc' := 60) rfl ?_
                rw [← hG]
                exact Rn.ret X0 (BodyLoose.notSynchronized Bd) (v := some (.int (6 : Int32))) (fun h => by rw [Bd.returns] at h; cases h) (Q := Q36 Z q0 h0 n0) e0 (fun fs hr => retOut X0 hx (t := .int) Bd.returns rfl (Or.inl ⟨rfl, Or.inl rfl, _, rfl⟩) (hb hby d36_60) hr) ⟨(6 : Int32), rfl, N0, rfl, (⟨6, ⟨by decide, by decide, by omega, by omega⟩, by decide⟩)⟩ (by decide) (by decide)
              · refine R.ifYes X0 hx (hb hby d36_55) (flt hc55).2.1 (by decide) (pc' := 61) (by decide) ?_
                have lo6 : ¬ q0.toInt < 1000000 := own_lcF (by decide) hc55
                refine R.lloadN X0 hx (hb hby d36_61) rfl (pc' := 62) rfl ?_
                refine R.ldc2J X0 hx hZ hown w_8 (hb hby d36_62) (pc' := 65) rfl ?_
                refine R.lcmp X0 hx (hb hby d36_65) (pc' := 66) rfl ?_
                by_cases hc66 : (lcmpW q0 (10000000 : Int64)) < (0 : Int32)
                · refine R.ifNo X0 hx (hb hby d36_66) (tlt hc66).2.1 (pc' := 69) rfl ?_
                  have up7 : q0.toInt < 10000000 := own_lcT (by decide) hc66
                  refine R.bipush X0 hx (hb hby d36_69) (v := (7 : Int32)) (by decide) (pc' := 71) rfl ?_
                  rw [← hG]
                  exact Rn.ret X0 (BodyLoose.notSynchronized Bd) (v := some (.int (7 : Int32))) (fun h => by rw [Bd.returns] at h; cases h) (Q := Q36 Z q0 h0 n0) e0 (fun fs hr => retOut X0 hx (t := .int) Bd.returns rfl (Or.inl ⟨rfl, Or.inl rfl, _, rfl⟩) (hb hby d36_71) hr) ⟨(7 : Int32), rfl, N0, rfl, (⟨7, ⟨by decide, by decide, by omega, by omega⟩, by decide⟩)⟩ (by decide) (by decide)
                · refine R.ifYes X0 hx (hb hby d36_66) (flt hc66).2.1 (by decide) (pc' := 72) (by decide) ?_
                  have lo7 : ¬ q0.toInt < 10000000 := own_lcF (by decide) hc66
                  refine R.lloadN X0 hx (hb hby d36_72) rfl (pc' := 73) rfl ?_
                  refine R.ldc2J X0 hx hZ hown w_9 (hb hby d36_73) (pc' := 76) rfl ?_
                  refine R.lcmp X0 hx (hb hby d36_76) (pc' := 77) rfl ?_
                  by_cases hc77 : (lcmpW q0 (100000000 : Int64)) < (0 : Int32)
                  · refine R.ifNo X0 hx (hb hby d36_77) (tlt hc77).2.1 (pc' := 80) rfl ?_
                    have up8 : q0.toInt < 100000000 := own_lcT (by decide) hc77
                    refine R.bipush X0 hx (hb hby d36_80) (v := (8 : Int32)) (by decide) (pc' := 82) rfl ?_
                    rw [← hG]
                    exact Rn.ret X0 (BodyLoose.notSynchronized Bd) (v := some (.int (8 : Int32))) (fun h => by rw [Bd.returns] at h; cases h) (Q := Q36 Z q0 h0 n0) e0 (fun fs hr => retOut X0 hx (t := .int) Bd.returns rfl (Or.inl ⟨rfl, Or.inl rfl, _, rfl⟩) (hb hby d36_82) hr) ⟨(8 : Int32), rfl, N0, rfl, (⟨8, ⟨by decide, by decide, by omega, by omega⟩, by decide⟩)⟩ (by decide) (by decide)
                  · refine R.ifYes X0 hx (hb hby d36_77) (flt hc77).2.1 (by decide) (pc' := 83) (by decide) ?_
                    have lo8 : ¬ q0.toInt < 100000000 := own_lcF (by decide) hc77
                    refine R.lloadN X0 hx (hb hby d36_83) rfl (pc' := 84) rfl ?_
                    refine R.ldc2J X0 hx hZ hown w_10 (hb hby d36_84) (pc' := 87) rfl ?_
                    refine R.lcmp X0 hx (hb hby d36_87) (pc' := 88) rfl ?_
                    by_cases hc88 : (lcmpW q0 (1000000000 : Int64)) < (0 : Int32)
                    · refine R.ifNo X0 hx (hb hby d36_88) (tlt hc88).2.1 (pc' := 91) rfl ?_
                      have up9 : q0.toInt < 1000000000 := own_lcT (by decide) hc88
                      refine R.bipush X0 hx (hb hby d36_91) (v := (9 : Int32)) (by decide) (pc' := 93) rfl ?_
                      rw [← hG]
                      exact Rn.ret X0 (BodyLoose.notSynchronized Bd) (v := some (.int (9 : Int32))) (fun h => by rw [Bd.returns] at h; cases h) (Q := Q36 Z q0 h0 n0) e0 (fun fs hr => retOut X0 hx (t := .int) Bd.returns rfl (Or.inl ⟨rfl, Or.inl rfl, _, rfl⟩) (hb hby d36_93) hr) ⟨(9 : Int32), rfl, N0, rfl, (⟨9, ⟨by decide, by decide, by omega, by omega⟩, by decide⟩)⟩ (by decide) (by decide)
                    · refine R.ifYes X0 hx (hb hby d36_88) (flt hc88).2.1 (by decide) (pc' := 94) (by decide) ?_
                      have lo9 : ¬ q0.toInt < 1000000000 := own_lcF (by decide) hc88
                      refine R.bipush X0 hx (hb hby d36_94) (v := (10 : Int32)) (by decide) (pc' := 96) rfl ?_
                      rw [← hG]
                      exact Rn.ret X0 (BodyLoose.notSynchronized Bd) (v := some (.int (10 : Int32))) (fun h => by rw [Bd.returns] at h; cases h) (Q := Q36 Z q0 h0 n0) e0 (fun fs hr => retOut X0 hx (t := .int) Bd.returns rfl (Or.inl ⟨rfl, Or.inl rfl, _, rfl⟩) (hb hby d36_96) hr) ⟨(10 : Int32), rfl, N0, rfl, (⟨10, ⟨by decide, by decide, by omega, by omega⟩, by decide⟩)⟩ (by decide) (by decide)
  exact (Rn.st (fun t k => castTop (ef_36 m q0) k) first_ : Rn p e below (s₁.setTop (entryFrame m #[(.long q0)] 2)) (Fn36 Z q0 h0 n0 s))
theorem d24_72 : decode jdk_33_method_12_code 72 = .ok (.aload_n 2, 1) := by decide +kernel
theorem d24_73 : decode jdk_33_method_12_code 73 = .ok (.iinc 5 (-1), 3) := by decide +kernel
theorem d24_76 : decode jdk_33_method_12_code 76 = .ok (.iload 5, 2) := by decide +kernel
theorem d24_78 : decode jdk_33_method_12_code 78 = .ok (.getstatic 83, 3) := by decide +kernel
theorem d24_81 : decode jdk_33_method_12_code 81 = .ok (.iload_n 0, 1) := by decide +kernel
theorem d24_82 : decode jdk_33_method_12_code 82 = .ok (.ineg, 1) := by decide +kernel
theorem d24_83 : decode jdk_33_method_12_code 83 = .ok (.baload, 1) := by decide +kernel
theorem d24_84 : decode jdk_33_method_12_code 84 = .ok (.bastore, 1) := by decide +kernel
theorem d24_85 : decode jdk_33_method_12_code 85 = .ok (.iload_n 0, 1) := by decide +kernel
theorem d24_86 : decode jdk_33_method_12_code 86 = .ok (.bipush (-9), 2) := by decide +kernel
theorem d24_88 : decode jdk_33_method_12_code 88 = .ok (.if_icmp .ge 16, 3) := by decide +kernel
theorem d24_91 : decode jdk_33_method_12_code 91 = .ok (.aload_n 2, 1) := by decide +kernel
theorem d24_92 : decode jdk_33_method_12_code 92 = .ok (.iinc 5 (-1), 3) := by decide +kernel
theorem d24_95 : decode jdk_33_method_12_code 95 = .ok (.iload 5, 2) := by decide +kernel
theorem d24_97 : decode jdk_33_method_12_code 97 = .ok (.getstatic 87, 3) := by decide +kernel
theorem d24_100 : decode jdk_33_method_12_code 100 = .ok (.iload_n 0, 1) := by decide +kernel
theorem d24_101 : decode jdk_33_method_12_code 101 = .ok (.ineg, 1) := by decide +kernel
theorem d24_102 : decode jdk_33_method_12_code 102 = .ok (.baload, 1) := by decide +kernel
theorem d24_103 : decode jdk_33_method_12_code 103 = .ok (.bastore, 1) := by decide +kernel
theorem d24_104 : decode jdk_33_method_12_code 104 = .ok (.iload 6, 2) := by decide +kernel
theorem d24_106 : decode jdk_33_method_12_code 106 = .ok (.ifCond .eq 12, 3) := by decide +kernel
theorem d24_118 : decode jdk_33_method_12_code 118 = .ok (.iload 5, 2) := by decide +kernel
theorem d24_120 : decode jdk_33_method_12_code 120 = .ok (.ireturn, 1) := by decide +kernel
theorem d24_109 : decode jdk_33_method_12_code 109 = .ok (.aload_n 2, 1) := by decide +kernel
theorem d24_110 : decode jdk_33_method_12_code 110 = .ok (.iinc 5 (-1), 3) := by decide +kernel
theorem d24_113 : decode jdk_33_method_12_code 113 = .ok (.iload 5, 2) := by decide +kernel
theorem d24_115 : decode jdk_33_method_12_code 115 = .ok (.bipush 45, 2) := by decide +kernel
theorem d24_117 : decode jdk_33_method_12_code 117 = .ok (.bastore, 1) := by decide +kernel
theorem d24_22 : decode jdk_33_method_12_code 22 = .ok (.iload_n 0, 1) := by decide +kernel
theorem d24_23 : decode jdk_33_method_12_code 23 = .ok (.bipush (-100), 2) := by decide +kernel
theorem d24_25 : decode jdk_33_method_12_code 25 = .ok (.if_icmp .gt 47, 3) := by decide +kernel
theorem d24_28 : decode jdk_33_method_12_code 28 = .ok (.iload_n 0, 1) := by decide +kernel
theorem d24_29 : decode jdk_33_method_12_code 29 = .ok (.bipush 100, 2) := by decide +kernel
theorem d24_31 : decode jdk_33_method_12_code 31 = .ok (.idiv, 1) := by decide +kernel
theorem d24_32 : decode jdk_33_method_12_code 32 = .ok (.istore_n 3, 1) := by decide +kernel
theorem d24_33 : decode jdk_33_method_12_code 33 = .ok (.iload_n 3, 1) := by decide +kernel
theorem d24_34 : decode jdk_33_method_12_code 34 = .ok (.bipush 100, 2) := by decide +kernel
theorem d24_36 : decode jdk_33_method_12_code 36 = .ok (.imul, 1) := by decide +kernel
theorem d24_37 : decode jdk_33_method_12_code 37 = .ok (.iload_n 0, 1) := by decide +kernel
theorem d24_38 : decode jdk_33_method_12_code 38 = .ok (.isub, 1) := by decide +kernel
theorem d24_39 : decode jdk_33_method_12_code 39 = .ok (.istore 4, 2) := by decide +kernel
theorem d24_41 : decode jdk_33_method_12_code 41 = .ok (.iload_n 3, 1) := by decide +kernel
theorem d24_42 : decode jdk_33_method_12_code 42 = .ok (.istore_n 0, 1) := by decide +kernel
theorem d24_43 : decode jdk_33_method_12_code 43 = .ok (.aload_n 2, 1) := by decide +kernel
theorem d24_44 : decode jdk_33_method_12_code 44 = .ok (.iinc 5 (-1), 3) := by decide +kernel
theorem d24_47 : decode jdk_33_method_12_code 47 = .ok (.iload 5, 2) := by decide +kernel
theorem d24_49 : decode jdk_33_method_12_code 49 = .ok (.getstatic 83, 3) := by decide +kernel
theorem d24_52 : decode jdk_33_method_12_code 52 = .ok (.iload 4, 2) := by decide +kernel
theorem d24_54 : decode jdk_33_method_12_code 54 = .ok (.baload, 1) := by decide +kernel
theorem d24_55 : decode jdk_33_method_12_code 55 = .ok (.bastore, 1) := by decide +kernel
theorem d24_56 : decode jdk_33_method_12_code 56 = .ok (.aload_n 2, 1) := by decide +kernel
theorem d24_57 : decode jdk_33_method_12_code 57 = .ok (.iinc 5 (-1), 3) := by decide +kernel
theorem d24_60 : decode jdk_33_method_12_code 60 = .ok (.iload 5, 2) := by decide +kernel
theorem d24_62 : decode jdk_33_method_12_code 62 = .ok (.getstatic 87, 3) := by decide +kernel
theorem d24_65 : decode jdk_33_method_12_code 65 = .ok (.iload 4, 2) := by decide +kernel
theorem d24_67 : decode jdk_33_method_12_code 67 = .ok (.baload, 1) := by decide +kernel
theorem d24_68 : decode jdk_33_method_12_code 68 = .ok (.bastore, 1) := by decide +kernel
theorem d24_69 : decode jdk_33_method_12_code 69 = .ok (.goto (-47), 3) := by decide +kernel
theorem d24_0 : decode jdk_33_method_12_code 0 = .ok (.iload_n 1, 1) := by decide +kernel
theorem d24_1 : decode jdk_33_method_12_code 1 = .ok (.istore 5, 2) := by decide +kernel
theorem d24_3 : decode jdk_33_method_12_code 3 = .ok (.iload_n 0, 1) := by decide +kernel
theorem d24_4 : decode jdk_33_method_12_code 4 = .ok (.ifCond .ge 7, 3) := by decide +kernel
theorem d24_7 : decode jdk_33_method_12_code 7 = .ok (.iconst 1, 1) := by decide +kernel
theorem d24_8 : decode jdk_33_method_12_code 8 = .ok (.goto 4, 3) := by decide +kernel
theorem d24_12 : decode jdk_33_method_12_code 12 = .ok (.istore 6, 2) := by decide +kernel
theorem d24_14 : decode jdk_33_method_12_code 14 = .ok (.iload 6, 2) := by decide +kernel
theorem d24_16 : decode jdk_33_method_12_code 16 = .ok (.ifCond .ne 6, 3) := by decide +kernel
theorem d24_11 : decode jdk_33_method_12_code 11 = .ok (.iconst 0, 1) := by decide +kernel
theorem d24_19 : decode jdk_33_method_12_code 19 = .ok (.iload_n 0, 1) := by decide +kernel
theorem d24_20 : decode jdk_33_method_12_code 20 = .ok (.ineg, 1) := by decide +kernel
theorem d24_21 : decode jdk_33_method_12_code 21 = .ok (.istore_n 0, 1) := by decide +kernel
theorem ef_24 (m : MethodId) (x0 : Int32) (x1 : Int32) (x2 : Addr) : entryFrame m #[(.int x0), (.int x1), (.ref x2)] 7 = mkF m 0 #[.val (.int x0), .val (.int x1), .val (.ref x2), .unset, .unset, .unset, .unset] [] := by first | (simp [entryFrame, mkF, argsToLocals, Value.category]; done) | rfl
def Q24 (Z : State) (p0 : Int32) (p1 : Int32) (a2 : Addr) (dO : Addr) (dT : Addr) (f : Nat → Int32) (nd : Nat) (h0 : Heap) (n0 : Nat) (vQ : Option Value) (hQ_ : Heap) (LQ : List Loc) : Prop := ∃ r : Int32, ∃ f' : Nat → Int32, vQ = some (.int r) ∧ Fr n0 LQ ∧ Keep h0 hQ_ [a2] ∧ (own_By Z hQ_ a2 (16 : Int32) f') ∧ (own_GC f f' p1.toInt.toNat p0.toInt.natAbs (own_sg p0.toInt) nd)
def Fn24 (Z : State) (p0 : Int32) (p1 : Int32) (a2 : Addr) (dO : Addr) (dT : Addr) (f : Nat → Int32) (nd : Nat) (h0 : Heap) (n0 : Nat) (sQ : State) (oQ : Outcome) (UQ : State) : Prop := ∃ vQ LQ, oQ = .returned vQ ∧ Q24 Z p0 p1 a2 dO dT f nd h0 n0 vQ UQ.heap LQ ∧ FrameEnd sQ oQ UQ LQ ({ frames := 0, cells := 0, slots := 0, locals := 0 } : Room).cells ({ frames := 0, cells := 0, slots := 0, locals := 0 } : Room).slots
set_option maxRecDepth 65536 in
set_option maxHeartbeats 40000000 in
theorem rm24 (l : Launch) (Z : State) (aZ : Array Value) (hw : ∀ d ∈ tables_1, d.before aZ Z = true) (ws : List Jvm.Cond) (p0 : Int32) (p1 : Int32) (a2 : Addr) (dO : Addr) (dT : Addr) (f : Nat → Int32) (nd : Nat) (h0 : Heap) (n0 : Nat) (Z0 : n0 ≤ h0.size) (OL : Old Z n0 h0) (DG : own_DG Z dO dT) (Y_a2 : own_By Z h0 a2 (16 : Int32) f) (g_a2 : n0 ≤ a2) (hnd : own_ND p0.toInt.natAbs nd) (hix : (nd : Int) + own_sg p0.toInt ≤ p1.toInt ∧ p1.toInt ≤ 16) :
    MetFree l (⟨"java/lang/Integer", "getChars", "(II[B)I"⟩ : MethodName) (head1 (Jvm.Cond.code (⟨"java/lang/Integer", "getChars", "(II[B)I"⟩ : MethodName) jdk_33_method_12_code 7 (some .int) :: ws) ({ frames := 0, cells := 0, slots := 0, locals := 0 } : Room)) (fun aQ UQ => aQ = #[(.int p0), (.int p1), (.ref a2)] ∧ Z.Warmed39 UQ.vm ∧ UQ.heap = h0) (fun _ _ _ _ _ => True) (fun _ UQ oQ UR => ∃ vQ LQ, oQ = .returned vQ ∧ Q24 Z p0 p1 a2 dO dT f nd h0 n0 vQ UR.heap LQ ∧ FrameEnd UQ oQ UR LQ ({ frames := 0, cells := 0, slots := 0, locals := 0 } : Room).cells ({ frames := 0, cells := 0, slots := 0, locals := 0 } : Room).slots) := by
  refine MetFree.of_bodySF (plainFor_of_name pn_6) hisR ?_
  intro p e s m args below meth c s₁ Bd hml0 hP hK
  obtain ⟨rfl, hZ, hh⟩ := hP
  have hx := Bd.exec
  have hby := Bd.bytes
  have hml : c.maxLocals = 7 := hml0
  have hown : s.vm.findClass "java/lang/Integer" = some m.cls := findClass_of_methodNamed Bd.named
  have hnm := (name_of_methodNamed Bd.named Bd.method).1
  have X0 : Stand p l e ({ frames := 0, cells := 0, slots := 0, locals := 0 } : Room) s m #[(.int p0), (.int p1), (.ref a2)] below meth c s₁ [] 0 0 := Stand.of_body Bd
  have e0 : s₁.heap = h0 := by rw [← hh, Bd.state]; rfl
  have N0 := Fr.nil n0
  have K0 : Keep h0 h0 [a2] := Keep.refl _ _
  have w_150 := hw _ (List.mem_of_getElem? (i := 150) rfl)
  have w_226 := hw _ (List.mem_of_getElem? (i := 226) rfl)
  have first_ : Rn p e below (s₁.setTop (mkF m 0 #[.val (.int p0), .val (.int p1), .val (.ref a2), .unset, .unset, .unset, .unset] [])) (Fn24 Z p0 p1 a2 dO dT f nd h0 n0 s) := by
    generalize hG : (Fn24 Z p0 p1 a2 dO dT f nd h0 n0 s) = G
    have JV : ∀ (TV : State) (hV : Heap) (lV : List Loc) (XV : Stand p l e ({ frames := 0, cells := 0, slots := 0, locals := 0 } : Room) s m #[(.int p0), (.int p1), (.ref a2)] below meth c TV lV 0 0) (eV : TV.heap = hV) (NV : Fr n0 lV) (KV : Keep h0 hV [a2]) (ZV : n0 ≤ hV.size) (x : Int32) (cp : Int32) (u3 : Slot) (u4 : Slot) (sv : Int32) (g : Nat → Int32) (n : Nat) (OL : Old Z n0 hV) (Y_a2 : own_By Z hV a2 (16 : Int32) g) (hu3 : u3 = .unset ∨ ∃ v, u3 = .val (.int v)) (hu4 : u4 = .unset ∨ ∃ v, u4 = .val (.int v)) (hsv : sv.toInt = own_sg p0.toInt) (hx0 : x.toInt ≤ 0) (hn : own_ND (-x.toInt).toNat n) (hcp : (n : Int) + own_sg p0.toInt ≤ cp.toInt ∧ cp.toInt ≤ 16) (hC : ∀ g', own_GC g g' cp.toInt.toNat (-x.toInt).toNat (own_sg p0.toInt) n → own_GC f g' p1.toInt.toNat p0.toInt.natAbs (own_sg p0.toInt) nd) (hsm : -100 < x.toInt), Rn p e below (TV.setTop (mkF m 72 #[.val (.int x), .val (.int p1), .val (.ref a2), u3, u4, .val (.int cp), .val (.int sv)] [])) G := by
      intro TV hV lV XV eV NV KV ZV x cp u3 u4 sv g n OL Y_a2 hu3 hu4 hsv hx0 hn hcp hC hsm
      have tx : (-x).toInt = -x.toInt := own_neg2 hx0 hsm
      have txc : (-x).toNatClampNeg = (-x.toInt).toNat := own_cln tx
      have hn1 := hn.1
      refine R.aloadN XV hx (hb hby d24_72) rfl rfl (pc' := 73) rfl ?_
      refine R.iinc XV hx (hb hby d24_73) rfl (L' := #[.val (.int x), .val (.int p1), .val (.ref a2), u3, u4, .val (.int (cp + (-1 : Int32))), .val (.int sv)]) rfl (pc' := 76) rfl ?_
      refine R.iload XV hx (hb hby d24_76) rfl (pc' := 78) rfl ?_
      have S_D := DG.1.1.ext OL.2
      have Y_D := DG.1.2.ext OL.2
      refine R.getS XV hx hZ hown (host := "") (Or.inl w_150) Via.refl eV S_D (hb hby d24_78) (pc' := 81) rfl ?_; intro T1 X1 e1
      refine R.iloadN X1 hx (hb hby d24_81) rfl (pc' := 82) rfl ?_
      refine R.ineg X1 hx (hb hby d24_82) (pc' := 83) rfl ?_
      refine R.baloadY X1 hx hZ e1 Y_D (own_b100' tx hx0 hsm : ¬ (-x) < 0 ∧ (-x) < (100 : Int32)) (v := (own_on (-x).toNatClampNeg)) (rfl) (hb hby d24_83) (pc' := 84) rfl ?_
      refine R.bastoreY X1 hx hZ e1 Y_a2 (own_bp1 (by omega) (by omega) : ¬ (cp + (-1 : Int32)) < 0 ∧ (cp + (-1 : Int32)) < (16 : Int32)) (v := (own_on (-x).toNatClampNeg)) (own_nar_on _) (hb hby d24_84) (pc' := 85) rfl ?_; intro T2 h2 X2 e2 W2 V2
      have OL := OL.wr W2 g_a2
      have Y_a2 : own_By Z h2 a2 (16 : Int32) (own_up g (cp + (-1 : Int32)).toNatClampNeg (own_on (-x).toNatClampNeg)) := V2
      have N2 := Fr.snoc X2 NV g_a2
      have K2 : Keep h0 h2 [a2] := KV.wr W2 (Or.inl (List.mem_of_getElem? (i := 0) rfl))
      have Z2 : n0 ≤ h2.size := Nat.le_trans ZV (Keep.of_wr W2).1
      refine R.iloadN X2 hx (hb hby d24_85) rfl (pc' := 86) rfl ?_
      refine R.bipush X2 hx (hb hby d24_86) (v := (-9 : Int32)) (by decide) (pc' := 88) rfl ?_
      by_cases hc88 : x < (-9 : Int32)
      · refine R.icmpNo X2 hx (hb hby d24_88) (tlt hc88).2.1 (pc' := 91) rfl ?_
        have hn2 := own_nd2 hn (own_ltR (n := -9) (by decide) hc88)
        refine R.aloadN X2 hx (hb hby d24_91) rfl rfl (pc' := 92) rfl ?_
        refine R.iinc X2 hx (hb hby d24_92) rfl (L' := #[.val (.int x), .val (.int p1), .val (.ref a2), u3, u4, .val (.int ((cp + (-1 : Int32)) + (-1 : Int32))), .val (.int sv)]) rfl (pc' := 95) rfl ?_
        refine R.iload X2 hx (hb hby d24_95) rfl (pc' := 97) rfl ?_
        have S_D := DG.2.1.ext OL.2
        have Y_D := DG.2.2.ext OL.2
        refine R.getS X2 hx hZ hown (host := "") (Or.inl w_226) Via.refl e2 S_D (hb hby d24_97) (pc' := 100) rfl ?_; intro T3 X3 e3
        refine R.iloadN X3 hx (hb hby d24_100) rfl (pc' := 101) rfl ?_
        refine R.ineg X3 hx (hb hby d24_101) (pc' := 102) rfl ?_
        refine R.baloadY X3 hx hZ e3 Y_D (own_b100' tx hx0 hsm : ¬ (-x) < 0 ∧ (-x) < (100 : Int32)) (v := (own_tn (-x).toNatClampNeg)) (rfl) (hb hby d24_102) (pc' := 103) rfl ?_
        refine R.bastoreY X3 hx hZ e3 Y_a2 (own_bp2 (by omega) (by omega) : ¬ ((cp + (-1 : Int32)) + (-1 : Int32)) < 0 ∧ ((cp + (-1 : Int32)) + (-1 : Int32)) < (16 : Int32)) (v := (own_tn (-x).toNatClampNeg)) (own_nar_tn (by omega)) (hb hby d24_103) (pc' := 104) rfl ?_; intro T4 h4 X4 e4 W4 V4
        have OL := OL.wr W4 g_a2
        have Y_a2 : own_By Z h4 a2 (16 : Int32) (own_up (own_up g (cp + (-1 : Int32)).toNatClampNeg (own_on (-x).toNatClampNeg)) ((cp + (-1 : Int32)) + (-1 : Int32)).toNatClampNeg (own_tn (-x).toNatClampNeg)) := V4
        have N4 := Fr.snoc X4 N2 g_a2
        have K4 : Keep h0 h4 [a2] := K2.wr W4 (Or.inl (List.mem_of_getElem? (i := 0) rfl))
        have Z4 : n0 ≤ h4.size := Nat.le_trans Z2 (Keep.of_wr W4).1
        refine R.iload X4 hx (hb hby d24_104) rfl (pc' := 106) rfl ?_
        by_cases hc106 : sv = (0 : Int32)
        · refine R.ifYes X4 hx (hb hby d24_106) (teq hc106).1 (by decide) (pc' := 118) (by decide) ?_
          refine R.iload X4 hx (hb hby d24_118) rfl (pc' := 120) rfl ?_
          rw [← hG]
          exact Rn.ret X4 (BodyLoose.notSynchronized Bd) (v := some (.int ((cp + (-1 : Int32)) + (-1 : Int32)))) (fun h => by rw [Bd.returns] at h; cases h) (Q := Q24 Z p0 p1 a2 dO dT f nd h0 n0) e4 (fun fs hr => retOut X4 hx (t := .int) Bd.returns rfl (Or.inl ⟨rfl, Or.inl rfl, _, rfl⟩) (hb hby d24_120) hr) ⟨((cp + (-1 : Int32)) + (-1 : Int32)), (own_up (own_up g (cp + (-1 : Int32)).toNatClampNeg (own_on (-x).toNatClampNeg)) ((cp + (-1 : Int32)) + (-1 : Int32)).toNatClampNeg (own_tn (-x).toNatClampNeg)), rfl, N4, K4, Y_a2, (hC _ (own_ge2 hx0 hsm (own_ltR (n := -9) (by decide) hc88) hn hcp (own_sg0 hsv hc106)))⟩ (by decide) (by decide)
        · refine R.ifNo X4 hx (hb hby d24_106) (feq hc106).1 (pc' := 109) rfl ?_
          have hs1 := own_sg1 hsv hc106
          refine R.aloadN X4 hx (hb hby d24_109) rfl rfl (pc' := 110) rfl ?_
          refine R.iinc X4 hx (hb hby d24_110) rfl (L' := #[.val (.int x), .val (.int p1), .val (.ref a2), u3, u4, .val (.int (((cp + (-1 : Int32)) + (-1 : Int32)) + (-1 : Int32))), .val (.int sv)]) rfl (pc' := 113) rfl ?_
          refine R.iload X4 hx (hb hby d24_113) rfl (pc' := 115) rfl ?_
          refine R.bipush X4 hx (hb hby d24_115) (v := (45 : Int32)) (by decide) (pc' := 117) rfl ?_
          refine R.bastoreY X4 hx hZ e4 Y_a2 (own_bp3 (by omega) (by omega) : ¬ (((cp + (-1 : Int32)) + (-1 : Int32)) + (-1 : Int32)) < 0 ∧ (((cp + (-1 : Int32)) + (-1 : Int32)) + (-1 : Int32)) < (16 : Int32)) (v := (45 : Int32)) (rfl) (hb hby d24_117) (pc' := 118) rfl ?_; intro T5 h5 X5 e5 W5 V5
          have OL := OL.wr W5 g_a2
          have Y_a2 : own_By Z h5 a2 (16 : Int32) (own_up (own_up (own_up g (cp + (-1 : Int32)).toNatClampNeg (own_on (-x).toNatClampNeg)) ((cp + (-1 : Int32)) + (-1 : Int32)).toNatClampNeg (own_tn (-x).toNatClampNeg)) (((cp + (-1 : Int32)) + (-1 : Int32)) + (-1 : Int32)).toNatClampNeg (45 : Int32)) := V5
          have N5 := Fr.snoc X5 N4 g_a2
          have K5 : Keep h0 h5 [a2] := K4.wr W5 (Or.inl (List.mem_of_getElem? (i := 0) rfl))
          have Z5 : n0 ≤ h5.size := Nat.le_trans Z4 (Keep.of_wr W5).1
          refine R.iload X5 hx (hb hby d24_118) rfl (pc' := 120) rfl ?_
          rw [← hG]
          exact Rn.ret X5 (BodyLoose.notSynchronized Bd) (v := some (.int (((cp + (-1 : Int32)) + (-1 : Int32)) + (-1 : Int32)))) (fun h => by rw [Bd.returns] at h; cases h) (Q := Q24 Z p0 p1 a2 dO dT f nd h0 n0) e5 (fun fs hr => retOut X5 hx (t := .int) Bd.returns rfl (Or.inl ⟨rfl, Or.inl rfl, _, rfl⟩) (hb hby d24_120) hr) ⟨(((cp + (-1 : Int32)) + (-1 : Int32)) + (-1 : Int32)), (own_up (own_up (own_up g (cp + (-1 : Int32)).toNatClampNeg (own_on (-x).toNatClampNeg)) ((cp + (-1 : Int32)) + (-1 : Int32)).toNatClampNeg (own_tn (-x).toNatClampNeg)) (((cp + (-1 : Int32)) + (-1 : Int32)) + (-1 : Int32)).toNatClampNeg (45 : Int32)), rfl, N5, K5, Y_a2, (hC _ (own_ge4 hx0 hsm (own_ltR (n := -9) (by decide) hc88) hn hcp (hs1)))⟩ (by decide) (by decide)
      · refine R.icmpYes X2 hx (hb hby d24_88) (flt hc88).2.1 (by decide) (pc' := 104) (by decide) ?_
        refine R.iload X2 hx (hb hby d24_104) rfl (pc' := 106) rfl ?_
        by_cases hc106 : sv = (0 : Int32)
        · refine R.ifYes X2 hx (hb hby d24_106) (teq hc106).1 (by decide) (pc' := 118) (by decide) ?_
          refine R.iload X2 hx (hb hby d24_118) rfl (pc' := 120) rfl ?_
          rw [← hG]
          exact Rn.ret X2 (BodyLoose.notSynchronized Bd) (v := some (.int (cp + (-1 : Int32)))) (fun h => by rw [Bd.returns] at h; cases h) (Q := Q24 Z p0 p1 a2 dO dT f nd h0 n0) e2 (fun fs hr => retOut X2 hx (t := .int) Bd.returns rfl (Or.inl ⟨rfl, Or.inl rfl, _, rfl⟩) (hb hby d24_120) hr) ⟨(cp + (-1 : Int32)), (own_up g (cp + (-1 : Int32)).toNatClampNeg (own_on (-x).toNatClampNeg)), rfl, N2, K2, Y_a2, (hC _ (own_ge1 hx0 hsm (own_nltR (n := -9) (by decide) hc88) hn hcp (own_sg0 hsv hc106)))⟩ (by decide) (by decide)
        · refine R.ifNo X2 hx (hb hby d24_106) (feq hc106).1 (pc' := 109) rfl ?_
          have hs1 := own_sg1 hsv hc106
          refine R.aloadN X2 hx (hb hby d24_109) rfl rfl (pc' := 110) rfl ?_
          refine R.iinc X2 hx (hb hby d24_110) rfl (L' := #[.val (.int x), .val (.int p1), .val (.ref a2), u3, u4, .val (.int ((cp + (-1 : Int32)) + (-1 : Int32))), .val (.int sv)]) rfl (pc' := 113) rfl ?_
          refine R.iload X2 hx (hb hby d24_113) rfl (pc' := 115) rfl ?_
          refine R.bipush X2 hx (hb hby d24_115) (v := (45 : Int32)) (by decide) (pc' := 117) rfl ?_
          refine R.bastoreY X2 hx hZ e2 Y_a2 (own_bp2 (by omega) (by omega) : ¬ ((cp + (-1 : Int32)) + (-1 : Int32)) < 0 ∧ ((cp + (-1 : Int32)) + (-1 : Int32)) < (16 : Int32)) (v := (45 : Int32)) (rfl) (hb hby d24_117) (pc' := 118) rfl ?_; intro T6 h6 X6 e6 W6 V6
          have OL := OL.wr W6 g_a2
          have Y_a2 : own_By Z h6 a2 (16 : Int32) (own_up (own_up g (cp + (-1 : Int32)).toNatClampNeg (own_on (-x).toNatClampNeg)) ((cp + (-1 : Int32)) + (-1 : Int32)).toNatClampNeg (45 : Int32)) := V6
          have N6 := Fr.snoc X6 N2 g_a2
          have K6 : Keep h0 h6 [a2] := K2.wr W6 (Or.inl (List.mem_of_getElem? (i := 0) rfl))
          have Z6 : n0 ≤ h6.size := Nat.le_trans Z2 (Keep.of_wr W6).1
          refine R.iload X6 hx (hb hby d24_118) rfl (pc' := 120) rfl ?_
          rw [← hG]
          exact Rn.ret X6 (BodyLoose.notSynchronized Bd) (v := some (.int ((cp + (-1 : Int32)) + (-1 : Int32)))) (fun h => by rw [Bd.returns] at h; cases h) (Q := Q24 Z p0 p1 a2 dO dT f nd h0 n0) e6 (fun fs hr => retOut X6 hx (t := .int) Bd.returns rfl (Or.inl ⟨rfl, Or.inl rfl, _, rfl⟩) (hb hby d24_120) hr) ⟨((cp + (-1 : Int32)) + (-1 : Int32)), (own_up (own_up g (cp + (-1 : Int32)).toNatClampNeg (own_on (-x).toNatClampNeg)) ((cp + (-1 : Int32)) + (-1 : Int32)).toNatClampNeg (45 : Int32)), rfl, N6, K6, Y_a2, (hC _ (own_ge3 hx0 hsm (own_nltR (n := -9) (by decide) hc88) hn hcp (hs1)))⟩ (by decide) (by decide)
    have JU : ∀ (fuel : Nat) (TU : State) (hU : Heap) (lU : List Loc) (XU : Stand p l e ({ frames := 0, cells := 0, slots := 0, locals := 0 } : Room) s m #[(.int p0), (.int p1), (.ref a2)] below meth c TU lU 0 0) (eU : TU.heap = hU) (NU : Fr n0 lU) (KU : Keep h0 hU [a2]) (ZU : n0 ≤ hU.size) (x : Int32) (cp : Int32) (u3 : Slot) (u4 : Slot) (sv : Int32) (g : Nat → Int32) (n : Nat) (OL : Old Z n0 hU) (Y_a2 : own_By Z hU a2 (16 : Int32) g) (hfu : (-x.toInt).toNat ≤ fuel) (hu3 : u3 = .unset ∨ ∃ v, u3 = .val (.int v)) (hu4 : u4 = .unset ∨ ∃ v, u4 = .val (.int v)) (hsv : sv.toInt = own_sg p0.toInt) (hx0 : x.toInt ≤ 0) (hn : own_ND (-x.toInt).toNat n) (hcp : (n : Int) + own_sg p0.toInt ≤ cp.toInt ∧ cp.toInt ≤ 16) (hC : ∀ g', own_GC g g' cp.toInt.toNat (-x.toInt).toNat (own_sg p0.toInt) n → own_GC f g' p1.toInt.toNat p0.toInt.natAbs (own_sg p0.toInt) nd), Rn p e below (TU.setTop (mkF m 22 #[.val (.int x), .val (.int p1), .val (.ref a2), u3, u4, .val (.int cp), .val (.int sv)] [])) G := by
      intro fuel
      induction fuel with
      | zero =>
        intro TU hU lU XU eU NU KU ZU x cp u3 u4 sv g n OL Y_a2 hfu hu3 hu4 hsv hx0 hn hcp hC
        have hsm : -100 < x.toInt := by omega
        refine R.iloadN XU hx (hb hby d24_22) rfl (pc' := 23) rfl ?_
        refine R.bipush XU hx (hb hby d24_23) (v := (-100 : Int32)) (by decide) (pc' := 25) rfl ?_
        refine R.icmpYes XU hx (hb hby d24_25) (tlt (own_gtI (by decide) hsm : (-100 : Int32) < x)).2.2.1 (by decide) (pc' := 72) (by decide) ?_
        exact JV _ _ _ XU eU NU KU ZU x cp u3 u4 sv g n OL Y_a2 hu3 hu4 hsv hx0 hn hcp hC hsm
      | succ fuel ih =>
        intro TU hU lU XU eU NU KU ZU x cp u3 u4 sv g n OL Y_a2 hfu hu3 hu4 hsv hx0 hn hcp hC
        refine R.iloadN XU hx (hb hby d24_22) rfl (pc' := 23) rfl ?_
        refine R.bipush XU hx (hb hby d24_23) (v := (-100 : Int32)) (by decide) (pc' := 25) rfl ?_
        by_cases hc25 : (-100 : Int32) < x
        · refine R.icmpYes XU hx (hb hby d24_25) (tlt hc25).2.2.1 (by decide) (pc' := 72) (by decide) ?_
          have hsm : -100 < x.toInt := own_ltL (by decide) hc25
          exact JV _ _ _ XU eU NU KU ZU x cp u3 u4 sv g n OL Y_a2 hu3 hu4 hsv hx0 hn hcp hC hsm
        · refine R.icmpNo XU hx (hb hby d24_25) (flt hc25).2.2.1 (pc' := 28) rfl ?_
          have hbig : 100 ≤ (-x.toInt).toNat := by have q := own_nltL (n := -100) (by decide) hc25; omega
          refine R.iloadN XU hx (hb hby d24_28) rfl (pc' := 29) rfl ?_
          refine R.bipush XU hx (hb hby d24_29) (v := (100 : Int32)) (by decide) (pc' := 31) rfl ?_
          refine R.idiv XU hx (hb hby d24_31) (by decide : (100 : Int32) ≠ (0 : Int32)) (pc' := 32) rfl ?_
          generalize hi7 : (x / (100 : Int32)) = i7
          refine R.istoreN XU hx (hb hby d24_32) (L' := #[.val (.int x), .val (.int p1), .val (.ref a2), .val (.int i7), u4, .val (.int cp), .val (.int sv)]) (by rcases hu3 with rfl | ⟨_, rfl⟩ <;> rfl) (pc' := 33) rfl ?_
          refine R.iloadN XU hx (hb hby d24_33) rfl (pc' := 34) rfl ?_
          refine R.bipush XU hx (hb hby d24_34) (v := (100 : Int32)) (by decide) (pc' := 36) rfl ?_
          refine R.imul XU hx (hb hby d24_36) rfl (pc' := 37) rfl ?_
          refine R.iloadN XU hx (hb hby d24_37) rfl (pc' := 38) rfl ?_
          refine R.isub XU hx (hb hby d24_38) rfl (pc' := 39) rfl ?_
          generalize hi8 : ((i7 * (100 : Int32)) - x) = i8
          refine R.istore XU hx (hb hby d24_39) (L' := #[.val (.int x), .val (.int p1), .val (.ref a2), .val (.int i7), .val (.int i8), .val (.int cp), .val (.int sv)]) (by rcases hu4 with rfl | ⟨_, rfl⟩ <;> rfl) (pc' := 41) rfl ?_
          obtain ⟨eq, er⟩ := own_qr hx0 hi7 hi8
          have tr : i8.toNatClampNeg = (-x.toInt).toNat % 100 := own_tr hx0 er
          have hn3 := own_nd3 hn hbig
          refine R.iloadN XU hx (hb hby d24_41) rfl (pc' := 42) rfl ?_
          refine R.istoreN XU hx (hb hby d24_42) (L' := #[.val (.int i7), .val (.int p1), .val (.ref a2), .val (.int i7), .val (.int i8), .val (.int cp), .val (.int sv)]) rfl (pc' := 43) rfl ?_
          refine R.aloadN XU hx (hb hby d24_43) rfl rfl (pc' := 44) rfl ?_
          refine R.iinc XU hx (hb hby d24_44) rfl (L' := #[.val (.int i7), .val (.int p1), .val (.ref a2), .val (.int i7), .val (.int i8), .val (.int (cp + (-1 : Int32))), .val (.int sv)]) rfl (pc' := 47) rfl ?_
          refine R.iload XU hx (hb hby d24_47) rfl (pc' := 49) rfl ?_
          have S_D := DG.1.1.ext OL.2
          have Y_D := DG.1.2.ext OL.2
          refine R.getS XU hx hZ hown (host := "") (Or.inl w_150) Via.refl eU S_D (hb hby d24_49) (pc' := 52) rfl ?_; intro T9 X9 e9
          refine R.iload X9 hx (hb hby d24_52) rfl (pc' := 54) rfl ?_
          refine R.baloadY X9 hx hZ e9 Y_D (own_b100 er : ¬ i8 < 0 ∧ i8 < (100 : Int32)) (v := (own_on i8.toNatClampNeg)) (rfl) (hb hby d24_54) (pc' := 55) rfl ?_
          refine R.bastoreY X9 hx hZ e9 Y_a2 (own_bp1 (by omega) (by omega) : ¬ (cp + (-1 : Int32)) < 0 ∧ (cp + (-1 : Int32)) < (16 : Int32)) (v := (own_on i8.toNatClampNeg)) (own_nar_on _) (hb hby d24_55) (pc' := 56) rfl ?_; intro T10 h10 X10 e10 W10 V10
          have OL := OL.wr W10 g_a2
          have Y_a2 : own_By Z h10 a2 (16 : Int32) (own_up g (cp + (-1 : Int32)).toNatClampNeg (own_on i8.toNatClampNeg)) := V10
          have N10 := Fr.snoc X10 NU g_a2
          have K10 : Keep h0 h10 [a2] := KU.wr W10 (Or.inl (List.mem_of_getElem? (i := 0) rfl))
          have Z10 : n0 ≤ h10.size := Nat.le_trans ZU (Keep.of_wr W10).1
          refine R.aloadN X10 hx (hb hby d24_56) rfl rfl (pc' := 57) rfl ?_
          refine R.iinc X10 hx (hb hby d24_57) rfl (L' := #[.val (.int i7), .val (.int p1), .val (.ref a2), .val (.int i7), .val (.int i8), .val (.int ((cp + (-1 : Int32)) + (-1 : Int32))), .val (.int sv)]) rfl (pc' := 60) rfl ?_
          refine R.iload X10 hx (hb hby d24_60) rfl (pc' := 62) rfl ?_
          have S_D := DG.2.1.ext OL.2
          have Y_D := DG.2.2.ext OL.2
          refine R.getS X10 hx hZ hown (host := "") (Or.inl w_226) Via.refl e10 S_D (hb hby d24_62) (pc' := 65) rfl ?_; intro T11 X11 e11
          refine R.iload X11 hx (hb hby d24_65) rfl (pc' := 67) rfl ?_
          refine R.baloadY X11 hx hZ e11 Y_D (own_b100 er : ¬ i8 < 0 ∧ i8 < (100 : Int32)) (v := (own_tn i8.toNatClampNeg)) (rfl) (hb hby d24_67) (pc' := 68) rfl ?_
          refine R.bastoreY X11 hx hZ e11 Y_a2 (own_bp2 (by omega) (by omega) : ¬ ((cp + (-1 : Int32)) + (-1 : Int32)) < 0 ∧ ((cp + (-1 : Int32)) + (-1 : Int32)) < (16 : Int32)) (v := (own_tn i8.toNatClampNeg)) (own_nar_tn (by omega)) (hb hby d24_68) (pc' := 69) rfl ?_; intro T12 h12 X12 e12 W12 V12
          have OL := OL.wr W12 g_a2
          have Y_a2 : own_By Z h12 a2 (16 : Int32) (own_up (own_up g (cp + (-1 : Int32)).toNatClampNeg (own_on i8.toNatClampNeg)) ((cp + (-1 : Int32)) + (-1 : Int32)).toNatClampNeg (own_tn i8.toNatClampNeg)) := V12
          have N12 := Fr.snoc X12 N10 g_a2
          have K12 : Keep h0 h12 [a2] := K10.wr W12 (Or.inl (List.mem_of_getElem? (i := 0) rfl))
          have Z12 : n0 ≤ h12.size := Nat.le_trans Z10 (Keep.of_wr W12).1
          refine R.goto X12 hx (hb hby d24_69) (by decide) (pc' := 22) (by decide) ?_
          exact ih _ _ _ X12 e12 N12 K12 Z12 i7 ((cp + (-1 : Int32)) + (-1 : Int32)) (.val (.int i7)) (.val (.int i8)) sv (own_up (own_up g (cp + (-1 : Int32)).toNatClampNeg (own_on i8.toNatClampNeg)) ((cp + (-1 : Int32)) + (-1 : Int32)).toNatClampNeg (own_tn i8.toNatClampNeg)) (n - 2) OL Y_a2 (by omega) (Or.inr ⟨_, rfl⟩) (Or.inr ⟨_, rfl⟩) hsv (by omega) (own_ndq hx0 eq hn3.2) (own_hcp hcp hn3.1) (fun g' H => hC g' (own_gstep hx0 eq hn hbig hcp (by rw [← tr]; exact own_onI _) (by rw [← tr]; exact own_tnI (by omega)) H))
    refine R.iloadN X0 hx (hb hby d24_0) rfl (pc' := 1) rfl ?_
    refine R.istore X0 hx (hb hby d24_1) (L' := #[.val (.int p0), .val (.int p1), .val (.ref a2), .unset, .unset, .val (.int p1), .unset]) rfl (pc' := 3) rfl ?_
    refine R.iloadN X0 hx (hb hby d24_3) rfl (pc' := 4) rfl ?_
    by_cases hc4 : p0 < (0 : Int32)
    · refine R.ifNo X0 hx (hb hby d24_4) (tlt hc4).2.1 (pc' := 7) rfl ?_
      refine R.iconst X0 hx (hb hby d24_7) (v := (1 : Int32)) (by decide) (pc' := 8) rfl ?_
      refine R.goto X0 hx (hb hby d24_8) (by decide) (pc' := 12) (by decide) ?_
      refine R.istore X0 hx (hb hby d24_12) (L' := #[.val (.int p0), .val (.int p1), .val (.ref a2), .unset, .unset, .val (.int p1), .val (.int (1 : Int32))]) rfl (pc' := 14) rfl ?_
      refine R.iload X0 hx (hb hby d24_14) rfl (pc' := 16) rfl ?_
      refine R.ifYes X0 hx (hb hby d24_16) (feq (by decide : ¬ ((1 : Int32) = (0 : Int32)))).2 (by decide) (pc' := 22) (by decide) ?_
      have hneg : p0.toInt < 0 := own_lt0 hc4
      have hxx : -p0.toInt = (p0.toInt.natAbs : Int) := by omega
      have hsg : own_sg p0.toInt = 1 := by unfold own_sg; rw [if_pos (by omega)]
      have hab : (-p0.toInt).toNat = p0.toInt.natAbs := by omega
      exact JU _ _ _ _ X0 e0 N0 K0 Z0 p0 p1 (.unset) (.unset) (1 : Int32) f nd OL Y_a2 (Nat.le_refl _) (Or.inl rfl) (Or.inl rfl) (by rw [hsg]; decide) (by omega) (by rw [hab]; exact hnd) hix (fun g' H => by rw [hab] at H; exact H)
    · refine R.ifYes X0 hx (hb hby d24_4) (flt hc4).2.1 (by decide) (pc' := 11) (by decide) ?_
      refine R.iconst X0 hx (hb hby d24_11) (v := (0 : Int32)) (by decide) (pc' := 12) rfl ?_
      refine R.istore X0 hx (hb hby d24_12) (L' := #[.val (.int p0), .val (.int p1), .val (.ref a2), .unset, .unset, .val (.int p1), .val (.int (0 : Int32))]) rfl (pc' := 14) rfl ?_
      refine R.iload X0 hx (hb hby d24_14) rfl (pc' := 16) rfl ?_
      refine R.ifNo X0 hx (hb hby d24_16) (teq (by decide : (0 : Int32) = (0 : Int32))).2 (pc' := 19) rfl ?_
      refine R.iloadN X0 hx (hb hby d24_19) rfl (pc' := 20) rfl ?_
      refine R.ineg X0 hx (hb hby d24_20) (pc' := 21) rfl ?_
      generalize hi13 : (-p0) = i13
      refine R.istoreN X0 hx (hb hby d24_21) (L' := #[.val (.int i13), .val (.int p1), .val (.ref a2), .unset, .unset, .val (.int p1), .val (.int (0 : Int32))]) rfl (pc' := 22) rfl ?_
      have hneg : 0 ≤ p0.toInt := own_ge0 hc4
      have hxx : -i13.toInt = (p0.toInt.natAbs : Int) := by rw [← hi13, own_neg hneg]; omega
      have hsg : own_sg p0.toInt = 0 := by unfold own_sg; rw [if_neg (by omega)]
      have hab : (-i13.toInt).toNat = p0.toInt.natAbs := by omega
      exact JU _ _ _ _ X0 e0 N0 K0 Z0 i13 p1 (.unset) (.unset) (0 : Int32) f nd OL Y_a2 (Nat.le_refl _) (Or.inl rfl) (Or.inl rfl) (by rw [hsg]; decide) (by omega) (by rw [hab]; exact hnd) hix (fun g' H => by rw [hab] at H; exact H)
  exact (Rn.st (fun t k => castTop (ef_24 m p0 p1 a2) k) first_ : Rn p e below (s₁.setTop (entryFrame m #[(.int p0), (.int p1), (.ref a2)] 7)) (Fn24 Z p0 p1 a2 dO dT f nd h0 n0 s))
theorem d21_0 : decode jdk_68_method_32_code 0 = .ok (.aload_n 0, 1) := by decide +kernel
theorem d21_1 : decode jdk_68_method_32_code 1 = .ok (.getfield 79, 3) := by decide +kernel
theorem d21_4 : decode jdk_68_method_32_code 4 = .ok (.istore_n 2, 1) := by decide +kernel
theorem d21_5 : decode jdk_68_method_32_code 5 = .ok (.iload_n 2, 1) := by decide +kernel
theorem d21_6 : decode jdk_68_method_32_code 6 = .ok (.iload_n 1, 1) := by decide +kernel
theorem d21_7 : decode jdk_68_method_32_code 7 = .ok (.invokestatic 245, 3) := by decide +kernel
theorem pd_11 : parseMethodDescriptor "(I)I" = some ⟨[.int], some .int⟩ := by decide +kernel
abbrev mY12 : MethodName := (⟨"java/lang/Integer", "stringSize", "(I)I"⟩ : MethodName)
theorem d21_10 : decode jdk_68_method_32_code 10 = .ok (.iadd, 1) := by decide +kernel
theorem d21_11 : decode jdk_68_method_32_code 11 = .ok (.istore_n 3, 1) := by decide +kernel
theorem d21_12 : decode jdk_68_method_32_code 12 = .ok (.aload_n 0, 1) := by decide +kernel
theorem d21_13 : decode jdk_68_method_32_code 13 = .ok (.iload_n 3, 1) := by decide +kernel
theorem d21_14 : decode jdk_68_method_32_code 14 = .ok (.invokevirtual 100, 3) := by decide +kernel
theorem d21_17 : decode jdk_68_method_32_code 17 = .ok (.aload_n 0, 1) := by decide +kernel
theorem d21_18 : decode jdk_68_method_32_code 18 = .ok (.invokevirtual 83, 3) := by decide +kernel
abbrev mY13 : MethodName := (⟨"java/lang/AbstractStringBuilder", "isLatin1", "()Z"⟩ : MethodName)
theorem d21_21 : decode jdk_68_method_32_code 21 = .ok (.ifCond .eq 16, 3) := by decide +kernel
theorem d21_24 : decode jdk_68_method_32_code 24 = .ok (.iload_n 1, 1) := by decide +kernel
theorem d21_25 : decode jdk_68_method_32_code 25 = .ok (.iload_n 3, 1) := by decide +kernel
theorem d21_26 : decode jdk_68_method_32_code 26 = .ok (.aload_n 0, 1) := by decide +kernel
theorem d21_27 : decode jdk_68_method_32_code 27 = .ok (.getfield 15, 3) := by decide +kernel
theorem d21_30 : decode jdk_68_method_32_code 30 = .ok (.invokestatic 248, 3) := by decide +kernel
theorem pd_12 : parseMethodDescriptor "(II[B)I" = some ⟨[.int, .int, (.array .byte)], some .int⟩ := by decide +kernel
abbrev mY14 : MethodName := (⟨"java/lang/Integer", "getChars", "(II[B)I"⟩ : MethodName)
theorem d21_33 : decode jdk_68_method_32_code 33 = .ok (.pop, 1) := by decide +kernel
theorem d21_34 : decode jdk_68_method_32_code 34 = .ok (.goto 14, 3) := by decide +kernel
theorem d21_48 : decode jdk_68_method_32_code 48 = .ok (.aload_n 0, 1) := by decide +kernel
theorem d21_49 : decode jdk_68_method_32_code 49 = .ok (.iload_n 3, 1) := by decide +kernel
theorem d21_50 : decode jdk_68_method_32_code 50 = .ok (.putfield 79, 3) := by decide +kernel
theorem d21_53 : decode jdk_68_method_32_code 53 = .ok (.aload_n 0, 1) := by decide +kernel
theorem d21_54 : decode jdk_68_method_32_code 54 = .ok (.areturn, 1) := by decide +kernel
theorem ef_21 (m : MethodId) (x0 : Addr) (x1 : Int32) : entryFrame m #[(.ref x0), (.int x1)] 4 = mkF m 0 #[.val (.ref x0), .val (.int x1), .unset, .unset] [] := by first | (simp [entryFrame, mkF, argsToLocals, Value.category]; done) | rfl
def Q21 (Z : State) (a0 : Addr) (p1 : Int32) (cs : Int32) (dO : Addr) (dT : Addr) (d : Addr) (n : Int32) (g : Nat → Int32) (h0 : Heap) (n0 : Nat) (vQ : Option Value) (hQ_ : Heap) (LQ : List Loc) : Prop := ∃ c' : Int32, ∃ g' : Nat → Int32, ∃ nd : Nat, vQ = some (.ref a0) ∧ Fr n0 LQ ∧ Keep h0 hQ_ [a0, d] ∧ (Exa Z hQ_ a0 "java/lang/StringBuilder") ∧ (Fld Z hQ_ a0 "java/lang/AbstractStringBuilder" "coder" "B" (.int (0 : Int32))) ∧ (Fld Z hQ_ a0 "java/lang/AbstractStringBuilder" "value" "[B" (.ref d)) ∧ (Fld Z hQ_ a0 "java/lang/AbstractStringBuilder" "count" "I" (.int c')) ∧ (own_By Z hQ_ d (16 : Int32) g') ∧ (own_ND p1.toInt.natAbs nd) ∧ (c'.toInt = n.toInt + own_sg p1.toInt + nd) ∧ (own_GC g g' c'.toInt.toNat p1.toInt.natAbs (own_sg p1.toInt) nd)
def Fn21 (Z : State) (a0 : Addr) (p1 : Int32) (cs : Int32) (dO : Addr) (dT : Addr) (d : Addr) (n : Int32) (g : Nat → Int32) (h0 : Heap) (n0 : Nat) (sQ : State) (oQ : Outcome) (UQ : State) : Prop := ∃ vQ LQ, oQ = .returned vQ ∧ Q21 Z a0 p1 cs dO dT d n g h0 n0 vQ UQ.heap LQ ∧ FrameEnd sQ oQ UQ LQ ({ frames := 1, cells := 0, slots := 0, locals := 18 } : Room).cells ({ frames := 1, cells := 0, slots := 0, locals := 18 } : Room).slots
set_option maxRecDepth 65536 in
set_option maxHeartbeats 40000000 in
theorem rm21 (l : Launch) (Z : State) (aZ : Array Value) (hw : ∀ d ∈ tables_1, d.before aZ Z = true) (ws : List Jvm.Cond) (a0 : Addr) (p1 : Int32) (cs : Int32) (dO : Addr) (dT : Addr) (d : Addr) (n : Int32) (g : Nat → Int32) (h0 : Heap) (n0 : Nat) (Z0 : n0 ≤ h0.size) (OL : Old Z n0 h0) (CS : own_CS Z cs) (DG : own_DG Z dO dT) (E_a0 : Exa Z h0 a0 "java/lang/StringBuilder") (F_coder_a0 : Fld Z h0 a0 "java/lang/AbstractStringBuilder" "coder" "B" (.int (0 : Int32))) (F_value_a0 : Fld Z h0 a0 "java/lang/AbstractStringBuilder" "value" "[B" (.ref d)) (F_count_a0 : Fld Z h0 a0 "java/lang/AbstractStringBuilder" "count" "I" (.int n)) (Y_d : own_By Z h0 d (16 : Int32) g) (g_a0 : n0 ≤ a0) (g_d : n0 ≤ d) (ne_a0_d : a0 ≠ d) (hr : 0 ≤ n.toInt ∧ n.toInt ≤ 5) :
    MetFree l (⟨"java/lang/AbstractStringBuilder", "append", "(I)Ljava/lang/AbstractStringBuilder;"⟩ : MethodName) (head1 (Jvm.Cond.code (⟨"java/lang/AbstractStringBuilder", "append", "(I)Ljava/lang/AbstractStringBuilder;"⟩ : MethodName) jdk_68_method_32_code 4 (some (.object "java/lang/AbstractStringBuilder")) :: ws) ({ frames := 1, cells := 0, slots := 0, locals := 18 } : Room)) (fun aQ UQ => aQ = #[(.ref a0), (.int p1)] ∧ Z.Warmed39 UQ.vm ∧ UQ.heap = h0) (fun _ _ _ _ _ => True) (fun _ UQ oQ UR => ∃ vQ LQ, oQ = .returned vQ ∧ Q21 Z a0 p1 cs dO dT d n g h0 n0 vQ UR.heap LQ ∧ FrameEnd UQ oQ UR LQ ({ frames := 1, cells := 0, slots := 0, locals := 18 } : Room).cells ({ frames := 1, cells := 0, slots := 0, locals := 18 } : Room).slots) := by
  refine MetFree.of_bodySF (plainFor_of_name pn_3) hisR ?_
  intro p e s m args below meth c s₁ Bd hml0 hP hK
  obtain ⟨rfl, hZ, hh⟩ := hP
  have hx := Bd.exec
  have hby := Bd.bytes
  have hml : c.maxLocals = 4 := hml0
  have hown : s.vm.findClass "java/lang/AbstractStringBuilder" = some m.cls := findClass_of_methodNamed Bd.named
  have hnm := (name_of_methodNamed Bd.named Bd.method).1
  have X0 : Stand p l e ({ frames := 1, cells := 0, slots := 0, locals := 18 } : Room) s m #[(.ref a0), (.int p1)] below meth c s₁ [] 0 0 := Stand.of_body Bd
  have e0 : s₁.heap = h0 := by rw [← hh, Bd.state]; rfl
  have N0 := Fr.nil n0
  have K0 : Keep h0 h0 [a0, d] := Keep.refl _ _
  have w_62 := hw _ (List.mem_of_getElem? (i := 62) rfl)
  have w_71 := hw _ (List.mem_of_getElem? (i := 71) rfl)
  have w_75 := hw _ (List.mem_of_getElem? (i := 75) rfl)
  have w_76 := hw _ (List.mem_of_getElem? (i := 76) rfl)
  have w_78 := hw _ (List.mem_of_getElem? (i := 78) rfl)
  have w_99 := hw _ (List.mem_of_getElem? (i := 99) rfl)
  have w_100 := hw _ (List.mem_of_getElem? (i := 100) rfl)
  have w_101 := hw _ (List.mem_of_getElem? (i := 101) rfl)
  have w_102 := hw _ (List.mem_of_getElem? (i := 102) rfl)
  have w_104 := hw _ (List.mem_of_getElem? (i := 104) rfl)
  have w_105 := hw _ (List.mem_of_getElem? (i := 105) rfl)
  have w_138 := hw _ (List.mem_of_getElem? (i := 138) rfl)
  have w_139 := hw _ (List.mem_of_getElem? (i := 139) rfl)
  have w_140 := hw _ (List.mem_of_getElem? (i := 140) rfl)
  have w_141 := hw _ (List.mem_of_getElem? (i := 141) rfl)
  have w_142 := hw _ (List.mem_of_getElem? (i := 142) rfl)
  have w_143 := hw _ (List.mem_of_getElem? (i := 143) rfl)
  have w_144 := hw _ (List.mem_of_getElem? (i := 144) rfl)
  have w_145 := hw _ (List.mem_of_getElem? (i := 145) rfl)
  have w_146 := hw _ (List.mem_of_getElem? (i := 146) rfl)
  have w_147 := hw _ (List.mem_of_getElem? (i := 147) rfl)
  have w_148 := hw _ (List.mem_of_getElem? (i := 148) rfl)
  have w_149 := hw _ (List.mem_of_getElem? (i := 149) rfl)
  have first_ : Rn p e below (s₁.setTop (mkF m 0 #[.val (.ref a0), .val (.int p1), .unset, .unset] [])) (Fn21 Z a0 p1 cs dO dT d n g h0 n0 s) := by
    generalize hG : (Fn21 Z a0 p1 cs dO dT d n g h0 n0 s) = G
    refine R.aloadN X0 hx (hb hby d21_0) rfl rfl (pc' := 1) rfl ?_
    refine R.getF X0 hx hZ hown (host := "") (Or.inl w_99) Via.refl e0 F_count_a0 (hb hby d21_1) (pc' := 4) rfl ?_; intro T1 X1 e1
    refine R.istoreN X1 hx (hb hby d21_4) (L' := #[.val (.ref a0), .val (.int p1), .val (.int n), .unset]) rfl (pc' := 5) rfl ?_
    refine R.iloadN X1 hx (hb hby d21_5) rfl (pc' := 6) rfl ?_
    refine R.iloadN X1 hx (hb hby d21_6) rfl (pc' := 7) rfl ?_
    refine R.callS X1 hx hZ (y := mY12) hown w_138 w_139 w_140 w_141 (by decide) e1 (rm22 l Z aZ hw [] p1 h0 n0 Z0 ) (by decide) (W := 1) (Nat.le_of_eq rfl) (by decide) (by rw [hml]; rfl) (lenOf pd_11 rfl) rfl (hb hby d21_7) (pc' := 10) rfl (by decide) (by decide) ?_; intro v2 T2 L2 X2 hQ2
    obtain ⟨r_2, rfl, N2q, e2, P2_0⟩ := hQ2
    have N2 := Fr.app N0 N2q
    have sz_2 := P2_0
    obtain ⟨nd, hnd, hsz⟩ := sz_2
    have hnn := hnd.1
    have hn10 := hnd.2.1
    have hsg := own_sg01 p1.toInt
    refine R.iadd X2 hx (hb hby d21_10) rfl (pc' := 11) rfl ?_
    generalize hi3 : (n + r_2) = i3
    refine R.istoreN X2 hx (hb hby d21_11) (L' := #[.val (.ref a0), .val (.int p1), .val (.int n), .val (.int i3)]) rfl (pc' := 12) rfl ?_
    have hct : i3.toInt = n.toInt + own_sg p1.toInt + nd := by rw [← hi3, own_addI] <;> omega
    refine R.aloadN X2 hx (hb hby d21_12) rfl rfl (pc' := 13) rfl ?_
    refine R.iloadN X2 hx (hb hby d21_13) rfl (pc' := 14) rfl ?_
    refine R.virtual X2 hx hZ (y := mY1) (z := mY1) hown w_101 (own_decl w_102 w_105) (notFace_of_selects (args := #[]) (mvT hZ w_104)) w_104 w_102 w_71 w_105 (by decide) e2 E_a0 (rm16 l Z aZ hw [] a0 i3 d g h0 n0 Z0 F_coder_a0 F_value_a0 Y_d (by omega)) (by decide) (W := 0) (Nat.le_of_eq rfl) (by decide) (by rw [hml]; rfl) (lenOf pd_8 rfl) rfl (hb hby d21_14) (pc' := 17) rfl (by decide) (by decide) ?_; intro v4 T4 L4 X4 hQ4
    obtain ⟨rfl, N4q, e4⟩ := hQ4
    have N4 := Fr.app N2 N4q
    refine R.aloadN X4 hx (hb hby d21_17) rfl rfl (pc' := 18) rfl ?_
    refine R.virtual X4 hx hZ (y := mY13) (z := mY13) hown w_142 w_143 (notFace_of_selects (args := #[]) (mvT hZ w_145)) w_145 w_144 w_71 w_146 (by decide) e4 E_a0 (rm23 l Z aZ hw [] a0 cs h0 n0 Z0 OL CS F_coder_a0) (by decide) (W := 0) (Nat.le_of_eq rfl) (by decide) (by rw [hml]; rfl) (lenOf pd_4 rfl) rfl (hb hby d21_18) (pc' := 21) rfl (by decide) (by decide) ?_; intro v5 T5 L5 X5 hQ5
    obtain ⟨rfl, N5q, e5⟩ := hQ5
    have N5 := Fr.app N4 N5q
    refine R.ifNo X5 hx (hb hby d21_21) (feq (by decide : ¬ ((1 : Int32) = (0 : Int32)))).1 (pc' := 24) rfl ?_
    refine R.iloadN X5 hx (hb hby d21_24) rfl (pc' := 25) rfl ?_
    refine R.iloadN X5 hx (hb hby d21_25) rfl (pc' := 26) rfl ?_
    refine R.aloadN X5 hx (hb hby d21_26) rfl rfl (pc' := 27) rfl ?_
    refine R.getF X5 hx hZ hown (host := "") (Or.inl w_75) Via.refl e5 F_value_a0 (hb hby d21_27) (pc' := 30) rfl ?_; intro T6 X6 e6
    refine R.callS X6 hx hZ (y := mY14) hown w_147 w_148 w_140 w_149 (by decide) e6 (rm24 l Z aZ hw [] p1 i3 d dO dT g nd h0 n0 Z0 OL DG Y_d g_d (hnd) (by omega)) (by decide) (W := 0) (Nat.le_of_eq rfl) (by decide) (by rw [hml]; rfl) (lenOf pd_12 rfl) rfl (hb hby d21_30) (pc' := 33) rfl (by decide) (by decide) ?_; intro v7 T7 L7 X7 hQ7
    obtain ⟨r_7, f'_7, rfl, N7q, Kc7, P7_0, P7_1⟩ := hQ7
    have N7 := Fr.app N5 N7q
    generalize e7 : T7.heap = h7 at Kc7 P7_0 P7_1
    have K7 : Keep h0 h7 [a0, d] := K0.trans Kc7 ((allS (Or.inl (List.mem_of_getElem? (i := 1) rfl)) all0))
    have Z7 : n0 ≤ h7.size := Nat.le_trans Z0 Kc7.1
    have OL := OL.keep Kc7 (allS g_d all0)
    have E_a0 := E_a0.keep Kc7
    have F_coder_a0 := F_coder_a0.keep Kc7 (ninS ne_a0_d nin0)
    have F_value_a0 := F_value_a0.keep Kc7 (ninS ne_a0_d nin0)
    have F_count_a0 := F_count_a0.keep Kc7 (ninS ne_a0_d nin0)
    have Y_d : own_By Z h7 d (16 : Int32) (f'_7) := P7_0
    have gc_7 := P7_1
    refine R.pop X7 hx (hb hby d21_33) rfl (pc' := 34) rfl ?_
    refine R.goto X7 hx (hb hby d21_34) (by decide) (pc' := 48) (by decide) ?_
    refine R.aloadN X7 hx (hb hby d21_48) rfl rfl (pc' := 49) rfl ?_
    refine R.iloadN X7 hx (hb hby d21_49) rfl (pc' := 50) rfl ?_
    refine R.putF X7 hx hZ hown (host := "") (Or.inl w_99) Via.refl e7 F_count_a0 E_a0 (Or.inl w_100) w_62 (ty := .int) (by decide) rfl rfl (hb hby d21_50) (pc' := 53) rfl ?_; intro T8 h8 X8 e8 W8
    have OL := OL.wr W8 g_a0
    have E_a0 := E_a0.wr W8
    have F_coder_a0 := F_coder_a0.other W8 (Or.inr (slot_ne (Or.inl w_78) (Or.inl w_100) (by decide) (t := .byte) (t' := .int) (by decide) (by decide)))
    have F_value_a0 := F_value_a0.other W8 (Or.inr (slot_ne (Or.inl w_76) (Or.inl w_100) (by decide) (t := (.array .byte)) (t' := .int) (by decide) (by decide)))
    have Y_d := Y_d.other W8 (Ne.symm ne_a0_d)
    have F_count_a0 : Fld Z h8 a0 "java/lang/AbstractStringBuilder" "count" "I" (.int i3) := F_count_a0.same W8
    have N8 := Fr.snoc X8 N7 g_a0
    have K8 : Keep h0 h8 [a0, d] := K7.wr W8 (Or.inl (List.mem_of_getElem? (i := 0) rfl))
    have Z8 : n0 ≤ h8.size := Nat.le_trans Z7 (Keep.of_wr W8).1
    refine R.aloadN X8 hx (hb hby d21_53) rfl rfl (pc' := 54) rfl ?_
    rw [← hG]
    exact Rn.ret X8 (BodyLoose.notSynchronized Bd) (v := some (.ref a0)) (fun h => by rw [Bd.returns] at h; cases h) (Q := Q21 Z a0 p1 cs dO dT d n g h0 n0) e8 (fun fs hr => retOut X8 hx (t := (.object "java/lang/AbstractStringBuilder")) Bd.returns rfl (Or.inr (Or.inr (Or.inr (Or.inr ⟨rfl, rfl, rfl⟩)))) (hb hby d21_54) hr) ⟨i3, (f'_7), nd, rfl, N8, K8, E_a0, F_coder_a0, F_value_a0, F_count_a0, Y_d, (hnd), (hct), (gc_7)⟩ (by decide) (by decide)
  exact (Rn.st (fun t k => castTop (ef_21 m a0 p1) k) first_ : Rn p e below (s₁.setTop (entryFrame m #[(.ref a0), (.int p1)] 4)) (Fn21 Z a0 p1 cs dO dT d n g h0 n0 s))
theorem d20_0 : decode jdk_67_method_15_code 0 = .ok (.aload_n 0, 1) := by decide +kernel
theorem d20_1 : decode jdk_67_method_15_code 1 = .ok (.iload_n 1, 1) := by decide +kernel
theorem d20_2 : decode jdk_67_method_15_code 2 = .ok (.invokespecial 53, 3) := by decide +kernel
theorem pd_13 : parseMethodDescriptor "(I)Ljava/lang/AbstractStringBuilder;" = some ⟨[.int], some (.object "java/lang/AbstractStringBuilder")⟩ := by decide +kernel
abbrev mY15 : MethodName := (⟨"java/lang/AbstractStringBuilder", "append", "(I)Ljava/lang/AbstractStringBuilder;"⟩ : MethodName)
theorem d20_5 : decode jdk_67_method_15_code 5 = .ok (.pop, 1) := by decide +kernel
theorem d20_6 : decode jdk_67_method_15_code 6 = .ok (.aload_n 0, 1) := by decide +kernel
theorem d20_7 : decode jdk_67_method_15_code 7 = .ok (.areturn, 1) := by decide +kernel
theorem ef_20 (m : MethodId) (x0 : Addr) (x1 : Int32) : entryFrame m #[(.ref x0), (.int x1)] 2 = mkF m 0 #[.val (.ref x0), .val (.int x1)] [] := by first | (simp [entryFrame, mkF, argsToLocals, Value.category]; done) | rfl
def Q20 (Z : State) (a0 : Addr) (p1 : Int32) (cs : Int32) (dO : Addr) (dT : Addr) (d : Addr) (n : Int32) (g : Nat → Int32) (h0 : Heap) (n0 : Nat) (vQ : Option Value) (hQ_ : Heap) (LQ : List Loc) : Prop := ∃ c' : Int32, ∃ g' : Nat → Int32, ∃ nd : Nat, vQ = some (.ref a0) ∧ Fr n0 LQ ∧ Keep h0 hQ_ [a0, d] ∧ (Exa Z hQ_ a0 "java/lang/StringBuilder") ∧ (Fld Z hQ_ a0 "java/lang/AbstractStringBuilder" "coder" "B" (.int (0 : Int32))) ∧ (Fld Z hQ_ a0 "java/lang/AbstractStringBuilder" "value" "[B" (.ref d)) ∧ (Fld Z hQ_ a0 "java/lang/AbstractStringBuilder" "count" "I" (.int c')) ∧ (own_By Z hQ_ d (16 : Int32) g') ∧ (own_ND p1.toInt.natAbs nd) ∧ (c'.toInt = n.toInt + own_sg p1.toInt + nd) ∧ (own_GC g g' c'.toInt.toNat p1.toInt.natAbs (own_sg p1.toInt) nd)
def Fn20 (Z : State) (a0 : Addr) (p1 : Int32) (cs : Int32) (dO : Addr) (dT : Addr) (d : Addr) (n : Int32) (g : Nat → Int32) (h0 : Heap) (n0 : Nat) (sQ : State) (oQ : Outcome) (UQ : State) : Prop := ∃ vQ LQ, oQ = .returned vQ ∧ Q20 Z a0 p1 cs dO dT d n g h0 n0 vQ UQ.heap LQ ∧ FrameEnd sQ oQ UQ LQ ({ frames := 2, cells := 0, slots := 0, locals := 33 } : Room).cells ({ frames := 2, cells := 0, slots := 0, locals := 33 } : Room).slots
set_option maxRecDepth 65536 in
set_option maxHeartbeats 40000000 in
theorem rm20 (l : Launch) (Z : State) (aZ : Array Value) (hw : ∀ d ∈ tables_1, d.before aZ Z = true) (ws : List Jvm.Cond) (a0 : Addr) (p1 : Int32) (cs : Int32) (dO : Addr) (dT : Addr) (d : Addr) (n : Int32) (g : Nat → Int32) (h0 : Heap) (n0 : Nat) (Z0 : n0 ≤ h0.size) (OL : Old Z n0 h0) (CS : own_CS Z cs) (DG : own_DG Z dO dT) (E_a0 : Exa Z h0 a0 "java/lang/StringBuilder") (F_coder_a0 : Fld Z h0 a0 "java/lang/AbstractStringBuilder" "coder" "B" (.int (0 : Int32))) (F_value_a0 : Fld Z h0 a0 "java/lang/AbstractStringBuilder" "value" "[B" (.ref d)) (F_count_a0 : Fld Z h0 a0 "java/lang/AbstractStringBuilder" "count" "I" (.int n)) (Y_d : own_By Z h0 d (16 : Int32) g) (g_a0 : n0 ≤ a0) (g_d : n0 ≤ d) (ne_a0_d : a0 ≠ d) (hr : 0 ≤ n.toInt ∧ n.toInt ≤ 5) :
    MetFree l (⟨"java/lang/StringBuilder", "append", "(I)Ljava/lang/StringBuilder;"⟩ : MethodName) (head1 (Jvm.Cond.code (⟨"java/lang/StringBuilder", "append", "(I)Ljava/lang/StringBuilder;"⟩ : MethodName) jdk_67_method_15_code 2 (some (.object "java/lang/StringBuilder")) :: ws) ({ frames := 2, cells := 0, slots := 0, locals := 33 } : Room)) (fun aQ UQ => aQ = #[(.ref a0), (.int p1)] ∧ Z.Warmed39 UQ.vm ∧ UQ.heap = h0) (fun _ _ _ _ _ => True) (fun _ UQ oQ UR => ∃ vQ LQ, oQ = .returned vQ ∧ Q20 Z a0 p1 cs dO dT d n g h0 n0 vQ UR.heap LQ ∧ FrameEnd UQ oQ UR LQ ({ frames := 2, cells := 0, slots := 0, locals := 33 } : Room).cells ({ frames := 2, cells := 0, slots := 0, locals := 33 } : Room).slots) := by
  refine MetFree.of_bodySF (plainFor_of_name pn_4) hisR ?_
  intro p e s m args below meth c s₁ Bd hml0 hP hK
  obtain ⟨rfl, hZ, hh⟩ := hP
  have hx := Bd.exec
  have hby := Bd.bytes
  have hml : c.maxLocals = 2 := hml0
  have hown : s.vm.findClass "java/lang/StringBuilder" = some m.cls := findClass_of_methodNamed Bd.named
  have hnm := (name_of_methodNamed Bd.named Bd.method).1
  have X0 : Stand p l e ({ frames := 2, cells := 0, slots := 0, locals := 33 } : Room) s m #[(.ref a0), (.int p1)] below meth c s₁ [] 0 0 := Stand.of_body Bd
  have e0 : s₁.heap = h0 := by rw [← hh, Bd.state]; rfl
  have N0 := Fr.nil n0
  have K0 : Keep h0 h0 [a0, d] := Keep.refl _ _
  have w_71 := hw _ (List.mem_of_getElem? (i := 71) rfl)
  have w_86 := hw _ (List.mem_of_getElem? (i := 86) rfl)
  have w_104 := hw _ (List.mem_of_getElem? (i := 104) rfl)
  have w_134 := hw _ (List.mem_of_getElem? (i := 134) rfl)
  have w_135 := hw _ (List.mem_of_getElem? (i := 135) rfl)
  have w_137 := hw _ (List.mem_of_getElem? (i := 137) rfl)
  have first_ : Rn p e below (s₁.setTop (mkF m 0 #[.val (.ref a0), .val (.int p1)] [])) (Fn20 Z a0 p1 cs dO dT d n g h0 n0 s) := by
    generalize hG : (Fn20 Z a0 p1 cs dO dT d n g h0 n0 s) = G
    refine R.aloadN X0 hx (hb hby d20_0) rfl rfl (pc' := 1) rfl ?_
    refine R.iloadN X0 hx (hb hby d20_1) rfl (pc' := 2) rfl ?_
    refine R.superV X0 hx hZ (y := mY15) hown w_134 (own_same w_135 (own_nf (y := mY15) (y' := mY1) rfl w_104) (by decide)) w_135 w_86 (by decide) w_71 w_137 (by decide) e0 E_a0 (rm21 l Z aZ hw [] a0 p1 cs dO dT d n g h0 n0 Z0 OL CS DG E_a0 F_coder_a0 F_value_a0 F_count_a0 Y_d g_a0 g_d ne_a0_d hr) (by decide) (W := 0) (Nat.le_of_eq rfl) (by decide) (by rw [hml]; rfl) (lenOf pd_13 rfl) rfl (hb hby d20_2) (pc' := 5) rfl (by decide) (by decide) ?_; intro v1 T1 L1 X1 hQ1
    obtain ⟨c'_1, g'_1, nd_1, rfl, N1q, Kc1, P1_0, P1_1, P1_2, P1_3, P1_4, P1_5, P1_6, P1_7⟩ := hQ1
    have N1 := Fr.app N0 N1q
    generalize e1 : T1.heap = h1 at Kc1 P1_0 P1_1 P1_2 P1_3 P1_4 P1_5 P1_6 P1_7
    have K1 : Keep h0 h1 [a0, d] := K0.trans Kc1 ((allS (Or.inl (List.mem_of_getElem? (i := 0) rfl)) (allS (Or.inl (List.mem_of_getElem? (i := 1) rfl)) all0)))
    have Z1 : n0 ≤ h1.size := Nat.le_trans Z0 Kc1.1
    have OL := OL.keep Kc1 (allS g_a0 (allS g_d all0))
    have E_a0 : Exa Z h1 a0 "java/lang/StringBuilder" := P1_0
    have F_coder_a0 : Fld Z h1 a0 "java/lang/AbstractStringBuilder" "coder" "B" (.int (0 : Int32)) := P1_1
    have F_value_a0 : Fld Z h1 a0 "java/lang/AbstractStringBuilder" "value" "[B" (.ref d) := P1_2
    have F_count_a0 : Fld Z h1 a0 "java/lang/AbstractStringBuilder" "count" "I" (.int (c'_1)) := P1_3
    have Y_d : own_By Z h1 d (16 : Int32) (g'_1) := P1_4
    have hx_1 := P1_5
    have ct_1 := P1_6
    have gc_1 := P1_7
    refine R.pop X1 hx (hb hby d20_5) rfl (pc' := 6) rfl ?_
    refine R.aloadN X1 hx (hb hby d20_6) rfl rfl (pc' := 7) rfl ?_
    rw [← hG]
    exact Rn.ret X1 (BodyLoose.notSynchronized Bd) (v := some (.ref a0)) (fun h => by rw [Bd.returns] at h; cases h) (Q := Q20 Z a0 p1 cs dO dT d n g h0 n0) e1 (fun fs hr => retOut X1 hx (t := (.object "java/lang/StringBuilder")) Bd.returns rfl (Or.inr (Or.inr (Or.inr (Or.inr ⟨rfl, rfl, rfl⟩)))) (hb hby d20_7) hr) ⟨c'_1, g'_1, nd_1, rfl, N1, K1, E_a0, F_coder_a0, F_value_a0, F_count_a0, Y_d, (hx_1), (ct_1), (gc_1)⟩ (by decide) (by decide)
  exact (Rn.st (fun t k => castTop (ef_20 m a0 p1) k) first_ : Rn p e below (s₁.setTop (entryFrame m #[(.ref a0), (.int p1)] 2)) (Fn20 Z a0 p1 cs dO dT d n g h0 n0 s))
theorem d11_0 : decode jdk_68_method_2_code 0 = .ok (.aload_n 0, 1) := by decide +kernel
theorem d11_1 : decode jdk_68_method_2_code 1 = .ok (.invokespecial 3, 3) := by decide +kernel
theorem d11_4 : decode jdk_68_method_2_code 4 = .ok (.getstatic 18, 3) := by decide +kernel
theorem d11_7 : decode jdk_68_method_2_code 7 = .ok (.ifCond .eq 18, 3) := by decide +kernel
theorem d11_10 : decode jdk_68_method_2_code 10 = .ok (.aload_n 0, 1) := by decide +kernel
theorem d11_11 : decode jdk_68_method_2_code 11 = .ok (.iload_n 1, 1) := by decide +kernel
theorem d11_12 : decode jdk_68_method_2_code 12 = .ok (.newarray .byte, 2) := by decide +kernel
theorem d11_14 : decode jdk_68_method_2_code 14 = .ok (.putfield 15, 3) := by decide +kernel
theorem d11_17 : decode jdk_68_method_2_code 17 = .ok (.aload_n 0, 1) := by decide +kernel
theorem d11_18 : decode jdk_68_method_2_code 18 = .ok (.iconst 0, 1) := by decide +kernel
theorem d11_19 : decode jdk_68_method_2_code 19 = .ok (.putfield 22, 3) := by decide +kernel
theorem d11_22 : decode jdk_68_method_2_code 22 = .ok (.goto 16, 3) := by decide +kernel
theorem d11_38 : decode jdk_68_method_2_code 38 = .ok (.return_, 1) := by decide +kernel
theorem ef_11 (m : MethodId) (x0 : Addr) : entryFrame m #[(.ref x0), (.int (16 : Int32))] 2 = mkF m 0 #[.val (.ref x0), .val (.int (16 : Int32))] [] := by first | (simp [entryFrame, mkF, argsToLocals, Value.category]; done) | rfl
def Q11 (Z : State) (a0 : Addr) (cs : Int32) (h0 : Heap) (n0 : Nat) (vQ : Option Value) (hQ_ : Heap) (LQ : List Loc) : Prop := ∃ d : Addr, vQ = none ∧ Fr n0 LQ ∧ Keep h0 hQ_ [a0] ∧ (h0.size ≤ d) ∧ (Exa Z hQ_ a0 "java/lang/StringBuilder") ∧ (Fld Z hQ_ a0 "java/lang/AbstractStringBuilder" "coder" "B" (.int (0 : Int32))) ∧ (Fld Z hQ_ a0 "java/lang/AbstractStringBuilder" "value" "[B" (.ref d)) ∧ (Fld Z hQ_ a0 "java/lang/AbstractStringBuilder" "count" "I" (.int (0 : Int32))) ∧ (own_By Z hQ_ d (16 : Int32) (fun _ => 0))
def Fn11 (Z : State) (a0 : Addr) (cs : Int32) (h0 : Heap) (n0 : Nat) (sQ : State) (oQ : Outcome) (UQ : State) : Prop := ∃ vQ LQ, oQ = .returned vQ ∧ Q11 Z a0 cs h0 n0 vQ UQ.heap LQ ∧ FrameEnd sQ oQ UQ LQ ({ frames := 1, cells := 1, slots := 16, locals := 12 } : Room).cells ({ frames := 1, cells := 1, slots := 16, locals := 12 } : Room).slots
set_option maxRecDepth 65536 in
set_option maxHeartbeats 40000000 in
theorem rm11 (l : Launch) (Z : State) (aZ : Array Value) (hw : ∀ d ∈ tables_1, d.before aZ Z = true) (ws : List Jvm.Cond) (a0 : Addr) (cs : Int32) (h0 : Heap) (n0 : Nat) (Z0 : n0 ≤ h0.size) (OL : Old Z n0 h0) (CS : own_CS Z cs) (E_a0 : Exa Z h0 a0 "java/lang/StringBuilder") (F_coder_a0 : Fld Z h0 a0 "java/lang/AbstractStringBuilder" "coder" "B" (.int (0 : Int32))) (F_value_a0 : Fld Z h0 a0 "java/lang/AbstractStringBuilder" "value" "[B" .null) (F_count_a0 : Fld Z h0 a0 "java/lang/AbstractStringBuilder" "count" "I" (.int (0 : Int32))) (g_a0 : n0 ≤ a0) :
    MetFree l (⟨"java/lang/AbstractStringBuilder", "<init>", "(I)V"⟩ : MethodName) (head1 (Jvm.Cond.code (⟨"java/lang/AbstractStringBuilder", "<init>", "(I)V"⟩ : MethodName) jdk_68_method_2_code 2 none :: ws) ({ frames := 1, cells := 1, slots := 16, locals := 12 } : Room)) (fun aQ UQ => aQ = #[(.ref a0), (.int (16 : Int32))] ∧ Z.Warmed39 UQ.vm ∧ UQ.heap = h0) (fun _ _ _ _ _ => True) (fun _ UQ oQ UR => ∃ vQ LQ, oQ = .returned vQ ∧ Q11 Z a0 cs h0 n0 vQ UR.heap LQ ∧ FrameEnd UQ oQ UR LQ ({ frames := 1, cells := 1, slots := 16, locals := 12 } : Room).cells ({ frames := 1, cells := 1, slots := 16, locals := 12 } : Room).slots) := by
  refine MetFree.of_bodySF (plainFor_of_name pn_3) hisR ?_
  intro p e s m args below meth c s₁ Bd hml0 hP hK
  obtain ⟨rfl, hZ, hh⟩ := hP
  have hx := Bd.exec
  have hby := Bd.bytes
  have hml : c.maxLocals = 2 := hml0
  have hown : s.vm.findClass "java/lang/AbstractStringBuilder" = some m.cls := findClass_of_methodNamed Bd.named
  have hnm := (name_of_methodNamed Bd.named Bd.method).1
  have X0 : Stand p l e ({ frames := 1, cells := 1, slots := 16, locals := 12 } : Room) s m #[(.ref a0), (.int (16 : Int32))] below meth c s₁ [] 0 0 := Stand.of_body Bd
  have e0 : s₁.heap = h0 := by rw [← hh, Bd.state]; rfl
  have N0 := Fr.nil n0
  have K0 : Keep h0 h0 [a0] := Keep.refl _ _
  have w_22 := hw _ (List.mem_of_getElem? (i := 22) rfl)
  have w_23 := hw _ (List.mem_of_getElem? (i := 23) rfl)
  have w_29 := hw _ (List.mem_of_getElem? (i := 29) rfl)
  have w_62 := hw _ (List.mem_of_getElem? (i := 62) rfl)
  have w_73 := hw _ (List.mem_of_getElem? (i := 73) rfl)
  have w_74 := hw _ (List.mem_of_getElem? (i := 74) rfl)
  have w_75 := hw _ (List.mem_of_getElem? (i := 75) rfl)
  have w_76 := hw _ (List.mem_of_getElem? (i := 76) rfl)
  have w_77 := hw _ (List.mem_of_getElem? (i := 77) rfl)
  have w_78 := hw _ (List.mem_of_getElem? (i := 78) rfl)
  have w_100 := hw _ (List.mem_of_getElem? (i := 100) rfl)
  have first_ : Rn p e below (s₁.setTop (mkF m 0 #[.val (.ref a0), .val (.int (16 : Int32))] [])) (Fn11 Z a0 cs h0 n0 s) := by
    generalize hG : (Fn11 Z a0 cs h0 n0 s) = G
    refine R.aloadN X0 hx (hb hby d11_0) rfl rfl (pc' := 1) rfl ?_
    refine R.initO X0 hx hZ hown w_73 w_22 w_23 e0 (by rw [hml]; rfl) (hb hby d11_1) (pc' := 4) rfl (by decide) (W := 0) (Nat.le_of_eq rfl) (by decide) ?_; intro T1 X1 e1
    have S_CS := CS.1.ext OL.2
    refine R.getS X1 hx hZ hown (host := "") (Or.inl w_74) Via.refl e1 S_CS (hb hby d11_4) (pc' := 7) rfl ?_; intro T2 X2 e2
    refine R.ifNo X2 hx (hb hby d11_7) (feq (CS.2 : ¬ (cs = (0 : Int32)))).1 (pc' := 10) rfl ?_
    refine R.aloadN X2 hx (hb hby d11_10) rfl rfl (pc' := 11) rfl ?_
    refine R.iloadN X2 hx (hb hby d11_11) rfl (pc' := 12) rfl ?_
    refine R.newY X2 hx hZ w_29 e2 (by decide) (cap := 16) (by decide) (by decide) (hb hby d11_12) (pc' := 14) rfl (by decide) (by decide) ?_; intro T3 h3 b3 g3 X3 e3 E3 AA3
    have g_b3 : n0 ≤ b3 := Nat.le_trans Z0 (Nat.le_of_eq g3.symm)
    have sz_b3 : h0.size ≤ b3 := Nat.le_trans K0.1 (Nat.le_of_eq g3.symm)
    have ne_a0_b3 : a0 ≠ b3 := Nat.ne_of_lt (Nat.lt_of_lt_of_le E_a0.lt (Nat.le_of_eq g3.symm))
    have K3 : Keep h0 h3 [a0] := K0.ext E3
    have Z3 : n0 ≤ h3.size := Nat.le_trans Z0 E3.1
    have OL := OL.ext E3
    have E_a0 := E_a0.ext E3
    have F_coder_a0 := F_coder_a0.ext E3
    have F_value_a0 := F_value_a0.ext E3
    have F_count_a0 := F_count_a0.ext E3
    have S_CS := S_CS.ext E3
    have Y_b3 : own_By Z h3 b3 (16 : Int32) (fun _ => 0) := AA3
    refine R.putF X3 hx hZ hown (host := "") (Or.inl w_75) Via.refl e3 F_value_a0 E_a0 (Or.inl w_76) w_62 (ty := (.array .byte)) (by decide) rfl rfl (hb hby d11_14) (pc' := 17) rfl ?_; intro T4 h4 X4 e4 W4
    have OL := OL.wr W4 g_a0
    have E_a0 := E_a0.wr W4
    have F_coder_a0 := F_coder_a0.other W4 (Or.inr (slot_ne (Or.inl w_78) (Or.inl w_76) (by decide) (t := .byte) (t' := (.array .byte)) (by decide) (by decide)))
    have F_count_a0 := F_count_a0.other W4 (Or.inr (slot_ne (Or.inl w_100) (Or.inl w_76) (by decide) (t := .int) (t' := (.array .byte)) (by decide) (by decide)))
    have S_CS := S_CS.wr W4
    have Y_b3 := Y_b3.other W4 (Ne.symm ne_a0_b3)
    have F_value_a0 : Fld Z h4 a0 "java/lang/AbstractStringBuilder" "value" "[B" (.ref b3) := F_value_a0.same W4
    have N4 := Fr.snoc X4 N0 g_a0
    have K4 : Keep h0 h4 [a0] := K3.wr W4 (Or.inl (List.mem_of_getElem? (i := 0) rfl))
    have Z4 : n0 ≤ h4.size := Nat.le_trans Z3 (Keep.of_wr W4).1
    refine R.aloadN X4 hx (hb hby d11_17) rfl rfl (pc' := 18) rfl ?_
    refine R.iconst X4 hx (hb hby d11_18) (v := (0 : Int32)) (by decide) (pc' := 19) rfl ?_
    obtain ⟨T5, h5, X5, e5, W5, st5⟩ := putFN X4 hx hZ hown w_77 Via.refl e4 F_coder_a0 E_a0 (Or.inl w_78) w_62 (ty := .byte) (v' := (.int (0 : Int32))) (by decide) rfl rfl (g := (mkF m 19 #[.val (.ref a0), .val (.int (16 : Int32))] [(.int (0 : Int32)), (.ref a0)])) rfl rfl (hb hby d11_19)
    have OL := OL.wr W5 g_a0
    have E_a0 := E_a0.wr W5
    have F_count_a0 := F_count_a0.other W5 (Or.inr (slot_ne (Or.inl w_100) (Or.inl w_78) (by decide) (t := .int) (t' := .byte) (by decide) (by decide)))
    have S_CS := S_CS.wr W5
    have Y_b3 := Y_b3.other W5 (Ne.symm ne_a0_b3)
    have F_value_a0 := F_value_a0.other W5 (Or.inr (slot_ne (Or.inl w_76) (Or.inl w_78) (by decide) (t := (.array .byte)) (t' := .byte) (by decide) (by decide)))
    have F_coder_a0 : Fld Z h5 a0 "java/lang/AbstractStringBuilder" "coder" "B" (.int (0 : Int32)) := F_coder_a0.same W5
    have N5 := Fr.snoc X5 N4 g_a0
    have K5 : Keep h0 h5 [a0] := K4.wr W5 (Or.inl (List.mem_of_getElem? (i := 0) rfl))
    have Z5 : n0 ≤ h5.size := Nat.le_trans Z4 (Keep.of_wr W5).1
    refine Rn.st st5 ?_
    show Rn p e below (T5.setTop (mkF m 22 #[.val (.ref a0), .val (.int (16 : Int32))] [])) G
    refine R.goto X5 hx (hb hby d11_22) (by decide) (pc' := 38) (by decide) ?_
    rw [← hG]
    exact Rn.ret X5 (BodyLoose.notSynchronized Bd) (v := none) (fun _ => rfl) (Q := Q11 Z a0 cs h0 n0) e5 (fun fs hr => X5.returnOut hx Bd.returns (hb hby d11_38) hr) ⟨b3, rfl, N5, K5, (sz_b3), E_a0, F_coder_a0, F_value_a0, F_count_a0, Y_b3⟩ (by decide) (by decide)
  exact (Rn.st (fun t k => castTop (ef_11 m a0) k) first_ : Rn p e below (s₁.setTop (entryFrame m #[(.ref a0), (.int (16 : Int32))] 2)) (Fn11 Z a0 cs h0 n0 s))
theorem d10_0 : decode jdk_67_method_1_code 0 = .ok (.aload_n 0, 1) := by decide +kernel
theorem d10_1 : decode jdk_67_method_1_code 1 = .ok (.bipush 16, 2) := by decide +kernel
theorem d10_3 : decode jdk_67_method_1_code 3 = .ok (.invokespecial 1, 3) := by decide +kernel
abbrev mY16 : MethodName := (⟨"java/lang/AbstractStringBuilder", "<init>", "(I)V"⟩ : MethodName)
theorem d10_6 : decode jdk_67_method_1_code 6 = .ok (.return_, 1) := by decide +kernel
theorem ef_10 (m : MethodId) (x0 : Addr) : entryFrame m #[(.ref x0)] 1 = mkF m 0 #[.val (.ref x0)] [] := by first | (simp [entryFrame, mkF, argsToLocals, Value.category]; done) | rfl
def Q10 (Z : State) (a0 : Addr) (cs : Int32) (h0 : Heap) (n0 : Nat) (vQ : Option Value) (hQ_ : Heap) (LQ : List Loc) : Prop := ∃ d : Addr, vQ = none ∧ Fr n0 LQ ∧ Keep h0 hQ_ [a0] ∧ (h0.size ≤ d) ∧ (Exa Z hQ_ a0 "java/lang/StringBuilder") ∧ (Fld Z hQ_ a0 "java/lang/AbstractStringBuilder" "coder" "B" (.int (0 : Int32))) ∧ (Fld Z hQ_ a0 "java/lang/AbstractStringBuilder" "value" "[B" (.ref d)) ∧ (Fld Z hQ_ a0 "java/lang/AbstractStringBuilder" "count" "I" (.int (0 : Int32))) ∧ (own_By Z hQ_ d (16 : Int32) (fun _ => 0))
def Fn10 (Z : State) (a0 : Addr) (cs : Int32) (h0 : Heap) (n0 : Nat) (sQ : State) (oQ : Outcome) (UQ : State) : Prop := ∃ vQ LQ, oQ = .returned vQ ∧ Q10 Z a0 cs h0 n0 vQ UQ.heap LQ ∧ FrameEnd sQ oQ UQ LQ ({ frames := 2, cells := 1, slots := 16, locals := 25 } : Room).cells ({ frames := 2, cells := 1, slots := 16, locals := 25 } : Room).slots
set_option maxRecDepth 65536 in
set_option maxHeartbeats 40000000 in
theorem rm10 (l : Launch) (Z : State) (aZ : Array Value) (hw : ∀ d ∈ tables_1, d.before aZ Z = true) (ws : List Jvm.Cond) (a0 : Addr) (cs : Int32) (h0 : Heap) (n0 : Nat) (Z0 : n0 ≤ h0.size) (OL : Old Z n0 h0) (CS : own_CS Z cs) (E_a0 : Exa Z h0 a0 "java/lang/StringBuilder") (F_coder_a0 : Fld Z h0 a0 "java/lang/AbstractStringBuilder" "coder" "B" (.int (0 : Int32))) (F_value_a0 : Fld Z h0 a0 "java/lang/AbstractStringBuilder" "value" "[B" .null) (F_count_a0 : Fld Z h0 a0 "java/lang/AbstractStringBuilder" "count" "I" (.int (0 : Int32))) (g_a0 : n0 ≤ a0) :
    MetFree l (⟨"java/lang/StringBuilder", "<init>", "()V"⟩ : MethodName) (head1 (Jvm.Cond.code (⟨"java/lang/StringBuilder", "<init>", "()V"⟩ : MethodName) jdk_67_method_1_code 1 none :: ws) ({ frames := 2, cells := 1, slots := 16, locals := 25 } : Room)) (fun aQ UQ => aQ = #[(.ref a0)] ∧ Z.Warmed39 UQ.vm ∧ UQ.heap = h0) (fun _ _ _ _ _ => True) (fun _ UQ oQ UR => ∃ vQ LQ, oQ = .returned vQ ∧ Q10 Z a0 cs h0 n0 vQ UR.heap LQ ∧ FrameEnd UQ oQ UR LQ ({ frames := 2, cells := 1, slots := 16, locals := 25 } : Room).cells ({ frames := 2, cells := 1, slots := 16, locals := 25 } : Room).slots) := by
  refine MetFree.of_bodySF (plainFor_of_name pn_4) hisR ?_
  intro p e s m args below meth c s₁ Bd hml0 hP hK
  obtain ⟨rfl, hZ, hh⟩ := hP
  have hx := Bd.exec
  have hby := Bd.bytes
  have hml : c.maxLocals = 1 := hml0
  have hown : s.vm.findClass "java/lang/StringBuilder" = some m.cls := findClass_of_methodNamed Bd.named
  have hnm := (name_of_methodNamed Bd.named Bd.method).1
  have X0 : Stand p l e ({ frames := 2, cells := 1, slots := 16, locals := 25 } : Room) s m #[(.ref a0)] below meth c s₁ [] 0 0 := Stand.of_body Bd
  have e0 : s₁.heap = h0 := by rw [← hh, Bd.state]; rfl
  have N0 := Fr.nil n0
  have K0 : Keep h0 h0 [a0] := Keep.refl _ _
  have w_67 := hw _ (List.mem_of_getElem? (i := 67) rfl)
  have w_68 := hw _ (List.mem_of_getElem? (i := 68) rfl)
  have w_71 := hw _ (List.mem_of_getElem? (i := 71) rfl)
  have w_72 := hw _ (List.mem_of_getElem? (i := 72) rfl)
  have first_ : Rn p e below (s₁.setTop (mkF m 0 #[.val (.ref a0)] [])) (Fn10 Z a0 cs h0 n0 s) := by
    generalize hG : (Fn10 Z a0 cs h0 n0 s) = G
    refine R.aloadN X0 hx (hb hby d10_0) rfl rfl (pc' := 1) rfl ?_
    refine R.bipush X0 hx (hb hby d10_1) (v := (16 : Int32)) (by decide) (pc' := 3) rfl ?_
    refine R.special X0 hx hZ (y := mY16) rfl hown w_67 w_68 w_71 w_72 (by decide) e0 (rm11 l Z aZ hw [] a0 cs h0 n0 Z0 OL CS E_a0 F_coder_a0 F_value_a0 F_count_a0 g_a0) (by decide) (W := 0) (Nat.le_of_eq rfl) (by decide) (by rw [hml]; rfl) (lenOf pd_8 rfl) rfl (hb hby d10_3) (pc' := 6) rfl (by decide) (by decide) ?_; intro v1 T1 L1 X1 hQ1
    obtain ⟨d_1, rfl, N1q, Kc1, P1_0, P1_1, P1_2, P1_3, P1_4, P1_5⟩ := hQ1
    have N1 := Fr.app N0 N1q
    generalize e1 : T1.heap = h1 at Kc1 P1_0 P1_1 P1_2 P1_3 P1_4 P1_5
    have K1 : Keep h0 h1 [a0] := K0.trans Kc1 ((allS (Or.inl (List.mem_of_getElem? (i := 0) rfl)) all0))
    have Z1 : n0 ≤ h1.size := Nat.le_trans Z0 Kc1.1
    have ne_a0_d_1 : a0 ≠ d_1 := Nat.ne_of_lt (Nat.lt_of_lt_of_le E_a0.lt P1_0)
    have g_d_1 : n0 ≤ d_1 := Nat.le_trans Z0 P1_0
    have sz_d_1 : h0.size ≤ d_1 := Nat.le_trans K0.1 P1_0
    have OL := OL.keep Kc1 (allS g_a0 all0)
    have fresh_1 := P1_0
    have E_a0 : Exa Z h1 a0 "java/lang/StringBuilder" := P1_1
    have F_coder_a0 : Fld Z h1 a0 "java/lang/AbstractStringBuilder" "coder" "B" (.int (0 : Int32)) := P1_2
    have F_value_a0 : Fld Z h1 a0 "java/lang/AbstractStringBuilder" "value" "[B" (.ref d_1) := P1_3
    have F_count_a0 : Fld Z h1 a0 "java/lang/AbstractStringBuilder" "count" "I" (.int (0 : Int32)) := P1_4
    have Y_d_1 : own_By Z h1 d_1 (16 : Int32) (fun _ => 0) := P1_5
    rw [← hG]
    exact Rn.ret X1 (BodyLoose.notSynchronized Bd) (v := none) (fun _ => rfl) (Q := Q10 Z a0 cs h0 n0) e1 (fun fs hr => X1.returnOut hx Bd.returns (hb hby d10_6) hr) ⟨d_1, rfl, N1, K1, (sz_d_1), E_a0, F_coder_a0, F_value_a0, F_count_a0, Y_d_1⟩ (by decide) (by decide)
  exact (Rn.st (fun t k => castTop (ef_10 m a0) k) first_ : Rn p e below (s₁.setTop (entryFrame m #[(.ref a0)] 1)) (Fn10 Z a0 cs h0 n0 s))
theorem d32_0 : decode jdk_65_method_133_code 0 = .ok (.iload_n 1, 1) := by decide +kernel
theorem d32_1 : decode jdk_65_method_133_code 1 = .ok (.iload_n 2, 1) := by decide +kernel
theorem d32_2 : decode jdk_65_method_133_code 2 = .ok (.invokestatic 343, 3) := by decide +kernel
abbrev mY17 : MethodName := (⟨"java/util/Arrays", "checkLength", "(II)V"⟩ : MethodName)
theorem d32_5 : decode jdk_65_method_133_code 5 = .ok (.iload_n 2, 1) := by decide +kernel
theorem d32_6 : decode jdk_65_method_133_code 6 = .ok (.iload_n 1, 1) := by decide +kernel
theorem d32_7 : decode jdk_65_method_133_code 7 = .ok (.isub, 1) := by decide +kernel
theorem d32_8 : decode jdk_65_method_133_code 8 = .ok (.istore_n 3, 1) := by decide +kernel
theorem d32_9 : decode jdk_65_method_133_code 9 = .ok (.iload_n 3, 1) := by decide +kernel
theorem d32_10 : decode jdk_65_method_133_code 10 = .ok (.newarray .byte, 2) := by decide +kernel
theorem d32_12 : decode jdk_65_method_133_code 12 = .ok (.astore 4, 2) := by decide +kernel
theorem d32_14 : decode jdk_65_method_133_code 14 = .ok (.aload_n 0, 1) := by decide +kernel
theorem d32_15 : decode jdk_65_method_133_code 15 = .ok (.iload_n 1, 1) := by decide +kernel
theorem d32_16 : decode jdk_65_method_133_code 16 = .ok (.aload 4, 2) := by decide +kernel
theorem d32_18 : decode jdk_65_method_133_code 18 = .ok (.iconst 0, 1) := by decide +kernel
theorem d32_19 : decode jdk_65_method_133_code 19 = .ok (.aload_n 0, 1) := by decide +kernel
theorem d32_20 : decode jdk_65_method_133_code 20 = .ok (.arraylength, 1) := by decide +kernel
theorem d32_21 : decode jdk_65_method_133_code 21 = .ok (.iload_n 1, 1) := by decide +kernel
theorem d32_22 : decode jdk_65_method_133_code 22 = .ok (.isub, 1) := by decide +kernel
theorem d32_23 : decode jdk_65_method_133_code 23 = .ok (.iload_n 3, 1) := by decide +kernel
theorem d32_24 : decode jdk_65_method_133_code 24 = .ok (.invokestatic 304, 3) := by decide +kernel
theorem pd_14 : parseMethodDescriptor "(II)I" = some ⟨[.int, .int], some .int⟩ := by decide +kernel
abbrev mY18 : MethodName := (⟨"java/lang/Math", "min", "(II)I"⟩ : MethodName)
theorem d32_27 : decode jdk_65_method_133_code 27 = .ok (.invokestatic 150, 3) := by decide +kernel
theorem d32_30 : decode jdk_65_method_133_code 30 = .ok (.aload 4, 2) := by decide +kernel
theorem d32_32 : decode jdk_65_method_133_code 32 = .ok (.areturn, 1) := by decide +kernel
theorem ef_32 (m : MethodId) (x0 : Addr) (x2 : Int32) : entryFrame m #[(.ref x0), (.int (0 : Int32)), (.int x2)] 5 = mkF m 0 #[.val (.ref x0), .val (.int (0 : Int32)), .val (.int x2), .unset, .unset] [] := by first | (simp [entryFrame, mkF, argsToLocals, Value.category]; done) | rfl
def Q32 (Z : State) (a0 : Addr) (p2 : Int32) (f : Nat → Int32) (h0 : Heap) (n0 : Nat) (vQ : Option Value) (hQ_ : Heap) (LQ : List Loc) : Prop := ∃ r : Addr, vQ = some (.ref r) ∧ Fr n0 LQ ∧ Keep h0 hQ_ [] ∧ (h0.size ≤ r) ∧ (own_By Z hQ_ r p2 (own_cp (fun _ => 0) 0 p2.toInt.toNat f 0))
def Fn32 (Z : State) (a0 : Addr) (p2 : Int32) (f : Nat → Int32) (h0 : Heap) (n0 : Nat) (sQ : State) (oQ : Outcome) (UQ : State) : Prop := ∃ vQ LQ, oQ = .returned vQ ∧ Q32 Z a0 p2 f h0 n0 vQ UQ.heap LQ ∧ FrameEnd sQ oQ UQ LQ ({ frames := 1, cells := 1, slots := 15, locals := 18 } : Room).cells ({ frames := 1, cells := 1, slots := 15, locals := 18 } : Room).slots
set_option maxRecDepth 65536 in
set_option maxHeartbeats 40000000 in
theorem rm32 (l : Launch) (Z : State) (aZ : Array Value) (hw : ∀ d ∈ tables_1, d.before aZ Z = true) (ws : List Jvm.Cond) (a0 : Addr) (p2 : Int32) (f : Nat → Int32) (h0 : Heap) (n0 : Nat) (Z0 : n0 ≤ h0.size) (OL : Old Z n0 h0) (Y_a0 : own_By Z h0 a0 (16 : Int32) f) (hr : 0 ≤ p2.toInt ∧ p2.toInt < 16) :
    MetFree l (⟨"java/util/Arrays", "copyOfRangeByte", "([BII)[B"⟩ : MethodName) (head1 (Jvm.Cond.code (⟨"java/util/Arrays", "copyOfRangeByte", "([BII)[B"⟩ : MethodName) jdk_65_method_133_code 5 (some (.array .byte)) :: ws) ({ frames := 1, cells := 1, slots := 15, locals := 18 } : Room)) (fun aQ UQ => aQ = #[(.ref a0), (.int (0 : Int32)), (.int p2)] ∧ Z.Warmed39 UQ.vm ∧ UQ.heap = h0) (fun _ _ _ _ _ => True) (fun _ UQ oQ UR => ∃ vQ LQ, oQ = .returned vQ ∧ Q32 Z a0 p2 f h0 n0 vQ UR.heap LQ ∧ FrameEnd UQ oQ UR LQ ({ frames := 1, cells := 1, slots := 15, locals := 18 } : Room).cells ({ frames := 1, cells := 1, slots := 15, locals := 18 } : Room).slots) := by
  refine MetFree.of_bodySF (plainFor_of_name pn_0) hisR ?_
  intro p e s m args below meth c s₁ Bd hml0 hP hK
  obtain ⟨rfl, hZ, hh⟩ := hP
  have hx := Bd.exec
  have hby := Bd.bytes
  have hml : c.maxLocals = 5 := hml0
  have hown : s.vm.findClass "java/util/Arrays" = some m.cls := findClass_of_methodNamed Bd.named
  have hnm := (name_of_methodNamed Bd.named Bd.method).1
  have X0 : Stand p l e ({ frames := 1, cells := 1, slots := 15, locals := 18 } : Room) s m #[(.ref a0), (.int (0 : Int32)), (.int p2)] below meth c s₁ [] 0 0 := Stand.of_body Bd
  have e0 : s₁.heap = h0 := by rw [← hh, Bd.state]; rfl
  have N0 := Fr.nil n0
  have K0 : Keep h0 h0 [] := Keep.refl _ _
  have w_29 := hw _ (List.mem_of_getElem? (i := 29) rfl)
  have w_123 := hw _ (List.mem_of_getElem? (i := 123) rfl)
  have w_124 := hw _ (List.mem_of_getElem? (i := 124) rfl)
  have w_125 := hw _ (List.mem_of_getElem? (i := 125) rfl)
  have w_179 := hw _ (List.mem_of_getElem? (i := 179) rfl)
  have w_184 := hw _ (List.mem_of_getElem? (i := 184) rfl)
  have w_185 := hw _ (List.mem_of_getElem? (i := 185) rfl)
  have w_186 := hw _ (List.mem_of_getElem? (i := 186) rfl)
  have w_187 := hw _ (List.mem_of_getElem? (i := 187) rfl)
  have w_188 := hw _ (List.mem_of_getElem? (i := 188) rfl)
  have w_189 := hw _ (List.mem_of_getElem? (i := 189) rfl)
  have w_190 := hw _ (List.mem_of_getElem? (i := 190) rfl)
  have w_191 := hw _ (List.mem_of_getElem? (i := 191) rfl)
  have first_ : Rn p e below (s₁.setTop (mkF m 0 #[.val (.ref a0), .val (.int (0 : Int32)), .val (.int p2), .unset, .unset] [])) (Fn32 Z a0 p2 f h0 n0 s) := by
    generalize hG : (Fn32 Z a0 p2 f h0 n0 s) = G
    refine R.iloadN X0 hx (hb hby d32_0) rfl (pc' := 1) rfl ?_
    refine R.iloadN X0 hx (hb hby d32_1) rfl (pc' := 2) rfl ?_
    refine R.callS X0 hx hZ (y := mY17) hown w_184 w_185 w_179 w_186 (by decide) e0 (rm33 l Z aZ hw [] (0 : Int32) p2 h0 n0 Z0 (own_nng hr.1)) (by decide) (W := 0) (Nat.le_of_eq rfl) (by decide) (by rw [hml]; rfl) (lenOf pd_3 rfl) rfl (hb hby d32_2) (pc' := 5) rfl (by decide) (by decide) ?_; intro v1 T1 L1 X1 hQ1
    obtain ⟨rfl, N1q, e1⟩ := hQ1
    have N1 := Fr.app N0 N1q
    refine R.iloadN X1 hx (hb hby d32_5) rfl (pc' := 6) rfl ?_
    refine R.iloadN X1 hx (hb hby d32_6) rfl (pc' := 7) rfl ?_
    refine R.isub X1 hx (hb hby d32_7) rfl (pc' := 8) rfl ?_
    show Rn p e below (T1.setTop (mkF m 8 #[.val (.ref a0), .val (.int (0 : Int32)), .val (.int p2), .unset, .unset] [(.int (p2 - (0 : Int32)))])) G
    rw [show (p2 - (0 : Int32)) = p2 from Int32.sub_zero p2]
    refine R.istoreN X1 hx (hb hby d32_8) (L' := #[.val (.ref a0), .val (.int (0 : Int32)), .val (.int p2), .val (.int p2), .unset]) rfl (pc' := 9) rfl ?_
    refine R.iloadN X1 hx (hb hby d32_9) rfl (pc' := 10) rfl ?_
    refine R.newY X1 hx hZ w_29 e1 (own_nng hr.1) (cap := 15) (show p2.toInt.toNat ≤ 15 by omega) (by decide) (hb hby d32_10) (pc' := 12) rfl (by decide) (by decide) ?_; intro T2 h2 b2 g2 X2 e2 E2 AA2
    have g_b2 : n0 ≤ b2 := Nat.le_trans Z0 (Nat.le_of_eq g2.symm)
    have sz_b2 : h0.size ≤ b2 := Nat.le_trans K0.1 (Nat.le_of_eq g2.symm)
    have ne_a0_b2 : a0 ≠ b2 := Nat.ne_of_lt (Nat.lt_of_lt_of_le Y_a0.lt (Nat.le_of_eq g2.symm))
    have K2 : Keep h0 h2 [] := K0.ext E2
    have Z2 : n0 ≤ h2.size := Nat.le_trans Z0 E2.1
    have OL := OL.ext E2
    have Y_a0 := Y_a0.ext E2
    have Y_b2 : own_By Z h2 b2 p2 (fun _ => 0) := AA2
    refine R.astore X2 hx (hb hby d32_12) rfl (L' := #[.val (.ref a0), .val (.int (0 : Int32)), .val (.int p2), .val (.int p2), .val (.ref b2)]) rfl (pc' := 14) rfl ?_
    refine R.aloadN X2 hx (hb hby d32_14) rfl rfl (pc' := 15) rfl ?_
    refine R.iloadN X2 hx (hb hby d32_15) rfl (pc' := 16) rfl ?_
    refine R.aload X2 hx (hb hby d32_16) rfl rfl (pc' := 18) rfl ?_
    refine R.iconst X2 hx (hb hby d32_18) (v := (0 : Int32)) (by decide) (pc' := 19) rfl ?_
    refine R.aloadN X2 hx (hb hby d32_19) rfl rfl (pc' := 20) rfl ?_
    refine R.alenY X2 hx hZ e2 Y_a0 (hb hby d32_20) (pc' := 21) rfl ?_
    refine R.iloadN X2 hx (hb hby d32_21) rfl (pc' := 22) rfl ?_
    refine R.isub X2 hx (hb hby d32_22) (v := (16 : Int32)) (by decide) (pc' := 23) rfl ?_
    refine R.iloadN X2 hx (hb hby d32_23) rfl (pc' := 24) rfl ?_
    refine R.callS X2 hx hZ (y := mY18) hown w_187 w_188 w_189 w_190 (by decide) e2 (rm34 l Z aZ hw [] (16 : Int32) p2 h2 n0 Z2 ) (by decide) (W := 4) (Nat.le_of_eq rfl) (by decide) (by rw [hml]; rfl) (lenOf pd_14 rfl) rfl (hb hby d32_24) (pc' := 27) rfl (by decide) (by decide) ?_; intro v3 T3 L3 X3 hQ3
    obtain ⟨r_3, rfl, N3q, e3, P3_0⟩ := hQ3
    have N3 := Fr.app N1 N3q
    have mn_3 := P3_0
    have tm : r_3 = p2 := own_min16 hr mn_3
    rw [tm]
    refine R.copyY X3 hx hZ hown w_191 w_125 w_123 w_124 e3 Y_a0 Y_b2 (by decide) (by decide) (hr.1) (by have t0 : (0 : Int32).toInt = 0 := (by decide); have t1 : (16 : Int32).toInt = 16 := (by decide); omega) (by have t0 : (0 : Int32).toInt = 0 := (by decide); omega) N3 g_b2 (by rw [hml]; rfl) (hb hby d32_27) (pc' := 30) rfl (by decide) (W := 0) (Nat.le_of_eq rfl) (by decide) ?_; intro T5 h5 L5 X5 e5 N5 Kc5 V5
    have K5 : Keep h0 h5 [] := K2.trans Kc5 ((allS (Or.inr sz_b2) all0))
    have Z5 : n0 ≤ h5.size := Nat.le_trans Z2 Kc5.1
    have OL := OL.keep Kc5 (allS g_b2 all0)
    have Y_a0 := Y_a0.keep Kc5 (ninS ne_a0_b2 nin0)
    have Y_b2 : own_By Z h5 b2 p2 (own_cp (fun _ => 0) (0 : Int32).toInt.toNat p2.toInt.toNat f (0 : Int32).toInt.toNat) := V5
    refine R.aload X5 hx (hb hby d32_30) rfl rfl (pc' := 32) rfl ?_
    rw [← hG]
    exact Rn.ret X5 (BodyLoose.notSynchronized Bd) (v := some (.ref b2)) (fun h => by rw [Bd.returns] at h; cases h) (Q := Q32 Z a0 p2 f h0 n0) e5 (fun fs hr => retOut X5 hx (t := (.array .byte)) Bd.returns rfl (Or.inr (Or.inr (Or.inr (Or.inr ⟨rfl, rfl, rfl⟩)))) (hb hby d32_32) hr) ⟨b2, rfl, N5, K5, (sz_b2), Y_b2⟩ (by decide) (by decide)
  exact (Rn.st (fun t k => castTop (ef_32 m a0 p2) k) first_ : Rn p e below (s₁.setTop (entryFrame m #[(.ref a0), (.int (0 : Int32)), (.int p2)] 5)) (Fn32 Z a0 p2 f h0 n0 s))
theorem d31_0 : decode jdk_65_method_132_code 0 = .ok (.iload_n 1, 1) := by decide +kernel
theorem d31_1 : decode jdk_65_method_132_code 1 = .ok (.ifCond .ne 9, 3) := by decide +kernel
theorem d31_4 : decode jdk_65_method_132_code 4 = .ok (.iload_n 2, 1) := by decide +kernel
theorem d31_5 : decode jdk_65_method_132_code 5 = .ok (.aload_n 0, 1) := by decide +kernel
theorem d31_6 : decode jdk_65_method_132_code 6 = .ok (.arraylength, 1) := by decide +kernel
theorem d31_7 : decode jdk_65_method_132_code 7 = .ok (.if_icmp .eq 10, 3) := by decide +kernel
theorem d31_10 : decode jdk_65_method_132_code 10 = .ok (.aload_n 0, 1) := by decide +kernel
theorem d31_11 : decode jdk_65_method_132_code 11 = .ok (.iload_n 1, 1) := by decide +kernel
theorem d31_12 : decode jdk_65_method_132_code 12 = .ok (.iload_n 2, 1) := by decide +kernel
theorem d31_13 : decode jdk_65_method_132_code 13 = .ok (.invokestatic 339, 3) := by decide +kernel
theorem pd_15 : parseMethodDescriptor "([BII)[B" = some ⟨[(.array .byte), .int, .int], some (.array .byte)⟩ := by decide +kernel
abbrev mY19 : MethodName := (⟨"java/util/Arrays", "copyOfRangeByte", "([BII)[B"⟩ : MethodName)
theorem d31_16 : decode jdk_65_method_132_code 16 = .ok (.areturn, 1) := by decide +kernel
theorem ef_31 (m : MethodId) (x0 : Addr) (x2 : Int32) : entryFrame m #[(.ref x0), (.int (0 : Int32)), (.int x2)] 3 = mkF m 0 #[.val (.ref x0), .val (.int (0 : Int32)), .val (.int x2)] [] := by first | (simp [entryFrame, mkF, argsToLocals, Value.category]; done) | rfl
def Q31 (Z : State) (a0 : Addr) (p2 : Int32) (f : Nat → Int32) (h0 : Heap) (n0 : Nat) (vQ : Option Value) (hQ_ : Heap) (LQ : List Loc) : Prop := ∃ r : Addr, vQ = some (.ref r) ∧ Fr n0 LQ ∧ Keep h0 hQ_ [] ∧ (h0.size ≤ r) ∧ (own_By Z hQ_ r p2 (own_cp (fun _ => 0) 0 p2.toInt.toNat f 0))
def Fn31 (Z : State) (a0 : Addr) (p2 : Int32) (f : Nat → Int32) (h0 : Heap) (n0 : Nat) (sQ : State) (oQ : Outcome) (UQ : State) : Prop := ∃ vQ LQ, oQ = .returned vQ ∧ Q31 Z a0 p2 f h0 n0 vQ UQ.heap LQ ∧ FrameEnd sQ oQ UQ LQ ({ frames := 2, cells := 1, slots := 15, locals := 34 } : Room).cells ({ frames := 2, cells := 1, slots := 15, locals := 34 } : Room).slots
set_option maxRecDepth 65536 in
set_option maxHeartbeats 40000000 in
theorem rm31 (l : Launch) (Z : State) (aZ : Array Value) (hw : ∀ d ∈ tables_1, d.before aZ Z = true) (ws : List Jvm.Cond) (a0 : Addr) (p2 : Int32) (f : Nat → Int32) (h0 : Heap) (n0 : Nat) (Z0 : n0 ≤ h0.size) (OL : Old Z n0 h0) (Y_a0 : own_By Z h0 a0 (16 : Int32) f) (hr : 0 ≤ p2.toInt ∧ p2.toInt < 16) :
    MetFree l (⟨"java/util/Arrays", "copyOfRange", "([BII)[B"⟩ : MethodName) (head1 (Jvm.Cond.code (⟨"java/util/Arrays", "copyOfRange", "([BII)[B"⟩ : MethodName) jdk_65_method_132_code 3 (some (.array .byte)) :: ws) ({ frames := 2, cells := 1, slots := 15, locals := 34 } : Room)) (fun aQ UQ => aQ = #[(.ref a0), (.int (0 : Int32)), (.int p2)] ∧ Z.Warmed39 UQ.vm ∧ UQ.heap = h0) (fun _ _ _ _ _ => True) (fun _ UQ oQ UR => ∃ vQ LQ, oQ = .returned vQ ∧ Q31 Z a0 p2 f h0 n0 vQ UR.heap LQ ∧ FrameEnd UQ oQ UR LQ ({ frames := 2, cells := 1, slots := 15, locals := 34 } : Room).cells ({ frames := 2, cells := 1, slots := 15, locals := 34 } : Room).slots) := by
  refine MetFree.of_bodySF (plainFor_of_name pn_0) hisR ?_
  intro p e s m args below meth c s₁ Bd hml0 hP hK
  obtain ⟨rfl, hZ, hh⟩ := hP
  have hx := Bd.exec
  have hby := Bd.bytes
  have hml : c.maxLocals = 3 := hml0
  have hown : s.vm.findClass "java/util/Arrays" = some m.cls := findClass_of_methodNamed Bd.named
  have hnm := (name_of_methodNamed Bd.named Bd.method).1
  have X0 : Stand p l e ({ frames := 2, cells := 1, slots := 15, locals := 34 } : Room) s m #[(.ref a0), (.int (0 : Int32)), (.int p2)] below meth c s₁ [] 0 0 := Stand.of_body Bd
  have e0 : s₁.heap = h0 := by rw [← hh, Bd.state]; rfl
  have N0 := Fr.nil n0
  have K0 : Keep h0 h0 [] := Keep.refl _ _
  have w_179 := hw _ (List.mem_of_getElem? (i := 179) rfl)
  have w_181 := hw _ (List.mem_of_getElem? (i := 181) rfl)
  have w_182 := hw _ (List.mem_of_getElem? (i := 182) rfl)
  have w_183 := hw _ (List.mem_of_getElem? (i := 183) rfl)
  have first_ : Rn p e below (s₁.setTop (mkF m 0 #[.val (.ref a0), .val (.int (0 : Int32)), .val (.int p2)] [])) (Fn31 Z a0 p2 f h0 n0 s) := by
    generalize hG : (Fn31 Z a0 p2 f h0 n0 s) = G
    refine R.iloadN X0 hx (hb hby d31_0) rfl (pc' := 1) rfl ?_
    refine R.ifNo X0 hx (hb hby d31_1) (teq (by decide : (0 : Int32) = (0 : Int32))).2 (pc' := 4) rfl ?_
    refine R.iloadN X0 hx (hb hby d31_4) rfl (pc' := 5) rfl ?_
    refine R.aloadN X0 hx (hb hby d31_5) rfl rfl (pc' := 6) rfl ?_
    refine R.alenY X0 hx hZ e0 Y_a0 (hb hby d31_6) (pc' := 7) rfl ?_
    refine R.icmpNo X0 hx (hb hby d31_7) (feq (own_ne16 hr : ¬ (p2 = (16 : Int32)))).1 (pc' := 10) rfl ?_
    refine R.aloadN X0 hx (hb hby d31_10) rfl rfl (pc' := 11) rfl ?_
    refine R.iloadN X0 hx (hb hby d31_11) rfl (pc' := 12) rfl ?_
    refine R.iloadN X0 hx (hb hby d31_12) rfl (pc' := 13) rfl ?_
    refine R.callS X0 hx hZ (y := mY19) hown w_181 w_182 w_179 w_183 (by decide) e0 (rm32 l Z aZ hw [] a0 p2 f h0 n0 Z0 OL Y_a0 hr) (by decide) (W := 0) (Nat.le_of_eq rfl) (by decide) (by rw [hml]; rfl) (lenOf pd_15 rfl) rfl (hb hby d31_13) (pc' := 16) rfl (by decide) (by decide) ?_; intro v1 T1 L1 X1 hQ1
    obtain ⟨r_1, rfl, N1q, Kc1, P1_0, P1_1⟩ := hQ1
    have N1 := Fr.app N0 N1q
    generalize e1 : T1.heap = h1 at Kc1 P1_0 P1_1
    have K1 : Keep h0 h1 [] := K0.trans Kc1 (all0)
    have Z1 : n0 ≤ h1.size := Nat.le_trans Z0 Kc1.1
    have ne_a0_r_1 : a0 ≠ r_1 := Nat.ne_of_lt (Nat.lt_of_lt_of_le Y_a0.lt P1_0)
    have g_r_1 : n0 ≤ r_1 := Nat.le_trans Z0 P1_0
    have sz_r_1 : h0.size ≤ r_1 := Nat.le_trans K0.1 P1_0
    have OL := OL.keep Kc1 all0
    have Y_a0 := Y_a0.keep Kc1 nin0
    have fresh_1 := P1_0
    have Y_r_1 : own_By Z h1 r_1 p2 (own_cp (fun _ => 0) 0 p2.toInt.toNat f 0) := P1_1
    rw [← hG]
    exact Rn.ret X1 (BodyLoose.notSynchronized Bd) (v := some (.ref r_1)) (fun h => by rw [Bd.returns] at h; cases h) (Q := Q31 Z a0 p2 f h0 n0) e1 (fun fs hr => retOut X1 hx (t := (.array .byte)) Bd.returns rfl (Or.inr (Or.inr (Or.inr (Or.inr ⟨rfl, rfl, rfl⟩)))) (hb hby d31_16) hr) ⟨r_1, rfl, N1, K1, (sz_r_1), Y_r_1⟩ (by decide) (by decide)
  exact (Rn.st (fun t k => castTop (ef_31 m a0 p2) k) first_ : Rn p e below (s₁.setTop (entryFrame m #[(.ref a0), (.int (0 : Int32)), (.int p2)] 3)) (Fn31 Z a0 p2 f h0 n0 s))
theorem d27_0 : decode jdk_42_method_150_code 0 = .ok (.aload_n 0, 1) := by decide +kernel
theorem d27_1 : decode jdk_42_method_150_code 1 = .ok (.invokespecial 1, 3) := by decide +kernel
theorem d27_4 : decode jdk_42_method_150_code 4 = .ok (.aload_n 1, 1) := by decide +kernel
theorem d27_5 : decode jdk_42_method_150_code 5 = .ok (.invokevirtual 552, 3) := by decide +kernel
theorem pd_16 : parseMethodDescriptor "()[B" = some ⟨[], some (.array .byte)⟩ := by decide +kernel
abbrev mY20 : MethodName := (⟨"java/lang/AbstractStringBuilder", "getValue", "()[B"⟩ : MethodName)
theorem d27_8 : decode jdk_42_method_150_code 8 = .ok (.astore_n 3, 1) := by decide +kernel
theorem d27_9 : decode jdk_42_method_150_code 9 = .ok (.aload_n 1, 1) := by decide +kernel
theorem d27_10 : decode jdk_42_method_150_code 10 = .ok (.invokevirtual 549, 3) := by decide +kernel
abbrev mY21 : MethodName := (⟨"java/lang/StringBuilder", "length", "()I"⟩ : MethodName)
theorem d27_13 : decode jdk_42_method_150_code 13 = .ok (.istore 4, 2) := by decide +kernel
theorem d27_15 : decode jdk_42_method_150_code 15 = .ok (.aload_n 1, 1) := by decide +kernel
theorem d27_16 : decode jdk_42_method_150_code 16 = .ok (.invokevirtual 1047, 3) := by decide +kernel
theorem d27_19 : decode jdk_42_method_150_code 19 = .ok (.ifCond .eq 22, 3) := by decide +kernel
theorem d27_22 : decode jdk_42_method_150_code 22 = .ok (.aload_n 0, 1) := by decide +kernel
theorem d27_23 : decode jdk_42_method_150_code 23 = .ok (.iconst 0, 1) := by decide +kernel
theorem d27_24 : decode jdk_42_method_150_code 24 = .ok (.putfield 15, 3) := by decide +kernel
theorem d27_27 : decode jdk_42_method_150_code 27 = .ok (.aload_n 0, 1) := by decide +kernel
theorem d27_28 : decode jdk_42_method_150_code 28 = .ok (.aload_n 3, 1) := by decide +kernel
theorem d27_29 : decode jdk_42_method_150_code 29 = .ok (.iconst 0, 1) := by decide +kernel
theorem d27_30 : decode jdk_42_method_150_code 30 = .ok (.iload 4, 2) := by decide +kernel
theorem d27_32 : decode jdk_42_method_150_code 32 = .ok (.invokestatic 54, 3) := by decide +kernel
abbrev mY22 : MethodName := (⟨"java/util/Arrays", "copyOfRange", "([BII)[B"⟩ : MethodName)
theorem d27_35 : decode jdk_42_method_150_code 35 = .ok (.putfield 9, 3) := by decide +kernel
theorem d27_38 : decode jdk_42_method_150_code 38 = .ok (.goto 59, 3) := by decide +kernel
theorem d27_97 : decode jdk_42_method_150_code 97 = .ok (.return_, 1) := by decide +kernel
theorem ef_27 (m : MethodId) (x0 : Addr) (x1 : Addr) : entryFrame m #[(.ref x0), (.ref x1), .null] 5 = mkF m 0 #[.val (.ref x0), .val (.ref x1), .val .null, .unset, .unset] [] := by first | (simp [entryFrame, mkF, argsToLocals, Value.category]; done) | rfl
def Q27 (Z : State) (a0 : Addr) (a1 : Addr) (cs : Int32) (d : Addr) (n : Int32) (g : Nat → Int32) (h0 : Heap) (n0 : Nat) (vQ : Option Value) (hQ_ : Heap) (LQ : List Loc) : Prop := ∃ r : Addr, vQ = none ∧ Fr n0 LQ ∧ Keep h0 hQ_ [a0] ∧ (h0.size ≤ r) ∧ (Exa Z hQ_ a0 "java/lang/String") ∧ (Fld Z hQ_ a0 "java/lang/String" "coder" "B" (.int (0 : Int32))) ∧ (Fld Z hQ_ a0 "java/lang/String" "value" "[B" (.ref r)) ∧ (own_By Z hQ_ r n (own_cp (fun _ => 0) 0 n.toInt.toNat g 0))
def Fn27 (Z : State) (a0 : Addr) (a1 : Addr) (cs : Int32) (d : Addr) (n : Int32) (g : Nat → Int32) (h0 : Heap) (n0 : Nat) (sQ : State) (oQ : Outcome) (UQ : State) : Prop := ∃ vQ LQ, oQ = .returned vQ ∧ Q27 Z a0 a1 cs d n g h0 n0 vQ UQ.heap LQ ∧ FrameEnd sQ oQ UQ LQ ({ frames := 3, cells := 1, slots := 15, locals := 49 } : Room).cells ({ frames := 3, cells := 1, slots := 15, locals := 49 } : Room).slots
set_option maxRecDepth 65536 in
set_option maxHeartbeats 40000000 in
theorem rm27 (l : Launch) (Z : State) (aZ : Array Value) (hw : ∀ d ∈ tables_1, d.before aZ Z = true) (ws : List Jvm.Cond) (a0 : Addr) (a1 : Addr) (cs : Int32) (d : Addr) (n : Int32) (g : Nat → Int32) (h0 : Heap) (n0 : Nat) (Z0 : n0 ≤ h0.size) (OL : Old Z n0 h0) (CS : own_CS Z cs) (E_a0 : Exa Z h0 a0 "java/lang/String") (F_coder_a0 : Fld Z h0 a0 "java/lang/String" "coder" "B" (.int (0 : Int32))) (F_value_a0 : Fld Z h0 a0 "java/lang/String" "value" "[B" .null) (g_a0 : n0 ≤ a0) (E_a1 : Exa Z h0 a1 "java/lang/StringBuilder") (F_coder_a1 : Fld Z h0 a1 "java/lang/AbstractStringBuilder" "coder" "B" (.int (0 : Int32))) (F_value_a1 : Fld Z h0 a1 "java/lang/AbstractStringBuilder" "value" "[B" (.ref d)) (F_count_a1 : Fld Z h0 a1 "java/lang/AbstractStringBuilder" "count" "I" (.int n)) (Y_d : own_By Z h0 d (16 : Int32) g) (ne_a0_a1 : a0 ≠ a1) (ne_a0_d : a0 ≠ d) (hr : 0 ≤ n.toInt ∧ n.toInt < 16) :
    MetFree l (⟨"java/lang/String", "<init>", "(Ljava/lang/AbstractStringBuilder;Ljava/lang/Void;)V"⟩ : MethodName) (head1 (Jvm.Cond.code (⟨"java/lang/String", "<init>", "(Ljava/lang/AbstractStringBuilder;Ljava/lang/Void;)V"⟩ : MethodName) jdk_42_method_150_code 5 none :: ws) ({ frames := 3, cells := 1, slots := 15, locals := 49 } : Room)) (fun aQ UQ => aQ = #[(.ref a0), (.ref a1), .null] ∧ Z.Warmed39 UQ.vm ∧ UQ.heap = h0) (fun _ _ _ _ _ => True) (fun _ UQ oQ UR => ∃ vQ LQ, oQ = .returned vQ ∧ Q27 Z a0 a1 cs d n g h0 n0 vQ UR.heap LQ ∧ FrameEnd UQ oQ UR LQ ({ frames := 3, cells := 1, slots := 15, locals := 49 } : Room).cells ({ frames := 3, cells := 1, slots := 15, locals := 49 } : Room).slots) := by
  refine MetFree.of_bodySF (plainFor_of_name pn_2) hisR ?_
  intro p e s m args below meth c s₁ Bd hml0 hP hK
  obtain ⟨rfl, hZ, hh⟩ := hP
  have hx := Bd.exec
  have hby := Bd.bytes
  have hml : c.maxLocals = 5 := hml0
  have hown : s.vm.findClass "java/lang/String" = some m.cls := findClass_of_methodNamed Bd.named
  have hnm := (name_of_methodNamed Bd.named Bd.method).1
  have X0 : Stand p l e ({ frames := 3, cells := 1, slots := 15, locals := 49 } : Room) s m #[(.ref a0), (.ref a1), .null] below meth c s₁ [] 0 0 := Stand.of_body Bd
  have e0 : s₁.heap = h0 := by rw [← hh, Bd.state]; rfl
  have N0 := Fr.nil n0
  have K0 : Keep h0 h0 [a0] := Keep.refl _ _
  have w_12 := hw _ (List.mem_of_getElem? (i := 12) rfl)
  have w_21 := hw _ (List.mem_of_getElem? (i := 21) rfl)
  have w_22 := hw _ (List.mem_of_getElem? (i := 22) rfl)
  have w_23 := hw _ (List.mem_of_getElem? (i := 23) rfl)
  have w_36 := hw _ (List.mem_of_getElem? (i := 36) rfl)
  have w_37 := hw _ (List.mem_of_getElem? (i := 37) rfl)
  have w_38 := hw _ (List.mem_of_getElem? (i := 38) rfl)
  have w_39 := hw _ (List.mem_of_getElem? (i := 39) rfl)
  have w_63 := hw _ (List.mem_of_getElem? (i := 63) rfl)
  have w_71 := hw _ (List.mem_of_getElem? (i := 71) rfl)
  have w_104 := hw _ (List.mem_of_getElem? (i := 104) rfl)
  have w_143 := hw _ (List.mem_of_getElem? (i := 143) rfl)
  have w_144 := hw _ (List.mem_of_getElem? (i := 144) rfl)
  have w_145 := hw _ (List.mem_of_getElem? (i := 145) rfl)
  have w_146 := hw _ (List.mem_of_getElem? (i := 146) rfl)
  have w_163 := hw _ (List.mem_of_getElem? (i := 163) rfl)
  have w_164 := hw _ (List.mem_of_getElem? (i := 164) rfl)
  have w_165 := hw _ (List.mem_of_getElem? (i := 165) rfl)
  have w_166 := hw _ (List.mem_of_getElem? (i := 166) rfl)
  have w_167 := hw _ (List.mem_of_getElem? (i := 167) rfl)
  have w_168 := hw _ (List.mem_of_getElem? (i := 168) rfl)
  have w_169 := hw _ (List.mem_of_getElem? (i := 169) rfl)
  have w_170 := hw _ (List.mem_of_getElem? (i := 170) rfl)
  have w_171 := hw _ (List.mem_of_getElem? (i := 171) rfl)
  have w_172 := hw _ (List.mem_of_getElem? (i := 172) rfl)
  have w_173 := hw _ (List.mem_of_getElem? (i := 173) rfl)
  have w_176 := hw _ (List.mem_of_getElem? (i := 176) rfl)
  have w_177 := hw _ (List.mem_of_getElem? (i := 177) rfl)
  have w_178 := hw _ (List.mem_of_getElem? (i := 178) rfl)
  have w_179 := hw _ (List.mem_of_getElem? (i := 179) rfl)
  have w_180 := hw _ (List.mem_of_getElem? (i := 180) rfl)
  have first_ : Rn p e below (s₁.setTop (mkF m 0 #[.val (.ref a0), .val (.ref a1), .val .null, .unset, .unset] [])) (Fn27 Z a0 a1 cs d n g h0 n0 s) := by
    generalize hG : (Fn27 Z a0 a1 cs d n g h0 n0 s) = G
    refine R.aloadN X0 hx (hb hby d27_0) rfl rfl (pc' := 1) rfl ?_
    refine R.initO X0 hx hZ hown w_21 w_22 w_23 e0 (by rw [hml]; rfl) (hb hby d27_1) (pc' := 4) rfl (by decide) (W := 0) (Nat.le_of_eq rfl) (by decide) ?_; intro T1 X1 e1
    refine R.aloadN X1 hx (hb hby d27_4) rfl rfl (pc' := 5) rfl ?_
    refine R.virtual X1 hx hZ (y := mY20) (z := mY20) hown w_163 w_164 (notFace_of_selects (args := #[]) (mvT hZ w_166)) w_166 w_165 w_71 w_167 (by decide) e1 E_a1 (rm28 l Z aZ hw [] a1 d h0 n0 Z0 F_value_a1) (by decide) (W := 0) (Nat.le_of_eq rfl) (by decide) (by rw [hml]; rfl) (lenOf pd_16 rfl) rfl (hb hby d27_5) (pc' := 8) rfl (by decide) (by decide) ?_; intro v2 T2 L2 X2 hQ2
    obtain ⟨rfl, N2q, e2⟩ := hQ2
    have N2 := Fr.app N0 N2q
    refine R.astoreN X2 hx (hb hby d27_8) rfl (L' := #[.val (.ref a0), .val (.ref a1), .val .null, .val (.ref d), .unset]) rfl (pc' := 9) rfl ?_
    refine R.aloadN X2 hx (hb hby d27_9) rfl rfl (pc' := 10) rfl ?_
    refine R.virtual X2 hx hZ (y := mY0) (z := mY21) hown w_168 w_169 (own_nfS hZ w_170 (own_nf (y := mY0) (y' := mY1) rfl w_104)) w_171 w_172 w_63 w_173 (by decide) e2 E_a1 (rm29 l Z aZ hw [] a1 n h0 n0 Z0 E_a1 F_count_a1) (by decide) (W := 0) (Nat.le_of_eq rfl) (by decide) (by rw [hml]; rfl) (lenOf pd_0 rfl) rfl (hb hby d27_10) (pc' := 13) rfl (by decide) (by decide) ?_; intro v3 T3 L3 X3 hQ3
    obtain ⟨rfl, N3q, e3⟩ := hQ3
    have N3 := Fr.app N2 N3q
    refine R.istore X3 hx (hb hby d27_13) (L' := #[.val (.ref a0), .val (.ref a1), .val .null, .val (.ref d), .val (.int n)]) rfl (pc' := 15) rfl ?_
    refine R.aloadN X3 hx (hb hby d27_15) rfl rfl (pc' := 16) rfl ?_
    refine R.virtual X3 hx hZ (y := mY13) (z := mY13) hown w_176 w_143 (notFace_of_selects (args := #[]) (mvT hZ w_145)) w_145 w_144 w_71 w_146 (by decide) e3 E_a1 (rm23 l Z aZ hw [] a1 cs h0 n0 Z0 OL CS F_coder_a1) (by decide) (W := 0) (Nat.le_of_eq rfl) (by decide) (by rw [hml]; rfl) (lenOf pd_4 rfl) rfl (hb hby d27_16) (pc' := 19) rfl (by decide) (by decide) ?_; intro v4 T4 L4 X4 hQ4
    obtain ⟨rfl, N4q, e4⟩ := hQ4
    have N4 := Fr.app N3 N4q
    refine R.ifNo X4 hx (hb hby d27_19) (feq (by decide : ¬ ((1 : Int32) = (0 : Int32)))).1 (pc' := 22) rfl ?_
    refine R.aloadN X4 hx (hb hby d27_22) rfl rfl (pc' := 23) rfl ?_
    refine R.iconst X4 hx (hb hby d27_23) (v := (0 : Int32)) (by decide) (pc' := 24) rfl ?_
    obtain ⟨T5, h5, X5, e5, W5, st5⟩ := putFN X4 hx hZ hown w_36 Via.refl e4 F_coder_a0 E_a0 (Or.inr ⟨w_37, rfl, hnm⟩) w_12 (ty := .byte) (v' := (.int (0 : Int32))) (by decide) rfl rfl (g := (mkF m 24 #[.val (.ref a0), .val (.ref a1), .val .null, .val (.ref d), .val (.int n)] [(.int (0 : Int32)), (.ref a0)])) rfl rfl (hb hby d27_24)
    have OL := OL.wr W5 g_a0
    have E_a0 := E_a0.wr W5
    have F_value_a0 := F_value_a0.other W5 (Or.inr (slot_ne (Or.inr w_39) (Or.inr w_37) (by decide) (t := (.array .byte)) (t' := .byte) (by decide) (by decide)))
    have E_a1 := E_a1.wr W5
    have F_coder_a1 := F_coder_a1.other W5 (Or.inl (Ne.symm ne_a0_a1))
    have F_value_a1 := F_value_a1.other W5 (Or.inl (Ne.symm ne_a0_a1))
    have F_count_a1 := F_count_a1.other W5 (Or.inl (Ne.symm ne_a0_a1))
    have Y_d := Y_d.other W5 (Ne.symm ne_a0_d)
    have F_coder_a0 : Fld Z h5 a0 "java/lang/String" "coder" "B" (.int (0 : Int32)) := F_coder_a0.same W5
    have N5 := Fr.snoc X5 N4 g_a0
    have K5 : Keep h0 h5 [a0] := K0.wr W5 (Or.inl (List.mem_of_getElem? (i := 0) rfl))
    have Z5 : n0 ≤ h5.size := Nat.le_trans Z0 (Keep.of_wr W5).1
    refine Rn.st st5 ?_
    show Rn p e below (T5.setTop (mkF m 27 #[.val (.ref a0), .val (.ref a1), .val .null, .val (.ref d), .val (.int n)] [])) G
    refine R.aloadN X5 hx (hb hby d27_27) rfl rfl (pc' := 28) rfl ?_
    refine R.aloadN X5 hx (hb hby d27_28) rfl rfl (pc' := 29) rfl ?_
    refine R.iconst X5 hx (hb hby d27_29) (v := (0 : Int32)) (by decide) (pc' := 30) rfl ?_
    refine R.iload X5 hx (hb hby d27_30) rfl (pc' := 32) rfl ?_
    refine R.callS X5 hx hZ (y := mY22) hown w_177 w_178 w_179 w_180 (by decide) e5 (rm31 l Z aZ hw [] d n g h5 n0 Z5 OL Y_d (hr)) (by decide) (W := 1) (Nat.le_of_eq rfl) (by decide) (by rw [hml]; rfl) (lenOf pd_15 rfl) rfl (hb hby d27_32) (pc' := 35) rfl (by decide) (by decide) ?_; intro v6 T6 L6 X6 hQ6
    obtain ⟨r_6, rfl, N6q, Kc6, P6_0, P6_1⟩ := hQ6
    have N6 := Fr.app N5 N6q
    generalize e6 : T6.heap = h6 at Kc6 P6_0 P6_1
    have K6 : Keep h0 h6 [a0] := K5.trans Kc6 (all0)
    have Z6 : n0 ≤ h6.size := Nat.le_trans Z5 Kc6.1
    have ne_a0_r_6 : a0 ≠ r_6 := Nat.ne_of_lt (Nat.lt_of_lt_of_le E_a0.lt P6_0)
    have ne_a1_r_6 : a1 ≠ r_6 := Nat.ne_of_lt (Nat.lt_of_lt_of_le E_a1.lt P6_0)
    have ne_d_r_6 : d ≠ r_6 := Nat.ne_of_lt (Nat.lt_of_lt_of_le Y_d.lt P6_0)
    have g_r_6 : n0 ≤ r_6 := Nat.le_trans Z5 P6_0
    have sz_r_6 : h0.size ≤ r_6 := Nat.le_trans K5.1 P6_0
    have OL := OL.keep Kc6 all0
    have E_a0 := E_a0.keep Kc6
    have F_value_a0 := F_value_a0.keep Kc6 nin0
    have E_a1 := E_a1.keep Kc6
    have F_coder_a1 := F_coder_a1.keep Kc6 nin0
    have F_value_a1 := F_value_a1.keep Kc6 nin0
    have F_count_a1 := F_count_a1.keep Kc6 nin0
    have Y_d := Y_d.keep Kc6 nin0
    have F_coder_a0 := F_coder_a0.keep Kc6 nin0
    have fresh_6 := P6_0
    have Y_r_6 : own_By Z h6 r_6 n (own_cp (fun _ => 0) 0 n.toInt.toNat g 0) := P6_1
    refine R.putF X6 hx hZ hown (host := "") (Or.inl w_38) Via.refl e6 F_value_a0 E_a0 (Or.inr ⟨w_39, rfl, hnm⟩) w_12 (ty := (.array .byte)) (by decide) rfl rfl (hb hby d27_35) (pc' := 38) rfl ?_; intro T7 h7 X7 e7 W7
    have OL := OL.wr W7 g_a0
    have E_a0 := E_a0.wr W7
    have E_a1 := E_a1.wr W7
    have F_coder_a1 := F_coder_a1.other W7 (Or.inl (Ne.symm ne_a0_a1))
    have F_value_a1 := F_value_a1.other W7 (Or.inl (Ne.symm ne_a0_a1))
    have F_count_a1 := F_count_a1.other W7 (Or.inl (Ne.symm ne_a0_a1))
    have Y_d := Y_d.other W7 (Ne.symm ne_a0_d)
    have F_coder_a0 := F_coder_a0.other W7 (Or.inr (slot_ne (Or.inr w_37) (Or.inr w_39) (by decide) (t := .byte) (t' := (.array .byte)) (by decide) (by decide)))
    have Y_r_6 := Y_r_6.other W7 (Ne.symm ne_a0_r_6)
    have F_value_a0 : Fld Z h7 a0 "java/lang/String" "value" "[B" (.ref r_6) := F_value_a0.same W7
    have N7 := Fr.snoc X7 N6 g_a0
    have K7 : Keep h0 h7 [a0] := K6.wr W7 (Or.inl (List.mem_of_getElem? (i := 0) rfl))
    have Z7 : n0 ≤ h7.size := Nat.le_trans Z6 (Keep.of_wr W7).1
    refine R.goto X7 hx (hb hby d27_38) (by decide) (pc' := 97) (by decide) ?_
    rw [← hG]
    exact Rn.ret X7 (BodyLoose.notSynchronized Bd) (v := none) (fun _ => rfl) (Q := Q27 Z a0 a1 cs d n g h0 n0) e7 (fun fs hr => X7.returnOut hx Bd.returns (hb hby d27_97) hr) ⟨r_6, rfl, N7, K7, (sz_r_6), E_a0, F_coder_a0, F_value_a0, Y_r_6⟩ (by decide) (by decide)
  exact (Rn.st (fun t k => castTop (ef_27 m a0 a1) k) first_ : Rn p e below (s₁.setTop (entryFrame m #[(.ref a0), (.ref a1), .null] 5)) (Fn27 Z a0 a1 cs d n g h0 n0 s))
theorem d26_0 : decode jdk_42_method_53_code 0 = .ok (.aload_n 0, 1) := by decide +kernel
theorem d26_1 : decode jdk_42_method_53_code 1 = .ok (.aload_n 1, 1) := by decide +kernel
theorem d26_2 : decode jdk_42_method_53_code 2 = .ok (.aconst_null, 1) := by decide +kernel
theorem d26_3 : decode jdk_42_method_53_code 3 = .ok (.invokespecial 489, 3) := by decide +kernel
theorem pd_17 : parseMethodDescriptor "(Ljava/lang/AbstractStringBuilder;Ljava/lang/Void;)V" = some ⟨[(.object "java/lang/AbstractStringBuilder"), (.object "java/lang/Void")], none⟩ := by decide +kernel
abbrev mY23 : MethodName := (⟨"java/lang/String", "<init>", "(Ljava/lang/AbstractStringBuilder;Ljava/lang/Void;)V"⟩ : MethodName)
theorem d26_6 : decode jdk_42_method_53_code 6 = .ok (.return_, 1) := by decide +kernel
theorem ef_26 (m : MethodId) (x0 : Addr) (x1 : Addr) : entryFrame m #[(.ref x0), (.ref x1)] 2 = mkF m 0 #[.val (.ref x0), .val (.ref x1)] [] := by first | (simp [entryFrame, mkF, argsToLocals, Value.category]; done) | rfl
def Q26 (Z : State) (a0 : Addr) (a1 : Addr) (cs : Int32) (d : Addr) (n : Int32) (g : Nat → Int32) (h0 : Heap) (n0 : Nat) (vQ : Option Value) (hQ_ : Heap) (LQ : List Loc) : Prop := ∃ r : Addr, vQ = none ∧ Fr n0 LQ ∧ Keep h0 hQ_ [a0] ∧ (h0.size ≤ r) ∧ (Exa Z hQ_ a0 "java/lang/String") ∧ (Fld Z hQ_ a0 "java/lang/String" "coder" "B" (.int (0 : Int32))) ∧ (Fld Z hQ_ a0 "java/lang/String" "value" "[B" (.ref r)) ∧ (own_By Z hQ_ r n (own_cp (fun _ => 0) 0 n.toInt.toNat g 0))
def Fn26 (Z : State) (a0 : Addr) (a1 : Addr) (cs : Int32) (d : Addr) (n : Int32) (g : Nat → Int32) (h0 : Heap) (n0 : Nat) (sQ : State) (oQ : Outcome) (UQ : State) : Prop := ∃ vQ LQ, oQ = .returned vQ ∧ Q26 Z a0 a1 cs d n g h0 n0 vQ UQ.heap LQ ∧ FrameEnd sQ oQ UQ LQ ({ frames := 4, cells := 1, slots := 15, locals := 65 } : Room).cells ({ frames := 4, cells := 1, slots := 15, locals := 65 } : Room).slots
set_option maxRecDepth 65536 in
set_option maxHeartbeats 40000000 in
theorem rm26 (l : Launch) (Z : State) (aZ : Array Value) (hw : ∀ d ∈ tables_1, d.before aZ Z = true) (ws : List Jvm.Cond) (a0 : Addr) (a1 : Addr) (cs : Int32) (d : Addr) (n : Int32) (g : Nat → Int32) (h0 : Heap) (n0 : Nat) (Z0 : n0 ≤ h0.size) (OL : Old Z n0 h0) (CS : own_CS Z cs) (E_a0 : Exa Z h0 a0 "java/lang/String") (F_coder_a0 : Fld Z h0 a0 "java/lang/String" "coder" "B" (.int (0 : Int32))) (F_value_a0 : Fld Z h0 a0 "java/lang/String" "value" "[B" .null) (g_a0 : n0 ≤ a0) (E_a1 : Exa Z h0 a1 "java/lang/StringBuilder") (F_coder_a1 : Fld Z h0 a1 "java/lang/AbstractStringBuilder" "coder" "B" (.int (0 : Int32))) (F_value_a1 : Fld Z h0 a1 "java/lang/AbstractStringBuilder" "value" "[B" (.ref d)) (F_count_a1 : Fld Z h0 a1 "java/lang/AbstractStringBuilder" "count" "I" (.int n)) (Y_d : own_By Z h0 d (16 : Int32) g) (ne_a0_a1 : a0 ≠ a1) (ne_a0_d : a0 ≠ d) (hr : 0 ≤ n.toInt ∧ n.toInt < 16) :
    MetFree l (⟨"java/lang/String", "<init>", "(Ljava/lang/StringBuilder;)V"⟩ : MethodName) (head1 (Jvm.Cond.code (⟨"java/lang/String", "<init>", "(Ljava/lang/StringBuilder;)V"⟩ : MethodName) jdk_42_method_53_code 2 none :: ws) ({ frames := 4, cells := 1, slots := 15, locals := 65 } : Room)) (fun aQ UQ => aQ = #[(.ref a0), (.ref a1)] ∧ Z.Warmed39 UQ.vm ∧ UQ.heap = h0) (fun _ _ _ _ _ => True) (fun _ UQ oQ UR => ∃ vQ LQ, oQ = .returned vQ ∧ Q26 Z a0 a1 cs d n g h0 n0 vQ UR.heap LQ ∧ FrameEnd UQ oQ UR LQ ({ frames := 4, cells := 1, slots := 15, locals := 65 } : Room).cells ({ frames := 4, cells := 1, slots := 15, locals := 65 } : Room).slots) := by
  refine MetFree.of_bodySF (plainFor_of_name pn_2) hisR ?_
  intro p e s m args below meth c s₁ Bd hml0 hP hK
  obtain ⟨rfl, hZ, hh⟩ := hP
  have hx := Bd.exec
  have hby := Bd.bytes
  have hml : c.maxLocals = 2 := hml0
  have hown : s.vm.findClass "java/lang/String" = some m.cls := findClass_of_methodNamed Bd.named
  have hnm := (name_of_methodNamed Bd.named Bd.method).1
  have X0 : Stand p l e ({ frames := 4, cells := 1, slots := 15, locals := 65 } : Room) s m #[(.ref a0), (.ref a1)] below meth c s₁ [] 0 0 := Stand.of_body Bd
  have e0 : s₁.heap = h0 := by rw [← hh, Bd.state]; rfl
  have N0 := Fr.nil n0
  have K0 : Keep h0 h0 [a0] := Keep.refl _ _
  have w_13 := hw _ (List.mem_of_getElem? (i := 13) rfl)
  have w_160 := hw _ (List.mem_of_getElem? (i := 160) rfl)
  have w_161 := hw _ (List.mem_of_getElem? (i := 161) rfl)
  have w_162 := hw _ (List.mem_of_getElem? (i := 162) rfl)
  have first_ : Rn p e below (s₁.setTop (mkF m 0 #[.val (.ref a0), .val (.ref a1)] [])) (Fn26 Z a0 a1 cs d n g h0 n0 s) := by
    generalize hG : (Fn26 Z a0 a1 cs d n g h0 n0 s) = G
    refine R.aloadN X0 hx (hb hby d26_0) rfl rfl (pc' := 1) rfl ?_
    refine R.aloadN X0 hx (hb hby d26_1) rfl rfl (pc' := 2) rfl ?_
    refine R.aconstNull X0 hx (hb hby d26_2) (pc' := 3) rfl ?_
    refine R.special X0 hx hZ (y := mY23) rfl hown w_160 w_161 w_13 w_162 (by decide) e0 (rm27 l Z aZ hw [] a0 a1 cs d n g h0 n0 Z0 OL CS E_a0 F_coder_a0 F_value_a0 g_a0 E_a1 F_coder_a1 F_value_a1 F_count_a1 Y_d ne_a0_a1 ne_a0_d hr) (by decide) (W := 0) (Nat.le_of_eq rfl) (by decide) (by rw [hml]; rfl) (lenOf pd_17 rfl) rfl (hb hby d26_3) (pc' := 6) rfl (by decide) (by decide) ?_; intro v1 T1 L1 X1 hQ1
    obtain ⟨r_1, rfl, N1q, Kc1, P1_0, P1_1, P1_2, P1_3, P1_4⟩ := hQ1
    have N1 := Fr.app N0 N1q
    generalize e1 : T1.heap = h1 at Kc1 P1_0 P1_1 P1_2 P1_3 P1_4
    have K1 : Keep h0 h1 [a0] := K0.trans Kc1 ((allS (Or.inl (List.mem_of_getElem? (i := 0) rfl)) all0))
    have Z1 : n0 ≤ h1.size := Nat.le_trans Z0 Kc1.1
    have ne_a0_r_1 : a0 ≠ r_1 := Nat.ne_of_lt (Nat.lt_of_lt_of_le E_a0.lt P1_0)
    have ne_a1_r_1 : a1 ≠ r_1 := Nat.ne_of_lt (Nat.lt_of_lt_of_le E_a1.lt P1_0)
    have ne_d_r_1 : d ≠ r_1 := Nat.ne_of_lt (Nat.lt_of_lt_of_le Y_d.lt P1_0)
    have g_r_1 : n0 ≤ r_1 := Nat.le_trans Z0 P1_0
    have sz_r_1 : h0.size ≤ r_1 := Nat.le_trans K0.1 P1_0
    have OL := OL.keep Kc1 (allS g_a0 all0)
    have E_a1 := E_a1.keep Kc1
    have F_coder_a1 := F_coder_a1.keep Kc1 (ninS (Ne.symm ne_a0_a1) nin0)
    have F_value_a1 := F_value_a1.keep Kc1 (ninS (Ne.symm ne_a0_a1) nin0)
    have F_count_a1 := F_count_a1.keep Kc1 (ninS (Ne.symm ne_a0_a1) nin0)
    have Y_d := Y_d.keep Kc1 (ninS (Ne.symm ne_a0_d) nin0)
    have fresh_1 := P1_0
    have E_a0 : Exa Z h1 a0 "java/lang/String" := P1_1
    have F_coder_a0 : Fld Z h1 a0 "java/lang/String" "coder" "B" (.int (0 : Int32)) := P1_2
    have F_value_a0 : Fld Z h1 a0 "java/lang/String" "value" "[B" (.ref r_1) := P1_3
    have Y_r_1 : own_By Z h1 r_1 n (own_cp (fun _ => 0) 0 n.toInt.toNat g 0) := P1_4
    rw [← hG]
    exact Rn.ret X1 (BodyLoose.notSynchronized Bd) (v := none) (fun _ => rfl) (Q := Q26 Z a0 a1 cs d n g h0 n0) e1 (fun fs hr => X1.returnOut hx Bd.returns (hb hby d26_6) hr) ⟨r_1, rfl, N1, K1, (sz_r_1), E_a0, F_coder_a0, F_value_a0, Y_r_1⟩ (by decide) (by decide)
  exact (Rn.st (fun t k => castTop (ef_26 m a0 a1) k) first_ : Rn p e below (s₁.setTop (entryFrame m #[(.ref a0), (.ref a1)] 2)) (Fn26 Z a0 a1 cs d n g h0 n0 s))
theorem d25_0 : decode jdk_67_method_42_code 0 = .ok (.new 18, 3) := by decide +kernel
theorem d25_3 : decode jdk_67_method_42_code 3 = .ok (.dup, 1) := by decide +kernel
theorem d25_4 : decode jdk_67_method_42_code 4 = .ok (.aload_n 0, 1) := by decide +kernel
theorem d25_5 : decode jdk_67_method_42_code 5 = .ok (.invokespecial 137, 3) := by decide +kernel
theorem pd_18 : parseMethodDescriptor "(Ljava/lang/StringBuilder;)V" = some ⟨[(.object "java/lang/StringBuilder")], none⟩ := by decide +kernel
abbrev mY24 : MethodName := (⟨"java/lang/String", "<init>", "(Ljava/lang/StringBuilder;)V"⟩ : MethodName)
theorem d25_8 : decode jdk_67_method_42_code 8 = .ok (.areturn, 1) := by decide +kernel
theorem ef_25 (m : MethodId) (x0 : Addr) : entryFrame m #[(.ref x0)] 1 = mkF m 0 #[.val (.ref x0)] [] := by first | (simp [entryFrame, mkF, argsToLocals, Value.category]; done) | rfl
def Q25 (Z : State) (a0 : Addr) (cs : Int32) (d : Addr) (n : Int32) (g : Nat → Int32) (h0 : Heap) (n0 : Nat) (vQ : Option Value) (hQ_ : Heap) (LQ : List Loc) : Prop := ∃ o : Addr, ∃ r : Addr, vQ = some (.ref o) ∧ Fr n0 LQ ∧ Keep h0 hQ_ [] ∧ (h0.size ≤ o) ∧ (h0.size ≤ r) ∧ (Exa Z hQ_ o "java/lang/String") ∧ (Fld Z hQ_ o "java/lang/String" "coder" "B" (.int (0 : Int32))) ∧ (Fld Z hQ_ o "java/lang/String" "value" "[B" (.ref r)) ∧ (own_By Z hQ_ r n (own_cp (fun _ => 0) 0 n.toInt.toNat g 0))
def Fn25 (Z : State) (a0 : Addr) (cs : Int32) (d : Addr) (n : Int32) (g : Nat → Int32) (h0 : Heap) (n0 : Nat) (sQ : State) (oQ : Outcome) (UQ : State) : Prop := ∃ vQ LQ, oQ = .returned vQ ∧ Q25 Z a0 cs d n g h0 n0 vQ UQ.heap LQ ∧ FrameEnd sQ oQ UQ LQ ({ frames := 5, cells := 2, slots := 19, locals := 79 } : Room).cells ({ frames := 5, cells := 2, slots := 19, locals := 79 } : Room).slots
set_option maxRecDepth 65536 in
set_option maxHeartbeats 40000000 in
theorem rm25 (l : Launch) (Z : State) (aZ : Array Value) (hw : ∀ d ∈ tables_1, d.before aZ Z = true) (ws : List Jvm.Cond) (a0 : Addr) (cs : Int32) (d : Addr) (n : Int32) (g : Nat → Int32) (h0 : Heap) (n0 : Nat) (Z0 : n0 ≤ h0.size) (OL : Old Z n0 h0) (CS : own_CS Z cs) (E_a0 : Exa Z h0 a0 "java/lang/StringBuilder") (F_coder_a0 : Fld Z h0 a0 "java/lang/AbstractStringBuilder" "coder" "B" (.int (0 : Int32))) (F_value_a0 : Fld Z h0 a0 "java/lang/AbstractStringBuilder" "value" "[B" (.ref d)) (F_count_a0 : Fld Z h0 a0 "java/lang/AbstractStringBuilder" "count" "I" (.int n)) (Y_d : own_By Z h0 d (16 : Int32) g) (hr : 0 ≤ n.toInt ∧ n.toInt < 16) :
    MetFree l (⟨"java/lang/StringBuilder", "toString", "()Ljava/lang/String;"⟩ : MethodName) (head1 (Jvm.Cond.code (⟨"java/lang/StringBuilder", "toString", "()Ljava/lang/String;"⟩ : MethodName) jdk_67_method_42_code 1 (some (.object "java/lang/String")) :: ws) ({ frames := 5, cells := 2, slots := 19, locals := 79 } : Room)) (fun aQ UQ => aQ = #[(.ref a0)] ∧ Z.Warmed39 UQ.vm ∧ UQ.heap = h0) (fun _ _ _ _ _ => True) (fun _ UQ oQ UR => ∃ vQ LQ, oQ = .returned vQ ∧ Q25 Z a0 cs d n g h0 n0 vQ UR.heap LQ ∧ FrameEnd UQ oQ UR LQ ({ frames := 5, cells := 2, slots := 19, locals := 79 } : Room).cells ({ frames := 5, cells := 2, slots := 19, locals := 79 } : Room).slots) := by
  refine MetFree.of_bodySF (plainFor_of_name pn_4) hisR ?_
  intro p e s m args below meth c s₁ Bd hml0 hP hK
  obtain ⟨rfl, hZ, hh⟩ := hP
  have hx := Bd.exec
  have hby := Bd.bytes
  have hml : c.maxLocals = 1 := hml0
  have hown : s.vm.findClass "java/lang/StringBuilder" = some m.cls := findClass_of_methodNamed Bd.named
  have hnm := (name_of_methodNamed Bd.named Bd.method).1
  have X0 : Stand p l e ({ frames := 5, cells := 2, slots := 19, locals := 79 } : Room) s m #[(.ref a0)] below meth c s₁ [] 0 0 := Stand.of_body Bd
  have e0 : s₁.heap = h0 := by rw [← hh, Bd.state]; rfl
  have N0 := Fr.nil n0
  have K0 : Keep h0 h0 [] := Keep.refl _ _
  have w_12 := hw _ (List.mem_of_getElem? (i := 12) rfl)
  have w_13 := hw _ (List.mem_of_getElem? (i := 13) rfl)
  have w_37 := hw _ (List.mem_of_getElem? (i := 37) rfl)
  have w_39 := hw _ (List.mem_of_getElem? (i := 39) rfl)
  have w_156 := hw _ (List.mem_of_getElem? (i := 156) rfl)
  have w_157 := hw _ (List.mem_of_getElem? (i := 157) rfl)
  have w_158 := hw _ (List.mem_of_getElem? (i := 158) rfl)
  have w_159 := hw _ (List.mem_of_getElem? (i := 159) rfl)
  have first_ : Rn p e below (s₁.setTop (mkF m 0 #[.val (.ref a0)] [])) (Fn25 Z a0 cs d n g h0 n0 s) := by
    generalize hG : (Fn25 Z a0 cs d n g h0 n0 s) = G
    refine R.newO X0 hx hZ hown w_156 w_12 w_13 e0 (hb hby d25_0) (pc' := 3) rfl (by decide) (by decide) ?_; intro T1 h1 b1 g1 X1 e1 E1 AA1 D1
    have g_b1 : n0 ≤ b1 := Nat.le_trans Z0 (Nat.le_of_eq g1.symm)
    have sz_b1 : h0.size ≤ b1 := Nat.le_trans K0.1 (Nat.le_of_eq g1.symm)
    have ne_a0_b1 : a0 ≠ b1 := Nat.ne_of_lt (Nat.lt_of_lt_of_le E_a0.lt (Nat.le_of_eq g1.symm))
    have ne_d_b1 : d ≠ b1 := Nat.ne_of_lt (Nat.lt_of_lt_of_le Y_d.lt (Nat.le_of_eq g1.symm))
    have K1 : Keep h0 h1 [] := K0.ext E1
    have Z1 : n0 ≤ h1.size := Nat.le_trans Z0 E1.1
    have OL := OL.ext E1
    have E_a0 := E_a0.ext E1
    have F_coder_a0 := F_coder_a0.ext E1
    have F_value_a0 := F_value_a0.ext E1
    have F_count_a0 := F_count_a0.ext E1
    have Y_d := Y_d.ext E1
    have E_b1 := AA1
    have F_coder_b1 : Fld Z h1 b1 "java/lang/String" "coder" "B" (.int (0 : Int32)) := D1 (Or.inr w_37) (ty := .byte) (by decide)
    have F_value_b1 : Fld Z h1 b1 "java/lang/String" "value" "[B" .null := D1 (Or.inr w_39) (ty := (.array .byte)) (by decide)
    refine R.dup X1 hx (hb hby d25_3) rfl (pc' := 4) rfl ?_
    refine R.aloadN X1 hx (hb hby d25_4) rfl rfl (pc' := 5) rfl ?_
    refine R.special X1 hx hZ (y := mY24) rfl hown w_157 w_158 w_13 w_159 (by decide) e1 (rm26 l Z aZ hw [] b1 a0 cs d n g h1 n0 Z1 OL CS E_b1 F_coder_b1 F_value_b1 g_b1 E_a0 F_coder_a0 F_value_a0 F_count_a0 Y_d (Ne.symm ne_a0_b1) (Ne.symm ne_d_b1) hr) (by decide) (W := 1) (Nat.le_of_eq rfl) (by decide) (by rw [hml]; rfl) (lenOf pd_18 rfl) rfl (hb hby d25_5) (pc' := 8) rfl (by decide) (by decide) ?_; intro v2 T2 L2 X2 hQ2
    obtain ⟨r_2, rfl, N2q, Kc2, P2_0, P2_1, P2_2, P2_3, P2_4⟩ := hQ2
    have N2 := Fr.app N0 N2q
    generalize e2 : T2.heap = h2 at Kc2 P2_0 P2_1 P2_2 P2_3 P2_4
    have K2 : Keep h0 h2 [] := K1.trans Kc2 ((allS (Or.inr sz_b1) all0))
    have Z2 : n0 ≤ h2.size := Nat.le_trans Z1 Kc2.1
    have ne_a0_r_2 : a0 ≠ r_2 := Nat.ne_of_lt (Nat.lt_of_lt_of_le E_a0.lt P2_0)
    have ne_d_r_2 : d ≠ r_2 := Nat.ne_of_lt (Nat.lt_of_lt_of_le Y_d.lt P2_0)
    have ne_b1_r_2 : b1 ≠ r_2 := Nat.ne_of_lt (Nat.lt_of_lt_of_le E_b1.lt P2_0)
    have g_r_2 : n0 ≤ r_2 := Nat.le_trans Z1 P2_0
    have sz_r_2 : h0.size ≤ r_2 := Nat.le_trans K1.1 P2_0
    have OL := OL.keep Kc2 (allS g_b1 all0)
    have E_a0 := E_a0.keep Kc2
    have F_coder_a0 := F_coder_a0.keep Kc2 (ninS ne_a0_b1 nin0)
    have F_value_a0 := F_value_a0.keep Kc2 (ninS ne_a0_b1 nin0)
    have F_count_a0 := F_count_a0.keep Kc2 (ninS ne_a0_b1 nin0)
    have Y_d := Y_d.keep Kc2 (ninS ne_d_b1 nin0)
    have fresh_2 := P2_0
    have E_b1 : Exa Z h2 b1 "java/lang/String" := P2_1
    have F_coder_b1 : Fld Z h2 b1 "java/lang/String" "coder" "B" (.int (0 : Int32)) := P2_2
    have F_value_b1 : Fld Z h2 b1 "java/lang/String" "value" "[B" (.ref r_2) := P2_3
    have Y_r_2 : own_By Z h2 r_2 n (own_cp (fun _ => 0) 0 n.toInt.toNat g 0) := P2_4
    rw [← hG]
    exact Rn.ret X2 (BodyLoose.notSynchronized Bd) (v := some (.ref b1)) (fun h => by rw [Bd.returns] at h; cases h) (Q := Q25 Z a0 cs d n g h0 n0) e2 (fun fs hr => retOut X2 hx (t := (.object "java/lang/String")) Bd.returns rfl (Or.inr (Or.inr (Or.inr (Or.inr ⟨rfl, rfl, rfl⟩)))) (hb hby d25_8) hr) ⟨b1, r_2, rfl, N2, K2, (sz_b1), (sz_r_2), E_b1, F_coder_b1, F_value_b1, Y_r_2⟩ (by decide) (by decide)
  exact (Rn.st (fun t k => castTop (ef_25 m a0) k) first_ : Rn p e below (s₁.setTop (entryFrame m #[(.ref a0)] 1)) (Fn25 Z a0 cs d n g h0 n0 s))
theorem d5_0 : decode jdk_52_method_21_code 0 = .ok (.iconst 0, 1) := by decide +kernel
theorem d5_1 : decode jdk_52_method_21_code 1 = .ok (.istore 5, 2) := by decide +kernel
theorem d5_3 : decode jdk_52_method_21_code 3 = .ok (.iload 5, 2) := by decide +kernel
theorem d5_5 : decode jdk_52_method_21_code 5 = .ok (.iload 4, 2) := by decide +kernel
theorem d5_7 : decode jdk_52_method_21_code 7 = .ok (.if_icmp .ge 37, 3) := by decide +kernel
theorem d5_10 : decode jdk_52_method_21_code 10 = .ok (.aload_n 0, 1) := by decide +kernel
theorem d5_11 : decode jdk_52_method_21_code 11 = .ok (.iload_n 1, 1) := by decide +kernel
theorem d5_12 : decode jdk_52_method_21_code 12 = .ok (.caload, 1) := by decide +kernel
theorem d5_13 : decode jdk_52_method_21_code 13 = .ok (.istore 6, 2) := by decide +kernel
theorem d5_15 : decode jdk_52_method_21_code 15 = .ok (.iload 6, 2) := by decide +kernel
theorem d5_17 : decode jdk_52_method_21_code 17 = .ok (.sipush 255, 3) := by decide +kernel
theorem d5_20 : decode jdk_52_method_21_code 20 = .ok (.if_icmp .le 6, 3) := by decide +kernel
theorem d5_26 : decode jdk_52_method_21_code 26 = .ok (.aload_n 2, 1) := by decide +kernel
theorem d5_27 : decode jdk_52_method_21_code 27 = .ok (.iload_n 3, 1) := by decide +kernel
theorem d5_28 : decode jdk_52_method_21_code 28 = .ok (.iload 6, 2) := by decide +kernel
theorem d5_30 : decode jdk_52_method_21_code 30 = .ok (.i2b, 1) := by decide +kernel
theorem d5_31 : decode jdk_52_method_21_code 31 = .ok (.bastore, 1) := by decide +kernel
theorem d5_32 : decode jdk_52_method_21_code 32 = .ok (.iinc 1 1, 3) := by decide +kernel
theorem d5_35 : decode jdk_52_method_21_code 35 = .ok (.iinc 3 1, 3) := by decide +kernel
theorem d5_38 : decode jdk_52_method_21_code 38 = .ok (.iinc 5 1, 3) := by decide +kernel
theorem d5_41 : decode jdk_52_method_21_code 41 = .ok (.goto (-38), 3) := by decide +kernel
theorem d5_44 : decode jdk_52_method_21_code 44 = .ok (.iload 4, 2) := by decide +kernel
theorem d5_46 : decode jdk_52_method_21_code 46 = .ok (.ireturn, 1) := by decide +kernel
theorem pn_8 : plainName "java/lang/StringUTF16" = true := by first | (simp [plainName, overriddenIn]; done) | decide +kernel
theorem ef_cp1 (m : MethodId) (x0 : Addr) (x2 : Addr) : entryFrame m #[(.ref x0), (.int (0 : Int32)), (.ref x2), (.int (0 : Int32)), (.int (1 : Int32))] 7 = mkF m 0 #[.val (.ref x0), .val (.int (0 : Int32)), .val (.ref x2), .val (.int (0 : Int32)), .val (.int (1 : Int32)), .unset, .unset] [] := by first | (simp [entryFrame, mkF, argsToLocals, Value.category]; done) | rfl
def Qcp1 (Z : State) (a0 : Addr) (a2 : Addr) (ka : ClassId) (ha : List (Int32 × Value)) (c0 : Int32) (h0 : Heap) (n0 : Nat) (vQ : Option Value) (hQ_ : Heap) (LQ : List Loc) : Prop := vQ = some (.int (1 : Int32)) ∧ Fr n0 LQ ∧ Keep h0 hQ_ [a2] ∧ (own_By Z hQ_ a2 (1 : Int32) (own_up (fun _ => 0) (0 : Int32).toNatClampNeg (c0.toInt8.toInt32)))
def Fncp1 (Z : State) (a0 : Addr) (a2 : Addr) (ka : ClassId) (ha : List (Int32 × Value)) (c0 : Int32) (h0 : Heap) (n0 : Nat) (sQ : State) (oQ : Outcome) (UQ : State) : Prop := ∃ vQ LQ, oQ = .returned vQ ∧ Qcp1 Z a0 a2 ka ha c0 h0 n0 vQ UQ.heap LQ ∧ FrameEnd sQ oQ UQ LQ ({ frames := 0, cells := 0, slots := 0, locals := 0 } : Room).cells ({ frames := 0, cells := 0, slots := 0, locals := 0 } : Room).slots
set_option maxRecDepth 65536 in
set_option maxHeartbeats 40000000 in
theorem rmcp1 (l : Launch) (Z : State) (aZ : Array Value) (hw : ∀ d ∈ tables_1, d.before aZ Z = true) (ws : List Jvm.Cond) (a0 : Addr) (a2 : Addr) (ka : ClassId) (ha : List (Int32 × Value)) (c0 : Int32) (h0 : Heap) (n0 : Nat) (Z0 : n0 ≤ h0.size) (V_a0 : Arh Z h0 a0 ka .char (1 : Int32) ha [] (.int (0 : Int32))) (Y_a2 : own_By Z h0 a2 (1 : Int32) (fun _ => 0)) (g_a2 : n0 ≤ a2) (rc0 : getH ha [] (.int (0 : Int32)) ((0 : Int32)).toNatClampNeg = (.int c0)) (hc0 : 0 ≤ c0.toInt ∧ c0.toInt ≤ 255) (ne_a0_a2 : a0 ≠ a2) :
    MetFree l (⟨"java/lang/StringUTF16", "compress", "([CI[BII)I"⟩ : MethodName) (head1 (Jvm.Cond.code (⟨"java/lang/StringUTF16", "compress", "([CI[BII)I"⟩ : MethodName) jdk_52_method_21_code 7 (some .int) :: ws) ({ frames := 0, cells := 0, slots := 0, locals := 0 } : Room)) (fun aQ UQ => aQ = #[(.ref a0), (.int (0 : Int32)), (.ref a2), (.int (0 : Int32)), (.int (1 : Int32))] ∧ Z.Warmed39 UQ.vm ∧ UQ.heap = h0) (fun _ _ _ _ _ => True) (fun _ UQ oQ UR => ∃ vQ LQ, oQ = .returned vQ ∧ Qcp1 Z a0 a2 ka ha c0 h0 n0 vQ UR.heap LQ ∧ FrameEnd UQ oQ UR LQ ({ frames := 0, cells := 0, slots := 0, locals := 0 } : Room).cells ({ frames := 0, cells := 0, slots := 0, locals := 0 } : Room).slots) := by
  refine MetFree.of_bodySF (plainFor_of_name pn_8) hisR ?_
  intro p e s m args below meth c s₁ Bd hml0 hP hK
  obtain ⟨rfl, hZ, hh⟩ := hP
  have hx := Bd.exec
  have hby := Bd.bytes
  have hml : c.maxLocals = 7 := hml0
  have hown : s.vm.findClass "java/lang/StringUTF16" = some m.cls := findClass_of_methodNamed Bd.named
  have hnm := (name_of_methodNamed Bd.named Bd.method).1
  have X0 : Stand p l e ({ frames := 0, cells := 0, slots := 0, locals := 0 } : Room) s m #[(.ref a0), (.int (0 : Int32)), (.ref a2), (.int (0 : Int32)), (.int (1 : Int32))] below meth c s₁ [] 0 0 := Stand.of_body Bd
  have e0 : s₁.heap = h0 := by rw [← hh, Bd.state]; rfl
  have N0 := Fr.nil n0
  have K0 : Keep h0 h0 [a2] := Keep.refl _ _
  have first_ : Rn p e below (s₁.setTop (mkF m 0 #[.val (.ref a0), .val (.int (0 : Int32)), .val (.ref a2), .val (.int (0 : Int32)), .val (.int (1 : Int32)), .unset, .unset] [])) (Fncp1 Z a0 a2 ka ha c0 h0 n0 s) := by
    generalize hG : (Fncp1 Z a0 a2 ka ha c0 h0 n0 s) = G
    refine R.iconst X0 hx (hb hby d5_0) (v := (0 : Int32)) (by decide) (pc' := 1) rfl ?_
    refine R.istore X0 hx (hb hby d5_1) (L' := #[.val (.ref a0), .val (.int (0 : Int32)), .val (.ref a2), .val (.int (0 : Int32)), .val (.int (1 : Int32)), .val (.int (0 : Int32)), .unset]) rfl (pc' := 3) rfl ?_
    refine R.iload X0 hx (hb hby d5_3) rfl (pc' := 5) rfl ?_
    refine R.iload X0 hx (hb hby d5_5) rfl (pc' := 7) rfl ?_
    refine R.icmpNo X0 hx (hb hby d5_7) (tlt (by decide : (0 : Int32) < (1 : Int32))).2.1 (pc' := 10) rfl ?_
    refine R.aloadN X0 hx (hb hby d5_10) rfl rfl (pc' := 11) rfl ?_
    refine R.iloadN X0 hx (hb hby d5_11) rfl (pc' := 12) rfl ?_
    refine R.caload X0 hx hZ e0 V_a0 (⟨by decide, by decide⟩ : ¬ (0 : Int32) < 0 ∧ (0 : Int32) < (1 : Int32)) (v := (.int c0)) (rc0) (hb hby d5_12) (pc' := 13) rfl ?_
    refine R.istore X0 hx (hb hby d5_13) (L' := #[.val (.ref a0), .val (.int (0 : Int32)), .val (.ref a2), .val (.int (0 : Int32)), .val (.int (1 : Int32)), .val (.int (0 : Int32)), .val (.int c0)]) rfl (pc' := 15) rfl ?_
    refine R.iload X0 hx (hb hby d5_15) rfl (pc' := 17) rfl ?_
    refine R.sipush X0 hx (hb hby d5_17) (v := (255 : Int32)) (by decide) (pc' := 20) rfl ?_
    refine R.icmpYes X0 hx (hb hby d5_20) (flt (own_le255 hc0 : ¬ ((255 : Int32) < c0))).2.2.2 (by decide) (pc' := 26) (by decide) ?_
    refine R.aloadN X0 hx (hb hby d5_26) rfl rfl (pc' := 27) rfl ?_
    refine R.iloadN X0 hx (hb hby d5_27) rfl (pc' := 28) rfl ?_
    refine R.iload X0 hx (hb hby d5_28) rfl (pc' := 30) rfl ?_
    refine R.i2b X0 hx (hb hby d5_30) (pc' := 31) rfl ?_
    refine R.bastoreY X0 hx hZ e0 Y_a2 (⟨by decide, by decide⟩ : ¬ (0 : Int32) < 0 ∧ (0 : Int32) < (1 : Int32)) (v := (c0.toInt8.toInt32)) (own_nar_i2b _) (hb hby d5_31) (pc' := 32) rfl ?_; intro T1 h1 X1 e1 W1 V1
    have V_a0 := V_a0.other W1 ne_a0_a2
    have Y_a2 : own_By Z h1 a2 (1 : Int32) (own_up (fun _ => 0) (0 : Int32).toNatClampNeg (c0.toInt8.toInt32)) := V1
    have N1 := Fr.snoc X1 N0 g_a2
    have K1 : Keep h0 h1 [a2] := K0.wr W1 (Or.inl (List.mem_of_getElem? (i := 0) rfl))
    have Z1 : n0 ≤ h1.size := Nat.le_trans Z0 (Keep.of_wr W1).1
    refine R.iinc X1 hx (hb hby d5_32) rfl (L' := #[.val (.ref a0), .val (.int (1 : Int32)), .val (.ref a2), .val (.int (0 : Int32)), .val (.int (1 : Int32)), .val (.int (0 : Int32)), .val (.int c0)]) rfl (pc' := 35) rfl ?_
    refine R.iinc X1 hx (hb hby d5_35) rfl (L' := #[.val (.ref a0), .val (.int (1 : Int32)), .val (.ref a2), .val (.int (1 : Int32)), .val (.int (1 : Int32)), .val (.int (0 : Int32)), .val (.int c0)]) rfl (pc' := 38) rfl ?_
    refine R.iinc X1 hx (hb hby d5_38) rfl (L' := #[.val (.ref a0), .val (.int (1 : Int32)), .val (.ref a2), .val (.int (1 : Int32)), .val (.int (1 : Int32)), .val (.int (1 : Int32)), .val (.int c0)]) rfl (pc' := 41) rfl ?_
    refine R.goto X1 hx (hb hby d5_41) (by decide) (pc' := 3) (by decide) ?_
    refine R.iload X1 hx (hb hby d5_3) rfl (pc' := 5) rfl ?_
    refine R.iload X1 hx (hb hby d5_5) rfl (pc' := 7) rfl ?_
    refine R.icmpYes X1 hx (hb hby d5_7) (flt (by decide : ¬ ((1 : Int32) < (1 : Int32)))).2.1 (by decide) (pc' := 44) (by decide) ?_
    refine R.iload X1 hx (hb hby d5_44) rfl (pc' := 46) rfl ?_
    rw [← hG]
    exact Rn.ret X1 (BodyLoose.notSynchronized Bd) (v := some (.int (1 : Int32))) (fun h => by rw [Bd.returns] at h; cases h) (Q := Qcp1 Z a0 a2 ka ha c0 h0 n0) e1 (fun fs hr => retOut X1 hx (t := .int) Bd.returns rfl (Or.inl ⟨rfl, Or.inl rfl, _, rfl⟩) (hb hby d5_46) hr) ⟨rfl, N1, K1, Y_a2⟩ (by decide) (by decide)
  exact (Rn.st (fun t k => castTop (ef_cp1 m a0 a2) k) first_ : Rn p e below (s₁.setTop (entryFrame m #[(.ref a0), (.int (0 : Int32)), (.ref a2), (.int (0 : Int32)), (.int (1 : Int32))] 7)) (Fncp1 Z a0 a2 ka ha c0 h0 n0 s))
theorem d4_0 : decode jdk_52_method_16_code 0 = .ok (.iload_n 2, 1) := by decide +kernel
theorem d4_1 : decode jdk_52_method_16_code 1 = .ok (.newarray .byte, 2) := by decide +kernel
theorem d4_3 : decode jdk_52_method_16_code 3 = .ok (.astore_n 3, 1) := by decide +kernel
theorem d4_4 : decode jdk_52_method_16_code 4 = .ok (.aload_n 0, 1) := by decide +kernel
theorem d4_5 : decode jdk_52_method_16_code 5 = .ok (.iload_n 1, 1) := by decide +kernel
theorem d4_6 : decode jdk_52_method_16_code 6 = .ok (.aload_n 3, 1) := by decide +kernel
theorem d4_7 : decode jdk_52_method_16_code 7 = .ok (.iconst 0, 1) := by decide +kernel
theorem d4_8 : decode jdk_52_method_16_code 8 = .ok (.iload_n 2, 1) := by decide +kernel
theorem d4_9 : decode jdk_52_method_16_code 9 = .ok (.invokestatic 115, 3) := by decide +kernel
theorem pd_19 : parseMethodDescriptor "([CI[BII)I" = some ⟨[(.array .char), .int, (.array .byte), .int, .int], some .int⟩ := by decide +kernel
abbrev mY25 : MethodName := (⟨"java/lang/StringUTF16", "compress", "([CI[BII)I"⟩ : MethodName)
theorem d4_12 : decode jdk_52_method_16_code 12 = .ok (.istore 4, 2) := by decide +kernel
theorem d4_14 : decode jdk_52_method_16_code 14 = .ok (.iload 4, 2) := by decide +kernel
theorem d4_16 : decode jdk_52_method_16_code 16 = .ok (.iload_n 2, 1) := by decide +kernel
theorem d4_17 : decode jdk_52_method_16_code 17 = .ok (.if_icmp .eq 40, 3) := by decide +kernel
theorem d4_57 : decode jdk_52_method_16_code 57 = .ok (.aload_n 3, 1) := by decide +kernel
theorem d4_58 : decode jdk_52_method_16_code 58 = .ok (.areturn, 1) := by decide +kernel
theorem ef_cq1 (m : MethodId) (x0 : Addr) : entryFrame m #[(.ref x0), (.int (0 : Int32)), (.int (1 : Int32))] 6 = mkF m 0 #[.val (.ref x0), .val (.int (0 : Int32)), .val (.int (1 : Int32)), .unset, .unset, .unset] [] := by first | (simp [entryFrame, mkF, argsToLocals, Value.category]; done) | rfl
def Qcq1 (Z : State) (a0 : Addr) (ka : ClassId) (ha : List (Int32 × Value)) (c0 : Int32) (h0 : Heap) (n0 : Nat) (vQ : Option Value) (hQ_ : Heap) (LQ : List Loc) : Prop := ∃ r : Addr, vQ = some (.ref r) ∧ Fr n0 LQ ∧ Keep h0 hQ_ [] ∧ (h0.size ≤ r) ∧ (own_By Z hQ_ r (1 : Int32) (own_up (fun _ => 0) (0 : Int32).toNatClampNeg (c0.toInt8.toInt32)))
def Fncq1 (Z : State) (a0 : Addr) (ka : ClassId) (ha : List (Int32 × Value)) (c0 : Int32) (h0 : Heap) (n0 : Nat) (sQ : State) (oQ : Outcome) (UQ : State) : Prop := ∃ vQ LQ, oQ = .returned vQ ∧ Qcq1 Z a0 ka ha c0 h0 n0 vQ UQ.heap LQ ∧ FrameEnd sQ oQ UQ LQ ({ frames := 1, cells := 1, slots := 1, locals := 18 } : Room).cells ({ frames := 1, cells := 1, slots := 1, locals := 18 } : Room).slots
set_option maxRecDepth 65536 in
set_option maxHeartbeats 40000000 in
theorem rmcq1 (l : Launch) (Z : State) (aZ : Array Value) (hw : ∀ d ∈ tables_1, d.before aZ Z = true) (ws : List Jvm.Cond) (a0 : Addr) (ka : ClassId) (ha : List (Int32 × Value)) (c0 : Int32) (h0 : Heap) (n0 : Nat) (Z0 : n0 ≤ h0.size) (V_a0 : Arh Z h0 a0 ka .char (1 : Int32) ha [] (.int (0 : Int32))) (rc0 : getH ha [] (.int (0 : Int32)) ((0 : Int32)).toNatClampNeg = (.int c0)) (hc0 : 0 ≤ c0.toInt ∧ c0.toInt ≤ 255) :
    MetFree l (⟨"java/lang/StringUTF16", "compress", "([CII)[B"⟩ : MethodName) (head1 (Jvm.Cond.code (⟨"java/lang/StringUTF16", "compress", "([CII)[B"⟩ : MethodName) jdk_52_method_16_code 6 (some (.array .byte)) :: ws) ({ frames := 1, cells := 1, slots := 1, locals := 18 } : Room)) (fun aQ UQ => aQ = #[(.ref a0), (.int (0 : Int32)), (.int (1 : Int32))] ∧ Z.Warmed39 UQ.vm ∧ UQ.heap = h0) (fun _ _ _ _ _ => True) (fun _ UQ oQ UR => ∃ vQ LQ, oQ = .returned vQ ∧ Qcq1 Z a0 ka ha c0 h0 n0 vQ UR.heap LQ ∧ FrameEnd UQ oQ UR LQ ({ frames := 1, cells := 1, slots := 1, locals := 18 } : Room).cells ({ frames := 1, cells := 1, slots := 1, locals := 18 } : Room).slots) := by
  refine MetFree.of_bodySF (plainFor_of_name pn_8) hisR ?_
  intro p e s m args below meth c s₁ Bd hml0 hP hK
  obtain ⟨rfl, hZ, hh⟩ := hP
  have hx := Bd.exec
  have hby := Bd.bytes
  have hml : c.maxLocals = 6 := hml0
  have hown : s.vm.findClass "java/lang/StringUTF16" = some m.cls := findClass_of_methodNamed Bd.named
  have hnm := (name_of_methodNamed Bd.named Bd.method).1
  have X0 : Stand p l e ({ frames := 1, cells := 1, slots := 1, locals := 18 } : Room) s m #[(.ref a0), (.int (0 : Int32)), (.int (1 : Int32))] below meth c s₁ [] 0 0 := Stand.of_body Bd
  have e0 : s₁.heap = h0 := by rw [← hh, Bd.state]; rfl
  have N0 := Fr.nil n0
  have K0 : Keep h0 h0 [] := Keep.refl _ _
  have w_27 := hw _ (List.mem_of_getElem? (i := 27) rfl)
  have w_29 := hw _ (List.mem_of_getElem? (i := 29) rfl)
  have w_30 := hw _ (List.mem_of_getElem? (i := 30) rfl)
  have w_31 := hw _ (List.mem_of_getElem? (i := 31) rfl)
  have w_32 := hw _ (List.mem_of_getElem? (i := 32) rfl)
  have first_ : Rn p e below (s₁.setTop (mkF m 0 #[.val (.ref a0), .val (.int (0 : Int32)), .val (.int (1 : Int32)), .unset, .unset, .unset] [])) (Fncq1 Z a0 ka ha c0 h0 n0 s) := by
    generalize hG : (Fncq1 Z a0 ka ha c0 h0 n0 s) = G
    refine R.iloadN X0 hx (hb hby d4_0) rfl (pc' := 1) rfl ?_
    refine R.newY X0 hx hZ w_29 e0 (by decide) (cap := 1) (by decide) (by decide) (hb hby d4_1) (pc' := 3) rfl (by decide) (by decide) ?_; intro T1 h1 b1 g1 X1 e1 E1 AA1
    have g_b1 : n0 ≤ b1 := Nat.le_trans Z0 (Nat.le_of_eq g1.symm)
    have sz_b1 : h0.size ≤ b1 := Nat.le_trans K0.1 (Nat.le_of_eq g1.symm)
    have ne_a0_b1 : a0 ≠ b1 := Nat.ne_of_lt (Nat.lt_of_lt_of_le V_a0.lt (Nat.le_of_eq g1.symm))
    have K1 : Keep h0 h1 [] := K0.ext E1
    have Z1 : n0 ≤ h1.size := Nat.le_trans Z0 E1.1
    have V_a0 := V_a0.ext E1
    have Y_b1 : own_By Z h1 b1 (1 : Int32) (fun _ => 0) := AA1
    refine R.astoreN X1 hx (hb hby d4_3) rfl (L' := #[.val (.ref a0), .val (.int (0 : Int32)), .val (.int (1 : Int32)), .val (.ref b1), .unset, .unset]) rfl (pc' := 4) rfl ?_
    refine R.aloadN X1 hx (hb hby d4_4) rfl rfl (pc' := 5) rfl ?_
    refine R.iloadN X1 hx (hb hby d4_5) rfl (pc' := 6) rfl ?_
    refine R.aloadN X1 hx (hb hby d4_6) rfl rfl (pc' := 7) rfl ?_
    refine R.iconst X1 hx (hb hby d4_7) (v := (0 : Int32)) (by decide) (pc' := 8) rfl ?_
    refine R.iloadN X1 hx (hb hby d4_8) rfl (pc' := 9) rfl ?_
    refine R.callS X1 hx hZ (y := mY25) hown w_30 w_31 w_27 w_32 (by decide) e1 (rmcp1 l Z aZ hw [] a0 b1 ka ha c0 h1 n0 Z1 V_a0 Y_b1 g_b1 rc0 hc0 ne_a0_b1) (by decide) (W := 0) (Nat.le_of_eq rfl) (by decide) (by rw [hml]; rfl) (lenOf pd_19 rfl) rfl (hb hby d4_9) (pc' := 12) rfl (by decide) (by decide) ?_; intro v2 T2 L2 X2 hQ2
    obtain ⟨rfl, N2q, Kc2, P2_0⟩ := hQ2
    have N2 := Fr.app N0 N2q
    generalize e2 : T2.heap = h2 at Kc2 P2_0
    have K2 : Keep h0 h2 [] := K1.trans Kc2 ((allS (Or.inr sz_b1) all0))
    have Z2 : n0 ≤ h2.size := Nat.le_trans Z1 Kc2.1
    have V_a0 := V_a0.keep Kc2 (ninS ne_a0_b1 nin0)
    have Y_b1 : own_By Z h2 b1 (1 : Int32) (own_up (fun _ => 0) (0 : Int32).toNatClampNeg (c0.toInt8.toInt32)) := P2_0
    refine R.istore X2 hx (hb hby d4_12) (L' := #[.val (.ref a0), .val (.int (0 : Int32)), .val (.int (1 : Int32)), .val (.ref b1), .val (.int (1 : Int32)), .unset]) rfl (pc' := 14) rfl ?_
    refine R.iload X2 hx (hb hby d4_14) rfl (pc' := 16) rfl ?_
    refine R.iloadN X2 hx (hb hby d4_16) rfl (pc' := 17) rfl ?_
    refine R.icmpYes X2 hx (hb hby d4_17) (teq (by decide : (1 : Int32) = (1 : Int32))).1 (by decide) (pc' := 57) (by decide) ?_
    refine R.aloadN X2 hx (hb hby d4_57) rfl rfl (pc' := 58) rfl ?_
    rw [← hG]
    exact Rn.ret X2 (BodyLoose.notSynchronized Bd) (v := some (.ref b1)) (fun h => by rw [Bd.returns] at h; cases h) (Q := Qcq1 Z a0 ka ha c0 h0 n0) e2 (fun fs hr => retOut X2 hx (t := (.array .byte)) Bd.returns rfl (Or.inr (Or.inr (Or.inr (Or.inr ⟨rfl, rfl, rfl⟩)))) (hb hby d4_58) hr) ⟨b1, rfl, N2, K2, (sz_b1), Y_b1⟩ (by decide) (by decide)
  exact (Rn.st (fun t k => castTop (ef_cq1 m a0) k) first_ : Rn p e below (s₁.setTop (entryFrame m #[(.ref a0), (.int (0 : Int32)), (.int (1 : Int32))] 6)) (Fncq1 Z a0 ka ha c0 h0 n0 s))
theorem d6_0 : decode jdk_52_method_15_code 0 = .ok (.iload_n 1, 1) := by decide +kernel
theorem d6_1 : decode jdk_52_method_15_code 1 = .ok (.aload_n 0, 1) := by decide +kernel
theorem d6_2 : decode jdk_52_method_15_code 2 = .ok (.arraylength, 1) := by decide +kernel
theorem d6_3 : decode jdk_52_method_15_code 3 = .ok (.isub, 1) := by decide +kernel
theorem d6_4 : decode jdk_52_method_15_code 4 = .ok (.bipush 31, 2) := by decide +kernel
theorem d6_6 : decode jdk_52_method_15_code 6 = .ok (.iushr, 1) := by decide +kernel
theorem d6_7 : decode jdk_52_method_15_code 7 = .ok (.i2b, 1) := by decide +kernel
theorem d6_8 : decode jdk_52_method_15_code 8 = .ok (.ireturn, 1) := by decide +kernel
theorem ef_co1 (m : MethodId) (x0 : Addr) : entryFrame m #[(.ref x0), (.int (1 : Int32))] 2 = mkF m 0 #[.val (.ref x0), .val (.int (1 : Int32))] [] := by first | (simp [entryFrame, mkF, argsToLocals, Value.category]; done) | rfl
def Qco1 (Z : State) (a0 : Addr) (f : Nat → Int32) (h0 : Heap) (n0 : Nat) (vQ : Option Value) (hQ_ : Heap) (LQ : List Loc) : Prop := vQ = some (.int (0 : Int32)) ∧ Fr n0 LQ ∧ hQ_ = h0
def Fnco1 (Z : State) (a0 : Addr) (f : Nat → Int32) (h0 : Heap) (n0 : Nat) (sQ : State) (oQ : Outcome) (UQ : State) : Prop := ∃ vQ LQ, oQ = .returned vQ ∧ Qco1 Z a0 f h0 n0 vQ UQ.heap LQ ∧ FrameEnd sQ oQ UQ LQ ({ frames := 0, cells := 0, slots := 0, locals := 0 } : Room).cells ({ frames := 0, cells := 0, slots := 0, locals := 0 } : Room).slots
set_option maxRecDepth 65536 in
set_option maxHeartbeats 40000000 in
theorem rmco1 (l : Launch) (Z : State) (aZ : Array Value) (hw : ∀ d ∈ tables_1, d.before aZ Z = true) (ws : List Jvm.Cond) (a0 : Addr) (f : Nat → Int32) (h0 : Heap) (n0 : Nat) (Z0 : n0 ≤ h0.size) (Y_a0 : own_By Z h0 a0 (1 : Int32) f) :
    MetFree l (⟨"java/lang/StringUTF16", "coderFromArrayLen", "([BI)B"⟩ : MethodName) (head1 (Jvm.Cond.code (⟨"java/lang/StringUTF16", "coderFromArrayLen", "([BI)B"⟩ : MethodName) jdk_52_method_15_code 2 (some .byte) :: ws) ({ frames := 0, cells := 0, slots := 0, locals := 0 } : Room)) (fun aQ UQ => aQ = #[(.ref a0), (.int (1 : Int32))] ∧ Z.Warmed39 UQ.vm ∧ UQ.heap = h0) (fun _ _ _ _ _ => True) (fun _ UQ oQ UR => ∃ vQ LQ, oQ = .returned vQ ∧ Qco1 Z a0 f h0 n0 vQ UR.heap LQ ∧ FrameEnd UQ oQ UR LQ ({ frames := 0, cells := 0, slots := 0, locals := 0 } : Room).cells ({ frames := 0, cells := 0, slots := 0, locals := 0 } : Room).slots) := by
  refine MetFree.of_bodySF (plainFor_of_name pn_8) hisR ?_
  intro p e s m args below meth c s₁ Bd hml0 hP hK
  obtain ⟨rfl, hZ, hh⟩ := hP
  have hx := Bd.exec
  have hby := Bd.bytes
  have hml : c.maxLocals = 2 := hml0
  have hown : s.vm.findClass "java/lang/StringUTF16" = some m.cls := findClass_of_methodNamed Bd.named
  have hnm := (name_of_methodNamed Bd.named Bd.method).1
  have X0 : Stand p l e ({ frames := 0, cells := 0, slots := 0, locals := 0 } : Room) s m #[(.ref a0), (.int (1 : Int32))] below meth c s₁ [] 0 0 := Stand.of_body Bd
  have e0 : s₁.heap = h0 := by rw [← hh, Bd.state]; rfl
  have N0 := Fr.nil n0
  have K0 : Keep h0 h0 [] := Keep.refl _ _
  have first_ : Rn p e below (s₁.setTop (mkF m 0 #[.val (.ref a0), .val (.int (1 : Int32))] [])) (Fnco1 Z a0 f h0 n0 s) := by
    generalize hG : (Fnco1 Z a0 f h0 n0 s) = G
    refine R.iloadN X0 hx (hb hby d6_0) rfl (pc' := 1) rfl ?_
    refine R.aloadN X0 hx (hb hby d6_1) rfl rfl (pc' := 2) rfl ?_
    refine R.alenY X0 hx hZ e0 Y_a0 (hb hby d6_2) (pc' := 3) rfl ?_
    refine R.isub X0 hx (hb hby d6_3) (v := (0 : Int32)) (by decide) (pc' := 4) rfl ?_
    refine R.bipush X0 hx (hb hby d6_4) (v := (31 : Int32)) (by decide) (pc' := 6) rfl ?_
    refine R.iushr X0 hx (hb hby d6_6) (pc' := 7) rfl ?_
    refine R.i2b X0 hx (hb hby d6_7) (pc' := 8) rfl ?_
    show Rn p e below (s₁.setTop (mkF m 8 #[.val (.ref a0), .val (.int (1 : Int32))] [(.int ((((0 : Int32).toUInt32 >>> ((31 : Int32) &&& 31).toUInt32).toInt32).toInt8.toInt32))])) G
    rw [show ((((0 : Int32).toUInt32 >>> ((31 : Int32) &&& 31).toUInt32).toInt32).toInt8.toInt32) = (0 : Int32) from by decide]
    rw [← hG]
    exact Rn.ret X0 (BodyLoose.notSynchronized Bd) (v := some (.int (0 : Int32))) (fun h => by rw [Bd.returns] at h; cases h) (Q := Qco1 Z a0 f h0 n0) e0 (fun fs hr => retN X0 hx (t := .byte) Bd.returns (by simp) (hb hby d6_8) hr) ⟨rfl, N0, rfl⟩ (by decide) (by decide)
  exact (Rn.st (fun t k => castTop (ef_co1 m a0) k) first_ : Rn p e below (s₁.setTop (entryFrame m #[(.ref a0), (.int (1 : Int32))] 2)) (Fnco1 Z a0 f h0 n0 s))
theorem d2_0 : decode jdk_42_method_149_code 0 = .ok (.aload_n 0, 1) := by decide +kernel
theorem d2_1 : decode jdk_42_method_149_code 1 = .ok (.invokespecial 1, 3) := by decide +kernel
theorem d2_4 : decode jdk_42_method_149_code 4 = .ok (.iload_n 3, 1) := by decide +kernel
theorem d2_5 : decode jdk_42_method_149_code 5 = .ok (.ifCond .ne 22, 3) := by decide +kernel
theorem d2_27 : decode jdk_42_method_149_code 27 = .ok (.getstatic 38, 3) := by decide +kernel
theorem d2_30 : decode jdk_42_method_149_code 30 = .ok (.ifCond .eq 28, 3) := by decide +kernel
theorem d2_33 : decode jdk_42_method_149_code 33 = .ok (.aload_n 1, 1) := by decide +kernel
theorem d2_34 : decode jdk_42_method_149_code 34 = .ok (.iload_n 2, 1) := by decide +kernel
theorem d2_35 : decode jdk_42_method_149_code 35 = .ok (.iload_n 3, 1) := by decide +kernel
theorem d2_36 : decode jdk_42_method_149_code 36 = .ok (.invokestatic 177, 3) := by decide +kernel
theorem pd_20 : parseMethodDescriptor "([CII)[B" = some ⟨[(.array .char), .int, .int], some (.array .byte)⟩ := by decide +kernel
abbrev mY26 : MethodName := (⟨"java/lang/StringUTF16", "compress", "([CII)[B"⟩ : MethodName)
theorem d2_39 : decode jdk_42_method_149_code 39 = .ok (.astore 5, 2) := by decide +kernel
theorem d2_41 : decode jdk_42_method_149_code 41 = .ok (.aload_n 0, 1) := by decide +kernel
theorem d2_42 : decode jdk_42_method_149_code 42 = .ok (.aload 5, 2) := by decide +kernel
theorem d2_44 : decode jdk_42_method_149_code 44 = .ok (.iload_n 3, 1) := by decide +kernel
theorem d2_45 : decode jdk_42_method_149_code 45 = .ok (.invokestatic 47, 3) := by decide +kernel
theorem pd_21 : parseMethodDescriptor "([BI)B" = some ⟨[(.array .byte), .int], some .byte⟩ := by decide +kernel
abbrev mY27 : MethodName := (⟨"java/lang/StringUTF16", "coderFromArrayLen", "([BI)B"⟩ : MethodName)
theorem d2_48 : decode jdk_42_method_149_code 48 = .ok (.putfield 15, 3) := by decide +kernel
theorem d2_51 : decode jdk_42_method_149_code 51 = .ok (.aload_n 0, 1) := by decide +kernel
theorem d2_52 : decode jdk_42_method_149_code 52 = .ok (.aload 5, 2) := by decide +kernel
theorem d2_54 : decode jdk_42_method_149_code 54 = .ok (.putfield 9, 3) := by decide +kernel
theorem d2_57 : decode jdk_42_method_149_code 57 = .ok (.return_, 1) := by decide +kernel
theorem ef_si1 (m : MethodId) (x0 : Addr) (x1 : Addr) : entryFrame m #[(.ref x0), (.ref x1), (.int (0 : Int32)), (.int (1 : Int32)), .null] 6 = mkF m 0 #[.val (.ref x0), .val (.ref x1), .val (.int (0 : Int32)), .val (.int (1 : Int32)), .val .null, .unset] [] := by first | (simp [entryFrame, mkF, argsToLocals, Value.category]; done) | rfl
def Qsi1 (Z : State) (a0 : Addr) (a1 : Addr) (cs : Int32) (ka : ClassId) (ha : List (Int32 × Value)) (c0 : Int32) (h0 : Heap) (n0 : Nat) (vQ : Option Value) (hQ_ : Heap) (LQ : List Loc) : Prop := ∃ r : Addr, vQ = none ∧ Fr n0 LQ ∧ Keep h0 hQ_ [a0] ∧ (h0.size ≤ r) ∧ (Exa Z hQ_ a0 "java/lang/String") ∧ (Fld Z hQ_ a0 "java/lang/String" "coder" "B" (.int (0 : Int32))) ∧ (Fld Z hQ_ a0 "java/lang/String" "value" "[B" (.ref r)) ∧ (own_By Z hQ_ r (1 : Int32) (own_up (fun _ => 0) (0 : Int32).toNatClampNeg (c0.toInt8.toInt32)))
def Fnsi1 (Z : State) (a0 : Addr) (a1 : Addr) (cs : Int32) (ka : ClassId) (ha : List (Int32 × Value)) (c0 : Int32) (h0 : Heap) (n0 : Nat) (sQ : State) (oQ : Outcome) (UQ : State) : Prop := ∃ vQ LQ, oQ = .returned vQ ∧ Qsi1 Z a0 a1 cs ka ha c0 h0 n0 vQ UQ.heap LQ ∧ FrameEnd sQ oQ UQ LQ ({ frames := 2, cells := 1, slots := 1, locals := 35 } : Room).cells ({ frames := 2, cells := 1, slots := 1, locals := 35 } : Room).slots
set_option maxRecDepth 65536 in
set_option maxHeartbeats 40000000 in
theorem rmsi1 (l : Launch) (Z : State) (aZ : Array Value) (hw : ∀ d ∈ tables_1, d.before aZ Z = true) (ws : List Jvm.Cond) (a0 : Addr) (a1 : Addr) (cs : Int32) (ka : ClassId) (ha : List (Int32 × Value)) (c0 : Int32) (h0 : Heap) (n0 : Nat) (Z0 : n0 ≤ h0.size) (OL : Old Z n0 h0) (CS : own_CS Z cs) (E_a0 : Exa Z h0 a0 "java/lang/String") (F_coder_a0 : Fld Z h0 a0 "java/lang/String" "coder" "B" (.int (0 : Int32))) (F_value_a0 : Fld Z h0 a0 "java/lang/String" "value" "[B" .null) (g_a0 : n0 ≤ a0) (V_a1 : Arh Z h0 a1 ka .char (1 : Int32) ha [] (.int (0 : Int32))) (ne_a0_a1 : a0 ≠ a1) (rc0 : getH ha [] (.int (0 : Int32)) ((0 : Int32)).toNatClampNeg = (.int c0)) (hc0 : 0 ≤ c0.toInt ∧ c0.toInt ≤ 255) :
    MetFree l (⟨"java/lang/String", "<init>", "([CIILjava/lang/Void;)V"⟩ : MethodName) (head1 (Jvm.Cond.code (⟨"java/lang/String", "<init>", "([CIILjava/lang/Void;)V"⟩ : MethodName) jdk_42_method_149_code 6 none :: ws) ({ frames := 2, cells := 1, slots := 1, locals := 35 } : Room)) (fun aQ UQ => aQ = #[(.ref a0), (.ref a1), (.int (0 : Int32)), (.int (1 : Int32)), .null] ∧ Z.Warmed39 UQ.vm ∧ UQ.heap = h0) (fun _ _ _ _ _ => True) (fun _ UQ oQ UR => ∃ vQ LQ, oQ = .returned vQ ∧ Qsi1 Z a0 a1 cs ka ha c0 h0 n0 vQ UR.heap LQ ∧ FrameEnd UQ oQ UR LQ ({ frames := 2, cells := 1, slots := 1, locals := 35 } : Room).cells ({ frames := 2, cells := 1, slots := 1, locals := 35 } : Room).slots) := by
  refine MetFree.of_bodySF (plainFor_of_name pn_2) hisR ?_
  intro p e s m args below meth c s₁ Bd hml0 hP hK
  obtain ⟨rfl, hZ, hh⟩ := hP
  have hx := Bd.exec
  have hby := Bd.bytes
  have hml : c.maxLocals = 6 := hml0
  have hown : s.vm.findClass "java/lang/String" = some m.cls := findClass_of_methodNamed Bd.named
  have hnm := (name_of_methodNamed Bd.named Bd.method).1
  have X0 : Stand p l e ({ frames := 2, cells := 1, slots := 1, locals := 35 } : Room) s m #[(.ref a0), (.ref a1), (.int (0 : Int32)), (.int (1 : Int32)), .null] below meth c s₁ [] 0 0 := Stand.of_body Bd
  have e0 : s₁.heap = h0 := by rw [← hh, Bd.state]; rfl
  have N0 := Fr.nil n0
  have K0 : Keep h0 h0 [a0] := Keep.refl _ _
  have w_12 := hw _ (List.mem_of_getElem? (i := 12) rfl)
  have w_21 := hw _ (List.mem_of_getElem? (i := 21) rfl)
  have w_22 := hw _ (List.mem_of_getElem? (i := 22) rfl)
  have w_23 := hw _ (List.mem_of_getElem? (i := 23) rfl)
  have w_24 := hw _ (List.mem_of_getElem? (i := 24) rfl)
  have w_25 := hw _ (List.mem_of_getElem? (i := 25) rfl)
  have w_26 := hw _ (List.mem_of_getElem? (i := 26) rfl)
  have w_27 := hw _ (List.mem_of_getElem? (i := 27) rfl)
  have w_28 := hw _ (List.mem_of_getElem? (i := 28) rfl)
  have w_33 := hw _ (List.mem_of_getElem? (i := 33) rfl)
  have w_34 := hw _ (List.mem_of_getElem? (i := 34) rfl)
  have w_35 := hw _ (List.mem_of_getElem? (i := 35) rfl)
  have w_36 := hw _ (List.mem_of_getElem? (i := 36) rfl)
  have w_37 := hw _ (List.mem_of_getElem? (i := 37) rfl)
  have w_38 := hw _ (List.mem_of_getElem? (i := 38) rfl)
  have w_39 := hw _ (List.mem_of_getElem? (i := 39) rfl)
  have first_ : Rn p e below (s₁.setTop (mkF m 0 #[.val (.ref a0), .val (.ref a1), .val (.int (0 : Int32)), .val (.int (1 : Int32)), .val .null, .unset] [])) (Fnsi1 Z a0 a1 cs ka ha c0 h0 n0 s) := by
    generalize hG : (Fnsi1 Z a0 a1 cs ka ha c0 h0 n0 s) = G
    refine R.aloadN X0 hx (hb hby d2_0) rfl rfl (pc' := 1) rfl ?_
    refine R.initO X0 hx hZ hown w_21 w_22 w_23 e0 (by rw [hml]; rfl) (hb hby d2_1) (pc' := 4) rfl (by decide) (W := 0) (Nat.le_of_eq rfl) (by decide) ?_; intro T1 X1 e1
    refine R.iloadN X1 hx (hb hby d2_4) rfl (pc' := 5) rfl ?_
    refine R.ifYes X1 hx (hb hby d2_5) (feq (by decide : ¬ ((1 : Int32) = (0 : Int32)))).2 (by decide) (pc' := 27) (by decide) ?_
    have S_CS := CS.1.ext OL.2
    refine R.getS X1 hx hZ hown (host := "") (Or.inl w_24) Via.refl e1 S_CS (hb hby d2_27) (pc' := 30) rfl ?_; intro T2 X2 e2
    refine R.ifNo X2 hx (hb hby d2_30) (feq (CS.2 : ¬ (cs = (0 : Int32)))).1 (pc' := 33) rfl ?_
    refine R.aloadN X2 hx (hb hby d2_33) rfl rfl (pc' := 34) rfl ?_
    refine R.iloadN X2 hx (hb hby d2_34) rfl (pc' := 35) rfl ?_
    refine R.iloadN X2 hx (hb hby d2_35) rfl (pc' := 36) rfl ?_
    refine R.callS X2 hx hZ (y := mY26) hown w_25 w_26 w_27 w_28 (by decide) e2 (rmcq1 l Z aZ hw [] a1 ka ha c0 h0 n0 Z0 V_a1 rc0 hc0) (by decide) (W := 0) (Nat.le_of_eq rfl) (by decide) (by rw [hml]; rfl) (lenOf pd_20 rfl) rfl (hb hby d2_36) (pc' := 39) rfl (by decide) (by decide) ?_; intro v3 T3 L3 X3 hQ3
    obtain ⟨r_3, rfl, N3q, Kc3, P3_0, P3_1⟩ := hQ3
    have N3 := Fr.app N0 N3q
    generalize e3 : T3.heap = h3 at Kc3 P3_0 P3_1
    have K3 : Keep h0 h3 [a0] := K0.trans Kc3 (all0)
    have Z3 : n0 ≤ h3.size := Nat.le_trans Z0 Kc3.1
    have ne_a0_r_3 : a0 ≠ r_3 := Nat.ne_of_lt (Nat.lt_of_lt_of_le E_a0.lt P3_0)
    have ne_a1_r_3 : a1 ≠ r_3 := Nat.ne_of_lt (Nat.lt_of_lt_of_le V_a1.lt P3_0)
    have g_r_3 : n0 ≤ r_3 := Nat.le_trans Z0 P3_0
    have sz_r_3 : h0.size ≤ r_3 := Nat.le_trans K0.1 P3_0
    have S_CS := own_sta_keep S_CS Kc3 ns0
    have OL := OL.keep Kc3 all0
    have E_a0 := E_a0.keep Kc3
    have F_coder_a0 := F_coder_a0.keep Kc3 nin0
    have F_value_a0 := F_value_a0.keep Kc3 nin0
    have V_a1 := V_a1.keep Kc3 nin0
    have fresh_3 := P3_0
    have Y_r_3 : own_By Z h3 r_3 (1 : Int32) (own_up (fun _ => 0) (0 : Int32).toNatClampNeg (c0.toInt8.toInt32)) := P3_1
    refine R.astore X3 hx (hb hby d2_39) rfl (L' := #[.val (.ref a0), .val (.ref a1), .val (.int (0 : Int32)), .val (.int (1 : Int32)), .val .null, .val (.ref r_3)]) rfl (pc' := 41) rfl ?_
    refine R.aloadN X3 hx (hb hby d2_41) rfl rfl (pc' := 42) rfl ?_
    refine R.aload X3 hx (hb hby d2_42) rfl rfl (pc' := 44) rfl ?_
    refine R.iloadN X3 hx (hb hby d2_44) rfl (pc' := 45) rfl ?_
    refine R.callS X3 hx hZ (y := mY27) hown w_33 w_34 w_27 w_35 (by decide) e3 (rmco1 l Z aZ hw [] r_3 (own_up (fun _ => 0) (0 : Int32).toNatClampNeg (c0.toInt8.toInt32)) h3 n0 Z3 Y_r_3) (by decide) (W := 1) (Nat.le_of_eq rfl) (by decide) (by rw [hml]; rfl) (lenOf pd_21 rfl) rfl (hb hby d2_45) (pc' := 48) rfl (by decide) (by decide) ?_; intro v4 T4 L4 X4 hQ4
    obtain ⟨rfl, N4q, e4⟩ := hQ4
    have N4 := Fr.app N3 N4q
    obtain ⟨T5, h5, X5, e5, W5, st5⟩ := putFN X4 hx hZ hown w_36 Via.refl e4 F_coder_a0 E_a0 (Or.inr ⟨w_37, rfl, hnm⟩) w_12 (ty := .byte) (v' := (.int (0 : Int32))) (by decide) rfl rfl (g := (mkF m 48 #[.val (.ref a0), .val (.ref a1), .val (.int (0 : Int32)), .val (.int (1 : Int32)), .val .null, .val (.ref r_3)] [(.int (0 : Int32)), (.ref a0)])) rfl rfl (hb hby d2_48)
    have OL := OL.wr W5 g_a0
    have E_a0 := E_a0.wr W5
    have F_value_a0 := F_value_a0.other W5 (Or.inr (slot_ne (Or.inr w_39) (Or.inr w_37) (by decide) (t := (.array .byte)) (t' := .byte) (by decide) (by decide)))
    have V_a1 := V_a1.other W5 (Ne.symm ne_a0_a1)
    have S_CS := S_CS.wr W5
    have Y_r_3 := Y_r_3.other W5 (Ne.symm ne_a0_r_3)
    have F_coder_a0 : Fld Z h5 a0 "java/lang/String" "coder" "B" (.int (0 : Int32)) := F_coder_a0.same W5
    have N5 := Fr.snoc X5 N4 g_a0
    have K5 : Keep h0 h5 [a0] := K3.wr W5 (Or.inl (List.mem_of_getElem? (i := 0) rfl))
    have Z5 : n0 ≤ h5.size := Nat.le_trans Z3 (Keep.of_wr W5).1
    refine Rn.st st5 ?_
    show Rn p e below (T5.setTop (mkF m 51 #[.val (.ref a0), .val (.ref a1), .val (.int (0 : Int32)), .val (.int (1 : Int32)), .val .null, .val (.ref r_3)] [])) G
    refine R.aloadN X5 hx (hb hby d2_51) rfl rfl (pc' := 52) rfl ?_
    refine R.aload X5 hx (hb hby d2_52) rfl rfl (pc' := 54) rfl ?_
    refine R.putF X5 hx hZ hown (host := "") (Or.inl w_38) Via.refl e5 F_value_a0 E_a0 (Or.inr ⟨w_39, rfl, hnm⟩) w_12 (ty := (.array .byte)) (by decide) rfl rfl (hb hby d2_54) (pc' := 57) rfl ?_; intro T6 h6 X6 e6 W6
    have OL := OL.wr W6 g_a0
    have E_a0 := E_a0.wr W6
    have V_a1 := V_a1.other W6 (Ne.symm ne_a0_a1)
    have S_CS := S_CS.wr W6
    have Y_r_3 := Y_r_3.other W6 (Ne.symm ne_a0_r_3)
    have F_coder_a0 := F_coder_a0.other W6 (Or.inr (slot_ne (Or.inr w_37) (Or.inr w_39) (by decide) (t := .byte) (t' := (.array .byte)) (by decide) (by decide)))
    have F_value_a0 : Fld Z h6 a0 "java/lang/String" "value" "[B" (.ref r_3) := F_value_a0.same W6
    have N6 := Fr.snoc X6 N5 g_a0
    have K6 : Keep h0 h6 [a0] := K5.wr W6 (Or.inl (List.mem_of_getElem? (i := 0) rfl))
    have Z6 : n0 ≤ h6.size := Nat.le_trans Z5 (Keep.of_wr W6).1
    rw [← hG]
    exact Rn.ret X6 (BodyLoose.notSynchronized Bd) (v := none) (fun _ => rfl) (Q := Qsi1 Z a0 a1 cs ka ha c0 h0 n0) e6 (fun fs hr => X6.returnOut hx Bd.returns (hb hby d2_57) hr) ⟨r_3, rfl, N6, K6, (sz_r_3), E_a0, F_coder_a0, F_value_a0, Y_r_3⟩ (by decide) (by decide)
  exact (Rn.st (fun t k => castTop (ef_si1 m a0 a1) k) first_ : Rn p e below (s₁.setTop (entryFrame m #[(.ref a0), (.ref a1), (.int (0 : Int32)), (.int (1 : Int32)), .null] 6)) (Fnsi1 Z a0 a1 cs ka ha c0 h0 n0 s))
theorem d1_0 : decode jdk_42_method_3_code 0 = .ok (.aload_n 0, 1) := by decide +kernel
theorem d1_1 : decode jdk_42_method_3_code 1 = .ok (.aload_n 1, 1) := by decide +kernel
theorem d1_2 : decode jdk_42_method_3_code 2 = .ok (.iconst 0, 1) := by decide +kernel
theorem d1_3 : decode jdk_42_method_3_code 3 = .ok (.aload_n 1, 1) := by decide +kernel
theorem d1_4 : decode jdk_42_method_3_code 4 = .ok (.arraylength, 1) := by decide +kernel
theorem d1_5 : decode jdk_42_method_3_code 5 = .ok (.aconst_null, 1) := by decide +kernel
theorem d1_6 : decode jdk_42_method_3_code 6 = .ok (.invokespecial 27, 3) := by decide +kernel
theorem pd_22 : parseMethodDescriptor "([CIILjava/lang/Void;)V" = some ⟨[(.array .char), .int, .int, (.object "java/lang/Void")], none⟩ := by decide +kernel
abbrev mY28 : MethodName := (⟨"java/lang/String", "<init>", "([CIILjava/lang/Void;)V"⟩ : MethodName)
theorem d1_9 : decode jdk_42_method_3_code 9 = .ok (.return_, 1) := by decide +kernel
theorem ef_sj1 (m : MethodId) (x0 : Addr) (x1 : Addr) : entryFrame m #[(.ref x0), (.ref x1)] 2 = mkF m 0 #[.val (.ref x0), .val (.ref x1)] [] := by first | (simp [entryFrame, mkF, argsToLocals, Value.category]; done) | rfl
def Qsj1 (Z : State) (a0 : Addr) (a1 : Addr) (cs : Int32) (ka : ClassId) (ha : List (Int32 × Value)) (c0 : Int32) (h0 : Heap) (n0 : Nat) (vQ : Option Value) (hQ_ : Heap) (LQ : List Loc) : Prop := ∃ r : Addr, vQ = none ∧ Fr n0 LQ ∧ Keep h0 hQ_ [a0] ∧ (h0.size ≤ r) ∧ (Exa Z hQ_ a0 "java/lang/String") ∧ (Fld Z hQ_ a0 "java/lang/String" "coder" "B" (.int (0 : Int32))) ∧ (Fld Z hQ_ a0 "java/lang/String" "value" "[B" (.ref r)) ∧ (own_By Z hQ_ r (1 : Int32) (own_up (fun _ => 0) (0 : Int32).toNatClampNeg (c0.toInt8.toInt32)))
def Fnsj1 (Z : State) (a0 : Addr) (a1 : Addr) (cs : Int32) (ka : ClassId) (ha : List (Int32 × Value)) (c0 : Int32) (h0 : Heap) (n0 : Nat) (sQ : State) (oQ : Outcome) (UQ : State) : Prop := ∃ vQ LQ, oQ = .returned vQ ∧ Qsj1 Z a0 a1 cs ka ha c0 h0 n0 vQ UQ.heap LQ ∧ FrameEnd sQ oQ UQ LQ ({ frames := 3, cells := 1, slots := 1, locals := 52 } : Room).cells ({ frames := 3, cells := 1, slots := 1, locals := 52 } : Room).slots
set_option maxRecDepth 65536 in
set_option maxHeartbeats 40000000 in
theorem rmsj1 (l : Launch) (Z : State) (aZ : Array Value) (hw : ∀ d ∈ tables_1, d.before aZ Z = true) (ws : List Jvm.Cond) (a0 : Addr) (a1 : Addr) (cs : Int32) (ka : ClassId) (ha : List (Int32 × Value)) (c0 : Int32) (h0 : Heap) (n0 : Nat) (Z0 : n0 ≤ h0.size) (OL : Old Z n0 h0) (CS : own_CS Z cs) (E_a0 : Exa Z h0 a0 "java/lang/String") (F_coder_a0 : Fld Z h0 a0 "java/lang/String" "coder" "B" (.int (0 : Int32))) (F_value_a0 : Fld Z h0 a0 "java/lang/String" "value" "[B" .null) (g_a0 : n0 ≤ a0) (V_a1 : Arh Z h0 a1 ka .char (1 : Int32) ha [] (.int (0 : Int32))) (ne_a0_a1 : a0 ≠ a1) (rc0 : getH ha [] (.int (0 : Int32)) ((0 : Int32)).toNatClampNeg = (.int c0)) (hc0 : 0 ≤ c0.toInt ∧ c0.toInt ≤ 255) :
    MetFree l (⟨"java/lang/String", "<init>", "([C)V"⟩ : MethodName) (head1 (Jvm.Cond.code (⟨"java/lang/String", "<init>", "([C)V"⟩ : MethodName) jdk_42_method_3_code 2 none :: ws) ({ frames := 3, cells := 1, slots := 1, locals := 52 } : Room)) (fun aQ UQ => aQ = #[(.ref a0), (.ref a1)] ∧ Z.Warmed39 UQ.vm ∧ UQ.heap = h0) (fun _ _ _ _ _ => True) (fun _ UQ oQ UR => ∃ vQ LQ, oQ = .returned vQ ∧ Qsj1 Z a0 a1 cs ka ha c0 h0 n0 vQ UR.heap LQ ∧ FrameEnd UQ oQ UR LQ ({ frames := 3, cells := 1, slots := 1, locals := 52 } : Room).cells ({ frames := 3, cells := 1, slots := 1, locals := 52 } : Room).slots) := by
  refine MetFree.of_bodySF (plainFor_of_name pn_2) hisR ?_
  intro p e s m args below meth c s₁ Bd hml0 hP hK
  obtain ⟨rfl, hZ, hh⟩ := hP
  have hx := Bd.exec
  have hby := Bd.bytes
  have hml : c.maxLocals = 2 := hml0
  have hown : s.vm.findClass "java/lang/String" = some m.cls := findClass_of_methodNamed Bd.named
  have hnm := (name_of_methodNamed Bd.named Bd.method).1
  have X0 : Stand p l e ({ frames := 3, cells := 1, slots := 1, locals := 52 } : Room) s m #[(.ref a0), (.ref a1)] below meth c s₁ [] 0 0 := Stand.of_body Bd
  have e0 : s₁.heap = h0 := by rw [← hh, Bd.state]; rfl
  have N0 := Fr.nil n0
  have K0 : Keep h0 h0 [a0] := Keep.refl _ _
  have w_13 := hw _ (List.mem_of_getElem? (i := 13) rfl)
  have w_17 := hw _ (List.mem_of_getElem? (i := 17) rfl)
  have w_18 := hw _ (List.mem_of_getElem? (i := 18) rfl)
  have w_20 := hw _ (List.mem_of_getElem? (i := 20) rfl)
  have first_ : Rn p e below (s₁.setTop (mkF m 0 #[.val (.ref a0), .val (.ref a1)] [])) (Fnsj1 Z a0 a1 cs ka ha c0 h0 n0 s) := by
    generalize hG : (Fnsj1 Z a0 a1 cs ka ha c0 h0 n0 s) = G
    refine R.aloadN X0 hx (hb hby d1_0) rfl rfl (pc' := 1) rfl ?_
    refine R.aloadN X0 hx (hb hby d1_1) rfl rfl (pc' := 2) rfl ?_
    refine R.iconst X0 hx (hb hby d1_2) (v := (0 : Int32)) (by decide) (pc' := 3) rfl ?_
    refine R.aloadN X0 hx (hb hby d1_3) rfl rfl (pc' := 4) rfl ?_
    refine R.alen X0 hx hZ e0 V_a1 (hb hby d1_4) (pc' := 5) rfl ?_
    refine R.aconstNull X0 hx (hb hby d1_5) (pc' := 6) rfl ?_
    refine R.special X0 hx hZ (y := mY28) rfl hown w_17 w_18 w_13 w_20 (by decide) e0 (rmsi1 l Z aZ hw [] a0 a1 cs ka ha c0 h0 n0 Z0 OL CS E_a0 F_coder_a0 F_value_a0 g_a0 V_a1 ne_a0_a1 rc0 hc0) (by decide) (W := 0) (Nat.le_of_eq rfl) (by decide) (by rw [hml]; rfl) (lenOf pd_22 rfl) rfl (hb hby d1_6) (pc' := 9) rfl (by decide) (by decide) ?_; intro v1 T1 L1 X1 hQ1
    obtain ⟨r_1, rfl, N1q, Kc1, P1_0, P1_1, P1_2, P1_3, P1_4⟩ := hQ1
    have N1 := Fr.app N0 N1q
    generalize e1 : T1.heap = h1 at Kc1 P1_0 P1_1 P1_2 P1_3 P1_4
    have K1 : Keep h0 h1 [a0] := K0.trans Kc1 ((allS (Or.inl (List.mem_of_getElem? (i := 0) rfl)) all0))
    have Z1 : n0 ≤ h1.size := Nat.le_trans Z0 Kc1.1
    have ne_a0_r_1 : a0 ≠ r_1 := Nat.ne_of_lt (Nat.lt_of_lt_of_le E_a0.lt P1_0)
    have ne_a1_r_1 : a1 ≠ r_1 := Nat.ne_of_lt (Nat.lt_of_lt_of_le V_a1.lt P1_0)
    have g_r_1 : n0 ≤ r_1 := Nat.le_trans Z0 P1_0
    have sz_r_1 : h0.size ≤ r_1 := Nat.le_trans K0.1 P1_0
    have OL := OL.keep Kc1 (allS g_a0 all0)
    have V_a1 := V_a1.keep Kc1 (ninS (Ne.symm ne_a0_a1) nin0)
    have fresh_1 := P1_0
    have E_a0 : Exa Z h1 a0 "java/lang/String" := P1_1
    have F_coder_a0 : Fld Z h1 a0 "java/lang/String" "coder" "B" (.int (0 : Int32)) := P1_2
    have F_value_a0 : Fld Z h1 a0 "java/lang/String" "value" "[B" (.ref r_1) := P1_3
    have Y_r_1 : own_By Z h1 r_1 (1 : Int32) (own_up (fun _ => 0) (0 : Int32).toNatClampNeg (c0.toInt8.toInt32)) := P1_4
    rw [← hG]
    exact Rn.ret X1 (BodyLoose.notSynchronized Bd) (v := none) (fun _ => rfl) (Q := Qsj1 Z a0 a1 cs ka ha c0 h0 n0) e1 (fun fs hr => X1.returnOut hx Bd.returns (hb hby d1_9) hr) ⟨r_1, rfl, N1, K1, (sz_r_1), E_a0, F_coder_a0, F_value_a0, Y_r_1⟩ (by decide) (by decide)
  exact (Rn.st (fun t k => castTop (ef_sj1 m a0 a1) k) first_ : Rn p e below (s₁.setTop (entryFrame m #[(.ref a0), (.ref a1)] 2)) (Fnsj1 Z a0 a1 cs ka ha c0 h0 n0 s))
theorem ef_cp2 (m : MethodId) (x0 : Addr) (x2 : Addr) : entryFrame m #[(.ref x0), (.int (0 : Int32)), (.ref x2), (.int (0 : Int32)), (.int (2 : Int32))] 7 = mkF m 0 #[.val (.ref x0), .val (.int (0 : Int32)), .val (.ref x2), .val (.int (0 : Int32)), .val (.int (2 : Int32)), .unset, .unset] [] := by first | (simp [entryFrame, mkF, argsToLocals, Value.category]; done) | rfl
def Qcp2 (Z : State) (a0 : Addr) (a2 : Addr) (ka : ClassId) (ha : List (Int32 × Value)) (c0 : Int32) (c1 : Int32) (h0 : Heap) (n0 : Nat) (vQ : Option Value) (hQ_ : Heap) (LQ : List Loc) : Prop := vQ = some (.int (2 : Int32)) ∧ Fr n0 LQ ∧ Keep h0 hQ_ [a2] ∧ (own_By Z hQ_ a2 (2 : Int32) (own_up (own_up (fun _ => 0) (0 : Int32).toNatClampNeg (c0.toInt8.toInt32)) (1 : Int32).toNatClampNeg (c1.toInt8.toInt32)))
def Fncp2 (Z : State) (a0 : Addr) (a2 : Addr) (ka : ClassId) (ha : List (Int32 × Value)) (c0 : Int32) (c1 : Int32) (h0 : Heap) (n0 : Nat) (sQ : State) (oQ : Outcome) (UQ : State) : Prop := ∃ vQ LQ, oQ = .returned vQ ∧ Qcp2 Z a0 a2 ka ha c0 c1 h0 n0 vQ UQ.heap LQ ∧ FrameEnd sQ oQ UQ LQ ({ frames := 0, cells := 0, slots := 0, locals := 0 } : Room).cells ({ frames := 0, cells := 0, slots := 0, locals := 0 } : Room).slots
set_option maxRecDepth 65536 in
set_option maxHeartbeats 40000000 in
theorem rmcp2 (l : Launch) (Z : State) (aZ : Array Value) (hw : ∀ d ∈ tables_1, d.before aZ Z = true) (ws : List Jvm.Cond) (a0 : Addr) (a2 : Addr) (ka : ClassId) (ha : List (Int32 × Value)) (c0 : Int32) (c1 : Int32) (h0 : Heap) (n0 : Nat) (Z0 : n0 ≤ h0.size) (V_a0 : Arh Z h0 a0 ka .char (2 : Int32) ha [] (.int (0 : Int32))) (Y_a2 : own_By Z h0 a2 (2 : Int32) (fun _ => 0)) (g_a2 : n0 ≤ a2) (rc0 : getH ha [] (.int (0 : Int32)) ((0 : Int32)).toNatClampNeg = (.int c0)) (rc1 : getH ha [] (.int (0 : Int32)) ((1 : Int32)).toNatClampNeg = (.int c1)) (hc0 : 0 ≤ c0.toInt ∧ c0.toInt ≤ 255) (hc1 : 0 ≤ c1.toInt ∧ c1.toInt ≤ 255) (ne_a0_a2 : a0 ≠ a2) :
    MetFree l (⟨"java/lang/StringUTF16", "compress", "([CI[BII)I"⟩ : MethodName) (head1 (Jvm.Cond.code (⟨"java/lang/StringUTF16", "compress", "([CI[BII)I"⟩ : MethodName) jdk_52_method_21_code 7 (some .int) :: ws) ({ frames := 0, cells := 0, slots := 0, locals := 0 } : Room)) (fun aQ UQ => aQ = #[(.ref a0), (.int (0 : Int32)), (.ref a2), (.int (0 : Int32)), (.int (2 : Int32))] ∧ Z.Warmed39 UQ.vm ∧ UQ.heap = h0) (fun _ _ _ _ _ => True) (fun _ UQ oQ UR => ∃ vQ LQ, oQ = .returned vQ ∧ Qcp2 Z a0 a2 ka ha c0 c1 h0 n0 vQ UR.heap LQ ∧ FrameEnd UQ oQ UR LQ ({ frames := 0, cells := 0, slots := 0, locals := 0 } : Room).cells ({ frames := 0, cells := 0, slots := 0, locals := 0 } : Room).slots) := by
  refine MetFree.of_bodySF (plainFor_of_name pn_8) hisR ?_
  intro p e s m args below meth c s₁ Bd hml0 hP hK
  obtain ⟨rfl, hZ, hh⟩ := hP
  have hx := Bd.exec
  have hby := Bd.bytes
  have hml : c.maxLocals = 7 := hml0
  have hown : s.vm.findClass "java/lang/StringUTF16" = some m.cls := findClass_of_methodNamed Bd.named
  have hnm := (name_of_methodNamed Bd.named Bd.method).1
  have X0 : Stand p l e ({ frames := 0, cells := 0, slots := 0, locals := 0 } : Room) s m #[(.ref a0), (.int (0 : Int32)), (.ref a2), (.int (0 : Int32)), (.int (2 : Int32))] below meth c s₁ [] 0 0 := Stand.of_body Bd
  have e0 : s₁.heap = h0 := by rw [← hh, Bd.state]; rfl
  have N0 := Fr.nil n0
  have K0 : Keep h0 h0 [a2] := Keep.refl _ _
  have first_ : Rn p e below (s₁.setTop (mkF m 0 #[.val (.ref a0), .val (.int (0 : Int32)), .val (.ref a2), .val (.int (0 : Int32)), .val (.int (2 : Int32)), .unset, .unset] [])) (Fncp2 Z a0 a2 ka ha c0 c1 h0 n0 s) := by
    generalize hG : (Fncp2 Z a0 a2 ka ha c0 c1 h0 n0 s) = G
    refine R.iconst X0 hx (hb hby d5_0) (v := (0 : Int32)) (by decide) (pc' := 1) rfl ?_
    refine R.istore X0 hx (hb hby d5_1) (L' := #[.val (.ref a0), .val (.int (0 : Int32)), .val (.ref a2), .val (.int (0 : Int32)), .val (.int (2 : Int32)), .val (.int (0 : Int32)), .unset]) rfl (pc' := 3) rfl ?_
    refine R.iload X0 hx (hb hby d5_3) rfl (pc' := 5) rfl ?_
    refine R.iload X0 hx (hb hby d5_5) rfl (pc' := 7) rfl ?_
    refine R.icmpNo X0 hx (hb hby d5_7) (tlt (by decide : (0 : Int32) < (2 : Int32))).2.1 (pc' := 10) rfl ?_
    refine R.aloadN X0 hx (hb hby d5_10) rfl rfl (pc' := 11) rfl ?_
    refine R.iloadN X0 hx (hb hby d5_11) rfl (pc' := 12) rfl ?_
    refine R.caload X0 hx hZ e0 V_a0 (⟨by decide, by decide⟩ : ¬ (0 : Int32) < 0 ∧ (0 : Int32) < (2 : Int32)) (v := (.int c0)) (rc0) (hb hby d5_12) (pc' := 13) rfl ?_
    refine R.istore X0 hx (hb hby d5_13) (L' := #[.val (.ref a0), .val (.int (0 : Int32)), .val (.ref a2), .val (.int (0 : Int32)), .val (.int (2 : Int32)), .val (.int (0 : Int32)), .val (.int c0)]) rfl (pc' := 15) rfl ?_
    refine R.iload X0 hx (hb hby d5_15) rfl (pc' := 17) rfl ?_
    refine R.sipush X0 hx (hb hby d5_17) (v := (255 : Int32)) (by decide) (pc' := 20) rfl ?_
    refine R.icmpYes X0 hx (hb hby d5_20) (flt (own_le255 hc0 : ¬ ((255 : Int32) < c0))).2.2.2 (by decide) (pc' := 26) (by decide) ?_
    refine R.aloadN X0 hx (hb hby d5_26) rfl rfl (pc' := 27) rfl ?_
    refine R.iloadN X0 hx (hb hby d5_27) rfl (pc' := 28) rfl ?_
    refine R.iload X0 hx (hb hby d5_28) rfl (pc' := 30) rfl ?_
    refine R.i2b X0 hx (hb hby d5_30) (pc' := 31) rfl ?_
    refine R.bastoreY X0 hx hZ e0 Y_a2 (⟨by decide, by decide⟩ : ¬ (0 : Int32) < 0 ∧ (0 : Int32) < (2 : Int32)) (v := (c0.toInt8.toInt32)) (own_nar_i2b _) (hb hby d5_31) (pc' := 32) rfl ?_; intro T1 h1 X1 e1 W1 V1
    have V_a0 := V_a0.other W1 ne_a0_a2
    have Y_a2 : own_By Z h1 a2 (2 : Int32) (own_up (fun _ => 0) (0 : Int32).toNatClampNeg (c0.toInt8.toInt32)) := V1
    have N1 := Fr.snoc X1 N0 g_a2
    have K1 : Keep h0 h1 [a2] := K0.wr W1 (Or.inl (List.mem_of_getElem? (i := 0) rfl))
    have Z1 : n0 ≤ h1.size := Nat.le_trans Z0 (Keep.of_wr W1).1
    refine R.iinc X1 hx (hb hby d5_32) rfl (L' := #[.val (.ref a0), .val (.int (1 : Int32)), .val (.ref a2), .val (.int (0 : Int32)), .val (.int (2 : Int32)), .val (.int (0 : Int32)), .val (.int c0)]) rfl (pc' := 35) rfl ?_
    refine R.iinc X1 hx (hb hby d5_35) rfl (L' := #[.val (.ref a0), .val (.int (1 : Int32)), .val (.ref a2), .val (.int (1 : Int32)), .val (.int (2 : Int32)), .val (.int (0 : Int32)), .val (.int c0)]) rfl (pc' := 38) rfl ?_
    refine R.iinc X1 hx (hb hby d5_38) rfl (L' := #[.val (.ref a0), .val (.int (1 : Int32)), .val (.ref a2), .val (.int (1 : Int32)), .val (.int (2 : Int32)), .val (.int (1 : Int32)), .val (.int c0)]) rfl (pc' := 41) rfl ?_
    refine R.goto X1 hx (hb hby d5_41) (by decide) (pc' := 3) (by decide) ?_
    refine R.iload X1 hx (hb hby d5_3) rfl (pc' := 5) rfl ?_
    refine R.iload X1 hx (hb hby d5_5) rfl (pc' := 7) rfl ?_
    refine R.icmpNo X1 hx (hb hby d5_7) (tlt (by decide : (1 : Int32) < (2 : Int32))).2.1 (pc' := 10) rfl ?_
    refine R.aloadN X1 hx (hb hby d5_10) rfl rfl (pc' := 11) rfl ?_
    refine R.iloadN X1 hx (hb hby d5_11) rfl (pc' := 12) rfl ?_
    refine R.caload X1 hx hZ e1 V_a0 (⟨by decide, by decide⟩ : ¬ (1 : Int32) < 0 ∧ (1 : Int32) < (2 : Int32)) (v := (.int c1)) (rc1) (hb hby d5_12) (pc' := 13) rfl ?_
    refine R.istore X1 hx (hb hby d5_13) (L' := #[.val (.ref a0), .val (.int (1 : Int32)), .val (.ref a2), .val (.int (1 : Int32)), .val (.int (2 : Int32)), .val (.int (1 : Int32)), .val (.int c1)]) rfl (pc' := 15) rfl ?_
    refine R.iload X1 hx (hb hby d5_15) rfl (pc' := 17) rfl ?_
    refine R.sipush X1 hx (hb hby d5_17) (v := (255 : Int32)) (by decide) (pc' := 20) rfl ?_
    refine R.icmpYes X1 hx (hb hby d5_20) (flt (own_le255 hc1 : ¬ ((255 : Int32) < c1))).2.2.2 (by decide) (pc' := 26) (by decide) ?_
    refine R.aloadN X1 hx (hb hby d5_26) rfl rfl (pc' := 27) rfl ?_
    refine R.iloadN X1 hx (hb hby d5_27) rfl (pc' := 28) rfl ?_
    refine R.iload X1 hx (hb hby d5_28) rfl (pc' := 30) rfl ?_
    refine R.i2b X1 hx (hb hby d5_30) (pc' := 31) rfl ?_
    refine R.bastoreY X1 hx hZ e1 Y_a2 (⟨by decide, by decide⟩ : ¬ (1 : Int32) < 0 ∧ (1 : Int32) < (2 : Int32)) (v := (c1.toInt8.toInt32)) (own_nar_i2b _) (hb hby d5_31) (pc' := 32) rfl ?_; intro T2 h2 X2 e2 W2 V2
    have V_a0 := V_a0.other W2 ne_a0_a2
    have Y_a2 : own_By Z h2 a2 (2 : Int32) (own_up (own_up (fun _ => 0) (0 : Int32).toNatClampNeg (c0.toInt8.toInt32)) (1 : Int32).toNatClampNeg (c1.toInt8.toInt32)) := V2
    have N2 := Fr.snoc X2 N1 g_a2
    have K2 : Keep h0 h2 [a2] := K1.wr W2 (Or.inl (List.mem_of_getElem? (i := 0) rfl))
    have Z2 : n0 ≤ h2.size := Nat.le_trans Z1 (Keep.of_wr W2).1
    refine R.iinc X2 hx (hb hby d5_32) rfl (L' := #[.val (.ref a0), .val (.int (2 : Int32)), .val (.ref a2), .val (.int (1 : Int32)), .val (.int (2 : Int32)), .val (.int (1 : Int32)), .val (.int c1)]) rfl (pc' := 35) rfl ?_
    refine R.iinc X2 hx (hb hby d5_35) rfl (L' := #[.val (.ref a0), .val (.int (2 : Int32)), .val (.ref a2), .val (.int (2 : Int32)), .val (.int (2 : Int32)), .val (.int (1 : Int32)), .val (.int c1)]) rfl (pc' := 38) rfl ?_
    refine R.iinc X2 hx (hb hby d5_38) rfl (L' := #[.val (.ref a0), .val (.int (2 : Int32)), .val (.ref a2), .val (.int (2 : Int32)), .val (.int (2 : Int32)), .val (.int (2 : Int32)), .val (.int c1)]) rfl (pc' := 41) rfl ?_
    refine R.goto X2 hx (hb hby d5_41) (by decide) (pc' := 3) (by decide) ?_
    refine R.iload X2 hx (hb hby d5_3) rfl (pc' := 5) rfl ?_
    refine R.iload X2 hx (hb hby d5_5) rfl (pc' := 7) rfl ?_
    refine R.icmpYes X2 hx (hb hby d5_7) (flt (by decide : ¬ ((2 : Int32) < (2 : Int32)))).2.1 (by decide) (pc' := 44) (by decide) ?_
    refine R.iload X2 hx (hb hby d5_44) rfl (pc' := 46) rfl ?_
    rw [← hG]
    exact Rn.ret X2 (BodyLoose.notSynchronized Bd) (v := some (.int (2 : Int32))) (fun h => by rw [Bd.returns] at h; cases h) (Q := Qcp2 Z a0 a2 ka ha c0 c1 h0 n0) e2 (fun fs hr => retOut X2 hx (t := .int) Bd.returns rfl (Or.inl ⟨rfl, Or.inl rfl, _, rfl⟩) (hb hby d5_46) hr) ⟨rfl, N2, K2, Y_a2⟩ (by decide) (by decide)
  exact (Rn.st (fun t k => castTop (ef_cp2 m a0 a2) k) first_ : Rn p e below (s₁.setTop (entryFrame m #[(.ref a0), (.int (0 : Int32)), (.ref a2), (.int (0 : Int32)), (.int (2 : Int32))] 7)) (Fncp2 Z a0 a2 ka ha c0 c1 h0 n0 s))
theorem ef_cq2 (m : MethodId) (x0 : Addr) : entryFrame m #[(.ref x0), (.int (0 : Int32)), (.int (2 : Int32))] 6 = mkF m 0 #[.val (.ref x0), .val (.int (0 : Int32)), .val (.int (2 : Int32)), .unset, .unset, .unset] [] := by first | (simp [entryFrame, mkF, argsToLocals, Value.category]; done) | rfl
def Qcq2 (Z : State) (a0 : Addr) (ka : ClassId) (ha : List (Int32 × Value)) (c0 : Int32) (c1 : Int32) (h0 : Heap) (n0 : Nat) (vQ : Option Value) (hQ_ : Heap) (LQ : List Loc) : Prop := ∃ r : Addr, vQ = some (.ref r) ∧ Fr n0 LQ ∧ Keep h0 hQ_ [] ∧ (h0.size ≤ r) ∧ (own_By Z hQ_ r (2 : Int32) (own_up (own_up (fun _ => 0) (0 : Int32).toNatClampNeg (c0.toInt8.toInt32)) (1 : Int32).toNatClampNeg (c1.toInt8.toInt32)))
def Fncq2 (Z : State) (a0 : Addr) (ka : ClassId) (ha : List (Int32 × Value)) (c0 : Int32) (c1 : Int32) (h0 : Heap) (n0 : Nat) (sQ : State) (oQ : Outcome) (UQ : State) : Prop := ∃ vQ LQ, oQ = .returned vQ ∧ Qcq2 Z a0 ka ha c0 c1 h0 n0 vQ UQ.heap LQ ∧ FrameEnd sQ oQ UQ LQ ({ frames := 1, cells := 1, slots := 2, locals := 18 } : Room).cells ({ frames := 1, cells := 1, slots := 2, locals := 18 } : Room).slots
set_option maxRecDepth 65536 in
set_option maxHeartbeats 40000000 in
theorem rmcq2 (l : Launch) (Z : State) (aZ : Array Value) (hw : ∀ d ∈ tables_1, d.before aZ Z = true) (ws : List Jvm.Cond) (a0 : Addr) (ka : ClassId) (ha : List (Int32 × Value)) (c0 : Int32) (c1 : Int32) (h0 : Heap) (n0 : Nat) (Z0 : n0 ≤ h0.size) (V_a0 : Arh Z h0 a0 ka .char (2 : Int32) ha [] (.int (0 : Int32))) (rc0 : getH ha [] (.int (0 : Int32)) ((0 : Int32)).toNatClampNeg = (.int c0)) (rc1 : getH ha [] (.int (0 : Int32)) ((1 : Int32)).toNatClampNeg = (.int c1)) (hc0 : 0 ≤ c0.toInt ∧ c0.toInt ≤ 255) (hc1 : 0 ≤ c1.toInt ∧ c1.toInt ≤ 255) :
    MetFree l (⟨"java/lang/StringUTF16", "compress", "([CII)[B"⟩ : MethodName) (head1 (Jvm.Cond.code (⟨"java/lang/StringUTF16", "compress", "([CII)[B"⟩ : MethodName) jdk_52_method_16_code 6 (some (.array .byte)) :: ws) ({ frames := 1, cells := 1, slots := 2, locals := 18 } : Room)) (fun aQ UQ => aQ = #[(.ref a0), (.int (0 : Int32)), (.int (2 : Int32))] ∧ Z.Warmed39 UQ.vm ∧ UQ.heap = h0) (fun _ _ _ _ _ => True) (fun _ UQ oQ UR => ∃ vQ LQ, oQ = .returned vQ ∧ Qcq2 Z a0 ka ha c0 c1 h0 n0 vQ UR.heap LQ ∧ FrameEnd UQ oQ UR LQ ({ frames := 1, cells := 1, slots := 2, locals := 18 } : Room).cells ({ frames := 1, cells := 1, slots := 2, locals := 18 } : Room).slots) := by
  refine MetFree.of_bodySF (plainFor_of_name pn_8) hisR ?_
  intro p e s m args below meth c s₁ Bd hml0 hP hK
  obtain ⟨rfl, hZ, hh⟩ := hP
  have hx := Bd.exec
  have hby := Bd.bytes
  have hml : c.maxLocals = 6 := hml0
  have hown : s.vm.findClass "java/lang/StringUTF16" = some m.cls := findClass_of_methodNamed Bd.named
  have hnm := (name_of_methodNamed Bd.named Bd.method).1
  have X0 : Stand p l e ({ frames := 1, cells := 1, slots := 2, locals := 18 } : Room) s m #[(.ref a0), (.int (0 : Int32)), (.int (2 : Int32))] below meth c s₁ [] 0 0 := Stand.of_body Bd
  have e0 : s₁.heap = h0 := by rw [← hh, Bd.state]; rfl
  have N0 := Fr.nil n0
  have K0 : Keep h0 h0 [] := Keep.refl _ _
  have w_27 := hw _ (List.mem_of_getElem? (i := 27) rfl)
  have w_29 := hw _ (List.mem_of_getElem? (i := 29) rfl)
  have w_30 := hw _ (List.mem_of_getElem? (i := 30) rfl)
  have w_31 := hw _ (List.mem_of_getElem? (i := 31) rfl)
  have w_32 := hw _ (List.mem_of_getElem? (i := 32) rfl)
  have first_ : Rn p e below (s₁.setTop (mkF m 0 #[.val (.ref a0), .val (.int (0 : Int32)), .val (.int (2 : Int32)), .unset, .unset, .unset] [])) (Fncq2 Z a0 ka ha c0 c1 h0 n0 s) := by
    generalize hG : (Fncq2 Z a0 ka ha c0 c1 h0 n0 s) = G
    refine R.iloadN X0 hx (hb hby d4_0) rfl (pc' := 1) rfl ?_
    refine R.newY X0 hx hZ w_29 e0 (by decide) (cap := 2) (by decide) (by decide) (hb hby d4_1) (pc' := 3) rfl (by decide) (by decide) ?_; intro T1 h1 b1 g1 X1 e1 E1 AA1
    have g_b1 : n0 ≤ b1 := Nat.le_trans Z0 (Nat.le_of_eq g1.symm)
    have sz_b1 : h0.size ≤ b1 := Nat.le_trans K0.1 (Nat.le_of_eq g1.symm)
    have ne_a0_b1 : a0 ≠ b1 := Nat.ne_of_lt (Nat.lt_of_lt_of_le V_a0.lt (Nat.le_of_eq g1.symm))
    have K1 : Keep h0 h1 [] := K0.ext E1
    have Z1 : n0 ≤ h1.size := Nat.le_trans Z0 E1.1
    have V_a0 := V_a0.ext E1
    have Y_b1 : own_By Z h1 b1 (2 : Int32) (fun _ => 0) := AA1
    refine R.astoreN X1 hx (hb hby d4_3) rfl (L' := #[.val (.ref a0), .val (.int (0 : Int32)), .val (.int (2 : Int32)), .val (.ref b1), .unset, .unset]) rfl (pc' := 4) rfl ?_
    refine R.aloadN X1 hx (hb hby d4_4) rfl rfl (pc' := 5) rfl ?_
    refine R.iloadN X1 hx (hb hby d4_5) rfl (pc' := 6) rfl ?_
    refine R.aloadN X1 hx (hb hby d4_6) rfl rfl (pc' := 7) rfl ?_
    refine R.iconst X1 hx (hb hby d4_7) (v := (0 : Int32)) (by decide) (pc' := 8) rfl ?_
    refine R.iloadN X1 hx (hb hby d4_8) rfl (pc' := 9) rfl ?_
    refine R.callS X1 hx hZ (y := mY25) hown w_30 w_31 w_27 w_32 (by decide) e1 (rmcp2 l Z aZ hw [] a0 b1 ka ha c0 c1 h1 n0 Z1 V_a0 Y_b1 g_b1 rc0 rc1 hc0 hc1 ne_a0_b1) (by decide) (W := 0) (Nat.le_of_eq rfl) (by decide) (by rw [hml]; rfl) (lenOf pd_19 rfl) rfl (hb hby d4_9) (pc' := 12) rfl (by decide) (by decide) ?_; intro v2 T2 L2 X2 hQ2
    obtain ⟨rfl, N2q, Kc2, P2_0⟩ := hQ2
    have N2 := Fr.app N0 N2q
    generalize e2 : T2.heap = h2 at Kc2 P2_0
    have K2 : Keep h0 h2 [] := K1.trans Kc2 ((allS (Or.inr sz_b1) all0))
    have Z2 : n0 ≤ h2.size := Nat.le_trans Z1 Kc2.1
    have V_a0 := V_a0.keep Kc2 (ninS ne_a0_b1 nin0)
    have Y_b1 : own_By Z h2 b1 (2 : Int32) (own_up (own_up (fun _ => 0) (0 : Int32).toNatClampNeg (c0.toInt8.toInt32)) (1 : Int32).toNatClampNeg (c1.toInt8.toInt32)) := P2_0
    refine R.istore X2 hx (hb hby d4_12) (L' := #[.val (.ref a0), .val (.int (0 : Int32)), .val (.int (2 : Int32)), .val (.ref b1), .val (.int (2 : Int32)), .unset]) rfl (pc' := 14) rfl ?_
    refine R.iload X2 hx (hb hby d4_14) rfl (pc' := 16) rfl ?_
    refine R.iloadN X2 hx (hb hby d4_16) rfl (pc' := 17) rfl ?_
    refine R.icmpYes X2 hx (hb hby d4_17) (teq (by decide : (2 : Int32) = (2 : Int32))).1 (by decide) (pc' := 57) (by decide) ?_
    refine R.aloadN X2 hx (hb hby d4_57) rfl rfl (pc' := 58) rfl ?_
    rw [← hG]
    exact Rn.ret X2 (BodyLoose.notSynchronized Bd) (v := some (.ref b1)) (fun h => by rw [Bd.returns] at h; cases h) (Q := Qcq2 Z a0 ka ha c0 c1 h0 n0) e2 (fun fs hr => retOut X2 hx (t := (.array .byte)) Bd.returns rfl (Or.inr (Or.inr (Or.inr (Or.inr ⟨rfl, rfl, rfl⟩)))) (hb hby d4_58) hr) ⟨b1, rfl, N2, K2, (sz_b1), Y_b1⟩ (by decide) (by decide)
  exact (Rn.st (fun t k => castTop (ef_cq2 m a0) k) first_ : Rn p e below (s₁.setTop (entryFrame m #[(.ref a0), (.int (0 : Int32)), (.int (2 : Int32))] 6)) (Fncq2 Z a0 ka ha c0 c1 h0 n0 s))
theorem ef_co2 (m : MethodId) (x0 : Addr) : entryFrame m #[(.ref x0), (.int (2 : Int32))] 2 = mkF m 0 #[.val (.ref x0), .val (.int (2 : Int32))] [] := by first | (simp [entryFrame, mkF, argsToLocals, Value.category]; done) | rfl
def Qco2 (Z : State) (a0 : Addr) (f : Nat → Int32) (h0 : Heap) (n0 : Nat) (vQ : Option Value) (hQ_ : Heap) (LQ : List Loc) : Prop := vQ = some (.int (0 : Int32)) ∧ Fr n0 LQ ∧ hQ_ = h0
def Fnco2 (Z : State) (a0 : Addr) (f : Nat → Int32) (h0 : Heap) (n0 : Nat) (sQ : State) (oQ : Outcome) (UQ : State) : Prop := ∃ vQ LQ, oQ = .returned vQ ∧ Qco2 Z a0 f h0 n0 vQ UQ.heap LQ ∧ FrameEnd sQ oQ UQ LQ ({ frames := 0, cells := 0, slots := 0, locals := 0 } : Room).cells ({ frames := 0, cells := 0, slots := 0, locals := 0 } : Room).slots
set_option maxRecDepth 65536 in
set_option maxHeartbeats 40000000 in
theorem rmco2 (l : Launch) (Z : State) (aZ : Array Value) (hw : ∀ d ∈ tables_1, d.before aZ Z = true) (ws : List Jvm.Cond) (a0 : Addr) (f : Nat → Int32) (h0 : Heap) (n0 : Nat) (Z0 : n0 ≤ h0.size) (Y_a0 : own_By Z h0 a0 (2 : Int32) f) :
    MetFree l (⟨"java/lang/StringUTF16", "coderFromArrayLen", "([BI)B"⟩ : MethodName) (head1 (Jvm.Cond.code (⟨"java/lang/StringUTF16", "coderFromArrayLen", "([BI)B"⟩ : MethodName) jdk_52_method_15_code 2 (some .byte) :: ws) ({ frames := 0, cells := 0, slots := 0, locals := 0 } : Room)) (fun aQ UQ => aQ = #[(.ref a0), (.int (2 : Int32))] ∧ Z.Warmed39 UQ.vm ∧ UQ.heap = h0) (fun _ _ _ _ _ => True) (fun _ UQ oQ UR => ∃ vQ LQ, oQ = .returned vQ ∧ Qco2 Z a0 f h0 n0 vQ UR.heap LQ ∧ FrameEnd UQ oQ UR LQ ({ frames := 0, cells := 0, slots := 0, locals := 0 } : Room).cells ({ frames := 0, cells := 0, slots := 0, locals := 0 } : Room).slots) := by
  refine MetFree.of_bodySF (plainFor_of_name pn_8) hisR ?_
  intro p e s m args below meth c s₁ Bd hml0 hP hK
  obtain ⟨rfl, hZ, hh⟩ := hP
  have hx := Bd.exec
  have hby := Bd.bytes
  have hml : c.maxLocals = 2 := hml0
  have hown : s.vm.findClass "java/lang/StringUTF16" = some m.cls := findClass_of_methodNamed Bd.named
  have hnm := (name_of_methodNamed Bd.named Bd.method).1
  have X0 : Stand p l e ({ frames := 0, cells := 0, slots := 0, locals := 0 } : Room) s m #[(.ref a0), (.int (2 : Int32))] below meth c s₁ [] 0 0 := Stand.of_body Bd
  have e0 : s₁.heap = h0 := by rw [← hh, Bd.state]; rfl
  have N0 := Fr.nil n0
  have K0 : Keep h0 h0 [] := Keep.refl _ _
  have first_ : Rn p e below (s₁.setTop (mkF m 0 #[.val (.ref a0), .val (.int (2 : Int32))] [])) (Fnco2 Z a0 f h0 n0 s) := by
    generalize hG : (Fnco2 Z a0 f h0 n0 s) = G
    refine R.iloadN X0 hx (hb hby d6_0) rfl (pc' := 1) rfl ?_
    refine R.aloadN X0 hx (hb hby d6_1) rfl rfl (pc' := 2) rfl ?_
    refine R.alenY X0 hx hZ e0 Y_a0 (hb hby d6_2) (pc' := 3) rfl ?_
    refine R.isub X0 hx (hb hby d6_3) (v := (0 : Int32)) (by decide) (pc' := 4) rfl ?_
    refine R.bipush X0 hx (hb hby d6_4) (v := (31 : Int32)) (by decide) (pc' := 6) rfl ?_
    refine R.iushr X0 hx (hb hby d6_6) (pc' := 7) rfl ?_
    refine R.i2b X0 hx (hb hby d6_7) (pc' := 8) rfl ?_
    show Rn p e below (s₁.setTop (mkF m 8 #[.val (.ref a0), .val (.int (2 : Int32))] [(.int ((((0 : Int32).toUInt32 >>> ((31 : Int32) &&& 31).toUInt32).toInt32).toInt8.toInt32))])) G
    rw [show ((((0 : Int32).toUInt32 >>> ((31 : Int32) &&& 31).toUInt32).toInt32).toInt8.toInt32) = (0 : Int32) from by decide]
    rw [← hG]
    exact Rn.ret X0 (BodyLoose.notSynchronized Bd) (v := some (.int (0 : Int32))) (fun h => by rw [Bd.returns] at h; cases h) (Q := Qco2 Z a0 f h0 n0) e0 (fun fs hr => retN X0 hx (t := .byte) Bd.returns (by simp) (hb hby d6_8) hr) ⟨rfl, N0, rfl⟩ (by decide) (by decide)
  exact (Rn.st (fun t k => castTop (ef_co2 m a0) k) first_ : Rn p e below (s₁.setTop (entryFrame m #[(.ref a0), (.int (2 : Int32))] 2)) (Fnco2 Z a0 f h0 n0 s))
theorem ef_si2 (m : MethodId) (x0 : Addr) (x1 : Addr) : entryFrame m #[(.ref x0), (.ref x1), (.int (0 : Int32)), (.int (2 : Int32)), .null] 6 = mkF m 0 #[.val (.ref x0), .val (.ref x1), .val (.int (0 : Int32)), .val (.int (2 : Int32)), .val .null, .unset] [] := by first | (simp [entryFrame, mkF, argsToLocals, Value.category]; done) | rfl
def Qsi2 (Z : State) (a0 : Addr) (a1 : Addr) (cs : Int32) (ka : ClassId) (ha : List (Int32 × Value)) (c0 : Int32) (c1 : Int32) (h0 : Heap) (n0 : Nat) (vQ : Option Value) (hQ_ : Heap) (LQ : List Loc) : Prop := ∃ r : Addr, vQ = none ∧ Fr n0 LQ ∧ Keep h0 hQ_ [a0] ∧ (h0.size ≤ r) ∧ (Exa Z hQ_ a0 "java/lang/String") ∧ (Fld Z hQ_ a0 "java/lang/String" "coder" "B" (.int (0 : Int32))) ∧ (Fld Z hQ_ a0 "java/lang/String" "value" "[B" (.ref r)) ∧ (own_By Z hQ_ r (2 : Int32) (own_up (own_up (fun _ => 0) (0 : Int32).toNatClampNeg (c0.toInt8.toInt32)) (1 : Int32).toNatClampNeg (c1.toInt8.toInt32)))
def Fnsi2 (Z : State) (a0 : Addr) (a1 : Addr) (cs : Int32) (ka : ClassId) (ha : List (Int32 × Value)) (c0 : Int32) (c1 : Int32) (h0 : Heap) (n0 : Nat) (sQ : State) (oQ : Outcome) (UQ : State) : Prop := ∃ vQ LQ, oQ = .returned vQ ∧ Qsi2 Z a0 a1 cs ka ha c0 c1 h0 n0 vQ UQ.heap LQ ∧ FrameEnd sQ oQ UQ LQ ({ frames := 2, cells := 1, slots := 2, locals := 35 } : Room).cells ({ frames := 2, cells := 1, slots := 2, locals := 35 } : Room).slots
set_option maxRecDepth 65536 in
set_option maxHeartbeats 40000000 in
theorem rmsi2 (l : Launch) (Z : State) (aZ : Array Value) (hw : ∀ d ∈ tables_1, d.before aZ Z = true) (ws : List Jvm.Cond) (a0 : Addr) (a1 : Addr) (cs : Int32) (ka : ClassId) (ha : List (Int32 × Value)) (c0 : Int32) (c1 : Int32) (h0 : Heap) (n0 : Nat) (Z0 : n0 ≤ h0.size) (OL : Old Z n0 h0) (CS : own_CS Z cs) (E_a0 : Exa Z h0 a0 "java/lang/String") (F_coder_a0 : Fld Z h0 a0 "java/lang/String" "coder" "B" (.int (0 : Int32))) (F_value_a0 : Fld Z h0 a0 "java/lang/String" "value" "[B" .null) (g_a0 : n0 ≤ a0) (V_a1 : Arh Z h0 a1 ka .char (2 : Int32) ha [] (.int (0 : Int32))) (ne_a0_a1 : a0 ≠ a1) (rc0 : getH ha [] (.int (0 : Int32)) ((0 : Int32)).toNatClampNeg = (.int c0)) (rc1 : getH ha [] (.int (0 : Int32)) ((1 : Int32)).toNatClampNeg = (.int c1)) (hc0 : 0 ≤ c0.toInt ∧ c0.toInt ≤ 255) (hc1 : 0 ≤ c1.toInt ∧ c1.toInt ≤ 255) :
    MetFree l (⟨"java/lang/String", "<init>", "([CIILjava/lang/Void;)V"⟩ : MethodName) (head1 (Jvm.Cond.code (⟨"java/lang/String", "<init>", "([CIILjava/lang/Void;)V"⟩ : MethodName) jdk_42_method_149_code 6 none :: ws) ({ frames := 2, cells := 1, slots := 2, locals := 35 } : Room)) (fun aQ UQ => aQ = #[(.ref a0), (.ref a1), (.int (0 : Int32)), (.int (2 : Int32)), .null] ∧ Z.Warmed39 UQ.vm ∧ UQ.heap = h0) (fun _ _ _ _ _ => True) (fun _ UQ oQ UR => ∃ vQ LQ, oQ = .returned vQ ∧ Qsi2 Z a0 a1 cs ka ha c0 c1 h0 n0 vQ UR.heap LQ ∧ FrameEnd UQ oQ UR LQ ({ frames := 2, cells := 1, slots := 2, locals := 35 } : Room).cells ({ frames := 2, cells := 1, slots := 2, locals := 35 } : Room).slots) := by
  refine MetFree.of_bodySF (plainFor_of_name pn_2) hisR ?_
  intro p e s m args below meth c s₁ Bd hml0 hP hK
  obtain ⟨rfl, hZ, hh⟩ := hP
  have hx := Bd.exec
  have hby := Bd.bytes
  have hml : c.maxLocals = 6 := hml0
  have hown : s.vm.findClass "java/lang/String" = some m.cls := findClass_of_methodNamed Bd.named
  have hnm := (name_of_methodNamed Bd.named Bd.method).1
  have X0 : Stand p l e ({ frames := 2, cells := 1, slots := 2, locals := 35 } : Room) s m #[(.ref a0), (.ref a1), (.int (0 : Int32)), (.int (2 : Int32)), .null] below meth c s₁ [] 0 0 := Stand.of_body Bd
  have e0 : s₁.heap = h0 := by rw [← hh, Bd.state]; rfl
  have N0 := Fr.nil n0
  have K0 : Keep h0 h0 [a0] := Keep.refl _ _
  have w_12 := hw _ (List.mem_of_getElem? (i := 12) rfl)
  have w_21 := hw _ (List.mem_of_getElem? (i := 21) rfl)
  have w_22 := hw _ (List.mem_of_getElem? (i := 22) rfl)
  have w_23 := hw _ (List.mem_of_getElem? (i := 23) rfl)
  have w_24 := hw _ (List.mem_of_getElem? (i := 24) rfl)
  have w_25 := hw _ (List.mem_of_getElem? (i := 25) rfl)
  have w_26 := hw _ (List.mem_of_getElem? (i := 26) rfl)
  have w_27 := hw _ (List.mem_of_getElem? (i := 27) rfl)
  have w_28 := hw _ (List.mem_of_getElem? (i := 28) rfl)
  have w_33 := hw _ (List.mem_of_getElem? (i := 33) rfl)
  have w_34 := hw _ (List.mem_of_getElem? (i := 34) rfl)
  have w_35 := hw _ (List.mem_of_getElem? (i := 35) rfl)
  have w_36 := hw _ (List.mem_of_getElem? (i := 36) rfl)
  have w_37 := hw _ (List.mem_of_getElem? (i := 37) rfl)
  have w_38 := hw _ (List.mem_of_getElem? (i := 38) rfl)
  have w_39 := hw _ (List.mem_of_getElem? (i := 39) rfl)
  have first_ : Rn p e below (s₁.setTop (mkF m 0 #[.val (.ref a0), .val (.ref a1), .val (.int (0 : Int32)), .val (.int (2 : Int32)), .val .null, .unset] [])) (Fnsi2 Z a0 a1 cs ka ha c0 c1 h0 n0 s) := by
    generalize hG : (Fnsi2 Z a0 a1 cs ka ha c0 c1 h0 n0 s) = G
    refine R.aloadN X0 hx (hb hby d2_0) rfl rfl (pc' := 1) rfl ?_
    refine R.initO X0 hx hZ hown w_21 w_22 w_23 e0 (by rw [hml]; rfl) (hb hby d2_1) (pc' := 4) rfl (by decide) (W := 0) (Nat.le_of_eq rfl) (by decide) ?_; intro T1 X1 e1
    refine R.iloadN X1 hx (hb hby d2_4) rfl (pc' := 5) rfl ?_
    refine R.ifYes X1 hx (hb hby d2_5) (feq (by decide : ¬ ((2 : Int32) = (0 : Int32)))).2 (by decide) (pc' := 27) (by decide) ?_
    have S_CS := CS.1.ext OL.2
    refine R.getS X1 hx hZ hown (host := "") (Or.inl w_24) Via.refl e1 S_CS (hb hby d2_27) (pc' := 30) rfl ?_; intro T2 X2 e2
    refine R.ifNo X2 hx (hb hby d2_30) (feq (CS.2 : ¬ (cs = (0 : Int32)))).1 (pc' := 33) rfl ?_
    refine R.aloadN X2 hx (hb hby d2_33) rfl rfl (pc' := 34) rfl ?_
    refine R.iloadN X2 hx (hb hby d2_34) rfl (pc' := 35) rfl ?_
    refine R.iloadN X2 hx (hb hby d2_35) rfl (pc' := 36) rfl ?_
    refine R.callS X2 hx hZ (y := mY26) hown w_25 w_26 w_27 w_28 (by decide) e2 (rmcq2 l Z aZ hw [] a1 ka ha c0 c1 h0 n0 Z0 V_a1 rc0 rc1 hc0 hc1) (by decide) (W := 0) (Nat.le_of_eq rfl) (by decide) (by rw [hml]; rfl) (lenOf pd_20 rfl) rfl (hb hby d2_36) (pc' := 39) rfl (by decide) (by decide) ?_; intro v3 T3 L3 X3 hQ3
    obtain ⟨r_3, rfl, N3q, Kc3, P3_0, P3_1⟩ := hQ3
    have N3 := Fr.app N0 N3q
    generalize e3 : T3.heap = h3 at Kc3 P3_0 P3_1
    have K3 : Keep h0 h3 [a0] := K0.trans Kc3 (all0)
    have Z3 : n0 ≤ h3.size := Nat.le_trans Z0 Kc3.1
    have ne_a0_r_3 : a0 ≠ r_3 := Nat.ne_of_lt (Nat.lt_of_lt_of_le E_a0.lt P3_0)
    have ne_a1_r_3 : a1 ≠ r_3 := Nat.ne_of_lt (Nat.lt_of_lt_of_le V_a1.lt P3_0)
    have g_r_3 : n0 ≤ r_3 := Nat.le_trans Z0 P3_0
    have sz_r_3 : h0.size ≤ r_3 := Nat.le_trans K0.1 P3_0
    have S_CS := own_sta_keep S_CS Kc3 ns0
    have OL := OL.keep Kc3 all0
    have E_a0 := E_a0.keep Kc3
    have F_coder_a0 := F_coder_a0.keep Kc3 nin0
    have F_value_a0 := F_value_a0.keep Kc3 nin0
    have V_a1 := V_a1.keep Kc3 nin0
    have fresh_3 := P3_0
    have Y_r_3 : own_By Z h3 r_3 (2 : Int32) (own_up (own_up (fun _ => 0) (0 : Int32).toNatClampNeg (c0.toInt8.toInt32)) (1 : Int32).toNatClampNeg (c1.toInt8.toInt32)) := P3_1
    refine R.astore X3 hx (hb hby d2_39) rfl (L' := #[.val (.ref a0), .val (.ref a1), .val (.int (0 : Int32)), .val (.int (2 : Int32)), .val .null, .val (.ref r_3)]) rfl (pc' := 41) rfl ?_
    refine R.aloadN X3 hx (hb hby d2_41) rfl rfl (pc' := 42) rfl ?_
    refine R.aload X3 hx (hb hby d2_42) rfl rfl (pc' := 44) rfl ?_
    refine R.iloadN X3 hx (hb hby d2_44) rfl (pc' := 45) rfl ?_
    refine R.callS X3 hx hZ (y := mY27) hown w_33 w_34 w_27 w_35 (by decide) e3 (rmco2 l Z aZ hw [] r_3 (own_up (own_up (fun _ => 0) (0 : Int32).toNatClampNeg (c0.toInt8.toInt32)) (1 : Int32).toNatClampNeg (c1.toInt8.toInt32)) h3 n0 Z3 Y_r_3) (by decide) (W := 1) (Nat.le_of_eq rfl) (by decide) (by rw [hml]; rfl) (lenOf pd_21 rfl) rfl (hb hby d2_45) (pc' := 48) rfl (by decide) (by decide) ?_; intro v4 T4 L4 X4 hQ4
    obtain ⟨rfl, N4q, e4⟩ := hQ4
    have N4 := Fr.app N3 N4q
    obtain ⟨T5, h5, X5, e5, W5, st5⟩ := putFN X4 hx hZ hown w_36 Via.refl e4 F_coder_a0 E_a0 (Or.inr ⟨w_37, rfl, hnm⟩) w_12 (ty := .byte) (v' := (.int (0 : Int32))) (by decide) rfl rfl (g := (mkF m 48 #[.val (.ref a0), .val (.ref a1), .val (.int (0 : Int32)), .val (.int (2 : Int32)), .val .null, .val (.ref r_3)] [(.int (0 : Int32)), (.ref a0)])) rfl rfl (hb hby d2_48)
    have OL := OL.wr W5 g_a0
    have E_a0 := E_a0.wr W5
    have F_value_a0 := F_value_a0.other W5 (Or.inr (slot_ne (Or.inr w_39) (Or.inr w_37) (by decide) (t := (.array .byte)) (t' := .byte) (by decide) (by decide)))
    have V_a1 := V_a1.other W5 (Ne.symm ne_a0_a1)
    have S_CS := S_CS.wr W5
    have Y_r_3 := Y_r_3.other W5 (Ne.symm ne_a0_r_3)
    have F_coder_a0 : Fld Z h5 a0 "java/lang/String" "coder" "B" (.int (0 : Int32)) := F_coder_a0.same W5
    have N5 := Fr.snoc X5 N4 g_a0
    have K5 : Keep h0 h5 [a0] := K3.wr W5 (Or.inl (List.mem_of_getElem? (i := 0) rfl))
    have Z5 : n0 ≤ h5.size := Nat.le_trans Z3 (Keep.of_wr W5).1
    refine Rn.st st5 ?_
    show Rn p e below (T5.setTop (mkF m 51 #[.val (.ref a0), .val (.ref a1), .val (.int (0 : Int32)), .val (.int (2 : Int32)), .val .null, .val (.ref r_3)] [])) G
    refine R.aloadN X5 hx (hb hby d2_51) rfl rfl (pc' := 52) rfl ?_
    refine R.aload X5 hx (hb hby d2_52) rfl rfl (pc' := 54) rfl ?_
    refine R.putF X5 hx hZ hown (host := "") (Or.inl w_38) Via.refl e5 F_value_a0 E_a0 (Or.inr ⟨w_39, rfl, hnm⟩) w_12 (ty := (.array .byte)) (by decide) rfl rfl (hb hby d2_54) (pc' := 57) rfl ?_; intro T6 h6 X6 e6 W6
    have OL := OL.wr W6 g_a0
    have E_a0 := E_a0.wr W6
    have V_a1 := V_a1.other W6 (Ne.symm ne_a0_a1)
    have S_CS := S_CS.wr W6
    have Y_r_3 := Y_r_3.other W6 (Ne.symm ne_a0_r_3)
    have F_coder_a0 := F_coder_a0.other W6 (Or.inr (slot_ne (Or.inr w_37) (Or.inr w_39) (by decide) (t := .byte) (t' := (.array .byte)) (by decide) (by decide)))
    have F_value_a0 : Fld Z h6 a0 "java/lang/String" "value" "[B" (.ref r_3) := F_value_a0.same W6
    have N6 := Fr.snoc X6 N5 g_a0
    have K6 : Keep h0 h6 [a0] := K5.wr W6 (Or.inl (List.mem_of_getElem? (i := 0) rfl))
    have Z6 : n0 ≤ h6.size := Nat.le_trans Z5 (Keep.of_wr W6).1
    rw [← hG]
    exact Rn.ret X6 (BodyLoose.notSynchronized Bd) (v := none) (fun _ => rfl) (Q := Qsi2 Z a0 a1 cs ka ha c0 c1 h0 n0) e6 (fun fs hr => X6.returnOut hx Bd.returns (hb hby d2_57) hr) ⟨r_3, rfl, N6, K6, (sz_r_3), E_a0, F_coder_a0, F_value_a0, Y_r_3⟩ (by decide) (by decide)
  exact (Rn.st (fun t k => castTop (ef_si2 m a0 a1) k) first_ : Rn p e below (s₁.setTop (entryFrame m #[(.ref a0), (.ref a1), (.int (0 : Int32)), (.int (2 : Int32)), .null] 6)) (Fnsi2 Z a0 a1 cs ka ha c0 c1 h0 n0 s))
theorem ef_sj2 (m : MethodId) (x0 : Addr) (x1 : Addr) : entryFrame m #[(.ref x0), (.ref x1)] 2 = mkF m 0 #[.val (.ref x0), .val (.ref x1)] [] := by first | (simp [entryFrame, mkF, argsToLocals, Value.category]; done) | rfl
def Qsj2 (Z : State) (a0 : Addr) (a1 : Addr) (cs : Int32) (ka : ClassId) (ha : List (Int32 × Value)) (c0 : Int32) (c1 : Int32) (h0 : Heap) (n0 : Nat) (vQ : Option Value) (hQ_ : Heap) (LQ : List Loc) : Prop := ∃ r : Addr, vQ = none ∧ Fr n0 LQ ∧ Keep h0 hQ_ [a0] ∧ (h0.size ≤ r) ∧ (Exa Z hQ_ a0 "java/lang/String") ∧ (Fld Z hQ_ a0 "java/lang/String" "coder" "B" (.int (0 : Int32))) ∧ (Fld Z hQ_ a0 "java/lang/String" "value" "[B" (.ref r)) ∧ (own_By Z hQ_ r (2 : Int32) (own_up (own_up (fun _ => 0) (0 : Int32).toNatClampNeg (c0.toInt8.toInt32)) (1 : Int32).toNatClampNeg (c1.toInt8.toInt32)))
def Fnsj2 (Z : State) (a0 : Addr) (a1 : Addr) (cs : Int32) (ka : ClassId) (ha : List (Int32 × Value)) (c0 : Int32) (c1 : Int32) (h0 : Heap) (n0 : Nat) (sQ : State) (oQ : Outcome) (UQ : State) : Prop := ∃ vQ LQ, oQ = .returned vQ ∧ Qsj2 Z a0 a1 cs ka ha c0 c1 h0 n0 vQ UQ.heap LQ ∧ FrameEnd sQ oQ UQ LQ ({ frames := 3, cells := 1, slots := 2, locals := 52 } : Room).cells ({ frames := 3, cells := 1, slots := 2, locals := 52 } : Room).slots
set_option maxRecDepth 65536 in
set_option maxHeartbeats 40000000 in
theorem rmsj2 (l : Launch) (Z : State) (aZ : Array Value) (hw : ∀ d ∈ tables_1, d.before aZ Z = true) (ws : List Jvm.Cond) (a0 : Addr) (a1 : Addr) (cs : Int32) (ka : ClassId) (ha : List (Int32 × Value)) (c0 : Int32) (c1 : Int32) (h0 : Heap) (n0 : Nat) (Z0 : n0 ≤ h0.size) (OL : Old Z n0 h0) (CS : own_CS Z cs) (E_a0 : Exa Z h0 a0 "java/lang/String") (F_coder_a0 : Fld Z h0 a0 "java/lang/String" "coder" "B" (.int (0 : Int32))) (F_value_a0 : Fld Z h0 a0 "java/lang/String" "value" "[B" .null) (g_a0 : n0 ≤ a0) (V_a1 : Arh Z h0 a1 ka .char (2 : Int32) ha [] (.int (0 : Int32))) (ne_a0_a1 : a0 ≠ a1) (rc0 : getH ha [] (.int (0 : Int32)) ((0 : Int32)).toNatClampNeg = (.int c0)) (rc1 : getH ha [] (.int (0 : Int32)) ((1 : Int32)).toNatClampNeg = (.int c1)) (hc0 : 0 ≤ c0.toInt ∧ c0.toInt ≤ 255) (hc1 : 0 ≤ c1.toInt ∧ c1.toInt ≤ 255) :
    MetFree l (⟨"java/lang/String", "<init>", "([C)V"⟩ : MethodName) (head1 (Jvm.Cond.code (⟨"java/lang/String", "<init>", "([C)V"⟩ : MethodName) jdk_42_method_3_code 2 none :: ws) ({ frames := 3, cells := 1, slots := 2, locals := 52 } : Room)) (fun aQ UQ => aQ = #[(.ref a0), (.ref a1)] ∧ Z.Warmed39 UQ.vm ∧ UQ.heap = h0) (fun _ _ _ _ _ => True) (fun _ UQ oQ UR => ∃ vQ LQ, oQ = .returned vQ ∧ Qsj2 Z a0 a1 cs ka ha c0 c1 h0 n0 vQ UR.heap LQ ∧ FrameEnd UQ oQ UR LQ ({ frames := 3, cells := 1, slots := 2, locals := 52 } : Room).cells ({ frames := 3, cells := 1, slots := 2, locals := 52 } : Room).slots) := by
  refine MetFree.of_bodySF (plainFor_of_name pn_2) hisR ?_
  intro p e s m args below meth c s₁ Bd hml0 hP hK
  obtain ⟨rfl, hZ, hh⟩ := hP
  have hx := Bd.exec
  have hby := Bd.bytes
  have hml : c.maxLocals = 2 := hml0
  have hown : s.vm.findClass "java/lang/String" = some m.cls := findClass_of_methodNamed Bd.named
  have hnm := (name_of_methodNamed Bd.named Bd.method).1
  have X0 : Stand p l e ({ frames := 3, cells := 1, slots := 2, locals := 52 } : Room) s m #[(.ref a0), (.ref a1)] below meth c s₁ [] 0 0 := Stand.of_body Bd
  have e0 : s₁.heap = h0 := by rw [← hh, Bd.state]; rfl
  have N0 := Fr.nil n0
  have K0 : Keep h0 h0 [a0] := Keep.refl _ _
  have w_13 := hw _ (List.mem_of_getElem? (i := 13) rfl)
  have w_17 := hw _ (List.mem_of_getElem? (i := 17) rfl)
  have w_18 := hw _ (List.mem_of_getElem? (i := 18) rfl)
  have w_20 := hw _ (List.mem_of_getElem? (i := 20) rfl)
  have first_ : Rn p e below (s₁.setTop (mkF m 0 #[.val (.ref a0), .val (.ref a1)] [])) (Fnsj2 Z a0 a1 cs ka ha c0 c1 h0 n0 s) := by
    generalize hG : (Fnsj2 Z a0 a1 cs ka ha c0 c1 h0 n0 s) = G
    refine R.aloadN X0 hx (hb hby d1_0) rfl rfl (pc' := 1) rfl ?_
    refine R.aloadN X0 hx (hb hby d1_1) rfl rfl (pc' := 2) rfl ?_
    refine R.iconst X0 hx (hb hby d1_2) (v := (0 : Int32)) (by decide) (pc' := 3) rfl ?_
    refine R.aloadN X0 hx (hb hby d1_3) rfl rfl (pc' := 4) rfl ?_
    refine R.alen X0 hx hZ e0 V_a1 (hb hby d1_4) (pc' := 5) rfl ?_
    refine R.aconstNull X0 hx (hb hby d1_5) (pc' := 6) rfl ?_
    refine R.special X0 hx hZ (y := mY28) rfl hown w_17 w_18 w_13 w_20 (by decide) e0 (rmsi2 l Z aZ hw [] a0 a1 cs ka ha c0 c1 h0 n0 Z0 OL CS E_a0 F_coder_a0 F_value_a0 g_a0 V_a1 ne_a0_a1 rc0 rc1 hc0 hc1) (by decide) (W := 0) (Nat.le_of_eq rfl) (by decide) (by rw [hml]; rfl) (lenOf pd_22 rfl) rfl (hb hby d1_6) (pc' := 9) rfl (by decide) (by decide) ?_; intro v1 T1 L1 X1 hQ1
    obtain ⟨r_1, rfl, N1q, Kc1, P1_0, P1_1, P1_2, P1_3, P1_4⟩ := hQ1
    have N1 := Fr.app N0 N1q
    generalize e1 : T1.heap = h1 at Kc1 P1_0 P1_1 P1_2 P1_3 P1_4
    have K1 : Keep h0 h1 [a0] := K0.trans Kc1 ((allS (Or.inl (List.mem_of_getElem? (i := 0) rfl)) all0))
    have Z1 : n0 ≤ h1.size := Nat.le_trans Z0 Kc1.1
    have ne_a0_r_1 : a0 ≠ r_1 := Nat.ne_of_lt (Nat.lt_of_lt_of_le E_a0.lt P1_0)
    have ne_a1_r_1 : a1 ≠ r_1 := Nat.ne_of_lt (Nat.lt_of_lt_of_le V_a1.lt P1_0)
    have g_r_1 : n0 ≤ r_1 := Nat.le_trans Z0 P1_0
    have sz_r_1 : h0.size ≤ r_1 := Nat.le_trans K0.1 P1_0
    have OL := OL.keep Kc1 (allS g_a0 all0)
    have V_a1 := V_a1.keep Kc1 (ninS (Ne.symm ne_a0_a1) nin0)
    have fresh_1 := P1_0
    have E_a0 : Exa Z h1 a0 "java/lang/String" := P1_1
    have F_coder_a0 : Fld Z h1 a0 "java/lang/String" "coder" "B" (.int (0 : Int32)) := P1_2
    have F_value_a0 : Fld Z h1 a0 "java/lang/String" "value" "[B" (.ref r_1) := P1_3
    have Y_r_1 : own_By Z h1 r_1 (2 : Int32) (own_up (own_up (fun _ => 0) (0 : Int32).toNatClampNeg (c0.toInt8.toInt32)) (1 : Int32).toNatClampNeg (c1.toInt8.toInt32)) := P1_4
    rw [← hG]
    exact Rn.ret X1 (BodyLoose.notSynchronized Bd) (v := none) (fun _ => rfl) (Q := Qsj2 Z a0 a1 cs ka ha c0 c1 h0 n0) e1 (fun fs hr => X1.returnOut hx Bd.returns (hb hby d1_9) hr) ⟨r_1, rfl, N1, K1, (sz_r_1), E_a0, F_coder_a0, F_value_a0, Y_r_1⟩ (by decide) (by decide)
  exact (Rn.st (fun t k => castTop (ef_sj2 m a0 a1) k) first_ : Rn p e below (s₁.setTop (entryFrame m #[(.ref a0), (.ref a1)] 2)) (Fnsj2 Z a0 a1 cs ka ha c0 c1 h0 n0 s))
theorem ef_cp3 (m : MethodId) (x0 : Addr) (x2 : Addr) : entryFrame m #[(.ref x0), (.int (0 : Int32)), (.ref x2), (.int (0 : Int32)), (.int (3 : Int32))] 7 = mkF m 0 #[.val (.ref x0), .val (.int (0 : Int32)), .val (.ref x2), .val (.int (0 : Int32)), .val (.int (3 : Int32)), .unset, .unset] [] := by first | (simp [entryFrame, mkF, argsToLocals, Value.category]; done) | rfl
def Qcp3 (Z : State) (a0 : Addr) (a2 : Addr) (ka : ClassId) (ha : List (Int32 × Value)) (c0 : Int32) (c1 : Int32) (c2 : Int32) (h0 : Heap) (n0 : Nat) (vQ : Option Value) (hQ_ : Heap) (LQ : List Loc) : Prop := vQ = some (.int (3 : Int32)) ∧ Fr n0 LQ ∧ Keep h0 hQ_ [a2] ∧ (own_By Z hQ_ a2 (3 : Int32) (own_up (own_up (own_up (fun _ => 0) (0 : Int32).toNatClampNeg (c0.toInt8.toInt32)) (1 : Int32).toNatClampNeg (c1.toInt8.toInt32)) (2 : Int32).toNatClampNeg (c2.toInt8.toInt32)))
def Fncp3 (Z : State) (a0 : Addr) (a2 : Addr) (ka : ClassId) (ha : List (Int32 × Value)) (c0 : Int32) (c1 : Int32) (c2 : Int32) (h0 : Heap) (n0 : Nat) (sQ : State) (oQ : Outcome) (UQ : State) : Prop := ∃ vQ LQ, oQ = .returned vQ ∧ Qcp3 Z a0 a2 ka ha c0 c1 c2 h0 n0 vQ UQ.heap LQ ∧ FrameEnd sQ oQ UQ LQ ({ frames := 0, cells := 0, slots := 0, locals := 0 } : Room).cells ({ frames := 0, cells := 0, slots := 0, locals := 0 } : Room).slots
set_option maxRecDepth 65536 in
set_option maxHeartbeats 40000000 in
theorem rmcp3 (l : Launch) (Z : State) (aZ : Array Value) (hw : ∀ d ∈ tables_1, d.before aZ Z = true) (ws : List Jvm.Cond) (a0 : Addr) (a2 : Addr) (ka : ClassId) (ha : List (Int32 × Value)) (c0 : Int32) (c1 : Int32) (c2 : Int32) (h0 : Heap) (n0 : Nat) (Z0 : n0 ≤ h0.size) (V_a0 : Arh Z h0 a0 ka .char (3 : Int32) ha [] (.int (0 : Int32))) (Y_a2 : own_By Z h0 a2 (3 : Int32) (fun _ => 0)) (g_a2 : n0 ≤ a2) (rc0 : getH ha [] (.int (0 : Int32)) ((0 : Int32)).toNatClampNeg = (.int c0)) (rc1 : getH ha [] (.int (0 : Int32)) ((1 : Int32)).toNatClampNeg = (.int c1)) (rc2 : getH ha [] (.int (0 : Int32)) ((2 : Int32)).toNatClampNeg = (.int c2)) (hc0 : 0 ≤ c0.toInt ∧ c0.toInt ≤ 255) (hc1 : 0 ≤ c1.toInt ∧ c1.toInt ≤ 255) (hc2 : 0 ≤ c2.toInt ∧ c2.toInt ≤ 255) (ne_a0_a2 : a0 ≠ a2) :
    MetFree l (⟨"java/lang/StringUTF16", "compress", "([CI[BII)I"⟩ : MethodName) (head1 (Jvm.Cond.code (⟨"java/lang/StringUTF16", "compress", "([CI[BII)I"⟩ : MethodName) jdk_52_method_21_code 7 (some .int) :: ws) ({ frames := 0, cells := 0, slots := 0, locals := 0 } : Room)) (fun aQ UQ => aQ = #[(.ref a0), (.int (0 : Int32)), (.ref a2), (.int (0 : Int32)), (.int (3 : Int32))] ∧ Z.Warmed39 UQ.vm ∧ UQ.heap = h0) (fun _ _ _ _ _ => True) (fun _ UQ oQ UR => ∃ vQ LQ, oQ = .returned vQ ∧ Qcp3 Z a0 a2 ka ha c0 c1 c2 h0 n0 vQ UR.heap LQ ∧ FrameEnd UQ oQ UR LQ ({ frames := 0, cells := 0, slots := 0, locals := 0 } : Room).cells ({ frames := 0, cells := 0, slots := 0, locals := 0 } : Room).slots) := by
  refine MetFree.of_bodySF (plainFor_of_name pn_8) hisR ?_
  intro p e s m args below meth c s₁ Bd hml0 hP hK
  obtain ⟨rfl, hZ, hh⟩ := hP
  have hx := Bd.exec
  have hby := Bd.bytes
  have hml : c.maxLocals = 7 := hml0
  have hown : s.vm.findClass "java/lang/StringUTF16" = some m.cls := findClass_of_methodNamed Bd.named
  have hnm := (name_of_methodNamed Bd.named Bd.method).1
  have X0 : Stand p l e ({ frames := 0, cells := 0, slots := 0, locals := 0 } : Room) s m #[(.ref a0), (.int (0 : Int32)), (.ref a2), (.int (0 : Int32)), (.int (3 : Int32))] below meth c s₁ [] 0 0 := Stand.of_body Bd
  have e0 : s₁.heap = h0 := by rw [← hh, Bd.state]; rfl
  have N0 := Fr.nil n0
  have K0 : Keep h0 h0 [a2] := Keep.refl _ _
  have first_ : Rn p e below (s₁.setTop (mkF m 0 #[.val (.ref a0), .val (.int (0 : Int32)), .val (.ref a2), .val (.int (0 : Int32)), .val (.int (3 : Int32)), .unset, .unset] [])) (Fncp3 Z a0 a2 ka ha c0 c1 c2 h0 n0 s) := by
    generalize hG : (Fncp3 Z a0 a2 ka ha c0 c1 c2 h0 n0 s) = G
    refine R.iconst X0 hx (hb hby d5_0) (v := (0 : Int32)) (by decide) (pc' := 1) rfl ?_
    refine R.istore X0 hx (hb hby d5_1) (L' := #[.val (.ref a0), .val (.int (0 : Int32)), .val (.ref a2), .val (.int (0 : Int32)), .val (.int (3 : Int32)), .val (.int (0 : Int32)), .unset]) rfl (pc' := 3) rfl ?_
    refine R.iload X0 hx (hb hby d5_3) rfl (pc' := 5) rfl ?_
    refine R.iload X0 hx (hb hby d5_5) rfl (pc' := 7) rfl ?_
    refine R.icmpNo X0 hx (hb hby d5_7) (tlt (by decide : (0 : Int32) < (3 : Int32))).2.1 (pc' := 10) rfl ?_
    refine R.aloadN X0 hx (hb hby d5_10) rfl rfl (pc' := 11) rfl ?_
    refine R.iloadN X0 hx (hb hby d5_11) rfl (pc' := 12) rfl ?_
    refine R.caload X0 hx hZ e0 V_a0 (⟨by decide, by decide⟩ : ¬ (0 : Int32) < 0 ∧ (0 : Int32) < (3 : Int32)) (v := (.int c0)) (rc0) (hb hby d5_12) (pc' := 13) rfl ?_
    refine R.istore X0 hx (hb hby d5_13) (L' := #[.val (.ref a0), .val (.int (0 : Int32)), .val (.ref a2), .val (.int (0 : Int32)), .val (.int (3 : Int32)), .val (.int (0 : Int32)), .val (.int c0)]) rfl (pc' := 15) rfl ?_
    refine R.iload X0 hx (hb hby d5_15) rfl (pc' := 17) rfl ?_
    refine R.sipush X0 hx (hb hby d5_17) (v := (255 : Int32)) (by decide) (pc' := 20) rfl ?_
    refine R.icmpYes X0 hx (hb hby d5_20) (flt (own_le255 hc0 : ¬ ((255 : Int32) < c0))).2.2.2 (by decide) (pc' := 26) (by decide) ?_
    refine R.aloadN X0 hx (hb hby d5_26) rfl rfl (pc' := 27) rfl ?_
    refine R.iloadN X0 hx (hb hby d5_27) rfl (pc' := 28) rfl ?_
    refine R.iload X0 hx (hb hby d5_28) rfl (pc' := 30) rfl ?_
    refine R.i2b X0 hx (hb hby d5_30) (pc' := 31) rfl ?_
    refine R.bastoreY X0 hx hZ e0 Y_a2 (⟨by decide, by decide⟩ : ¬ (0 : Int32) < 0 ∧ (0 : Int32) < (3 : Int32)) (v := (c0.toInt8.toInt32)) (own_nar_i2b _) (hb hby d5_31) (pc' := 32) rfl ?_; intro T1 h1 X1 e1 W1 V1
    have V_a0 := V_a0.other W1 ne_a0_a2
    have Y_a2 : own_By Z h1 a2 (3 : Int32) (own_up (fun _ => 0) (0 : Int32).toNatClampNeg (c0.toInt8.toInt32)) := V1
    have N1 := Fr.snoc X1 N0 g_a2
    have K1 : Keep h0 h1 [a2] := K0.wr W1 (Or.inl (List.mem_of_getElem? (i := 0) rfl))
    have Z1 : n0 ≤ h1.size := Nat.le_trans Z0 (Keep.of_wr W1).1
    refine R.iinc X1 hx (hb hby d5_32) rfl (L' := #[.val (.ref a0), .val (.int (1 : Int32)), .val (.ref a2), .val (.int (0 : Int32)), .val (.int (3 : Int32)), .val (.int (0 : Int32)), .val (.int c0)]) rfl (pc' := 35) rfl ?_
    refine R.iinc X1 hx (hb hby d5_35) rfl (L' := #[.val (.ref a0), .val (.int (1 : Int32)), .val (.ref a2), .val (.int (1 : Int32)), .val (.int (3 : Int32)), .val (.int (0 : Int32)), .val (.int c0)]) rfl (pc' := 38) rfl ?_
    refine R.iinc X1 hx (hb hby d5_38) rfl (L' := #[.val (.ref a0), .val (.int (1 : Int32)), .val (.ref a2), .val (.int (1 : Int32)), .val (.int (3 : Int32)), .val (.int (1 : Int32)), .val (.int c0)]) rfl (pc' := 41) rfl ?_
    refine R.goto X1 hx (hb hby d5_41) (by decide) (pc' := 3) (by decide) ?_
    refine R.iload X1 hx (hb hby d5_3) rfl (pc' := 5) rfl ?_
    refine R.iload X1 hx (hb hby d5_5) rfl (pc' := 7) rfl ?_
    refine R.icmpNo X1 hx (hb hby d5_7) (tlt (by decide : (1 : Int32) < (3 : Int32))).2.1 (pc' := 10) rfl ?_
    refine R.aloadN X1 hx (hb hby d5_10) rfl rfl (pc' := 11) rfl ?_
    refine R.iloadN X1 hx (hb hby d5_11) rfl (pc' := 12) rfl ?_
    refine R.caload X1 hx hZ e1 V_a0 (⟨by decide, by decide⟩ : ¬ (1 : Int32) < 0 ∧ (1 : Int32) < (3 : Int32)) (v := (.int c1)) (rc1) (hb hby d5_12) (pc' := 13) rfl ?_
    refine R.istore X1 hx (hb hby d5_13) (L' := #[.val (.ref a0), .val (.int (1 : Int32)), .val (.ref a2), .val (.int (1 : Int32)), .val (.int (3 : Int32)), .val (.int (1 : Int32)), .val (.int c1)]) rfl (pc' := 15) rfl ?_
    refine R.iload X1 hx (hb hby d5_15) rfl (pc' := 17) rfl ?_
    refine R.sipush X1 hx (hb hby d5_17) (v := (255 : Int32)) (by decide) (pc' := 20) rfl ?_
    refine R.icmpYes X1 hx (hb hby d5_20) (flt (own_le255 hc1 : ¬ ((255 : Int32) < c1))).2.2.2 (by decide) (pc' := 26) (by decide) ?_
    refine R.aloadN X1 hx (hb hby d5_26) rfl rfl (pc' := 27) rfl ?_
    refine R.iloadN X1 hx (hb hby d5_27) rfl (pc' := 28) rfl ?_
    refine R.iload X1 hx (hb hby d5_28) rfl (pc' := 30) rfl ?_
    refine R.i2b X1 hx (hb hby d5_30) (pc' := 31) rfl ?_
    refine R.bastoreY X1 hx hZ e1 Y_a2 (⟨by decide, by decide⟩ : ¬ (1 : Int32) < 0 ∧ (1 : Int32) < (3 : Int32)) (v := (c1.toInt8.toInt32)) (own_nar_i2b _) (hb hby d5_31) (pc' := 32) rfl ?_; intro T2 h2 X2 e2 W2 V2
    have V_a0 := V_a0.other W2 ne_a0_a2
    have Y_a2 : own_By Z h2 a2 (3 : Int32) (own_up (own_up (fun _ => 0) (0 : Int32).toNatClampNeg (c0.toInt8.toInt32)) (1 : Int32).toNatClampNeg (c1.toInt8.toInt32)) := V2
    have N2 := Fr.snoc X2 N1 g_a2
    have K2 : Keep h0 h2 [a2] := K1.wr W2 (Or.inl (List.mem_of_getElem? (i := 0) rfl))
    have Z2 : n0 ≤ h2.size := Nat.le_trans Z1 (Keep.of_wr W2).1
    refine R.iinc X2 hx (hb hby d5_32) rfl (L' := #[.val (.ref a0), .val (.int (2 : Int32)), .val (.ref a2), .val (.int (1 : Int32)), .val (.int (3 : Int32)), .val (.int (1 : Int32)), .val (.int c1)]) rfl (pc' := 35) rfl ?_
    refine R.iinc X2 hx (hb hby d5_35) rfl (L' := #[.val (.ref a0), .val (.int (2 : Int32)), .val (.ref a2), .val (.int (2 : Int32)), .val (.int (3 : Int32)), .val (.int (1 : Int32)), .val (.int c1)]) rfl (pc' := 38) rfl ?_
    refine R.iinc X2 hx (hb hby d5_38) rfl (L' := #[.val (.ref a0), .val (.int (2 : Int32)), .val (.ref a2), .val (.int (2 : Int32)), .val (.int (3 : Int32)), .val (.int (2 : Int32)), .val (.int c1)]) rfl (pc' := 41) rfl ?_
    refine R.goto X2 hx (hb hby d5_41) (by decide) (pc' := 3) (by decide) ?_
    refine R.iload X2 hx (hb hby d5_3) rfl (pc' := 5) rfl ?_
    refine R.iload X2 hx (hb hby d5_5) rfl (pc' := 7) rfl ?_
    refine R.icmpNo X2 hx (hb hby d5_7) (tlt (by decide : (2 : Int32) < (3 : Int32))).2.1 (pc' := 10) rfl ?_
    refine R.aloadN X2 hx (hb hby d5_10) rfl rfl (pc' := 11) rfl ?_
    refine R.iloadN X2 hx (hb hby d5_11) rfl (pc' := 12) rfl ?_
    refine R.caload X2 hx hZ e2 V_a0 (⟨by decide, by decide⟩ : ¬ (2 : Int32) < 0 ∧ (2 : Int32) < (3 : Int32)) (v := (.int c2)) (rc2) (hb hby d5_12) (pc' := 13) rfl ?_
    refine R.istore X2 hx (hb hby d5_13) (L' := #[.val (.ref a0), .val (.int (2 : Int32)), .val (.ref a2), .val (.int (2 : Int32)), .val (.int (3 : Int32)), .val (.int (2 : Int32)), .val (.int c2)]) rfl (pc' := 15) rfl ?_
    refine R.iload X2 hx (hb hby d5_15) rfl (pc' := 17) rfl ?_
    refine R.sipush X2 hx (hb hby d5_17) (v := (255 : Int32)) (by decide) (pc' := 20) rfl ?_
    refine R.icmpYes X2 hx (hb hby d5_20) (flt (own_le255 hc2 : ¬ ((255 : Int32) < c2))).2.2.2 (by decide) (pc' := 26) (by decide) ?_
    refine R.aloadN X2 hx (hb hby d5_26) rfl rfl (pc' := 27) rfl ?_
    refine R.iloadN X2 hx (hb hby d5_27) rfl (pc' := 28) rfl ?_
    refine R.iload X2 hx (hb hby d5_28) rfl (pc' := 30) rfl ?_
    refine R.i2b X2 hx (hb hby d5_30) (pc' := 31) rfl ?_
    refine R.bastoreY X2 hx hZ e2 Y_a2 (⟨by decide, by decide⟩ : ¬ (2 : Int32) < 0 ∧ (2 : Int32) < (3 : Int32)) (v := (c2.toInt8.toInt32)) (own_nar_i2b _) (hb hby d5_31) (pc' := 32) rfl ?_; intro T3 h3 X3 e3 W3 V3
    have V_a0 := V_a0.other W3 ne_a0_a2
    have Y_a2 : own_By Z h3 a2 (3 : Int32) (own_up (own_up (own_up (fun _ => 0) (0 : Int32).toNatClampNeg (c0.toInt8.toInt32)) (1 : Int32).toNatClampNeg (c1.toInt8.toInt32)) (2 : Int32).toNatClampNeg (c2.toInt8.toInt32)) := V3
    have N3 := Fr.snoc X3 N2 g_a2
    have K3 : Keep h0 h3 [a2] := K2.wr W3 (Or.inl (List.mem_of_getElem? (i := 0) rfl))
    have Z3 : n0 ≤ h3.size := Nat.le_trans Z2 (Keep.of_wr W3).1
    refine R.iinc X3 hx (hb hby d5_32) rfl (L' := #[.val (.ref a0), .val (.int (3 : Int32)), .val (.ref a2), .val (.int (2 : Int32)), .val (.int (3 : Int32)), .val (.int (2 : Int32)), .val (.int c2)]) rfl (pc' := 35) rfl ?_
    refine R.iinc X3 hx (hb hby d5_35) rfl (L' := #[.val (.ref a0), .val (.int (3 : Int32)), .val (.ref a2), .val (.int (3 : Int32)), .val (.int (3 : Int32)), .val (.int (2 : Int32)), .val (.int c2)]) rfl (pc' := 38) rfl ?_
    refine R.iinc X3 hx (hb hby d5_38) rfl (L' := #[.val (.ref a0), .val (.int (3 : Int32)), .val (.ref a2), .val (.int (3 : Int32)), .val (.int (3 : Int32)), .val (.int (3 : Int32)), .val (.int c2)]) rfl (pc' := 41) rfl ?_
    refine R.goto X3 hx (hb hby d5_41) (by decide) (pc' := 3) (by decide) ?_
    refine R.iload X3 hx (hb hby d5_3) rfl (pc' := 5) rfl ?_
    refine R.iload X3 hx (hb hby d5_5) rfl (pc' := 7) rfl ?_
    refine R.icmpYes X3 hx (hb hby d5_7) (flt (by decide : ¬ ((3 : Int32) < (3 : Int32)))).2.1 (by decide) (pc' := 44) (by decide) ?_
    refine R.iload X3 hx (hb hby d5_44) rfl (pc' := 46) rfl ?_
    rw [← hG]
    exact Rn.ret X3 (BodyLoose.notSynchronized Bd) (v := some (.int (3 : Int32))) (fun h => by rw [Bd.returns] at h; cases h) (Q := Qcp3 Z a0 a2 ka ha c0 c1 c2 h0 n0) e3 (fun fs hr => retOut X3 hx (t := .int) Bd.returns rfl (Or.inl ⟨rfl, Or.inl rfl, _, rfl⟩) (hb hby d5_46) hr) ⟨rfl, N3, K3, Y_a2⟩ (by decide) (by decide)
  exact (Rn.st (fun t k => castTop (ef_cp3 m a0 a2) k) first_ : Rn p e below (s₁.setTop (entryFrame m #[(.ref a0), (.int (0 : Int32)), (.ref a2), (.int (0 : Int32)), (.int (3 : Int32))] 7)) (Fncp3 Z a0 a2 ka ha c0 c1 c2 h0 n0 s))
theorem ef_cq3 (m : MethodId) (x0 : Addr) : entryFrame m #[(.ref x0), (.int (0 : Int32)), (.int (3 : Int32))] 6 = mkF m 0 #[.val (.ref x0), .val (.int (0 : Int32)), .val (.int (3 : Int32)), .unset, .unset, .unset] [] := by first | (simp [entryFrame, mkF, argsToLocals, Value.category]; done) | rfl
def Qcq3 (Z : State) (a0 : Addr) (ka : ClassId) (ha : List (Int32 × Value)) (c0 : Int32) (c1 : Int32) (c2 : Int32) (h0 : Heap) (n0 : Nat) (vQ : Option Value) (hQ_ : Heap) (LQ : List Loc) : Prop := ∃ r : Addr, vQ = some (.ref r) ∧ Fr n0 LQ ∧ Keep h0 hQ_ [] ∧ (h0.size ≤ r) ∧ (own_By Z hQ_ r (3 : Int32) (own_up (own_up (own_up (fun _ => 0) (0 : Int32).toNatClampNeg (c0.toInt8.toInt32)) (1 : Int32).toNatClampNeg (c1.toInt8.toInt32)) (2 : Int32).toNatClampNeg (c2.toInt8.toInt32)))
def Fncq3 (Z : State) (a0 : Addr) (ka : ClassId) (ha : List (Int32 × Value)) (c0 : Int32) (c1 : Int32) (c2 : Int32) (h0 : Heap) (n0 : Nat) (sQ : State) (oQ : Outcome) (UQ : State) : Prop := ∃ vQ LQ, oQ = .returned vQ ∧ Qcq3 Z a0 ka ha c0 c1 c2 h0 n0 vQ UQ.heap LQ ∧ FrameEnd sQ oQ UQ LQ ({ frames := 1, cells := 1, slots := 3, locals := 18 } : Room).cells ({ frames := 1, cells := 1, slots := 3, locals := 18 } : Room).slots
set_option maxRecDepth 65536 in
set_option maxHeartbeats 40000000 in
theorem rmcq3 (l : Launch) (Z : State) (aZ : Array Value) (hw : ∀ d ∈ tables_1, d.before aZ Z = true) (ws : List Jvm.Cond) (a0 : Addr) (ka : ClassId) (ha : List (Int32 × Value)) (c0 : Int32) (c1 : Int32) (c2 : Int32) (h0 : Heap) (n0 : Nat) (Z0 : n0 ≤ h0.size) (V_a0 : Arh Z h0 a0 ka .char (3 : Int32) ha [] (.int (0 : Int32))) (rc0 : getH ha [] (.int (0 : Int32)) ((0 : Int32)).toNatClampNeg = (.int c0)) (rc1 : getH ha [] (.int (0 : Int32)) ((1 : Int32)).toNatClampNeg = (.int c1)) (rc2 : getH ha [] (.int (0 : Int32)) ((2 : Int32)).toNatClampNeg = (.int c2)) (hc0 : 0 ≤ c0.toInt ∧ c0.toInt ≤ 255) (hc1 : 0 ≤ c1.toInt ∧ c1.toInt ≤ 255) (hc2 : 0 ≤ c2.toInt ∧ c2.toInt ≤ 255) :
    MetFree l (⟨"java/lang/StringUTF16", "compress", "([CII)[B"⟩ : MethodName) (head1 (Jvm.Cond.code (⟨"java/lang/StringUTF16", "compress", "([CII)[B"⟩ : MethodName) jdk_52_method_16_code 6 (some (.array .byte)) :: ws) ({ frames := 1, cells := 1, slots := 3, locals := 18 } : Room)) (fun aQ UQ => aQ = #[(.ref a0), (.int (0 : Int32)), (.int (3 : Int32))] ∧ Z.Warmed39 UQ.vm ∧ UQ.heap = h0) (fun _ _ _ _ _ => True) (fun _ UQ oQ UR => ∃ vQ LQ, oQ = .returned vQ ∧ Qcq3 Z a0 ka ha c0 c1 c2 h0 n0 vQ UR.heap LQ ∧ FrameEnd UQ oQ UR LQ ({ frames := 1, cells := 1, slots := 3, locals := 18 } : Room).cells ({ frames := 1, cells := 1, slots := 3, locals := 18 } : Room).slots) := by
  refine MetFree.of_bodySF (plainFor_of_name pn_8) hisR ?_
  intro p e s m args below meth c s₁ Bd hml0 hP hK
  obtain ⟨rfl, hZ, hh⟩ := hP
  have hx := Bd.exec
  have hby := Bd.bytes
  have hml : c.maxLocals = 6 := hml0
  have hown : s.vm.findClass "java/lang/StringUTF16" = some m.cls := findClass_of_methodNamed Bd.named
  have hnm := (name_of_methodNamed Bd.named Bd.method).1
  have X0 : Stand p l e ({ frames := 1, cells := 1, slots := 3, locals := 18 } : Room) s m #[(.ref a0), (.int (0 : Int32)), (.int (3 : Int32))] below meth c s₁ [] 0 0 := Stand.of_body Bd
  have e0 : s₁.heap = h0 := by rw [← hh, Bd.state]; rfl
  have N0 := Fr.nil n0
  have K0 : Keep h0 h0 [] := Keep.refl _ _
  have w_27 := hw _ (List.mem_of_getElem? (i := 27) rfl)
  have w_29 := hw _ (List.mem_of_getElem? (i := 29) rfl)
  have w_30 := hw _ (List.mem_of_getElem? (i := 30) rfl)
  have w_31 := hw _ (List.mem_of_getElem? (i := 31) rfl)
  have w_32 := hw _ (List.mem_of_getElem? (i := 32) rfl)
  have first_ : Rn p e below (s₁.setTop (mkF m 0 #[.val (.ref a0), .val (.int (0 : Int32)), .val (.int (3 : Int32)), .unset, .unset, .unset] [])) (Fncq3 Z a0 ka ha c0 c1 c2 h0 n0 s) := by
    generalize hG : (Fncq3 Z a0 ka ha c0 c1 c2 h0 n0 s) = G
    refine R.iloadN X0 hx (hb hby d4_0) rfl (pc' := 1) rfl ?_
    refine R.newY X0 hx hZ w_29 e0 (by decide) (cap := 3) (by decide) (by decide) (hb hby d4_1) (pc' := 3) rfl (by decide) (by decide) ?_; intro T1 h1 b1 g1 X1 e1 E1 AA1
    have g_b1 : n0 ≤ b1 := Nat.le_trans Z0 (Nat.le_of_eq g1.symm)
    have sz_b1 : h0.size ≤ b1 := Nat.le_trans K0.1 (Nat.le_of_eq g1.symm)
    have ne_a0_b1 : a0 ≠ b1 := Nat.ne_of_lt (Nat.lt_of_lt_of_le V_a0.lt (Nat.le_of_eq g1.symm))
    have K1 : Keep h0 h1 [] := K0.ext E1
    have Z1 : n0 ≤ h1.size := Nat.le_trans Z0 E1.1
    have V_a0 := V_a0.ext E1
    have Y_b1 : own_By Z h1 b1 (3 : Int32) (fun _ => 0) := AA1
    refine R.astoreN X1 hx (hb hby d4_3) rfl (L' := #[.val (.ref a0), .val (.int (0 : Int32)), .val (.int (3 : Int32)), .val (.ref b1), .unset, .unset]) rfl (pc' := 4) rfl ?_
    refine R.aloadN X1 hx (hb hby d4_4) rfl rfl (pc' := 5) rfl ?_
    refine R.iloadN X1 hx (hb hby d4_5) rfl (pc' := 6) rfl ?_
    refine R.aloadN X1 hx (hb hby d4_6) rfl rfl (pc' := 7) rfl ?_
    refine R.iconst X1 hx (hb hby d4_7) (v := (0 : Int32)) (by decide) (pc' := 8) rfl ?_
    refine R.iloadN X1 hx (hb hby d4_8) rfl (pc' := 9) rfl ?_
    refine R.callS X1 hx hZ (y := mY25) hown w_30 w_31 w_27 w_32 (by decide) e1 (rmcp3 l Z aZ hw [] a0 b1 ka ha c0 c1 c2 h1 n0 Z1 V_a0 Y_b1 g_b1 rc0 rc1 rc2 hc0 hc1 hc2 ne_a0_b1) (by decide) (W := 0) (Nat.le_of_eq rfl) (by decide) (by rw [hml]; rfl) (lenOf pd_19 rfl) rfl (hb hby d4_9) (pc' := 12) rfl (by decide) (by decide) ?_; intro v2 T2 L2 X2 hQ2
    obtain ⟨rfl, N2q, Kc2, P2_0⟩ := hQ2
    have N2 := Fr.app N0 N2q
    generalize e2 : T2.heap = h2 at Kc2 P2_0
    have K2 : Keep h0 h2 [] := K1.trans Kc2 ((allS (Or.inr sz_b1) all0))
    have Z2 : n0 ≤ h2.size := Nat.le_trans Z1 Kc2.1
    have V_a0 := V_a0.keep Kc2 (ninS ne_a0_b1 nin0)
    have Y_b1 : own_By Z h2 b1 (3 : Int32) (own_up (own_up (own_up (fun _ => 0) (0 : Int32).toNatClampNeg (c0.toInt8.toInt32)) (1 : Int32).toNatClampNeg (c1.toInt8.toInt32)) (2 : Int32).toNatClampNeg (c2.toInt8.toInt32)) := P2_0
    refine R.istore X2 hx (hb hby d4_12) (L' := #[.val (.ref a0), .val (.int (0 : Int32)), .val (.int (3 : Int32)), .val (.ref b1), .val (.int (3 : Int32)), .unset]) rfl (pc' := 14) rfl ?_
    refine R.iload X2 hx (hb hby d4_14) rfl (pc' := 16) rfl ?_
    refine R.iloadN X2 hx (hb hby d4_16) rfl (pc' := 17) rfl ?_
    refine R.icmpYes X2 hx (hb hby d4_17) (teq (by decide : (3 : Int32) = (3 : Int32))).1 (by decide) (pc' := 57) (by decide) ?_
    refine R.aloadN X2 hx (hb hby d4_57) rfl rfl (pc' := 58) rfl ?_
    rw [← hG]
    exact Rn.ret X2 (BodyLoose.notSynchronized Bd) (v := some (.ref b1)) (fun h => by rw [Bd.returns] at h; cases h) (Q := Qcq3 Z a0 ka ha c0 c1 c2 h0 n0) e2 (fun fs hr => retOut X2 hx (t := (.array .byte)) Bd.returns rfl (Or.inr (Or.inr (Or.inr (Or.inr ⟨rfl, rfl, rfl⟩)))) (hb hby d4_58) hr) ⟨b1, rfl, N2, K2, (sz_b1), Y_b1⟩ (by decide) (by decide)
  exact (Rn.st (fun t k => castTop (ef_cq3 m a0) k) first_ : Rn p e below (s₁.setTop (entryFrame m #[(.ref a0), (.int (0 : Int32)), (.int (3 : Int32))] 6)) (Fncq3 Z a0 ka ha c0 c1 c2 h0 n0 s))
theorem ef_co3 (m : MethodId) (x0 : Addr) : entryFrame m #[(.ref x0), (.int (3 : Int32))] 2 = mkF m 0 #[.val (.ref x0), .val (.int (3 : Int32))] [] := by first | (simp [entryFrame, mkF, argsToLocals, Value.category]; done) | rfl
def Qco3 (Z : State) (a0 : Addr) (f : Nat → Int32) (h0 : Heap) (n0 : Nat) (vQ : Option Value) (hQ_ : Heap) (LQ : List Loc) : Prop := vQ = some (.int (0 : Int32)) ∧ Fr n0 LQ ∧ hQ_ = h0
def Fnco3 (Z : State) (a0 : Addr) (f : Nat → Int32) (h0 : Heap) (n0 : Nat) (sQ : State) (oQ : Outcome) (UQ : State) : Prop := ∃ vQ LQ, oQ = .returned vQ ∧ Qco3 Z a0 f h0 n0 vQ UQ.heap LQ ∧ FrameEnd sQ oQ UQ LQ ({ frames := 0, cells := 0, slots := 0, locals := 0 } : Room).cells ({ frames := 0, cells := 0, slots := 0, locals := 0 } : Room).slots
set_option maxRecDepth 65536 in
set_option maxHeartbeats 40000000 in
theorem rmco3 (l : Launch) (Z : State) (aZ : Array Value) (hw : ∀ d ∈ tables_1, d.before aZ Z = true) (ws : List Jvm.Cond) (a0 : Addr) (f : Nat → Int32) (h0 : Heap) (n0 : Nat) (Z0 : n0 ≤ h0.size) (Y_a0 : own_By Z h0 a0 (3 : Int32) f) :
    MetFree l (⟨"java/lang/StringUTF16", "coderFromArrayLen", "([BI)B"⟩ : MethodName) (head1 (Jvm.Cond.code (⟨"java/lang/StringUTF16", "coderFromArrayLen", "([BI)B"⟩ : MethodName) jdk_52_method_15_code 2 (some .byte) :: ws) ({ frames := 0, cells := 0, slots := 0, locals := 0 } : Room)) (fun aQ UQ => aQ = #[(.ref a0), (.int (3 : Int32))] ∧ Z.Warmed39 UQ.vm ∧ UQ.heap = h0) (fun _ _ _ _ _ => True) (fun _ UQ oQ UR => ∃ vQ LQ, oQ = .returned vQ ∧ Qco3 Z a0 f h0 n0 vQ UR.heap LQ ∧ FrameEnd UQ oQ UR LQ ({ frames := 0, cells := 0, slots := 0, locals := 0 } : Room).cells ({ frames := 0, cells := 0, slots := 0, locals := 0 } : Room).slots) := by
  refine MetFree.of_bodySF (plainFor_of_name pn_8) hisR ?_
  intro p e s m args below meth c s₁ Bd hml0 hP hK
  obtain ⟨rfl, hZ, hh⟩ := hP
  have hx := Bd.exec
  have hby := Bd.bytes
  have hml : c.maxLocals = 2 := hml0
  have hown : s.vm.findClass "java/lang/StringUTF16" = some m.cls := findClass_of_methodNamed Bd.named
  have hnm := (name_of_methodNamed Bd.named Bd.method).1
  have X0 : Stand p l e ({ frames := 0, cells := 0, slots := 0, locals := 0 } : Room) s m #[(.ref a0), (.int (3 : Int32))] below meth c s₁ [] 0 0 := Stand.of_body Bd
  have e0 : s₁.heap = h0 := by rw [← hh, Bd.state]; rfl
  have N0 := Fr.nil n0
  have K0 : Keep h0 h0 [] := Keep.refl _ _
  have first_ : Rn p e below (s₁.setTop (mkF m 0 #[.val (.ref a0), .val (.int (3 : Int32))] [])) (Fnco3 Z a0 f h0 n0 s) := by
    generalize hG : (Fnco3 Z a0 f h0 n0 s) = G
    refine R.iloadN X0 hx (hb hby d6_0) rfl (pc' := 1) rfl ?_
    refine R.aloadN X0 hx (hb hby d6_1) rfl rfl (pc' := 2) rfl ?_
    refine R.alenY X0 hx hZ e0 Y_a0 (hb hby d6_2) (pc' := 3) rfl ?_
    refine R.isub X0 hx (hb hby d6_3) (v := (0 : Int32)) (by decide) (pc' := 4) rfl ?_
    refine R.bipush X0 hx (hb hby d6_4) (v := (31 : Int32)) (by decide) (pc' := 6) rfl ?_
    refine R.iushr X0 hx (hb hby d6_6) (pc' := 7) rfl ?_
    refine R.i2b X0 hx (hb hby d6_7) (pc' := 8) rfl ?_
    show Rn p e below (s₁.setTop (mkF m 8 #[.val (.ref a0), .val (.int (3 : Int32))] [(.int ((((0 : Int32).toUInt32 >>> ((31 : Int32) &&& 31).toUInt32).toInt32).toInt8.toInt32))])) G
    rw [show ((((0 : Int32).toUInt32 >>> ((31 : Int32) &&& 31).toUInt32).toInt32).toInt8.toInt32) = (0 : Int32) from by decide]
    rw [← hG]
    exact Rn.ret X0 (BodyLoose.notSynchronized Bd) (v := some (.int (0 : Int32))) (fun h => by rw [Bd.returns] at h; cases h) (Q := Qco3 Z a0 f h0 n0) e0 (fun fs hr => retN X0 hx (t := .byte) Bd.returns (by simp) (hb hby d6_8) hr) ⟨rfl, N0, rfl⟩ (by decide) (by decide)
  exact (Rn.st (fun t k => castTop (ef_co3 m a0) k) first_ : Rn p e below (s₁.setTop (entryFrame m #[(.ref a0), (.int (3 : Int32))] 2)) (Fnco3 Z a0 f h0 n0 s))
theorem ef_si3 (m : MethodId) (x0 : Addr) (x1 : Addr) : entryFrame m #[(.ref x0), (.ref x1), (.int (0 : Int32)), (.int (3 : Int32)), .null] 6 = mkF m 0 #[.val (.ref x0), .val (.ref x1), .val (.int (0 : Int32)), .val (.int (3 : Int32)), .val .null, .unset] [] := by first | (simp [entryFrame, mkF, argsToLocals, Value.category]; done) | rfl
def Qsi3 (Z : State) (a0 : Addr) (a1 : Addr) (cs : Int32) (ka : ClassId) (ha : List (Int32 × Value)) (c0 : Int32) (c1 : Int32) (c2 : Int32) (h0 : Heap) (n0 : Nat) (vQ : Option Value) (hQ_ : Heap) (LQ : List Loc) : Prop := ∃ r : Addr, vQ = none ∧ Fr n0 LQ ∧ Keep h0 hQ_ [a0] ∧ (h0.size ≤ r) ∧ (Exa Z hQ_ a0 "java/lang/String") ∧ (Fld Z hQ_ a0 "java/lang/String" "coder" "B" (.int (0 : Int32))) ∧ (Fld Z hQ_ a0 "java/lang/String" "value" "[B" (.ref r)) ∧ (own_By Z hQ_ r (3 : Int32) (own_up (own_up (own_up (fun _ => 0) (0 : Int32).toNatClampNeg (c0.toInt8.toInt32)) (1 : Int32).toNatClampNeg (c1.toInt8.toInt32)) (2 : Int32).toNatClampNeg (c2.toInt8.toInt32)))
def Fnsi3 (Z : State) (a0 : Addr) (a1 : Addr) (cs : Int32) (ka : ClassId) (ha : List (Int32 × Value)) (c0 : Int32) (c1 : Int32) (c2 : Int32) (h0 : Heap) (n0 : Nat) (sQ : State) (oQ : Outcome) (UQ : State) : Prop := ∃ vQ LQ, oQ = .returned vQ ∧ Qsi3 Z a0 a1 cs ka ha c0 c1 c2 h0 n0 vQ UQ.heap LQ ∧ FrameEnd sQ oQ UQ LQ ({ frames := 2, cells := 1, slots := 3, locals := 35 } : Room).cells ({ frames := 2, cells := 1, slots := 3, locals := 35 } : Room).slots
set_option maxRecDepth 65536 in
set_option maxHeartbeats 40000000 in
theorem rmsi3 (l : Launch) (Z : State) (aZ : Array Value) (hw : ∀ d ∈ tables_1, d.before aZ Z = true) (ws : List Jvm.Cond) (a0 : Addr) (a1 : Addr) (cs : Int32) (ka : ClassId) (ha : List (Int32 × Value)) (c0 : Int32) (c1 : Int32) (c2 : Int32) (h0 : Heap) (n0 : Nat) (Z0 : n0 ≤ h0.size) (OL : Old Z n0 h0) (CS : own_CS Z cs) (E_a0 : Exa Z h0 a0 "java/lang/String") (F_coder_a0 : Fld Z h0 a0 "java/lang/String" "coder" "B" (.int (0 : Int32))) (F_value_a0 : Fld Z h0 a0 "java/lang/String" "value" "[B" .null) (g_a0 : n0 ≤ a0) (V_a1 : Arh Z h0 a1 ka .char (3 : Int32) ha [] (.int (0 : Int32))) (ne_a0_a1 : a0 ≠ a1) (rc0 : getH ha [] (.int (0 : Int32)) ((0 : Int32)).toNatClampNeg = (.int c0)) (rc1 : getH ha [] (.int (0 : Int32)) ((1 : Int32)).toNatClampNeg = (.int c1)) (rc2 : getH ha [] (.int (0 : Int32)) ((2 : Int32)).toNatClampNeg = (.int c2)) (hc0 : 0 ≤ c0.toInt ∧ c0.toInt ≤ 255) (hc1 : 0 ≤ c1.toInt ∧ c1.toInt ≤ 255) (hc2 : 0 ≤ c2.toInt ∧ c2.toInt ≤ 255) :
    MetFree l (⟨"java/lang/String", "<init>", "([CIILjava/lang/Void;)V"⟩ : MethodName) (head1 (Jvm.Cond.code (⟨"java/lang/String", "<init>", "([CIILjava/lang/Void;)V"⟩ : MethodName) jdk_42_method_149_code 6 none :: ws) ({ frames := 2, cells := 1, slots := 3, locals := 35 } : Room)) (fun aQ UQ => aQ = #[(.ref a0), (.ref a1), (.int (0 : Int32)), (.int (3 : Int32)), .null] ∧ Z.Warmed39 UQ.vm ∧ UQ.heap = h0) (fun _ _ _ _ _ => True) (fun _ UQ oQ UR => ∃ vQ LQ, oQ = .returned vQ ∧ Qsi3 Z a0 a1 cs ka ha c0 c1 c2 h0 n0 vQ UR.heap LQ ∧ FrameEnd UQ oQ UR LQ ({ frames := 2, cells := 1, slots := 3, locals := 35 } : Room).cells ({ frames := 2, cells := 1, slots := 3, locals := 35 } : Room).slots) := by
  refine MetFree.of_bodySF (plainFor_of_name pn_2) hisR ?_
  intro p e s m args below meth c s₁ Bd hml0 hP hK
  obtain ⟨rfl, hZ, hh⟩ := hP
  have hx := Bd.exec
  have hby := Bd.bytes
  have hml : c.maxLocals = 6 := hml0
  have hown : s.vm.findClass "java/lang/String" = some m.cls := findClass_of_methodNamed Bd.named
  have hnm := (name_of_methodNamed Bd.named Bd.method).1
  have X0 : Stand p l e ({ frames := 2, cells := 1, slots := 3, locals := 35 } : Room) s m #[(.ref a0), (.ref a1), (.int (0 : Int32)), (.int (3 : Int32)), .null] below meth c s₁ [] 0 0 := Stand.of_body Bd
  have e0 : s₁.heap = h0 := by rw [← hh, Bd.state]; rfl
  have N0 := Fr.nil n0
  have K0 : Keep h0 h0 [a0] := Keep.refl _ _
  have w_12 := hw _ (List.mem_of_getElem? (i := 12) rfl)
  have w_21 := hw _ (List.mem_of_getElem? (i := 21) rfl)
  have w_22 := hw _ (List.mem_of_getElem? (i := 22) rfl)
  have w_23 := hw _ (List.mem_of_getElem? (i := 23) rfl)
  have w_24 := hw _ (List.mem_of_getElem? (i := 24) rfl)
  have w_25 := hw _ (List.mem_of_getElem? (i := 25) rfl)
  have w_26 := hw _ (List.mem_of_getElem? (i := 26) rfl)
  have w_27 := hw _ (List.mem_of_getElem? (i := 27) rfl)
  have w_28 := hw _ (List.mem_of_getElem? (i := 28) rfl)
  have w_33 := hw _ (List.mem_of_getElem? (i := 33) rfl)
  have w_34 := hw _ (List.mem_of_getElem? (i := 34) rfl)
  have w_35 := hw _ (List.mem_of_getElem? (i := 35) rfl)
  have w_36 := hw _ (List.mem_of_getElem? (i := 36) rfl)
  have w_37 := hw _ (List.mem_of_getElem? (i := 37) rfl)
  have w_38 := hw _ (List.mem_of_getElem? (i := 38) rfl)
  have w_39 := hw _ (List.mem_of_getElem? (i := 39) rfl)
  have first_ : Rn p e below (s₁.setTop (mkF m 0 #[.val (.ref a0), .val (.ref a1), .val (.int (0 : Int32)), .val (.int (3 : Int32)), .val .null, .unset] [])) (Fnsi3 Z a0 a1 cs ka ha c0 c1 c2 h0 n0 s) := by
    generalize hG : (Fnsi3 Z a0 a1 cs ka ha c0 c1 c2 h0 n0 s) = G
    refine R.aloadN X0 hx (hb hby d2_0) rfl rfl (pc' := 1) rfl ?_
    refine R.initO X0 hx hZ hown w_21 w_22 w_23 e0 (by rw [hml]; rfl) (hb hby d2_1) (pc' := 4) rfl (by decide) (W := 0) (Nat.le_of_eq rfl) (by decide) ?_; intro T1 X1 e1
    refine R.iloadN X1 hx (hb hby d2_4) rfl (pc' := 5) rfl ?_
    refine R.ifYes X1 hx (hb hby d2_5) (feq (by decide : ¬ ((3 : Int32) = (0 : Int32)))).2 (by decide) (pc' := 27) (by decide) ?_
    have S_CS := CS.1.ext OL.2
    refine R.getS X1 hx hZ hown (host := "") (Or.inl w_24) Via.refl e1 S_CS (hb hby d2_27) (pc' := 30) rfl ?_; intro T2 X2 e2
    refine R.ifNo X2 hx (hb hby d2_30) (feq (CS.2 : ¬ (cs = (0 : Int32)))).1 (pc' := 33) rfl ?_
    refine R.aloadN X2 hx (hb hby d2_33) rfl rfl (pc' := 34) rfl ?_
    refine R.iloadN X2 hx (hb hby d2_34) rfl (pc' := 35) rfl ?_
    refine R.iloadN X2 hx (hb hby d2_35) rfl (pc' := 36) rfl ?_
    refine R.callS X2 hx hZ (y := mY26) hown w_25 w_26 w_27 w_28 (by decide) e2 (rmcq3 l Z aZ hw [] a1 ka ha c0 c1 c2 h0 n0 Z0 V_a1 rc0 rc1 rc2 hc0 hc1 hc2) (by decide) (W := 0) (Nat.le_of_eq rfl) (by decide) (by rw [hml]; rfl) (lenOf pd_20 rfl) rfl (hb hby d2_36) (pc' := 39) rfl (by decide) (by decide) ?_; intro v3 T3 L3 X3 hQ3
    obtain ⟨r_3, rfl, N3q, Kc3, P3_0, P3_1⟩ := hQ3
    have N3 := Fr.app N0 N3q
    generalize e3 : T3.heap = h3 at Kc3 P3_0 P3_1
    have K3 : Keep h0 h3 [a0] := K0.trans Kc3 (all0)
    have Z3 : n0 ≤ h3.size := Nat.le_trans Z0 Kc3.1
    have ne_a0_r_3 : a0 ≠ r_3 := Nat.ne_of_lt (Nat.lt_of_lt_of_le E_a0.lt P3_0)
    have ne_a1_r_3 : a1 ≠ r_3 := Nat.ne_of_lt (Nat.lt_of_lt_of_le V_a1.lt P3_0)
    have g_r_3 : n0 ≤ r_3 := Nat.le_trans Z0 P3_0
    have sz_r_3 : h0.size ≤ r_3 := Nat.le_trans K0.1 P3_0
    have S_CS := own_sta_keep S_CS Kc3 ns0
    have OL := OL.keep Kc3 all0
    have E_a0 := E_a0.keep Kc3
    have F_coder_a0 := F_coder_a0.keep Kc3 nin0
    have F_value_a0 := F_value_a0.keep Kc3 nin0
    have V_a1 := V_a1.keep Kc3 nin0
    have fresh_3 := P3_0
    have Y_r_3 : own_By Z h3 r_3 (3 : Int32) (own_up (own_up (own_up (fun _ => 0) (0 : Int32).toNatClampNeg (c0.toInt8.toInt32)) (1 : Int32).toNatClampNeg (c1.toInt8.toInt32)) (2 : Int32).toNatClampNeg (c2.toInt8.toInt32)) := P3_1
    refine R.astore X3 hx (hb hby d2_39) rfl (L' := #[.val (.ref a0), .val (.ref a1), .val (.int (0 : Int32)), .val (.int (3 : Int32)), .val .null, .val (.ref r_3)]) rfl (pc' := 41) rfl ?_
    refine R.aloadN X3 hx (hb hby d2_41) rfl rfl (pc' := 42) rfl ?_
    refine R.aload X3 hx (hb hby d2_42) rfl rfl (pc' := 44) rfl ?_
    refine R.iloadN X3 hx (hb hby d2_44) rfl (pc' := 45) rfl ?_
    refine R.callS X3 hx hZ (y := mY27) hown w_33 w_34 w_27 w_35 (by decide) e3 (rmco3 l Z aZ hw [] r_3 (own_up (own_up (own_up (fun _ => 0) (0 : Int32).toNatClampNeg (c0.toInt8.toInt32)) (1 : Int32).toNatClampNeg (c1.toInt8.toInt32)) (2 : Int32).toNatClampNeg (c2.toInt8.toInt32)) h3 n0 Z3 Y_r_3) (by decide) (W := 1) (Nat.le_of_eq rfl) (by decide) (by rw [hml]; rfl) (lenOf pd_21 rfl) rfl (hb hby d2_45) (pc' := 48) rfl (by decide) (by decide) ?_; intro v4 T4 L4 X4 hQ4
    obtain ⟨rfl, N4q, e4⟩ := hQ4
    have N4 := Fr.app N3 N4q
    obtain ⟨T5, h5, X5, e5, W5, st5⟩ := putFN X4 hx hZ hown w_36 Via.refl e4 F_coder_a0 E_a0 (Or.inr ⟨w_37, rfl, hnm⟩) w_12 (ty := .byte) (v' := (.int (0 : Int32))) (by decide) rfl rfl (g := (mkF m 48 #[.val (.ref a0), .val (.ref a1), .val (.int (0 : Int32)), .val (.int (3 : Int32)), .val .null, .val (.ref r_3)] [(.int (0 : Int32)), (.ref a0)])) rfl rfl (hb hby d2_48)
    have OL := OL.wr W5 g_a0
    have E_a0 := E_a0.wr W5
    have F_value_a0 := F_value_a0.other W5 (Or.inr (slot_ne (Or.inr w_39) (Or.inr w_37) (by decide) (t := (.array .byte)) (t' := .byte) (by decide) (by decide)))
    have V_a1 := V_a1.other W5 (Ne.symm ne_a0_a1)
    have S_CS := S_CS.wr W5
    have Y_r_3 := Y_r_3.other W5 (Ne.symm ne_a0_r_3)
    have F_coder_a0 : Fld Z h5 a0 "java/lang/String" "coder" "B" (.int (0 : Int32)) := F_coder_a0.same W5
    have N5 := Fr.snoc X5 N4 g_a0
    have K5 : Keep h0 h5 [a0] := K3.wr W5 (Or.inl (List.mem_of_getElem? (i := 0) rfl))
    have Z5 : n0 ≤ h5.size := Nat.le_trans Z3 (Keep.of_wr W5).1
    refine Rn.st st5 ?_
    show Rn p e below (T5.setTop (mkF m 51 #[.val (.ref a0), .val (.ref a1), .val (.int (0 : Int32)), .val (.int (3 : Int32)), .val .null, .val (.ref r_3)] [])) G
    refine R.aloadN X5 hx (hb hby d2_51) rfl rfl (pc' := 52) rfl ?_
    refine R.aload X5 hx (hb hby d2_52) rfl rfl (pc' := 54) rfl ?_
    refine R.putF X5 hx hZ hown (host := "") (Or.inl w_38) Via.refl e5 F_value_a0 E_a0 (Or.inr ⟨w_39, rfl, hnm⟩) w_12 (ty := (.array .byte)) (by decide) rfl rfl (hb hby d2_54) (pc' := 57) rfl ?_; intro T6 h6 X6 e6 W6
    have OL := OL.wr W6 g_a0
    have E_a0 := E_a0.wr W6
    have V_a1 := V_a1.other W6 (Ne.symm ne_a0_a1)
    have S_CS := S_CS.wr W6
    have Y_r_3 := Y_r_3.other W6 (Ne.symm ne_a0_r_3)
    have F_coder_a0 := F_coder_a0.other W6 (Or.inr (slot_ne (Or.inr w_37) (Or.inr w_39) (by decide) (t := .byte) (t' := (.array .byte)) (by decide) (by decide)))
    have F_value_a0 : Fld Z h6 a0 "java/lang/String" "value" "[B" (.ref r_3) := F_value_a0.same W6
    have N6 := Fr.snoc X6 N5 g_a0
    have K6 : Keep h0 h6 [a0] := K5.wr W6 (Or.inl (List.mem_of_getElem? (i := 0) rfl))
    have Z6 : n0 ≤ h6.size := Nat.le_trans Z5 (Keep.of_wr W6).1
    rw [← hG]
    exact Rn.ret X6 (BodyLoose.notSynchronized Bd) (v := none) (fun _ => rfl) (Q := Qsi3 Z a0 a1 cs ka ha c0 c1 c2 h0 n0) e6 (fun fs hr => X6.returnOut hx Bd.returns (hb hby d2_57) hr) ⟨r_3, rfl, N6, K6, (sz_r_3), E_a0, F_coder_a0, F_value_a0, Y_r_3⟩ (by decide) (by decide)
  exact (Rn.st (fun t k => castTop (ef_si3 m a0 a1) k) first_ : Rn p e below (s₁.setTop (entryFrame m #[(.ref a0), (.ref a1), (.int (0 : Int32)), (.int (3 : Int32)), .null] 6)) (Fnsi3 Z a0 a1 cs ka ha c0 c1 c2 h0 n0 s))
theorem ef_sj3 (m : MethodId) (x0 : Addr) (x1 : Addr) : entryFrame m #[(.ref x0), (.ref x1)] 2 = mkF m 0 #[.val (.ref x0), .val (.ref x1)] [] := by first | (simp [entryFrame, mkF, argsToLocals, Value.category]; done) | rfl
def Qsj3 (Z : State) (a0 : Addr) (a1 : Addr) (cs : Int32) (ka : ClassId) (ha : List (Int32 × Value)) (c0 : Int32) (c1 : Int32) (c2 : Int32) (h0 : Heap) (n0 : Nat) (vQ : Option Value) (hQ_ : Heap) (LQ : List Loc) : Prop := ∃ r : Addr, vQ = none ∧ Fr n0 LQ ∧ Keep h0 hQ_ [a0] ∧ (h0.size ≤ r) ∧ (Exa Z hQ_ a0 "java/lang/String") ∧ (Fld Z hQ_ a0 "java/lang/String" "coder" "B" (.int (0 : Int32))) ∧ (Fld Z hQ_ a0 "java/lang/String" "value" "[B" (.ref r)) ∧ (own_By Z hQ_ r (3 : Int32) (own_up (own_up (own_up (fun _ => 0) (0 : Int32).toNatClampNeg (c0.toInt8.toInt32)) (1 : Int32).toNatClampNeg (c1.toInt8.toInt32)) (2 : Int32).toNatClampNeg (c2.toInt8.toInt32)))
def Fnsj3 (Z : State) (a0 : Addr) (a1 : Addr) (cs : Int32) (ka : ClassId) (ha : List (Int32 × Value)) (c0 : Int32) (c1 : Int32) (c2 : Int32) (h0 : Heap) (n0 : Nat) (sQ : State) (oQ : Outcome) (UQ : State) : Prop := ∃ vQ LQ, oQ = .returned vQ ∧ Qsj3 Z a0 a1 cs ka ha c0 c1 c2 h0 n0 vQ UQ.heap LQ ∧ FrameEnd sQ oQ UQ LQ ({ frames := 3, cells := 1, slots := 3, locals := 52 } : Room).cells ({ frames := 3, cells := 1, slots := 3, locals := 52 } : Room).slots
set_option maxRecDepth 65536 in
set_option maxHeartbeats 40000000 in
theorem rmsj3 (l : Launch) (Z : State) (aZ : Array Value) (hw : ∀ d ∈ tables_1, d.before aZ Z = true) (ws : List Jvm.Cond) (a0 : Addr) (a1 : Addr) (cs : Int32) (ka : ClassId) (ha : List (Int32 × Value)) (c0 : Int32) (c1 : Int32) (c2 : Int32) (h0 : Heap) (n0 : Nat) (Z0 : n0 ≤ h0.size) (OL : Old Z n0 h0) (CS : own_CS Z cs) (E_a0 : Exa Z h0 a0 "java/lang/String") (F_coder_a0 : Fld Z h0 a0 "java/lang/String" "coder" "B" (.int (0 : Int32))) (F_value_a0 : Fld Z h0 a0 "java/lang/String" "value" "[B" .null) (g_a0 : n0 ≤ a0) (V_a1 : Arh Z h0 a1 ka .char (3 : Int32) ha [] (.int (0 : Int32))) (ne_a0_a1 : a0 ≠ a1) (rc0 : getH ha [] (.int (0 : Int32)) ((0 : Int32)).toNatClampNeg = (.int c0)) (rc1 : getH ha [] (.int (0 : Int32)) ((1 : Int32)).toNatClampNeg = (.int c1)) (rc2 : getH ha [] (.int (0 : Int32)) ((2 : Int32)).toNatClampNeg = (.int c2)) (hc0 : 0 ≤ c0.toInt ∧ c0.toInt ≤ 255) (hc1 : 0 ≤ c1.toInt ∧ c1.toInt ≤ 255) (hc2 : 0 ≤ c2.toInt ∧ c2.toInt ≤ 255) :
    MetFree l (⟨"java/lang/String", "<init>", "([C)V"⟩ : MethodName) (head1 (Jvm.Cond.code (⟨"java/lang/String", "<init>", "([C)V"⟩ : MethodName) jdk_42_method_3_code 2 none :: ws) ({ frames := 3, cells := 1, slots := 3, locals := 52 } : Room)) (fun aQ UQ => aQ = #[(.ref a0), (.ref a1)] ∧ Z.Warmed39 UQ.vm ∧ UQ.heap = h0) (fun _ _ _ _ _ => True) (fun _ UQ oQ UR => ∃ vQ LQ, oQ = .returned vQ ∧ Qsj3 Z a0 a1 cs ka ha c0 c1 c2 h0 n0 vQ UR.heap LQ ∧ FrameEnd UQ oQ UR LQ ({ frames := 3, cells := 1, slots := 3, locals := 52 } : Room).cells ({ frames := 3, cells := 1, slots := 3, locals := 52 } : Room).slots) := by
  refine MetFree.of_bodySF (plainFor_of_name pn_2) hisR ?_
  intro p e s m args below meth c s₁ Bd hml0 hP hK
  obtain ⟨rfl, hZ, hh⟩ := hP
  have hx := Bd.exec
  have hby := Bd.bytes
  have hml : c.maxLocals = 2 := hml0
  have hown : s.vm.findClass "java/lang/String" = some m.cls := findClass_of_methodNamed Bd.named
  have hnm := (name_of_methodNamed Bd.named Bd.method).1
  have X0 : Stand p l e ({ frames := 3, cells := 1, slots := 3, locals := 52 } : Room) s m #[(.ref a0), (.ref a1)] below meth c s₁ [] 0 0 := Stand.of_body Bd
  have e0 : s₁.heap = h0 := by rw [← hh, Bd.state]; rfl
  have N0 := Fr.nil n0
  have K0 : Keep h0 h0 [a0] := Keep.refl _ _
  have w_13 := hw _ (List.mem_of_getElem? (i := 13) rfl)
  have w_17 := hw _ (List.mem_of_getElem? (i := 17) rfl)
  have w_18 := hw _ (List.mem_of_getElem? (i := 18) rfl)
  have w_20 := hw _ (List.mem_of_getElem? (i := 20) rfl)
  have first_ : Rn p e below (s₁.setTop (mkF m 0 #[.val (.ref a0), .val (.ref a1)] [])) (Fnsj3 Z a0 a1 cs ka ha c0 c1 c2 h0 n0 s) := by
    generalize hG : (Fnsj3 Z a0 a1 cs ka ha c0 c1 c2 h0 n0 s) = G
    refine R.aloadN X0 hx (hb hby d1_0) rfl rfl (pc' := 1) rfl ?_
    refine R.aloadN X0 hx (hb hby d1_1) rfl rfl (pc' := 2) rfl ?_
    refine R.iconst X0 hx (hb hby d1_2) (v := (0 : Int32)) (by decide) (pc' := 3) rfl ?_
    refine R.aloadN X0 hx (hb hby d1_3) rfl rfl (pc' := 4) rfl ?_
    refine R.alen X0 hx hZ e0 V_a1 (hb hby d1_4) (pc' := 5) rfl ?_
    refine R.aconstNull X0 hx (hb hby d1_5) (pc' := 6) rfl ?_
    refine R.special X0 hx hZ (y := mY28) rfl hown w_17 w_18 w_13 w_20 (by decide) e0 (rmsi3 l Z aZ hw [] a0 a1 cs ka ha c0 c1 c2 h0 n0 Z0 OL CS E_a0 F_coder_a0 F_value_a0 g_a0 V_a1 ne_a0_a1 rc0 rc1 rc2 hc0 hc1 hc2) (by decide) (W := 0) (Nat.le_of_eq rfl) (by decide) (by rw [hml]; rfl) (lenOf pd_22 rfl) rfl (hb hby d1_6) (pc' := 9) rfl (by decide) (by decide) ?_; intro v1 T1 L1 X1 hQ1
    obtain ⟨r_1, rfl, N1q, Kc1, P1_0, P1_1, P1_2, P1_3, P1_4⟩ := hQ1
    have N1 := Fr.app N0 N1q
    generalize e1 : T1.heap = h1 at Kc1 P1_0 P1_1 P1_2 P1_3 P1_4
    have K1 : Keep h0 h1 [a0] := K0.trans Kc1 ((allS (Or.inl (List.mem_of_getElem? (i := 0) rfl)) all0))
    have Z1 : n0 ≤ h1.size := Nat.le_trans Z0 Kc1.1
    have ne_a0_r_1 : a0 ≠ r_1 := Nat.ne_of_lt (Nat.lt_of_lt_of_le E_a0.lt P1_0)
    have ne_a1_r_1 : a1 ≠ r_1 := Nat.ne_of_lt (Nat.lt_of_lt_of_le V_a1.lt P1_0)
    have g_r_1 : n0 ≤ r_1 := Nat.le_trans Z0 P1_0
    have sz_r_1 : h0.size ≤ r_1 := Nat.le_trans K0.1 P1_0
    have OL := OL.keep Kc1 (allS g_a0 all0)
    have V_a1 := V_a1.keep Kc1 (ninS (Ne.symm ne_a0_a1) nin0)
    have fresh_1 := P1_0
    have E_a0 : Exa Z h1 a0 "java/lang/String" := P1_1
    have F_coder_a0 : Fld Z h1 a0 "java/lang/String" "coder" "B" (.int (0 : Int32)) := P1_2
    have F_value_a0 : Fld Z h1 a0 "java/lang/String" "value" "[B" (.ref r_1) := P1_3
    have Y_r_1 : own_By Z h1 r_1 (3 : Int32) (own_up (own_up (own_up (fun _ => 0) (0 : Int32).toNatClampNeg (c0.toInt8.toInt32)) (1 : Int32).toNatClampNeg (c1.toInt8.toInt32)) (2 : Int32).toNatClampNeg (c2.toInt8.toInt32)) := P1_4
    rw [← hG]
    exact Rn.ret X1 (BodyLoose.notSynchronized Bd) (v := none) (fun _ => rfl) (Q := Qsj3 Z a0 a1 cs ka ha c0 c1 c2 h0 n0) e1 (fun fs hr => X1.returnOut hx Bd.returns (hb hby d1_9) hr) ⟨r_1, rfl, N1, K1, (sz_r_1), E_a0, F_coder_a0, F_value_a0, Y_r_1⟩ (by decide) (by decide)
  exact (Rn.st (fun t k => castTop (ef_sj3 m a0 a1) k) first_ : Rn p e below (s₁.setTop (entryFrame m #[(.ref a0), (.ref a1)] 2)) (Fnsj3 Z a0 a1 cs ka ha c0 c1 c2 h0 n0 s))
theorem d2_8 : decode jdk_42_method_149_code 8 = .ok (.aload_n 0, 1) := by decide +kernel
theorem d2_9 : decode jdk_42_method_149_code 9 = .ok (.ldc 7, 2) := by decide +kernel
theorem d2_11 : decode jdk_42_method_149_code 11 = .ok (.getfield 9, 3) := by decide +kernel
theorem d2_14 : decode jdk_42_method_149_code 14 = .ok (.putfield 9, 3) := by decide +kernel
theorem d2_17 : decode jdk_42_method_149_code 17 = .ok (.aload_n 0, 1) := by decide +kernel
theorem d2_18 : decode jdk_42_method_149_code 18 = .ok (.ldc 7, 2) := by decide +kernel
theorem d2_20 : decode jdk_42_method_149_code 20 = .ok (.getfield 15, 3) := by decide +kernel
theorem d2_23 : decode jdk_42_method_149_code 23 = .ok (.putfield 15, 3) := by decide +kernel
theorem d2_26 : decode jdk_42_method_149_code 26 = .ok (.return_, 1) := by decide +kernel
theorem ef_si0 (m : MethodId) (x0 : Addr) (x1 : Addr) : entryFrame m #[(.ref x0), (.ref x1), (.int (0 : Int32)), (.int (0 : Int32)), .null] 6 = mkF m 0 #[.val (.ref x0), .val (.ref x1), .val (.int (0 : Int32)), .val (.int (0 : Int32)), .val .null, .unset] [] := by first | (simp [entryFrame, mkF, argsToLocals, Value.category]; done) | rfl
def Qsi0 (Z : State) (a0 : Addr) (a1 : Addr) (h0 : Heap) (n0 : Nat) (vQ : Option Value) (vmQ : Vm) (hQ_ : Heap) (LQ : List Loc) : Prop := ∃ r : Addr, vQ = none ∧ Fr n0 LQ ∧ Keep h0 hQ_ [a0] ∧ (Exa Z hQ_ a0 "java/lang/String") ∧ (Fld Z hQ_ a0 "java/lang/String" "coder" "B" (.int (0 : Int32))) ∧ (Fld Z hQ_ a0 "java/lang/String" "value" "[B" (.ref r)) ∧ (own_By Z hQ_ r (0 : Int32) (fun _ => (0 : Int32))) ∧ (CHv Z consts_1 vmQ hQ_)
def Fnsi0 (Z : State) (a0 : Addr) (a1 : Addr) (h0 : Heap) (n0 : Nat) (sQ : State) (oQ : Outcome) (UQ : State) : Prop := ∃ vQ LQ, oQ = .returned vQ ∧ Qsi0 Z a0 a1 h0 n0 vQ UQ.vm UQ.heap LQ ∧ ReturnedEndW sQ oQ UQ LQ ({ frames := 1, cells := 4, slots := 8, locals := 12 } : Room).cells ({ frames := 1, cells := 4, slots := 8, locals := 12 } : Room).slots
set_option maxRecDepth 65536 in
set_option maxHeartbeats 40000000 in
theorem rmsi0 (l : Launch) (Z : State) (aZ : Array Value) (hw : ∀ d ∈ tables_1, d.before aZ Z = true) (ws : List Jvm.Cond) (a0 : Addr) (a1 : Addr) (h0 : Heap) (n0 : Nat) (Z0 : n0 ≤ h0.size) (OL : Old Z n0 h0) (E_a0 : Exa Z h0 a0 "java/lang/String") (F_coder_a0 : Fld Z h0 a0 "java/lang/String" "coder" "B" (.int (0 : Int32))) (F_value_a0 : Fld Z h0 a0 "java/lang/String" "value" "[B" .null) (g_a0 : n0 ≤ a0) :
    MetFree l (⟨"java/lang/String", "<init>", "([CIILjava/lang/Void;)V"⟩ : MethodName) (head1 (Jvm.Cond.code (⟨"java/lang/String", "<init>", "([CIILjava/lang/Void;)V"⟩ : MethodName) jdk_42_method_149_code 6 none :: ws) ({ frames := 1, cells := 4, slots := 8, locals := 12 } : Room)) (fun aQ UQ => aQ = #[(.ref a0), (.ref a1), (.int (0 : Int32)), (.int (0 : Int32)), .null] ∧ Z.Warmed39 UQ.vm ∧ UQ.heap = h0 ∧ CHv Z consts_1 UQ.vm h0 ∧ ∀ x ∈ ([a0] : List Addr), Safe Z consts_1 UQ.vm h0 x) (fun _ _ _ _ _ => True) (fun _ UQ oQ UR => ∃ vQ LQ, oQ = .returned vQ ∧ Qsi0 Z a0 a1 h0 n0 vQ UR.vm UR.heap LQ ∧ ReturnedEndW UQ oQ UR LQ ({ frames := 1, cells := 4, slots := 8, locals := 12 } : Room).cells ({ frames := 1, cells := 4, slots := 8, locals := 12 } : Room).slots) := by
  refine MetFree.of_bodySF (plainFor_of_name pn_2) hisR ?_
  intro p e s m args below meth c s₁ Bd hml0 hP hK
  obtain ⟨rfl, hZ, hh, HC, SF0⟩ := hP
  have hZ : Z.Warmed39 (s.setVm s.vm).vm := hZ
  have hS : s.Since s.vm 0 := (State.WarmedH.refl s).since 0
  have hk : 0 ≤ h0.size := Nat.zero_le _
  have hEL := own_ew hw
  have wS := own_ws hw
  have SF_a0 := SF0 a0 (List.mem_of_getElem? (i := 0) rfl)
  have hx := Bd.exec
  have hby := Bd.bytes
  have hml : c.maxLocals = 6 := hml0
  have hown : (s.setVm s.vm).vm.findClass "java/lang/String" = some m.cls := findClass_of_methodNamed Bd.named
  have hnm := (name_of_methodNamed Bd.named Bd.method).1
  have X0 : Stand p l e ({ frames := 1, cells := 4, slots := 8, locals := 12 } : Room) (s.setVm s.vm) m #[(.ref a0), (.ref a1), (.int (0 : Int32)), (.int (0 : Int32)), .null] below meth c s₁ [] 0 0 := Stand.of_body Bd
  have e0 : s₁.heap = h0 := by rw [← hh, Bd.state]; rfl
  have N0 := Fr.nil n0
  have K0 : Keep h0 h0 [a0] := Keep.refl _ _
  have w_12 := hw _ (List.mem_of_getElem? (i := 12) rfl)
  have w_21 := hw _ (List.mem_of_getElem? (i := 21) rfl)
  have w_22 := hw _ (List.mem_of_getElem? (i := 22) rfl)
  have w_23 := hw _ (List.mem_of_getElem? (i := 23) rfl)
  have w_36 := hw _ (List.mem_of_getElem? (i := 36) rfl)
  have w_37 := hw _ (List.mem_of_getElem? (i := 37) rfl)
  have w_38 := hw _ (List.mem_of_getElem? (i := 38) rfl)
  have w_39 := hw _ (List.mem_of_getElem? (i := 39) rfl)
  have w_225 := hw _ (List.mem_of_getElem? (i := 225) rfl)
  have first_ : Rn p e below (s₁.setTop (mkF m 0 #[.val (.ref a0), .val (.ref a1), .val (.int (0 : Int32)), .val (.int (0 : Int32)), .val .null, .unset] [])) (Fnsi0 Z a0 a1 h0 n0 s) := by
    generalize hG : (Fnsi0 Z a0 a1 h0 n0 s) = G
    refine R.aloadN X0 hx (hb hby d2_0) rfl rfl (pc' := 1) rfl ?_
    refine R.initO X0 hx hZ hown w_21 w_22 w_23 e0 (by rw [hml]; rfl) (hb hby d2_1) (pc' := 4) rfl (by decide) (W := 0) (Nat.le_of_eq rfl) (by decide) ?_; intro T1 X1 e1
    refine R.iloadN X1 hx (hb hby d2_4) rfl (pc' := 5) rfl ?_
    refine R.ifNo X1 hx (hb hby d2_5) (teq (by decide : (0 : Int32) = (0 : Int32))).2 (pc' := 8) rfl ?_
    refine R.aloadN X1 hx (hb hby d2_8) rfl rfl (pc' := 9) rfl ?_
    refine R.ldcH X1 hx hZ hS hk hEL (by decide) HC hown w_225 wS e1 (z := (0 : Int32)) (f := (fun _ => (0 : Int32))) (n := 0) (vs := []) ⟨by decide, by decide⟩ (by decide) (by decide) (fun i hi => absurd hi (Nat.not_lt_zero _)) (by decide) (by decide) (hb hby d2_9) (pc' := 11) rfl (by decide) (by decide) ?_; intro T2 h2 k2 b2 c2 X2 e2 E2 hS hk1 hZ hown EE2 Fc2 Fv2 BB2 CR2 NE2
    have K2 : Keep h0 h2 [a0] := K0.ext E2
    have Z2 : n0 ≤ h2.size := Nat.le_trans Z0 E2.1
    have hk := hk1
    have SF_a0 := CR2.safe E_a0.lt SF_a0
    have OL := OL.ext E2
    have E_a0 := E_a0.ext E2
    have F_coder_a0 := F_coder_a0.ext E2
    have F_value_a0 := F_value_a0.ext E2
    have HC := CR2.1
    have ne_a0_b2 := (NE2 _ SF_a0).1
    have ne_a0_c2 := (NE2 _ SF_a0).2
    refine R.getF X2 hx hZ hown (host := "") (Or.inl w_38) Via.refl e2 Fv2 (hb hby d2_11) (pc' := 14) rfl ?_; intro T3 X3 e3
    refine R.putF X3 hx hZ hown (host := "") (Or.inl w_38) Via.refl e3 F_value_a0 E_a0 (Or.inr ⟨w_39, rfl, hnm⟩) w_12 (ty := (.array .byte)) (by decide) rfl rfl (hb hby d2_14) (pc' := 17) rfl ?_; intro T4 h4 X4 e4 W4
    have OL := OL.wr W4 g_a0
    have E_a0 := E_a0.wr W4
    have F_coder_a0 := F_coder_a0.other W4 (Or.inr (slot_ne (Or.inr w_37) (Or.inr w_39) (by decide) (t := .byte) (t' := (.array .byte)) (by decide) (by decide)))
    have EE2 := EE2.wr W4
    have Fc2 := Fc2.other W4 (Or.inl (Ne.symm ne_a0_b2))
    have Fv2 := Fv2.other W4 (Or.inl (Ne.symm ne_a0_b2))
    have BB2 := BB2.other W4 (Ne.symm ne_a0_c2)
    have F_value_a0 : Fld Z h4 a0 "java/lang/String" "value" "[B" (.ref c2) := F_value_a0.same W4
    have N4 := Fr.snoc X4 N0 g_a0
    have K4 : Keep h0 h4 [a0] := K2.wr W4 (Or.inl (List.mem_of_getElem? (i := 0) rfl))
    have Z4 : n0 ≤ h4.size := Nat.le_trans Z2 (Keep.of_wr W4).1
    have hk := Nat.le_trans hk (Keep.of_wr W4).1
    have HC' := HC.wr W4 SF_a0
    have SF_a0 := Safe.wr W4 SF_a0 HC SF_a0
    have HC := HC'
    refine R.aloadN X4 hx (hb hby d2_17) rfl rfl (pc' := 18) rfl ?_
    refine R.ldcH X4 hx hZ hS hk hEL (by decide) HC hown w_225 wS e4 (z := (0 : Int32)) (f := (fun _ => (0 : Int32))) (n := 0) (vs := []) ⟨by decide, by decide⟩ (by decide) (by decide) (fun i hi => absurd hi (Nat.not_lt_zero _)) (by decide) (by decide) (hb hby d2_18) (pc' := 20) rfl (by decide) (by decide) ?_; intro T5 h5 k5 b5 c5 X5 e5 E5 hS hk1 hZ hown EE5 Fc5 Fv5 BB5 CR5 NE5
    have K5 : Keep h0 h5 [a0] := K4.ext E5
    have Z5 : n0 ≤ h5.size := Nat.le_trans Z4 E5.1
    have hk := hk1
    have SF_a0 := CR5.safe E_a0.lt SF_a0
    have OL := OL.ext E5
    have E_a0 := E_a0.ext E5
    have F_coder_a0 := F_coder_a0.ext E5
    have EE2 := EE2.ext E5
    have Fc2 := Fc2.ext E5
    have Fv2 := Fv2.ext E5
    have BB2 := BB2.ext E5
    have F_value_a0 := F_value_a0.ext E5
    have HC := CR5.1
    have ne_a0_b5 := (NE5 _ SF_a0).1
    have ne_a0_c5 := (NE5 _ SF_a0).2
    refine R.getF X5 hx hZ hown (host := "") (Or.inl w_36) Via.refl e5 Fc5 (hb hby d2_20) (pc' := 23) rfl ?_; intro T6 X6 e6
    obtain ⟨T7, h7, X7, e7, W7, st7⟩ := putFN X6 hx hZ hown w_36 Via.refl e6 F_coder_a0 E_a0 (Or.inr ⟨w_37, rfl, hnm⟩) w_12 (ty := .byte) (v' := (.int (0 : Int32))) (by decide) rfl rfl (g := (mkF m 23 #[.val (.ref a0), .val (.ref a1), .val (.int (0 : Int32)), .val (.int (0 : Int32)), .val .null, .unset] [(.int (0 : Int32)), (.ref a0)])) rfl rfl (hb hby d2_23)
    have OL := OL.wr W7 g_a0
    have E_a0 := E_a0.wr W7
    have EE2 := EE2.wr W7
    have Fc2 := Fc2.other W7 (Or.inl (Ne.symm ne_a0_b2))
    have Fv2 := Fv2.other W7 (Or.inl (Ne.symm ne_a0_b2))
    have BB2 := BB2.other W7 (Ne.symm ne_a0_c2)
    have F_value_a0 := F_value_a0.other W7 (Or.inr (slot_ne (Or.inr w_39) (Or.inr w_37) (by decide) (t := (.array .byte)) (t' := .byte) (by decide) (by decide)))
    have EE5 := EE5.wr W7
    have Fc5 := Fc5.other W7 (Or.inl (Ne.symm ne_a0_b5))
    have Fv5 := Fv5.other W7 (Or.inl (Ne.symm ne_a0_b5))
    have BB5 := BB5.other W7 (Ne.symm ne_a0_c5)
    have F_coder_a0 : Fld Z h7 a0 "java/lang/String" "coder" "B" (.int (0 : Int32)) := F_coder_a0.same W7
    have N7 := Fr.snoc X7 N4 g_a0
    have K7 : Keep h0 h7 [a0] := K5.wr W7 (Or.inl (List.mem_of_getElem? (i := 0) rfl))
    have Z7 : n0 ≤ h7.size := Nat.le_trans Z5 (Keep.of_wr W7).1
    have hk := Nat.le_trans hk (Keep.of_wr W7).1
    have HC' := HC.wr W7 SF_a0
    have SF_a0 := Safe.wr W7 SF_a0 HC SF_a0
    have HC := HC'
    refine Rn.st st7 ?_
    show Rn p e below (T7.setTop (mkF m 26 #[.val (.ref a0), .val (.ref a1), .val (.int (0 : Int32)), .val (.int (0 : Int32)), .val .null, .unset] [])) G
    rw [← hG]
    exact Rn.retW X7 hS hk (BodyLoose.notSynchronized Bd) (v := none) (fun _ => rfl) (Q := Qsi0 Z a0 a1 h0 n0) e7 (fun fs hr => X7.returnOut hx Bd.returns (hb hby d2_26) hr) ⟨c2, rfl, N7, K7, E_a0, F_coder_a0, F_value_a0, BB2, (CHv.at X7 hZ hEL HC).1⟩ (by decide) (by decide)
  exact (Rn.st (fun t k => castTop (ef_si0 m a0 a1) k) first_ : Rn p e below (s₁.setTop (entryFrame m #[(.ref a0), (.ref a1), (.int (0 : Int32)), (.int (0 : Int32)), .null] 6)) (Fnsi0 Z a0 a1 h0 n0 s))
theorem ef_sj0 (m : MethodId) (x0 : Addr) (x1 : Addr) : entryFrame m #[(.ref x0), (.ref x1)] 2 = mkF m 0 #[.val (.ref x0), .val (.ref x1)] [] := by first | (simp [entryFrame, mkF, argsToLocals, Value.category]; done) | rfl
def Qsj0 (Z : State) (a0 : Addr) (a1 : Addr) (ka : ClassId) (ha : List (Int32 × Value)) (h0 : Heap) (n0 : Nat) (vQ : Option Value) (vmQ : Vm) (hQ_ : Heap) (LQ : List Loc) : Prop := ∃ r : Addr, vQ = none ∧ Fr n0 LQ ∧ Keep h0 hQ_ [a0] ∧ (Exa Z hQ_ a0 "java/lang/String") ∧ (Fld Z hQ_ a0 "java/lang/String" "coder" "B" (.int (0 : Int32))) ∧ (Fld Z hQ_ a0 "java/lang/String" "value" "[B" (.ref r)) ∧ (own_By Z hQ_ r (0 : Int32) (fun _ => (0 : Int32))) ∧ (CHv Z consts_1 vmQ hQ_)
def Fnsj0 (Z : State) (a0 : Addr) (a1 : Addr) (ka : ClassId) (ha : List (Int32 × Value)) (h0 : Heap) (n0 : Nat) (sQ : State) (oQ : Outcome) (UQ : State) : Prop := ∃ vQ LQ, oQ = .returned vQ ∧ Qsj0 Z a0 a1 ka ha h0 n0 vQ UQ.vm UQ.heap LQ ∧ ReturnedEndW sQ oQ UQ LQ ({ frames := 2, cells := 4, slots := 8, locals := 29 } : Room).cells ({ frames := 2, cells := 4, slots := 8, locals := 29 } : Room).slots
set_option maxRecDepth 65536 in
set_option maxHeartbeats 40000000 in
theorem rmsj0 (l : Launch) (Z : State) (aZ : Array Value) (hw : ∀ d ∈ tables_1, d.before aZ Z = true) (ws : List Jvm.Cond) (a0 : Addr) (a1 : Addr) (ka : ClassId) (ha : List (Int32 × Value)) (h0 : Heap) (n0 : Nat) (Z0 : n0 ≤ h0.size) (OL : Old Z n0 h0) (E_a0 : Exa Z h0 a0 "java/lang/String") (F_coder_a0 : Fld Z h0 a0 "java/lang/String" "coder" "B" (.int (0 : Int32))) (F_value_a0 : Fld Z h0 a0 "java/lang/String" "value" "[B" .null) (g_a0 : n0 ≤ a0) (V_a1 : Arh Z h0 a1 ka .char (0 : Int32) ha [] (.int (0 : Int32))) (ne_a0_a1 : a0 ≠ a1) :
    MetFree l (⟨"java/lang/String", "<init>", "([C)V"⟩ : MethodName) (head1 (Jvm.Cond.code (⟨"java/lang/String", "<init>", "([C)V"⟩ : MethodName) jdk_42_method_3_code 2 none :: ws) ({ frames := 2, cells := 4, slots := 8, locals := 29 } : Room)) (fun aQ UQ => aQ = #[(.ref a0), (.ref a1)] ∧ Z.Warmed39 UQ.vm ∧ UQ.heap = h0 ∧ CHv Z consts_1 UQ.vm h0 ∧ ∀ x ∈ ([a0] : List Addr), Safe Z consts_1 UQ.vm h0 x) (fun _ _ _ _ _ => True) (fun _ UQ oQ UR => ∃ vQ LQ, oQ = .returned vQ ∧ Qsj0 Z a0 a1 ka ha h0 n0 vQ UR.vm UR.heap LQ ∧ ReturnedEndW UQ oQ UR LQ ({ frames := 2, cells := 4, slots := 8, locals := 29 } : Room).cells ({ frames := 2, cells := 4, slots := 8, locals := 29 } : Room).slots) := by
  refine MetFree.of_bodySF (plainFor_of_name pn_2) hisR ?_
  intro p e s m args below meth c s₁ Bd hml0 hP hK
  obtain ⟨rfl, hZ, hh, HC, SF0⟩ := hP
  have hZ : Z.Warmed39 (s.setVm s.vm).vm := hZ
  have hS : s.Since s.vm 0 := (State.WarmedH.refl s).since 0
  have hk : 0 ≤ h0.size := Nat.zero_le _
  have hEL := own_ew hw
  have wS := own_ws hw
  have SF_a0 := SF0 a0 (List.mem_of_getElem? (i := 0) rfl)
  have hx := Bd.exec
  have hby := Bd.bytes
  have hml : c.maxLocals = 2 := hml0
  have hown : (s.setVm s.vm).vm.findClass "java/lang/String" = some m.cls := findClass_of_methodNamed Bd.named
  have hnm := (name_of_methodNamed Bd.named Bd.method).1
  have X0 : Stand p l e ({ frames := 2, cells := 4, slots := 8, locals := 29 } : Room) (s.setVm s.vm) m #[(.ref a0), (.ref a1)] below meth c s₁ [] 0 0 := Stand.of_body Bd
  have e0 : s₁.heap = h0 := by rw [← hh, Bd.state]; rfl
  have N0 := Fr.nil n0
  have K0 : Keep h0 h0 [a0] := Keep.refl _ _
  have w_13 := hw _ (List.mem_of_getElem? (i := 13) rfl)
  have w_17 := hw _ (List.mem_of_getElem? (i := 17) rfl)
  have w_18 := hw _ (List.mem_of_getElem? (i := 18) rfl)
  have w_20 := hw _ (List.mem_of_getElem? (i := 20) rfl)
  have first_ : Rn p e below (s₁.setTop (mkF m 0 #[.val (.ref a0), .val (.ref a1)] [])) (Fnsj0 Z a0 a1 ka ha h0 n0 s) := by
    generalize hG : (Fnsj0 Z a0 a1 ka ha h0 n0 s) = G
    refine R.aloadN X0 hx (hb hby d1_0) rfl rfl (pc' := 1) rfl ?_
    refine R.aloadN X0 hx (hb hby d1_1) rfl rfl (pc' := 2) rfl ?_
    refine R.iconst X0 hx (hb hby d1_2) (v := (0 : Int32)) (by decide) (pc' := 3) rfl ?_
    refine R.aloadN X0 hx (hb hby d1_3) rfl rfl (pc' := 4) rfl ?_
    refine R.alen X0 hx hZ e0 V_a1 (hb hby d1_4) (pc' := 5) rfl ?_
    refine R.aconstNull X0 hx (hb hby d1_5) (pc' := 6) rfl ?_
    refine R.specialH X0 hx hZ hS hk hEL HC (sf := [a0]) ((allS ⟨E_a0.lt, SF_a0⟩ all0)) (y := mY28) rfl hown w_17 w_18 w_13 w_20 (by decide) e0 (rmsi0 l Z aZ hw [] a0 a1 h0 n0 Z0 OL E_a0 F_coder_a0 F_value_a0 g_a0) (by decide) (W := 0) (Nat.le_of_eq rfl) (by decide) (by rw [hml]; rfl) (lenOf pd_22 rfl) rfl (hb hby d1_6) (pc' := 9) rfl (by decide) (by decide) ?_; intro v1 T1 L1 k1 X1 hS hk hZ hown hQ1
    obtain ⟨r_1, rfl, N1q, Kc1, P1_0, P1_1, P1_2, P1_3, P1_4⟩ := hQ1
    have N1 := Fr.app N0 N1q
    generalize e1 : T1.heap = h1 at Kc1 P1_0 P1_1 P1_2 P1_3 P1_4 hk
    have K1 : Keep h0 h1 [a0] := K0.trans Kc1 ((allS (Or.inl (List.mem_of_getElem? (i := 0) rfl)) all0))
    have Z1 : n0 ≤ h1.size := Nat.le_trans Z0 Kc1.1
    have OL := OL.keep Kc1 (allS g_a0 all0)
    have V_a1 := V_a1.keep Kc1 (ninS (Ne.symm ne_a0_a1) nin0)
    have E_a0 : Exa Z h1 a0 "java/lang/String" := P1_0
    have F_coder_a0 : Fld Z h1 a0 "java/lang/String" "coder" "B" (.int (0 : Int32)) := P1_1
    have F_value_a0 : Fld Z h1 a0 "java/lang/String" "value" "[B" (.ref r_1) := P1_2
    have Y_r_1 : own_By Z h1 r_1 (0 : Int32) (fun _ => (0 : Int32)) := P1_3
    have HC := P1_4
    rw [← hG]
    exact Rn.retW X1 hS hk (BodyLoose.notSynchronized Bd) (v := none) (fun _ => rfl) (Q := Qsj0 Z a0 a1 ka ha h0 n0) e1 (fun fs hr => X1.returnOut hx Bd.returns (hb hby d1_9) hr) ⟨r_1, rfl, N1, K1, E_a0, F_coder_a0, F_value_a0, Y_r_1, (CHv.at X1 hZ hEL HC).1⟩ (by decide) (by decide)
  exact (Rn.st (fun t k => castTop (ef_sj0 m a0 a1) k) first_ : Rn p e below (s₁.setTop (entryFrame m #[(.ref a0), (.ref a1)] 2)) (Fnsj0 Z a0 a1 ka ha h0 n0 s))
theorem d8_0 : decode jdk_30_method_1_code 0 = .ok (.aload_n 0, 1) := by decide +kernel
theorem d8_1 : decode jdk_30_method_1_code 1 = .ok (.invokespecial 1, 3) := by decide +kernel
theorem d8_4 : decode jdk_30_method_1_code 4 = .ok (.return_, 1) := by decide +kernel
theorem pn_9 : plainName "java/lang/Record" = true := by first | (simp [plainName, overriddenIn]; done) | decide +kernel
theorem ef_8 (m : MethodId) (x0 : Addr) : entryFrame m #[(.ref x0)] 1 = mkF m 0 #[.val (.ref x0)] [] := by first | (simp [entryFrame, mkF, argsToLocals, Value.category]; done) | rfl
def Q8 (Z : State) (a0 : Addr) (h0 : Heap) (n0 : Nat) (vQ : Option Value) (hQ_ : Heap) (LQ : List Loc) : Prop := vQ = none ∧ Fr n0 LQ ∧ hQ_ = h0
def Fn8 (Z : State) (a0 : Addr) (h0 : Heap) (n0 : Nat) (sQ : State) (oQ : Outcome) (UQ : State) : Prop := ∃ vQ LQ, oQ = .returned vQ ∧ Q8 Z a0 h0 n0 vQ UQ.heap LQ ∧ FrameEnd sQ oQ UQ LQ ({ frames := 1, cells := 0, slots := 0, locals := 12 } : Room).cells ({ frames := 1, cells := 0, slots := 0, locals := 12 } : Room).slots
set_option maxRecDepth 65536 in
set_option maxHeartbeats 40000000 in
theorem rm8 (l : Launch) (Z : State) (aZ : Array Value) (hw : ∀ d ∈ tables_1, d.before aZ Z = true) (ws : List Jvm.Cond) (a0 : Addr) (h0 : Heap) (n0 : Nat) (Z0 : n0 ≤ h0.size) :
    MetFree l (⟨"java/lang/Record", "<init>", "()V"⟩ : MethodName) (head1 (Jvm.Cond.code (⟨"java/lang/Record", "<init>", "()V"⟩ : MethodName) jdk_30_method_1_code 1 none :: ws) ({ frames := 1, cells := 0, slots := 0, locals := 12 } : Room)) (fun aQ UQ => aQ = #[(.ref a0)] ∧ Z.Warmed39 UQ.vm ∧ UQ.heap = h0) (fun _ _ _ _ _ => True) (fun _ UQ oQ UR => ∃ vQ LQ, oQ = .returned vQ ∧ Q8 Z a0 h0 n0 vQ UR.heap LQ ∧ FrameEnd UQ oQ UR LQ ({ frames := 1, cells := 0, slots := 0, locals := 12 } : Room).cells ({ frames := 1, cells := 0, slots := 0, locals := 12 } : Room).slots) := by
  refine MetFree.of_bodySF (plainFor_of_name pn_9) hisR ?_
  intro p e s m args below meth c s₁ Bd hml0 hP hK
  obtain ⟨rfl, hZ, hh⟩ := hP
  have hx := Bd.exec
  have hby := Bd.bytes
  have hml : c.maxLocals = 1 := hml0
  have hown : s.vm.findClass "java/lang/Record" = some m.cls := findClass_of_methodNamed Bd.named
  have hnm := (name_of_methodNamed Bd.named Bd.method).1
  have X0 : Stand p l e ({ frames := 1, cells := 0, slots := 0, locals := 12 } : Room) s m #[(.ref a0)] below meth c s₁ [] 0 0 := Stand.of_body Bd
  have e0 : s₁.heap = h0 := by rw [← hh, Bd.state]; rfl
  have N0 := Fr.nil n0
  have K0 : Keep h0 h0 [] := Keep.refl _ _
  have w_22 := hw _ (List.mem_of_getElem? (i := 22) rfl)
  have w_23 := hw _ (List.mem_of_getElem? (i := 23) rfl)
  have w_51 := hw _ (List.mem_of_getElem? (i := 51) rfl)
  have first_ : Rn p e below (s₁.setTop (mkF m 0 #[.val (.ref a0)] [])) (Fn8 Z a0 h0 n0 s) := by
    generalize hG : (Fn8 Z a0 h0 n0 s) = G
    refine R.aloadN X0 hx (hb hby d8_0) rfl rfl (pc' := 1) rfl ?_
    refine R.initO X0 hx hZ hown w_51 w_22 w_23 e0 (by rw [hml]; rfl) (hb hby d8_1) (pc' := 4) rfl (by decide) (W := 0) (Nat.le_of_eq rfl) (by decide) ?_; intro T1 X1 e1
    rw [← hG]
    exact Rn.ret X1 (BodyLoose.notSynchronized Bd) (v := none) (fun _ => rfl) (Q := Q8 Z a0 h0 n0) e1 (fun fs hr => X1.returnOut hx Bd.returns (hb hby d8_4) hr) ⟨rfl, N0, rfl⟩ (by decide) (by decide)
  exact (Rn.st (fun t k => castTop (ef_8 m a0) k) first_ : Rn p e below (s₁.setTop (entryFrame m #[(.ref a0)] 1)) (Fn8 Z a0 h0 n0 s))
theorem d7_0 : decode prog_52_method_1_code 0 = .ok (.aload_n 0, 1) := by decide +kernel
theorem d7_1 : decode prog_52_method_1_code 1 = .ok (.invokespecial 1, 3) := by decide +kernel
theorem pd_23 : parseMethodDescriptor "()V" = some ⟨[], none⟩ := by decide +kernel
abbrev mY29 : MethodName := (⟨"java/lang/Record", "<init>", "()V"⟩ : MethodName)
theorem d7_4 : decode prog_52_method_1_code 4 = .ok (.aload_n 0, 1) := by decide +kernel
theorem d7_5 : decode prog_52_method_1_code 5 = .ok (.aload_n 1, 1) := by decide +kernel
theorem d7_6 : decode prog_52_method_1_code 6 = .ok (.putfield 7, 3) := by decide +kernel
theorem d7_9 : decode prog_52_method_1_code 9 = .ok (.aload_n 0, 1) := by decide +kernel
theorem d7_10 : decode prog_52_method_1_code 10 = .ok (.iload_n 2, 1) := by decide +kernel
theorem d7_11 : decode prog_52_method_1_code 11 = .ok (.putfield 13, 3) := by decide +kernel
theorem d7_14 : decode prog_52_method_1_code 14 = .ok (.return_, 1) := by decide +kernel
theorem pn_10 : plainName "com/example/apportion/apportion/jsonl/LedgerFiles$Place" = true := by first | (simp [plainName, overriddenIn]; done) | decide +kernel
theorem ef_7 (m : MethodId) (x0 : Addr) (x1 : Addr) (x2 : Int32) : entryFrame m #[(.ref x0), (.ref x1), (.int x2)] 3 = mkF m 0 #[.val (.ref x0), .val (.ref x1), .val (.int x2)] [] := by first | (simp [entryFrame, mkF, argsToLocals, Value.category]; done) | rfl
def Q7 (Z : State) (a0 : Addr) (a1 : Addr) (p2 : Int32) (h0 : Heap) (n0 : Nat) (vQ : Option Value) (hQ_ : Heap) (LQ : List Loc) : Prop := vQ = none ∧ Fr n0 LQ ∧ Keep h0 hQ_ [a0] ∧ (Exa Z hQ_ a0 "com/example/apportion/apportion/jsonl/LedgerFiles$Place") ∧ (Fld Z hQ_ a0 "com/example/apportion/apportion/jsonl/LedgerFiles$Place" "file" "Ljava/lang/String;" (.ref a1)) ∧ (Fld Z hQ_ a0 "com/example/apportion/apportion/jsonl/LedgerFiles$Place" "line" "I" (.int p2))
def Fn7 (Z : State) (a0 : Addr) (a1 : Addr) (p2 : Int32) (h0 : Heap) (n0 : Nat) (sQ : State) (oQ : Outcome) (UQ : State) : Prop := ∃ vQ LQ, oQ = .returned vQ ∧ Q7 Z a0 a1 p2 h0 n0 vQ UQ.heap LQ ∧ FrameEnd sQ oQ UQ LQ ({ frames := 2, cells := 0, slots := 0, locals := 24 } : Room).cells ({ frames := 2, cells := 0, slots := 0, locals := 24 } : Room).slots
set_option maxRecDepth 65536 in
set_option maxHeartbeats 40000000 in
theorem rm7 (l : Launch) (Z : State) (aZ : Array Value) (hw : ∀ d ∈ tables_1, d.before aZ Z = true) (ws : List Jvm.Cond) (a0 : Addr) (a1 : Addr) (p2 : Int32) (h0 : Heap) (n0 : Nat) (Z0 : n0 ≤ h0.size) (E_a0 : Exa Z h0 a0 "com/example/apportion/apportion/jsonl/LedgerFiles$Place") (F_file_a0 : Fld Z h0 a0 "com/example/apportion/apportion/jsonl/LedgerFiles$Place" "file" "Ljava/lang/String;" .null) (F_line_a0 : Fld Z h0 a0 "com/example/apportion/apportion/jsonl/LedgerFiles$Place" "line" "I" (.int (0 : Int32))) (g_a0 : n0 ≤ a0) :
    MetFree l (⟨"com/example/apportion/apportion/jsonl/LedgerFiles$Place", "<init>", "(Ljava/lang/String;I)V"⟩ : MethodName) (head1 (Jvm.Cond.code (⟨"com/example/apportion/apportion/jsonl/LedgerFiles$Place", "<init>", "(Ljava/lang/String;I)V"⟩ : MethodName) prog_52_method_1_code 3 none :: ws) ({ frames := 2, cells := 0, slots := 0, locals := 24 } : Room)) (fun aQ UQ => aQ = #[(.ref a0), (.ref a1), (.int p2)] ∧ Z.Warmed39 UQ.vm ∧ UQ.heap = h0) (fun _ _ _ _ _ => True) (fun _ UQ oQ UR => ∃ vQ LQ, oQ = .returned vQ ∧ Q7 Z a0 a1 p2 h0 n0 vQ UR.heap LQ ∧ FrameEnd UQ oQ UR LQ ({ frames := 2, cells := 0, slots := 0, locals := 24 } : Room).cells ({ frames := 2, cells := 0, slots := 0, locals := 24 } : Room).slots) := by
  refine MetFree.of_bodySF (plainFor_of_name pn_10) hisR ?_
  intro p e s m args below meth c s₁ Bd hml0 hP hK
  obtain ⟨rfl, hZ, hh⟩ := hP
  have hx := Bd.exec
  have hby := Bd.bytes
  have hml : c.maxLocals = 3 := hml0
  have hown : s.vm.findClass "com/example/apportion/apportion/jsonl/LedgerFiles$Place" = some m.cls := findClass_of_methodNamed Bd.named
  have hnm := (name_of_methodNamed Bd.named Bd.method).1
  have X0 : Stand p l e ({ frames := 2, cells := 0, slots := 0, locals := 24 } : Room) s m #[(.ref a0), (.ref a1), (.int p2)] below meth c s₁ [] 0 0 := Stand.of_body Bd
  have e0 : s₁.heap = h0 := by rw [← hh, Bd.state]; rfl
  have N0 := Fr.nil n0
  have K0 : Keep h0 h0 [a0] := Keep.refl _ _
  have w_41 := hw _ (List.mem_of_getElem? (i := 41) rfl)
  have w_46 := hw _ (List.mem_of_getElem? (i := 46) rfl)
  have w_47 := hw _ (List.mem_of_getElem? (i := 47) rfl)
  have w_49 := hw _ (List.mem_of_getElem? (i := 49) rfl)
  have w_50 := hw _ (List.mem_of_getElem? (i := 50) rfl)
  have w_52 := hw _ (List.mem_of_getElem? (i := 52) rfl)
  have w_53 := hw _ (List.mem_of_getElem? (i := 53) rfl)
  have w_54 := hw _ (List.mem_of_getElem? (i := 54) rfl)
  have w_55 := hw _ (List.mem_of_getElem? (i := 55) rfl)
  have first_ : Rn p e below (s₁.setTop (mkF m 0 #[.val (.ref a0), .val (.ref a1), .val (.int p2)] [])) (Fn7 Z a0 a1 p2 h0 n0 s) := by
    generalize hG : (Fn7 Z a0 a1 p2 h0 n0 s) = G
    refine R.aloadN X0 hx (hb hby d7_0) rfl rfl (pc' := 1) rfl ?_
    refine R.special X0 hx hZ (y := mY29) rfl hown w_46 w_47 w_49 w_50 (by decide) e0 (rm8 l Z aZ hw [] a0 h0 n0 Z0 ) (by decide) (W := 0) (Nat.le_of_eq rfl) (by decide) (by rw [hml]; rfl) (lenOf pd_23 rfl) rfl (hb hby d7_1) (pc' := 4) rfl (by decide) (by decide) ?_; intro v1 T1 L1 X1 hQ1
    obtain ⟨rfl, N1q, e1⟩ := hQ1
    have N1 := Fr.app N0 N1q
    refine R.aloadN X1 hx (hb hby d7_4) rfl rfl (pc' := 5) rfl ?_
    refine R.aloadN X1 hx (hb hby d7_5) rfl rfl (pc' := 6) rfl ?_
    refine R.putF X1 hx hZ hown (host := "") (Or.inl w_52) Via.refl e1 F_file_a0 E_a0 (Or.inr ⟨w_53, rfl, hnm⟩) w_41 (ty := (.object "java/lang/String")) (by decide) rfl rfl (hb hby d7_6) (pc' := 9) rfl ?_; intro T2 h2 X2 e2 W2
    have E_a0 := E_a0.wr W2
    have F_line_a0 := F_line_a0.other W2 (Or.inr (slot_ne (Or.inr w_55) (Or.inr w_53) (by decide) (t := .int) (t' := (.object "java/lang/String")) (by decide) (by decide)))
    have F_file_a0 : Fld Z h2 a0 "com/example/apportion/apportion/jsonl/LedgerFiles$Place" "file" "Ljava/lang/String;" (.ref a1) := F_file_a0.same W2
    have N2 := Fr.snoc X2 N1 g_a0
    have K2 : Keep h0 h2 [a0] := K0.wr W2 (Or.inl (List.mem_of_getElem? (i := 0) rfl))
    have Z2 : n0 ≤ h2.size := Nat.le_trans Z0 (Keep.of_wr W2).1
    refine R.aloadN X2 hx (hb hby d7_9) rfl rfl (pc' := 10) rfl ?_
    refine R.iloadN X2 hx (hb hby d7_10) rfl (pc' := 11) rfl ?_
    refine R.putF X2 hx hZ hown (host := "") (Or.inl w_54) Via.refl e2 F_line_a0 E_a0 (Or.inr ⟨w_55, rfl, hnm⟩) w_41 (ty := .int) (by decide) rfl rfl (hb hby d7_11) (pc' := 14) rfl ?_; intro T3 h3 X3 e3 W3
    have E_a0 := E_a0.wr W3
    have F_file_a0 := F_file_a0.other W3 (Or.inr (slot_ne (Or.inr w_53) (Or.inr w_55) (by decide) (t := (.object "java/lang/String")) (t' := .int) (by decide) (by decide)))
    have F_line_a0 : Fld Z h3 a0 "com/example/apportion/apportion/jsonl/LedgerFiles$Place" "line" "I" (.int p2) := F_line_a0.same W3
    have N3 := Fr.snoc X3 N2 g_a0
    have K3 : Keep h0 h3 [a0] := K2.wr W3 (Or.inl (List.mem_of_getElem? (i := 0) rfl))
    have Z3 : n0 ≤ h3.size := Nat.le_trans Z2 (Keep.of_wr W3).1
    rw [← hG]
    exact Rn.ret X3 (BodyLoose.notSynchronized Bd) (v := none) (fun _ => rfl) (Q := Q7 Z a0 a1 p2 h0 n0) e3 (fun fs hr => X3.returnOut hx Bd.returns (hb hby d7_14) hr) ⟨rfl, N3, K3, E_a0, F_file_a0, F_line_a0⟩ (by decide) (by decide)
  exact (Rn.st (fun t k => castTop (ef_7 m a0 a1 p2) k) first_ : Rn p e below (s₁.setTop (entryFrame m #[(.ref a0), (.ref a1), (.int p2)] 3)) (Fn7 Z a0 a1 p2 h0 n0 s))
theorem d9_0 : decode prog_52_method_2_code 0 = .ok (.new 17, 3) := by decide +kernel
theorem d9_3 : decode prog_52_method_2_code 3 = .ok (.dup, 1) := by decide +kernel
theorem d9_4 : decode prog_52_method_2_code 4 = .ok (.invokespecial 19, 3) := by decide +kernel
abbrev mY30 : MethodName := (⟨"java/lang/StringBuilder", "<init>", "()V"⟩ : MethodName)
theorem d9_7 : decode prog_52_method_2_code 7 = .ok (.aload_n 0, 1) := by decide +kernel
theorem d9_8 : decode prog_52_method_2_code 8 = .ok (.getfield 7, 3) := by decide +kernel
theorem d9_11 : decode prog_52_method_2_code 11 = .ok (.invokevirtual 20, 3) := by decide +kernel
theorem pd_24 : parseMethodDescriptor "(Ljava/lang/String;)Ljava/lang/StringBuilder;" = some ⟨[(.object "java/lang/String")], some (.object "java/lang/StringBuilder")⟩ := by decide +kernel
abbrev mY31 : MethodName := (⟨"java/lang/StringBuilder", "append", "(Ljava/lang/String;)Ljava/lang/StringBuilder;"⟩ : MethodName)
theorem d9_14 : decode prog_52_method_2_code 14 = .ok (.ldc 24, 2) := by decide +kernel
theorem d9_16 : decode prog_52_method_2_code 16 = .ok (.invokevirtual 20, 3) := by decide +kernel
theorem d9_19 : decode prog_52_method_2_code 19 = .ok (.aload_n 0, 1) := by decide +kernel
theorem d9_20 : decode prog_52_method_2_code 20 = .ok (.getfield 13, 3) := by decide +kernel
theorem d9_23 : decode prog_52_method_2_code 23 = .ok (.invokevirtual 26, 3) := by decide +kernel
theorem pd_25 : parseMethodDescriptor "(I)Ljava/lang/StringBuilder;" = some ⟨[.int], some (.object "java/lang/StringBuilder")⟩ := by decide +kernel
abbrev mY32 : MethodName := (⟨"java/lang/StringBuilder", "append", "(I)Ljava/lang/StringBuilder;"⟩ : MethodName)
theorem d9_26 : decode prog_52_method_2_code 26 = .ok (.invokevirtual 29, 3) := by decide +kernel
theorem pd_26 : parseMethodDescriptor "()Ljava/lang/String;" = some ⟨[], some (.object "java/lang/String")⟩ := by decide +kernel
abbrev mY33 : MethodName := (⟨"java/lang/StringBuilder", "toString", "()Ljava/lang/String;"⟩ : MethodName)
theorem d9_29 : decode prog_52_method_2_code 29 = .ok (.areturn, 1) := by decide +kernel
theorem ef_9 (m : MethodId) (x0 : Addr) : entryFrame m #[(.ref x0)] 1 = mkF m 0 #[.val (.ref x0)] [] := by first | (simp [entryFrame, mkF, argsToLocals, Value.category]; done) | rfl
def Q9 (Z : State) (a0 : Addr) (cs : Int32) (dO : Addr) (dT : Addr) (fo : Addr) (ln : Int32) (b : Addr) (z : Int32) (f : Nat → Int32) (h0 : Heap) (n0 : Nat) (vQ : Option Value) (vmQ : Vm) (hQ_ : Heap) (LQ : List Loc) : Prop := ∃ o : Addr, ∃ r : Addr, ∃ zr : Int32, ∃ ff : Nat → Int32, ∃ nd : Nat, vQ = some (.ref o) ∧ Fr n0 LQ ∧ Keep h0 hQ_ [] ∧ (Exa Z hQ_ o "java/lang/String") ∧ (Fld Z hQ_ o "java/lang/String" "coder" "B" (.int (0 : Int32))) ∧ (Fld Z hQ_ o "java/lang/String" "value" "[B" (.ref r)) ∧ (own_By Z hQ_ r zr ff) ∧ (own_ND ln.toInt.natAbs nd) ∧ (zr.toInt = z.toInt + 1 + own_sg ln.toInt + nd) ∧ (own_TS f ff z.toInt.toNat (own_sg ln.toInt) nd ln.toInt.natAbs)
def Fn9 (Z : State) (a0 : Addr) (cs : Int32) (dO : Addr) (dT : Addr) (fo : Addr) (ln : Int32) (b : Addr) (z : Int32) (f : Nat → Int32) (h0 : Heap) (n0 : Nat) (sQ : State) (oQ : Outcome) (UQ : State) : Prop := ∃ vQ LQ, oQ = .returned vQ ∧ Q9 Z a0 cs dO dT fo ln b z f h0 n0 vQ UQ.vm UQ.heap LQ ∧ ReturnedEndW sQ oQ UQ LQ ({ frames := 6, cells := 6, slots := 47, locals := 91 } : Room).cells ({ frames := 6, cells := 6, slots := 47, locals := 91 } : Room).slots
set_option maxRecDepth 65536 in
set_option maxHeartbeats 40000000 in
theorem rm9 (l : Launch) (Z : State) (aZ : Array Value) (hw : ∀ d ∈ tables_1, d.before aZ Z = true) (ws : List Jvm.Cond) (a0 : Addr) (cs : Int32) (dO : Addr) (dT : Addr) (fo : Addr) (ln : Int32) (b : Addr) (z : Int32) (f : Nat → Int32) (h0 : Heap) (n0 : Nat) (Z0 : n0 ≤ h0.size) (OL : Old Z n0 h0) (CS : own_CS Z cs) (DG : own_DG Z dO dT) (E_a0 : Exa Z h0 a0 "com/example/apportion/apportion/jsonl/LedgerFiles$Place") (F_file_a0 : Fld Z h0 a0 "com/example/apportion/apportion/jsonl/LedgerFiles$Place" "file" "Ljava/lang/String;" (.ref fo)) (F_line_a0 : Fld Z h0 a0 "com/example/apportion/apportion/jsonl/LedgerFiles$Place" "line" "I" (.int ln)) (E_fo : Exa Z h0 fo "java/lang/String") (F_coder_fo : Fld Z h0 fo "java/lang/String" "coder" "B" (.int (0 : Int32))) (F_value_fo : Fld Z h0 fo "java/lang/String" "value" "[B" (.ref b)) (Y_b : own_By Z h0 b z f) (hz : z.toInt ≤ 3) :
    MetFree l (⟨"com/example/apportion/apportion/jsonl/LedgerFiles$Place", "toString", "()Ljava/lang/String;"⟩ : MethodName) (head1 (Jvm.Cond.code (⟨"com/example/apportion/apportion/jsonl/LedgerFiles$Place", "toString", "()Ljava/lang/String;"⟩ : MethodName) prog_52_method_2_code 1 (some (.object "java/lang/String")) :: ws) ({ frames := 6, cells := 6, slots := 47, locals := 91 } : Room)) (fun aQ UQ => aQ = #[(.ref a0)] ∧ Z.Warmed39 UQ.vm ∧ UQ.heap = h0 ∧ CHv Z consts_1 UQ.vm h0 ∧ ∀ x ∈ ([] : List Addr), Safe Z consts_1 UQ.vm h0 x) (fun _ _ _ _ _ => True) (fun _ UQ oQ UR => ∃ vQ LQ, oQ = .returned vQ ∧ Q9 Z a0 cs dO dT fo ln b z f h0 n0 vQ UR.vm UR.heap LQ ∧ ReturnedEndW UQ oQ UR LQ ({ frames := 6, cells := 6, slots := 47, locals := 91 } : Room).cells ({ frames := 6, cells := 6, slots := 47, locals := 91 } : Room).slots) := by
  refine MetFree.of_bodySF (plainFor_of_name pn_10) hisR ?_
  intro p e s m args below meth c s₁ Bd hml0 hP hK
  obtain ⟨rfl, hZ, hh, HC, SF0⟩ := hP
  have hZ : Z.Warmed39 (s.setVm s.vm).vm := hZ
  have hS : s.Since s.vm 0 := (State.WarmedH.refl s).since 0
  have hk : 0 ≤ h0.size := Nat.zero_le _
  have hEL := own_ew hw
  have wS := own_ws hw
  have hx := Bd.exec
  have hby := Bd.bytes
  have hml : c.maxLocals = 1 := hml0
  have hown : (s.setVm s.vm).vm.findClass "com/example/apportion/apportion/jsonl/LedgerFiles$Place" = some m.cls := findClass_of_methodNamed Bd.named
  have hnm := (name_of_methodNamed Bd.named Bd.method).1
  have X0 : Stand p l e ({ frames := 6, cells := 6, slots := 47, locals := 91 } : Room) (s.setVm s.vm) m #[(.ref a0)] below meth c s₁ [] 0 0 := Stand.of_body Bd
  have e0 : s₁.heap = h0 := by rw [← hh, Bd.state]; rfl
  have N0 := Fr.nil n0
  have K0 : Keep h0 h0 [] := Keep.refl _ _
  have w_52 := hw _ (List.mem_of_getElem? (i := 52) rfl)
  have w_54 := hw _ (List.mem_of_getElem? (i := 54) rfl)
  have w_61 := hw _ (List.mem_of_getElem? (i := 61) rfl)
  have w_62 := hw _ (List.mem_of_getElem? (i := 62) rfl)
  have w_63 := hw _ (List.mem_of_getElem? (i := 63) rfl)
  have w_64 := hw _ (List.mem_of_getElem? (i := 64) rfl)
  have w_65 := hw _ (List.mem_of_getElem? (i := 65) rfl)
  have w_66 := hw _ (List.mem_of_getElem? (i := 66) rfl)
  have w_76 := hw _ (List.mem_of_getElem? (i := 76) rfl)
  have w_78 := hw _ (List.mem_of_getElem? (i := 78) rfl)
  have w_79 := hw _ (List.mem_of_getElem? (i := 79) rfl)
  have w_80 := hw _ (List.mem_of_getElem? (i := 80) rfl)
  have w_81 := hw _ (List.mem_of_getElem? (i := 81) rfl)
  have w_82 := hw _ (List.mem_of_getElem? (i := 82) rfl)
  have w_83 := hw _ (List.mem_of_getElem? (i := 83) rfl)
  have w_100 := hw _ (List.mem_of_getElem? (i := 100) rfl)
  have w_126 := hw _ (List.mem_of_getElem? (i := 126) rfl)
  have w_129 := hw _ (List.mem_of_getElem? (i := 129) rfl)
  have w_130 := hw _ (List.mem_of_getElem? (i := 130) rfl)
  have w_131 := hw _ (List.mem_of_getElem? (i := 131) rfl)
  have w_132 := hw _ (List.mem_of_getElem? (i := 132) rfl)
  have w_133 := hw _ (List.mem_of_getElem? (i := 133) rfl)
  have w_151 := hw _ (List.mem_of_getElem? (i := 151) rfl)
  have w_152 := hw _ (List.mem_of_getElem? (i := 152) rfl)
  have w_153 := hw _ (List.mem_of_getElem? (i := 153) rfl)
  have w_154 := hw _ (List.mem_of_getElem? (i := 154) rfl)
  have w_155 := hw _ (List.mem_of_getElem? (i := 155) rfl)
  have first_ : Rn p e below (s₁.setTop (mkF m 0 #[.val (.ref a0)] [])) (Fn9 Z a0 cs dO dT fo ln b z f h0 n0 s) := by
    generalize hG : (Fn9 Z a0 cs dO dT fo ln b z f h0 n0 s) = G
    have hz0 := own_nn Y_b.nneg
    refine R.newO X0 hx hZ hown w_61 w_62 w_63 e0 (hb hby d9_0) (pc' := 3) rfl (by decide) (by decide) ?_; intro T1 h1 b1 g1 X1 e1 E1 AA1 D1
    have g_b1 : n0 ≤ b1 := Nat.le_trans Z0 (Nat.le_of_eq g1.symm)
    have sz_b1 : h0.size ≤ b1 := Nat.le_trans K0.1 (Nat.le_of_eq g1.symm)
    have ne_a0_b1 : a0 ≠ b1 := Nat.ne_of_lt (Nat.lt_of_lt_of_le E_a0.lt (Nat.le_of_eq g1.symm))
    have ne_fo_b1 : fo ≠ b1 := Nat.ne_of_lt (Nat.lt_of_lt_of_le E_fo.lt (Nat.le_of_eq g1.symm))
    have ne_b_b1 : b ≠ b1 := Nat.ne_of_lt (Nat.lt_of_lt_of_le Y_b.lt (Nat.le_of_eq g1.symm))
    have K1 : Keep h0 h1 [] := K0.ext E1
    have Z1 : n0 ≤ h1.size := Nat.le_trans Z0 E1.1
    have hk := Nat.le_trans hk E1.1
    have OL := OL.ext E1
    have E_a0 := E_a0.ext E1
    have F_file_a0 := F_file_a0.ext E1
    have F_line_a0 := F_line_a0.ext E1
    have E_fo := E_fo.ext E1
    have F_coder_fo := F_coder_fo.ext E1
    have F_value_fo := F_value_fo.ext E1
    have Y_b := Y_b.ext E1
    have E_b1 := AA1
    have F_value_b1 : Fld Z h1 b1 "java/lang/AbstractStringBuilder" "value" "[B" .null := D1 (Or.inl w_76) (ty := (.array .byte)) (by decide)
    have F_coder_b1 : Fld Z h1 b1 "java/lang/AbstractStringBuilder" "coder" "B" (.int (0 : Int32)) := D1 (Or.inl w_78) (ty := .byte) (by decide)
    have F_count_b1 : Fld Z h1 b1 "java/lang/AbstractStringBuilder" "count" "I" (.int (0 : Int32)) := D1 (Or.inl w_100) (ty := .int) (by decide)
    refine R.dup X1 hx (hb hby d9_3) rfl (pc' := 4) rfl ?_
    refine R.special X1 hx hZ (y := mY30) rfl hown w_64 w_65 w_63 w_66 (by decide) e1 (rm10 l Z aZ hw [] b1 cs h1 n0 Z1 OL CS E_b1 F_coder_b1 F_value_b1 F_count_b1 g_b1) (by decide) (W := 1) (Nat.le_of_eq rfl) (by decide) (by rw [hml]; rfl) (lenOf pd_23 rfl) rfl (hb hby d9_4) (pc' := 7) rfl (by decide) (by decide) ?_; intro v2 T2 L2 X2 hQ2
    obtain ⟨d_2, rfl, N2q, Kc2, P2_0, P2_1, P2_2, P2_3, P2_4, P2_5⟩ := hQ2
    have N2 := Fr.app N0 N2q
    generalize e2 : T2.heap = h2 at Kc2 P2_0 P2_1 P2_2 P2_3 P2_4 P2_5
    have K2 : Keep h0 h2 [] := K1.trans Kc2 ((allS (Or.inr sz_b1) all0))
    have Z2 : n0 ≤ h2.size := Nat.le_trans Z1 Kc2.1
    have hk := Nat.le_trans hk Kc2.1
    have ne_a0_d_2 : a0 ≠ d_2 := Nat.ne_of_lt (Nat.lt_of_lt_of_le E_a0.lt P2_0)
    have ne_fo_d_2 : fo ≠ d_2 := Nat.ne_of_lt (Nat.lt_of_lt_of_le E_fo.lt P2_0)
    have ne_b_d_2 : b ≠ d_2 := Nat.ne_of_lt (Nat.lt_of_lt_of_le Y_b.lt P2_0)
    have ne_b1_d_2 : b1 ≠ d_2 := Nat.ne_of_lt (Nat.lt_of_lt_of_le E_b1.lt P2_0)
    have g_d_2 : n0 ≤ d_2 := Nat.le_trans Z1 P2_0
    have sz_d_2 : h0.size ≤ d_2 := Nat.le_trans K1.1 P2_0
    have OL := OL.keep Kc2 (allS g_b1 all0)
    have E_a0 := E_a0.keep Kc2
    have F_file_a0 := F_file_a0.keep Kc2 (ninS ne_a0_b1 nin0)
    have F_line_a0 := F_line_a0.keep Kc2 (ninS ne_a0_b1 nin0)
    have E_fo := E_fo.keep Kc2
    have F_coder_fo := F_coder_fo.keep Kc2 (ninS ne_fo_b1 nin0)
    have F_value_fo := F_value_fo.keep Kc2 (ninS ne_fo_b1 nin0)
    have Y_b := Y_b.keep Kc2 (ninS ne_b_b1 nin0)
    have fresh_2 := P2_0
    have E_b1 : Exa Z h2 b1 "java/lang/StringBuilder" := P2_1
    have F_coder_b1 : Fld Z h2 b1 "java/lang/AbstractStringBuilder" "coder" "B" (.int (0 : Int32)) := P2_2
    have F_value_b1 : Fld Z h2 b1 "java/lang/AbstractStringBuilder" "value" "[B" (.ref d_2) := P2_3
    have F_count_b1 : Fld Z h2 b1 "java/lang/AbstractStringBuilder" "count" "I" (.int (0 : Int32)) := P2_4
    have Y_d_2 : own_By Z h2 d_2 (16 : Int32) (fun _ => 0) := P2_5
    refine R.aloadN X2 hx (hb hby d9_7) rfl rfl (pc' := 8) rfl ?_
    refine R.getF X2 hx hZ hown (host := "") (Or.inl w_52) Via.refl e2 F_file_a0 (hb hby d9_8) (pc' := 11) rfl ?_; intro T3 X3 e3
    refine R.virtual X3 hx hZ (y := mY31) (z := mY31) hown w_79 w_80 (notFace_of_selects (args := #[]) (mvT hZ w_82)) w_82 w_81 w_63 w_83 (by decide) e3 E_b1 (rm12 l Z aZ hw [] b1 fo cs b z f d_2 (0 : Int32) (fun _ => 0) h2 n0 Z2 OL CS E_b1 F_coder_b1 F_value_b1 F_count_b1 Y_d_2 g_b1 g_d_2 ne_b1_d_2 E_fo F_coder_fo F_value_fo Y_b (by have t0 : (0 : Int32).toInt = 0 := (by decide); have t1 : (1 : Int32).toInt = 1 := (by decide); omega)) (by decide) (W := 0) (Nat.le_of_eq rfl) (by decide) (by rw [hml]; rfl) (lenOf pd_24 rfl) rfl (hb hby d9_11) (pc' := 14) rfl (by decide) (by decide) ?_; intro v4 T4 L4 X4 hQ4
    obtain ⟨rfl, N4q, Kc4, P4_0, P4_1, P4_2, P4_3, P4_4⟩ := hQ4
    have N4 := Fr.app N2 N4q
    generalize e4 : T4.heap = h4 at Kc4 P4_0 P4_1 P4_2 P4_3 P4_4
    have K4 : Keep h0 h4 [] := K2.trans Kc4 ((allS (Or.inr sz_b1) (allS (Or.inr sz_d_2) all0)))
    have Z4 : n0 ≤ h4.size := Nat.le_trans Z2 Kc4.1
    have hk := Nat.le_trans hk Kc4.1
    have OL := OL.keep Kc4 (allS g_b1 (allS g_d_2 all0))
    have E_a0 := E_a0.keep Kc4
    have F_file_a0 := F_file_a0.keep Kc4 (ninS ne_a0_b1 (ninS ne_a0_d_2 nin0))
    have F_line_a0 := F_line_a0.keep Kc4 (ninS ne_a0_b1 (ninS ne_a0_d_2 nin0))
    have E_fo := E_fo.keep Kc4
    have F_coder_fo := F_coder_fo.keep Kc4 (ninS ne_fo_b1 (ninS ne_fo_d_2 nin0))
    have F_value_fo := F_value_fo.keep Kc4 (ninS ne_fo_b1 (ninS ne_fo_d_2 nin0))
    have Y_b := Y_b.keep Kc4 (ninS ne_b_b1 (ninS ne_b_d_2 nin0))
    have E_b1 : Exa Z h4 b1 "java/lang/StringBuilder" := P4_0
    have F_coder_b1 : Fld Z h4 b1 "java/lang/AbstractStringBuilder" "coder" "B" (.int (0 : Int32)) := P4_1
    have F_value_b1 : Fld Z h4 b1 "java/lang/AbstractStringBuilder" "value" "[B" (.ref d_2) := P4_2
    have F_count_b1 : Fld Z h4 b1 "java/lang/AbstractStringBuilder" "count" "I" (.int ((0 : Int32) + z)) := P4_3
    have Y_d_2 : own_By Z h4 d_2 (16 : Int32) (own_cp (fun _ => 0) (0 : Int32).toInt.toNat z.toInt.toNat f (0 : Int32).toInt.toNat) := P4_4
    have c1 : ((0 : Int32) + z).toInt = z.toInt := by rw [own_addI] <;> (have t0 : (0 : Int32).toInt = 0 := (by decide); have t1 : (1 : Int32).toInt = 1 := (by decide); omega)
    refine R.ldcH X4 hx hZ hS hk hEL (by decide) (HC.keep K4 (fun x q => nomatch q)) hown w_126 wS e4 (z := (1 : Int32)) (f := (fun _ => (58 : Int32))) (n := 4) (vs := [(.int (58 : Int32))]) ⟨by decide, by decide⟩ (by decide) (by decide) (fun i hi => by have e : i = 0 := (by have q : ((1 : Int32)).toNatClampNeg = 1 := (by decide); omega); subst e; rfl) (by decide) (by decide) (hb hby d9_14) (pc' := 16) rfl (by decide) (by decide) ?_; intro T5 h5 k5 b5 c5 X5 e5 E5 hS hk1 hZ hown EE5 Fc5 Fv5 BB5 CR5 NE5
    have K5 : Keep h0 h5 [] := K4.ext E5
    have Z5 : n0 ≤ h5.size := Nat.le_trans Z4 E5.1
    have hk := hk1
    have OL := OL.ext E5
    have E_a0 := E_a0.ext E5
    have F_file_a0 := F_file_a0.ext E5
    have F_line_a0 := F_line_a0.ext E5
    have E_fo := E_fo.ext E5
    have F_coder_fo := F_coder_fo.ext E5
    have F_value_fo := F_value_fo.ext E5
    have Y_b := Y_b.ext E5
    have E_b1 := E_b1.ext E5
    have F_coder_b1 := F_coder_b1.ext E5
    have F_value_b1 := F_value_b1.ext E5
    have F_count_b1 := F_count_b1.ext E5
    have Y_d_2 := Y_d_2.ext E5
    have HC := CR5.1
    refine R.virtual X5 hx hZ (y := mY31) (z := mY31) hown w_79 w_80 (notFace_of_selects (args := #[]) (mvT hZ w_82)) w_82 w_81 w_63 w_83 (by decide) e5 E_b1 (rm12 l Z aZ hw [] b1 b5 cs c5 (1 : Int32) (fun _ => (58 : Int32)) d_2 ((0 : Int32) + z) (own_cp (fun _ => 0) (0 : Int32).toInt.toNat z.toInt.toNat f (0 : Int32).toInt.toNat) h5 n0 Z5 OL CS E_b1 F_coder_b1 F_value_b1 F_count_b1 Y_d_2 g_b1 g_d_2 ne_b1_d_2 EE5 Fc5 Fv5 BB5 (by have t0 : (0 : Int32).toInt = 0 := (by decide); have t1 : (1 : Int32).toInt = 1 := (by decide); omega)) (by decide) (W := 0) (Nat.le_of_eq rfl) (by decide) (by rw [hml]; rfl) (lenOf pd_24 rfl) rfl (hb hby d9_16) (pc' := 19) rfl (by decide) (by decide) ?_; intro v6 T6 L6 X6 hQ6
    obtain ⟨rfl, N6q, Kc6, P6_0, P6_1, P6_2, P6_3, P6_4⟩ := hQ6
    have N6 := Fr.app N4 N6q
    generalize e6 : T6.heap = h6 at Kc6 P6_0 P6_1 P6_2 P6_3 P6_4
    have K6 : Keep h0 h6 [] := K5.trans Kc6 ((allS (Or.inr sz_b1) (allS (Or.inr sz_d_2) all0)))
    have Z6 : n0 ≤ h6.size := Nat.le_trans Z5 Kc6.1
    have hk := Nat.le_trans hk Kc6.1
    have OL := OL.keep Kc6 (allS g_b1 (allS g_d_2 all0))
    have E_a0 := E_a0.keep Kc6
    have F_file_a0 := F_file_a0.keep Kc6 (ninS ne_a0_b1 (ninS ne_a0_d_2 nin0))
    have F_line_a0 := F_line_a0.keep Kc6 (ninS ne_a0_b1 (ninS ne_a0_d_2 nin0))
    have E_fo := E_fo.keep Kc6
    have F_coder_fo := F_coder_fo.keep Kc6 (ninS ne_fo_b1 (ninS ne_fo_d_2 nin0))
    have F_value_fo := F_value_fo.keep Kc6 (ninS ne_fo_b1 (ninS ne_fo_d_2 nin0))
    have Y_b := Y_b.keep Kc6 (ninS ne_b_b1 (ninS ne_b_d_2 nin0))
    have EE5 := EE5.keep Kc6
    have E_b1 : Exa Z h6 b1 "java/lang/StringBuilder" := P6_0
    have F_coder_b1 : Fld Z h6 b1 "java/lang/AbstractStringBuilder" "coder" "B" (.int (0 : Int32)) := P6_1
    have F_value_b1 : Fld Z h6 b1 "java/lang/AbstractStringBuilder" "value" "[B" (.ref d_2) := P6_2
    have F_count_b1 : Fld Z h6 b1 "java/lang/AbstractStringBuilder" "count" "I" (.int (((0 : Int32) + z) + (1 : Int32))) := P6_3
    have Y_d_2 : own_By Z h6 d_2 (16 : Int32) (own_cp (own_cp (fun _ => 0) (0 : Int32).toInt.toNat z.toInt.toNat f (0 : Int32).toInt.toNat) ((0 : Int32) + z).toInt.toNat (1 : Int32).toInt.toNat (fun _ => (58 : Int32)) (0 : Int32).toInt.toNat) := P6_4
    have c2 : (((0 : Int32) + z) + (1 : Int32)).toInt = z.toInt + 1 := by rw [own_addI] <;> (have t0 : (0 : Int32).toInt = 0 := (by decide); have t1 : (1 : Int32).toInt = 1 := (by decide); omega)
    refine R.aloadN X6 hx (hb hby d9_19) rfl rfl (pc' := 20) rfl ?_
    refine R.getF X6 hx hZ hown (host := "") (Or.inl w_54) Via.refl e6 F_line_a0 (hb hby d9_20) (pc' := 23) rfl ?_; intro T7 X7 e7
    refine R.virtual X7 hx hZ (y := mY32) (z := mY32) hown w_129 w_130 (notFace_of_selects (args := #[]) (mvT hZ w_132)) w_132 w_131 w_63 w_133 (by decide) e7 E_b1 (rm20 l Z aZ hw [] b1 ln cs dO dT d_2 (((0 : Int32) + z) + (1 : Int32)) (own_cp (own_cp (fun _ => 0) (0 : Int32).toInt.toNat z.toInt.toNat f (0 : Int32).toInt.toNat) ((0 : Int32) + z).toInt.toNat (1 : Int32).toInt.toNat (fun _ => (58 : Int32)) (0 : Int32).toInt.toNat) h6 n0 Z6 OL CS DG E_b1 F_coder_b1 F_value_b1 F_count_b1 Y_d_2 g_b1 g_d_2 ne_b1_d_2 (by omega)) (by decide) (W := 0) (Nat.le_of_eq rfl) (by decide) (by rw [hml]; rfl) (lenOf pd_25 rfl) rfl (hb hby d9_23) (pc' := 26) rfl (by decide) (by decide) ?_; intro v8 T8 L8 X8 hQ8
    obtain ⟨c'_8, g'_8, nd_8, rfl, N8q, Kc8, P8_0, P8_1, P8_2, P8_3, P8_4, P8_5, P8_6, P8_7⟩ := hQ8
    have N8 := Fr.app N6 N8q
    generalize e8 : T8.heap = h8 at Kc8 P8_0 P8_1 P8_2 P8_3 P8_4 P8_5 P8_6 P8_7
    have K8 : Keep h0 h8 [] := K6.trans Kc8 ((allS (Or.inr sz_b1) (allS (Or.inr sz_d_2) all0)))
    have Z8 : n0 ≤ h8.size := Nat.le_trans Z6 Kc8.1
    have hk := Nat.le_trans hk Kc8.1
    have OL := OL.keep Kc8 (allS g_b1 (allS g_d_2 all0))
    have E_a0 := E_a0.keep Kc8
    have F_file_a0 := F_file_a0.keep Kc8 (ninS ne_a0_b1 (ninS ne_a0_d_2 nin0))
    have F_line_a0 := F_line_a0.keep Kc8 (ninS ne_a0_b1 (ninS ne_a0_d_2 nin0))
    have E_fo := E_fo.keep Kc8
    have F_coder_fo := F_coder_fo.keep Kc8 (ninS ne_fo_b1 (ninS ne_fo_d_2 nin0))
    have F_value_fo := F_value_fo.keep Kc8 (ninS ne_fo_b1 (ninS ne_fo_d_2 nin0))
    have Y_b := Y_b.keep Kc8 (ninS ne_b_b1 (ninS ne_b_d_2 nin0))
    have EE5 := EE5.keep Kc8
    have E_b1 : Exa Z h8 b1 "java/lang/StringBuilder" := P8_0
    have F_coder_b1 : Fld Z h8 b1 "java/lang/AbstractStringBuilder" "coder" "B" (.int (0 : Int32)) := P8_1
    have F_value_b1 : Fld Z h8 b1 "java/lang/AbstractStringBuilder" "value" "[B" (.ref d_2) := P8_2
    have F_count_b1 : Fld Z h8 b1 "java/lang/AbstractStringBuilder" "count" "I" (.int (c'_8)) := P8_3
    have Y_d_2 : own_By Z h8 d_2 (16 : Int32) (g'_8) := P8_4
    have hx_8 := P8_5
    have ct_8 := P8_6
    have gc_8 := P8_7
    have hnn := hx_8.1
    have hn10 := hx_8.2.1
    have hsg := own_sg01 ln.toInt
    refine R.virtual X8 hx hZ (y := mY33) (z := mY33) hown w_151 w_152 (notFace_of_selects (args := #[]) (mvT hZ w_154)) w_154 w_153 w_63 w_155 (by decide) e8 E_b1 (rm25 l Z aZ hw [] b1 cs d_2 (c'_8) (g'_8) h8 n0 Z8 OL CS E_b1 F_coder_b1 F_value_b1 F_count_b1 Y_d_2 (by have q := ct_8; omega)) (by decide) (W := 0) (Nat.le_of_eq rfl) (by decide) (by rw [hml]; rfl) (lenOf pd_26 rfl) rfl (hb hby d9_26) (pc' := 29) rfl (by decide) (by decide) ?_; intro v9 T9 L9 X9 hQ9
    obtain ⟨o_9, r_9, rfl, N9q, Kc9, P9_0, P9_1, P9_2, P9_3, P9_4, P9_5⟩ := hQ9
    have N9 := Fr.app N8 N9q
    generalize e9 : T9.heap = h9 at Kc9 P9_0 P9_1 P9_2 P9_3 P9_4 P9_5
    have K9 : Keep h0 h9 [] := K8.trans Kc9 (all0)
    have Z9 : n0 ≤ h9.size := Nat.le_trans Z8 Kc9.1
    have hk := Nat.le_trans hk Kc9.1
    have ne_a0_o_9 : a0 ≠ o_9 := Nat.ne_of_lt (Nat.lt_of_lt_of_le E_a0.lt P9_0)
    have ne_fo_o_9 : fo ≠ o_9 := Nat.ne_of_lt (Nat.lt_of_lt_of_le E_fo.lt P9_0)
    have ne_b_o_9 : b ≠ o_9 := Nat.ne_of_lt (Nat.lt_of_lt_of_le Y_b.lt P9_0)
    have ne_b1_o_9 : b1 ≠ o_9 := Nat.ne_of_lt (Nat.lt_of_lt_of_le E_b1.lt P9_0)
    have ne_d_2_o_9 : d_2 ≠ o_9 := Nat.ne_of_lt (Nat.lt_of_lt_of_le Y_d_2.lt P9_0)
    have ne_b5_o_9 : b5 ≠ o_9 := Nat.ne_of_lt (Nat.lt_of_lt_of_le EE5.lt P9_0)
    have g_o_9 : n0 ≤ o_9 := Nat.le_trans Z8 P9_0
    have sz_o_9 : h0.size ≤ o_9 := Nat.le_trans K8.1 P9_0
    have ne_a0_r_9 : a0 ≠ r_9 := Nat.ne_of_lt (Nat.lt_of_lt_of_le E_a0.lt P9_1)
    have ne_fo_r_9 : fo ≠ r_9 := Nat.ne_of_lt (Nat.lt_of_lt_of_le E_fo.lt P9_1)
    have ne_b_r_9 : b ≠ r_9 := Nat.ne_of_lt (Nat.lt_of_lt_of_le Y_b.lt P9_1)
    have ne_b1_r_9 : b1 ≠ r_9 := Nat.ne_of_lt (Nat.lt_of_lt_of_le E_b1.lt P9_1)
    have ne_d_2_r_9 : d_2 ≠ r_9 := Nat.ne_of_lt (Nat.lt_of_lt_of_le Y_d_2.lt P9_1)
    have ne_b5_r_9 : b5 ≠ r_9 := Nat.ne_of_lt (Nat.lt_of_lt_of_le EE5.lt P9_1)
    have g_r_9 : n0 ≤ r_9 := Nat.le_trans Z8 P9_1
    have sz_r_9 : h0.size ≤ r_9 := Nat.le_trans K8.1 P9_1
    have OL := OL.keep Kc9 all0
    have E_a0 := E_a0.keep Kc9
    have F_file_a0 := F_file_a0.keep Kc9 nin0
    have F_line_a0 := F_line_a0.keep Kc9 nin0
    have E_fo := E_fo.keep Kc9
    have F_coder_fo := F_coder_fo.keep Kc9 nin0
    have F_value_fo := F_value_fo.keep Kc9 nin0
    have Y_b := Y_b.keep Kc9 nin0
    have EE5 := EE5.keep Kc9
    have E_b1 := E_b1.keep Kc9
    have F_coder_b1 := F_coder_b1.keep Kc9 nin0
    have F_value_b1 := F_value_b1.keep Kc9 nin0
    have F_count_b1 := F_count_b1.keep Kc9 nin0
    have Y_d_2 := Y_d_2.keep Kc9 nin0
    have fro_9 := P9_0
    have frr_9 := P9_1
    have E_o_9 : Exa Z h9 o_9 "java/lang/String" := P9_2
    have F_coder_o_9 : Fld Z h9 o_9 "java/lang/String" "coder" "B" (.int (0 : Int32)) := P9_3
    have F_value_o_9 : Fld Z h9 o_9 "java/lang/String" "value" "[B" (.ref r_9) := P9_4
    have Y_r_9 : own_By Z h9 r_9 (c'_8) (own_cp (fun _ => 0) 0 (c'_8).toInt.toNat (g'_8) 0) := P9_5
    rw [← hG]
    exact Rn.retW X9 hS hk (BodyLoose.notSynchronized Bd) (v := some (.ref o_9)) (fun h => by rw [Bd.returns] at h; cases h) (Q := Q9 Z a0 cs dO dT fo ln b z f h0 n0) e9 (fun fs hr => retOut X9 hx (t := (.object "java/lang/String")) Bd.returns rfl (Or.inr (Or.inr (Or.inr (Or.inr ⟨rfl, rfl, rfl⟩)))) (hb hby d9_29) hr) ⟨o_9, r_9, c'_8, (own_cp (fun _ => 0) 0 (c'_8).toInt.toNat (g'_8) 0), nd_8, rfl, N9, K9, E_o_9, F_coder_o_9, F_value_o_9, Y_r_9, (hx_8), (by have q := ct_8; omega), (own_ts hz0 c1 c2 ct_8 gc_8)⟩ (by decide) (by decide)
  exact (Rn.st (fun t k => castTop (ef_9 m a0) k) first_ : Rn p e below (s₁.setTop (entryFrame m #[(.ref a0)] 1)) (Fn9 Z a0 cs dO dT fo ln b z f h0 n0 s))
theorem d42_0 : decode method_4_code 0 = .ok (.iload_n 3, 1) := by decide +kernel
theorem d42_1 : decode method_4_code 1 = .ok (.iload_n 2, 1) := by decide +kernel
theorem d42_2 : decode method_4_code 2 = .ok (.if_icmp .lt 5, 3) := by decide +kernel
theorem d42_7 : decode method_4_code 7 = .ok (.lload 4, 2) := by decide +kernel
theorem d42_9 : decode method_4_code 9 = .ok (.aload 6, 2) := by decide +kernel
theorem d42_11 : decode method_4_code 11 = .ok (.iload_n 2, 1) := by decide +kernel
theorem d42_12 : decode method_4_code 12 = .ok (.iconst 1, 1) := by decide +kernel
theorem d42_13 : decode method_4_code 13 = .ok (.isub, 1) := by decide +kernel
theorem d42_14 : decode method_4_code 14 = .ok (.iload_n 3, 1) := by decide +kernel
theorem d42_15 : decode method_4_code 15 = .ok (.isub, 1) := by decide +kernel
theorem d42_16 : decode method_4_code 16 = .ok (.laload, 1) := by decide +kernel
theorem d42_17 : decode method_4_code 17 = .ok (.ldiv, 1) := by decide +kernel
theorem d42_18 : decode method_4_code 18 = .ok (.ldc2_w 7, 3) := by decide +kernel
theorem d42_21 : decode method_4_code 21 = .ok (.lrem, 1) := by decide +kernel
theorem d42_22 : decode method_4_code 22 = .ok (.lstore 7, 2) := by decide +kernel
theorem d42_24 : decode method_4_code 24 = .ok (.aload_n 0, 1) := by decide +kernel
theorem d42_25 : decode method_4_code 25 = .ok (.iload_n 1, 1) := by decide +kernel
theorem d42_26 : decode method_4_code 26 = .ok (.iload_n 3, 1) := by decide +kernel
theorem d42_27 : decode method_4_code 27 = .ok (.iadd, 1) := by decide +kernel
theorem d42_28 : decode method_4_code 28 = .ok (.invokevirtual 55, 3) := by decide +kernel
theorem pd_27 : parseMethodDescriptor "(I)C" = some ⟨[.int], some .char⟩ := by decide +kernel
abbrev mY34 : MethodName := (⟨"java/lang/String", "charAt", "(I)C"⟩ : MethodName)
theorem d42_31 : decode method_4_code 31 = .ok (.bipush 48, 2) := by decide +kernel
theorem d42_33 : decode method_4_code 33 = .ok (.lload 7, 2) := by decide +kernel
theorem d42_35 : decode method_4_code 35 = .ok (.l2i, 1) := by decide +kernel
theorem d42_36 : decode method_4_code 36 = .ok (.iadd, 1) := by decide +kernel
theorem d42_37 : decode method_4_code 37 = .ok (.i2c, 1) := by decide +kernel
theorem d42_38 : decode method_4_code 38 = .ok (.if_icmp .ne 7, 3) := by decide +kernel
theorem d42_41 : decode method_4_code 41 = .ok (.iconst 1, 1) := by decide +kernel
theorem d42_42 : decode method_4_code 42 = .ok (.goto 4, 3) := by decide +kernel
theorem d42_46 : decode method_4_code 46 = .ok (.ireturn, 1) := by decide +kernel
theorem d42_5 : decode method_4_code 5 = .ok (.iconst 1, 1) := by decide +kernel
theorem d42_6 : decode method_4_code 6 = .ok (.ireturn, 1) := by decide +kernel
theorem ef_42 (m : MethodId) (x0 : Addr) (x1 : Int32) (x2 : Int32) (x3 : Int32) (x4 : Int64) (x5 : Addr) : entryFrame m #[(.ref x0), (.int x1), (.int x2), (.int x3), (.long x4), (.ref x5)] 9 = mkF m 0 #[.val (.ref x0), .val (.int x1), .val (.int x2), .val (.int x3), .val (.long x4), .second, .val (.ref x5), .unset, .unset] [] := by first | (simp [entryFrame, mkF, argsToLocals, Value.category]; done) | rfl
def Q42 (Z : State) (a0 : Addr) (p1 : Int32) (p2 : Int32) (p3 : Int32) (q4 : Int64) (a5 : Addr) (cs : Int32) (b : Addr) (z : Int32) (f : Nat → Int32) (kp : ClassId) (h0 : Heap) (n0 : Nat) (vQ : Option Value) (hQ_ : Heap) (LQ : List Loc) : Prop := vQ = some (.int (1 : Int32)) ∧ Fr n0 LQ ∧ hQ_ = h0
def Fn42 (Z : State) (a0 : Addr) (p1 : Int32) (p2 : Int32) (p3 : Int32) (q4 : Int64) (a5 : Addr) (cs : Int32) (b : Addr) (z : Int32) (f : Nat → Int32) (kp : ClassId) (h0 : Heap) (n0 : Nat) (sQ : State) (oQ : Outcome) (UQ : State) : Prop := ∃ vQ LQ, oQ = .returned vQ ∧ Q42 Z a0 p1 p2 p3 q4 a5 cs b z f kp h0 n0 vQ UQ.heap LQ ∧ FrameEnd sQ oQ UQ LQ ({ frames := 4, cells := 0, slots := 0, locals := 53 } : Room).cells ({ frames := 4, cells := 0, slots := 0, locals := 53 } : Room).slots
set_option maxRecDepth 65536 in
set_option maxHeartbeats 40000000 in
theorem rm42 (l : Launch) (Z : State) (aZ : Array Value) (hw : ∀ d ∈ tables_1, d.before aZ Z = true) (ws : List Jvm.Cond) (a0 : Addr) (p1 : Int32) (p2 : Int32) (p3 : Int32) (q4 : Int64) (a5 : Addr) (cs : Int32) (b : Addr) (z : Int32) (f : Nat → Int32) (kp : ClassId) (h0 : Heap) (n0 : Nat) (Z0 : n0 ≤ h0.size) (OL : Old Z n0 h0) (CS : own_CS Z cs) (FM : own_FM Z) (E_a0 : Exa Z h0 a0 "java/lang/String") (F_coder_a0 : Fld Z h0 a0 "java/lang/String" "coder" "B" (.int (0 : Int32))) (F_value_a0 : Fld Z h0 a0 "java/lang/String" "value" "[B" (.ref b)) (Y_b : own_By Z h0 b z f) (V_a5 : Arh Z h0 a5 kp .long (10 : Int32) [((9 : Int32), (.long (1000000000 : Int64))), ((8 : Int32), (.long (100000000 : Int64))), ((7 : Int32), (.long (10000000 : Int64))), ((6 : Int32), (.long (1000000 : Int64))), ((5 : Int32), (.long (100000 : Int64))), ((4 : Int32), (.long (10000 : Int64))), ((3 : Int32), (.long (1000 : Int64))), ((2 : Int32), (.long (100 : Int64))), ((1 : Int32), (.long (10 : Int64))), ((0 : Int32), (.long (1 : Int64)))] [] (.long (0 : Int64))) (hk_ : p3.toInt < p2.toInt → 0 ≤ p1.toInt + p3.toInt ∧ p1.toInt + p3.toInt < z.toInt ∧ (f (p1.toInt + p3.toInt).toNat).toInt = 48 + ((q4.toInt.toNat / 10 ^ (p2.toInt - 1 - p3.toInt).toNat % 10 : Nat) : Int)) (h3_ : 0 ≤ p3.toInt) (h2_ : p2.toInt ≤ 10) (h4_ : 0 ≤ q4.toInt) :
    MetFree l (⟨"com/example/apportion/apportion/jsonl/PlaceToStringPinLaw", "digitOk", "(Ljava/lang/String;IIIJ[J)Z"⟩ : MethodName) (head1 (Jvm.Cond.code (⟨"com/example/apportion/apportion/jsonl/PlaceToStringPinLaw", "digitOk", "(Ljava/lang/String;IIIJ[J)Z"⟩ : MethodName) method_4_code 9 (some .boolean) :: ws) ({ frames := 4, cells := 0, slots := 0, locals := 53 } : Room)) (fun aQ UQ => aQ = #[(.ref a0), (.int p1), (.int p2), (.int p3), (.long q4), (.ref a5)] ∧ Z.Warmed39 UQ.vm ∧ UQ.heap = h0) (fun _ _ _ _ _ => True) (fun _ UQ oQ UR => ∃ vQ LQ, oQ = .returned vQ ∧ Q42 Z a0 p1 p2 p3 q4 a5 cs b z f kp h0 n0 vQ UR.heap LQ ∧ FrameEnd UQ oQ UR LQ ({ frames := 4, cells := 0, slots := 0, locals := 53 } : Room).cells ({ frames := 4, cells := 0, slots := 0, locals := 53 } : Room).slots) := by
  refine MetFree.of_bodySF (plainFor_of_name pn_7) hisR ?_
  intro p e s m args below meth c s₁ Bd hml0 hP hK
  obtain ⟨rfl, hZ, hh⟩ := hP
  have hx := Bd.exec
  have hby := Bd.bytes
  have hml : c.maxLocals = 9 := hml0
  have hown : s.vm.findClass "com/example/apportion/apportion/jsonl/PlaceToStringPinLaw" = some m.cls := findClass_of_methodNamed Bd.named
  have hnm := (name_of_methodNamed Bd.named Bd.method).1
  have X0 : Stand p l e ({ frames := 4, cells := 0, slots := 0, locals := 53 } : Room) s m #[(.ref a0), (.int p1), (.int p2), (.int p3), (.long q4), (.ref a5)] below meth c s₁ [] 0 0 := Stand.of_body Bd
  have e0 : s₁.heap = h0 := by rw [← hh, Bd.state]; rfl
  have N0 := Fr.nil n0
  have K0 : Keep h0 h0 [] := Keep.refl _ _
  have w_2 := hw _ (List.mem_of_getElem? (i := 2) rfl)
  have w_13 := hw _ (List.mem_of_getElem? (i := 13) rfl)
  have w_200 := hw _ (List.mem_of_getElem? (i := 200) rfl)
  have w_201 := hw _ (List.mem_of_getElem? (i := 201) rfl)
  have w_202 := hw _ (List.mem_of_getElem? (i := 202) rfl)
  have w_203 := hw _ (List.mem_of_getElem? (i := 203) rfl)
  have w_204 := hw _ (List.mem_of_getElem? (i := 204) rfl)
  have first_ : Rn p e below (s₁.setTop (mkF m 0 #[.val (.ref a0), .val (.int p1), .val (.int p2), .val (.int p3), .val (.long q4), .second, .val (.ref a5), .unset, .unset] [])) (Fn42 Z a0 p1 p2 p3 q4 a5 cs b z f kp h0 n0 s) := by
    generalize hG : (Fn42 Z a0 p1 p2 p3 q4 a5 cs b z f kp h0 n0 s) = G
    refine R.iloadN X0 hx (hb hby d42_0) rfl (pc' := 1) rfl ?_
    refine R.iloadN X0 hx (hb hby d42_1) rfl (pc' := 2) rfl ?_
    by_cases hc2 : p3 < p2
    · refine R.icmpYes X0 hx (hb hby d42_2) (tlt hc2).1 (by decide) (pc' := 7) (by decide) ?_
      have hlt := Int32.lt_iff_toInt_lt.mp hc2
      obtain ⟨k1, k2, k3⟩ := hk_ hlt
      have eix : ((p2 - (1 : Int32)) - p3).toInt = p2.toInt - 1 - p3.toInt := own_ix h3_ hlt h2_
      have eps : (p1 + p3).toInt = p1.toInt + p3.toInt := own_ps k1 k2
      obtain ⟨pw, hpw, epw⟩ := own_pw (j := ((p2 - (1 : Int32)) - p3)) (by omega) (by omega)
      have npw : pw ≠ (0 : Int64) := own_pw0 epw
      refine R.lload X0 hx (hb hby d42_7) rfl (pc' := 9) rfl ?_
      refine R.aload X0 hx (hb hby d42_9) rfl rfl (pc' := 11) rfl ?_
      refine R.iloadN X0 hx (hb hby d42_11) rfl (pc' := 12) rfl ?_
      refine R.iconst X0 hx (hb hby d42_12) (v := (1 : Int32)) (by decide) (pc' := 13) rfl ?_
      refine R.isub X0 hx (hb hby d42_13) rfl (pc' := 14) rfl ?_
      refine R.iloadN X0 hx (hb hby d42_14) rfl (pc' := 15) rfl ?_
      refine R.isub X0 hx (hb hby d42_15) rfl (pc' := 16) rfl ?_
      refine R.laload X0 hx hZ e0 V_a5 (own_bd (by have t : (10 : Int32).toInt = 10 := (by decide); omega) : ¬ ((p2 - (1 : Int32)) - p3) < 0 ∧ ((p2 - (1 : Int32)) - p3) < (10 : Int32)) (v := (.long pw)) (hpw) (hb hby d42_16) (pc' := 17) rfl ?_
      refine R.ldiv X0 hx (hb hby d42_17) (npw : pw ≠ (0 : Int64)) (pc' := 18) rfl ?_
      refine R.ldc2J X0 hx hZ hown w_2 (hb hby d42_18) (pc' := 21) rfl ?_
      refine R.lrem X0 hx (hb hby d42_21) (by decide : (10 : Int64) ≠ (0 : Int64)) (pc' := 22) rfl ?_
      generalize hj1 : ((q4 / pw) - ((q4 / pw) / (10 : Int64)) * (10 : Int64)) = j1
      refine R.lstore X0 hx (hb hby d42_22) (L' := #[.val (.ref a0), .val (.int p1), .val (.int p2), .val (.int p3), .val (.long q4), .second, .val (.ref a5), .val (.long j1), .second]) rfl (pc' := 24) rfl ?_
      refine R.aloadN X0 hx (hb hby d42_24) rfl rfl (pc' := 25) rfl ?_
      refine R.iloadN X0 hx (hb hby d42_25) rfl (pc' := 26) rfl ?_
      refine R.iloadN X0 hx (hb hby d42_26) rfl (pc' := 27) rfl ?_
      refine R.iadd X0 hx (hb hby d42_27) rfl (pc' := 28) rfl ?_
      refine R.virtual X0 hx hZ (y := mY34) (z := mY34) hown w_200 w_201 (notFace_of_selects (args := #[]) (mvT hZ w_203)) w_203 w_202 w_13 w_204 (by decide) e0 E_a0 (rm37 l Z aZ hw [] a0 (p1 + p3) cs b z f h0 n0 Z0 OL CS FM E_a0 F_coder_a0 F_value_a0 Y_b (own_nng (by omega)) (Int32.lt_iff_toInt_lt.mpr (by omega))) (by decide) (W := 0) (Nat.le_of_eq rfl) (by decide) (by rw [hml]; rfl) (lenOf pd_27 rfl) rfl (hb hby d42_28) (pc' := 31) rfl (by decide) (by decide) ?_; intro v2 T2 L2 X2 hQ2
      obtain ⟨r_2, rfl, N2q, e2, P2_0⟩ := hQ2
      have N2 := Fr.app N0 N2q
      have ch_2 := P2_0
      refine R.bipush X2 hx (hb hby d42_31) (v := (48 : Int32)) (by decide) (pc' := 33) rfl ?_
      refine R.lload X2 hx (hb hby d42_33) rfl (pc' := 35) rfl ?_
      refine R.l2i X2 hx (hb hby d42_35) (pc' := 36) rfl ?_
      refine R.iadd X2 hx (hb hby d42_36) rfl (pc' := 37) rfl ?_
      refine R.i2c X2 hx (hb hby d42_37) (pc' := 38) rfl ?_
      refine R.icmpNo X2 hx (hb hby d42_38) (teq (own_dig h4_ epw eix eps k3 hj1 ch_2 : r_2 = (((48 : Int32) + (j1.toInt32)).toUInt32.toUInt16.toUInt32.toInt32))).2 (pc' := 41) rfl ?_
      refine R.iconst X2 hx (hb hby d42_41) (v := (1 : Int32)) (by decide) (pc' := 42) rfl ?_
      refine R.goto X2 hx (hb hby d42_42) (by decide) (pc' := 46) (by decide) ?_
      rw [← hG]
      exact Rn.ret X2 (BodyLoose.notSynchronized Bd) (v := some (.int (1 : Int32))) (fun h => by rw [Bd.returns] at h; cases h) (Q := Q42 Z a0 p1 p2 p3 q4 a5 cs b z f kp h0 n0) e2 (fun fs hr => retN X2 hx (t := .boolean) Bd.returns (by simp) (hb hby d42_46) hr) ⟨rfl, N2, rfl⟩ (by decide) (by decide)
    · refine R.icmpNo X0 hx (hb hby d42_2) (flt hc2).1 (pc' := 5) rfl ?_
      refine R.iconst X0 hx (hb hby d42_5) (v := (1 : Int32)) (by decide) (pc' := 6) rfl ?_
      rw [← hG]
      exact Rn.ret X0 (BodyLoose.notSynchronized Bd) (v := some (.int (1 : Int32))) (fun h => by rw [Bd.returns] at h; cases h) (Q := Q42 Z a0 p1 p2 p3 q4 a5 cs b z f kp h0 n0) e0 (fun fs hr => retN X0 hx (t := .boolean) Bd.returns (by simp) (hb hby d42_6) hr) ⟨rfl, N0, rfl⟩ (by decide) (by decide)
  exact (Rn.st (fun t k => castTop (ef_42 m a0 p1 p2 p3 q4 a5) k) first_ : Rn p e below (s₁.setTop (entryFrame m #[(.ref a0), (.int p1), (.int p2), (.int p3), (.long q4), (.ref a5)] 9)) (Fn42 Z a0 p1 p2 p3 q4 a5 cs b z f kp h0 n0 s))
theorem pd_28 : parseMethodDescriptor "([C)V" = some ⟨[(.array .char)], none⟩ := by decide +kernel
abbrev mY35 : MethodName := (⟨"java/lang/String", "<init>", "([C)V"⟩ : MethodName)
theorem pd_29 : parseMethodDescriptor "(Ljava/lang/String;I)V" = some ⟨[(.object "java/lang/String"), .int], none⟩ := by decide +kernel
abbrev mY36 : MethodName := (⟨"com/example/apportion/apportion/jsonl/LedgerFiles$Place", "<init>", "(Ljava/lang/String;I)V"⟩ : MethodName)
abbrev mY37 : MethodName := (⟨"com/example/apportion/apportion/jsonl/LedgerFiles$Place", "toString", "()Ljava/lang/String;"⟩ : MethodName)
theorem pd_30 : parseMethodDescriptor "(J)J" = some ⟨[.long], some .long⟩ := by decide +kernel
abbrev mY38 : MethodName := (⟨"java/lang/Math", "abs", "(J)J"⟩ : MethodName)
theorem pd_31 : parseMethodDescriptor "(J)I" = some ⟨[.long], some .int⟩ := by decide +kernel
abbrev mY39 : MethodName := (⟨"com/example/apportion/apportion/jsonl/PlaceToStringPinLaw", "digits", "(J)I"⟩ : MethodName)
theorem pd_32 : parseMethodDescriptor "(Ljava/lang/String;IIIJ[J)Z" = some ⟨[(.object "java/lang/String"), .int, .int, .int, .long, (.array .long)], some .boolean⟩ := by decide +kernel
abbrev mY40 : MethodName := (⟨"com/example/apportion/apportion/jsonl/PlaceToStringPinLaw", "digitOk", "(Ljava/lang/String;IIIJ[J)Z"⟩ : MethodName)
theorem ef_0 (m : MethodId) (x0 : Int32) (x1 : Int32) (x2 : Int32) : entryFrame m #[(.int x0), (.int x1), (.int x2)] maxLocals = mkF m 0 #[.val (.int x0), .val (.int x1), .val (.int x2), .unset, .unset, .unset, .unset, .unset, .unset, .unset, .unset, .unset, .unset, .unset, .unset, .unset, .unset, .unset, .unset, .unset] [] := by first | (simp [entryFrame, mkF, argsToLocals, Value.category, maxLocals]; done) | rfl
def Q0 (Z : State) (p0 : Int32) (p1 : Int32) (p2 : Int32) (cs : Int32) (dO : Addr) (dT : Addr) (h0 : Heap) (n0 : Nat) (vQ : Option Value) (vmQ : Vm) (hQ_ : Heap) (LQ : List Loc) : Prop := vQ = some (.int 1) ∧ Fr n0 LQ
def Fn0 (Z : State) (p0 : Int32) (p1 : Int32) (p2 : Int32) (cs : Int32) (dO : Addr) (dT : Addr) (h0 : Heap) (n0 : Nat) (sQ : State) (oQ : Outcome) (UQ : State) : Prop := ∃ vQ LQ, oQ = .returned vQ ∧ Q0 Z p0 p1 p2 cs dO dT h0 n0 vQ UQ.vm UQ.heap LQ ∧ ReturnedEndW sQ oQ UQ LQ room_1.cells room_1.slots
set_option maxRecDepth 65536 in
set_option maxHeartbeats 40000000 in
theorem rm0_0 (l : Launch) (Z : State) (aZ : Array Value) (hw : ∀ d ∈ tables_1, d.before aZ Z = true) (ws : List Jvm.Cond) (p0 : Int32) (p1 : Int32) (p2 : Int32) (cs : Int32) (dO : Addr) (dT : Addr) (h0 : Heap) (n0 : Nat) {p : Program} {e : Env} {s : State} {m : MethodId} {below : List Frame} {meth : Method} {c : Code} {s₁ : State} (Bd : BodyLoose p l x (head1 (Jvm.Cond.code x code maxLocals ret :: ws) room_1) code maxLocals ret e s m #[(.int p0), (.int p1), (.int p2)] below meth c s₁) (hml : c.maxLocals = 20) (hZ : Z.Warmed39 (s.setVm s.vm).vm) {TL : State} {hL : Heap} {lL : List Loc} (XL : Stand p l e room_1 (s.setVm s.vm) m #[(.int p0), (.int p1), (.int p2)] below meth c TL lL 5 16) (eL : TL.heap = hL) (NL : Fr n0 lL) (KL : Keep h0 hL []) (ZL : n0 ≤ hL.size) (b11 : Addr) (b15 : Addr) (b5 : Addr) (b6 : Addr) (b8 : Addr) (i1 : Int32) (i2 : Int32) (i3 : Int32) (k15 : ClassId) (k5 : ClassId) {G : Outcome → State → Prop} (hG : (Fn0 Z p0 p1 p2 cs dO dT h0 n0 s) = G) (OL : Old Z n0 hL) (V_b5 : Arh Z hL b5 k5 .char (0 : Int32) [] [] (.int (0 : Int32))) (V_b15 : Arh Z hL b15 k15 .long (10 : Int32) [((9 : Int32), (.long (1000000000 : Int64))), ((8 : Int32), (.long (100000000 : Int64))), ((7 : Int32), (.long (10000000 : Int64))), ((6 : Int32), (.long (1000000 : Int64))), ((5 : Int32), (.long (100000 : Int64))), ((4 : Int32), (.long (10000 : Int64))), ((3 : Int32), (.long (1000 : Int64))), ((2 : Int32), (.long (100 : Int64))), ((1 : Int32), (.long (10 : Int64))), ((0 : Int32), (.long (1 : Int64)))] [] (.long (0 : Int64))) (ne_b5_b15 : b5 ≠ b15) (g_b5 : n0 ≤ b5) (g_b15 : n0 ≤ b15) (sz_b5 : h0.size ≤ b5) (sz_b15 : h0.size ≤ b15) (CS : own_CS Z cs) (FM : own_FM Z) (DG : own_DG Z dO dT) (HC : CHv Z consts_1 s.vm h0) (b_i1 : 0 ≤ i1.toInt ∧ i1.toInt ≤ 255) (b_i2 : 0 ≤ i2.toInt ∧ i2.toInt ≤ 255) (b_i3 : 0 ≤ i3.toInt ∧ i3.toInt ≤ 255) : Rn p e below (TL.setTop (mkF m 165 #[.val (.int p0), .val (.int p1), .val (.int p2), .val (.int i1), .val (.int i2), .val (.int i3), .val (.int (0 : Int32)), .val (.ref b5), .val (.ref b6), .val (.ref b8), .val (.ref b11), .val (.ref b15), .unset, .unset, .unset, .unset, .unset, .unset, .unset, .unset] [])) G := by
  have hx := Bd.exec
  have hby := Bd.bytes
  have hown : (s.setVm s.vm).vm.findClass "com/example/apportion/apportion/jsonl/PlaceToStringPinLaw" = some m.cls := findClass_of_methodNamed Bd.named
  have hnm := (name_of_methodNamed Bd.named Bd.method).1
  have w_11 := hw _ (List.mem_of_getElem? (i := 11) rfl)
  have w_12 := hw _ (List.mem_of_getElem? (i := 12) rfl)
  have w_13 := hw _ (List.mem_of_getElem? (i := 13) rfl)
  have w_14 := hw _ (List.mem_of_getElem? (i := 14) rfl)
  have w_15 := hw _ (List.mem_of_getElem? (i := 15) rfl)
  have w_16 := hw _ (List.mem_of_getElem? (i := 16) rfl)
  have w_37 := hw _ (List.mem_of_getElem? (i := 37) rfl)
  have w_39 := hw _ (List.mem_of_getElem? (i := 39) rfl)
  have w_40 := hw _ (List.mem_of_getElem? (i := 40) rfl)
  have w_41 := hw _ (List.mem_of_getElem? (i := 41) rfl)
  have w_42 := hw _ (List.mem_of_getElem? (i := 42) rfl)
  have w_43 := hw _ (List.mem_of_getElem? (i := 43) rfl)
  have w_44 := hw _ (List.mem_of_getElem? (i := 44) rfl)
  have w_45 := hw _ (List.mem_of_getElem? (i := 45) rfl)
  have w_53 := hw _ (List.mem_of_getElem? (i := 53) rfl)
  have w_55 := hw _ (List.mem_of_getElem? (i := 55) rfl)
  have w_56 := hw _ (List.mem_of_getElem? (i := 56) rfl)
  have w_57 := hw _ (List.mem_of_getElem? (i := 57) rfl)
  have w_58 := hw _ (List.mem_of_getElem? (i := 58) rfl)
  have w_59 := hw _ (List.mem_of_getElem? (i := 59) rfl)
  have w_60 := hw _ (List.mem_of_getElem? (i := 60) rfl)
  have w_90 := hw _ (List.mem_of_getElem? (i := 90) rfl)
  have w_91 := hw _ (List.mem_of_getElem? (i := 91) rfl)
  have w_92 := hw _ (List.mem_of_getElem? (i := 92) rfl)
  have w_93 := hw _ (List.mem_of_getElem? (i := 93) rfl)
  have w_189 := hw _ (List.mem_of_getElem? (i := 189) rfl)
  have w_192 := hw _ (List.mem_of_getElem? (i := 192) rfl)
  have w_193 := hw _ (List.mem_of_getElem? (i := 193) rfl)
  have w_194 := hw _ (List.mem_of_getElem? (i := 194) rfl)
  have w_195 := hw _ (List.mem_of_getElem? (i := 195) rfl)
  have w_196 := hw _ (List.mem_of_getElem? (i := 196) rfl)
  have w_197 := hw _ (List.mem_of_getElem? (i := 197) rfl)
  have w_198 := hw _ (List.mem_of_getElem? (i := 198) rfl)
  have w_199 := hw _ (List.mem_of_getElem? (i := 199) rfl)
  have w_200 := hw _ (List.mem_of_getElem? (i := 200) rfl)
  have w_201 := hw _ (List.mem_of_getElem? (i := 201) rfl)
  have w_202 := hw _ (List.mem_of_getElem? (i := 202) rfl)
  have w_203 := hw _ (List.mem_of_getElem? (i := 203) rfl)
  have w_204 := hw _ (List.mem_of_getElem? (i := 204) rfl)
  have w_222 := hw _ (List.mem_of_getElem? (i := 222) rfl)
  have w_223 := hw _ (List.mem_of_getElem? (i := 223) rfl)
  have w_224 := hw _ (List.mem_of_getElem? (i := 224) rfl)
  have hS : s.Since s.vm 0 := (State.WarmedH.refl s).since 0
  have hk : 0 ≤ hL.size := Nat.zero_le _
  have hEL := own_ew hw
  have wS := own_ws hw
  show Rn p e below (TL.setTop (mkF m 165 #[.val (.int p0), .val (.int p1), .val (.int p2), .val (.int i1), .val (.int i2), .val (.int i3), .val (.int (0 : Int32)), .val (.ref b5), .val (.ref b6), .val (.ref b8), .val (.ref b11), .val (.ref b15), .unset, .unset, .unset, .unset, .unset, .unset, .unset, .unset] [])) G
  refine R.iload XL hx (hb hby at_165) rfl (pc' := 167) rfl ?_
  refine R.ifNo XL hx (hb hby at_167) (teq (by decide : (0 : Int32) = (0 : Int32))).2 (pc' := 170) rfl ?_
  have HC := HC.keep KL (fun x q => nomatch q)
  refine R.newO XL hx hZ hown w_11 w_12 w_13 eL (hb hby at_170) (pc' := 173) rfl (by decide) (by decide) ?_; intro T26 h26 b26 g26 X26 e26 E26 AA26 D26
  have g_b26 : n0 ≤ b26 := Nat.le_trans ZL (Nat.le_of_eq g26.symm)
  have sz_b26 : h0.size ≤ b26 := Nat.le_trans KL.1 (Nat.le_of_eq g26.symm)
  have ne_b5_b26 : b5 ≠ b26 := Nat.ne_of_lt (Nat.lt_of_lt_of_le V_b5.lt (Nat.le_of_eq g26.symm))
  have ne_b15_b26 : b15 ≠ b26 := Nat.ne_of_lt (Nat.lt_of_lt_of_le V_b15.lt (Nat.le_of_eq g26.symm))
  have K26 : Keep h0 h26 [] := KL.ext E26
  have Z26 : n0 ≤ h26.size := Nat.le_trans ZL E26.1
  have hk := Nat.le_trans hk E26.1
  have SF_b26 := Safe.ext E26 HC (Safe.new (Nat.le_of_eq g26.symm) : Safe Z consts_1 s.vm hL b26)
  have HC := HC.ext E26
  have OL := OL.ext E26
  have V_b5 := V_b5.ext E26
  have V_b15 := V_b15.ext E26
  have E_b26 := AA26
  have F_coder_b26 : Fld Z h26 b26 "java/lang/String" "coder" "B" (.int (0 : Int32)) := D26 (Or.inr w_37) (ty := .byte) (by decide)
  have F_value_b26 : Fld Z h26 b26 "java/lang/String" "value" "[B" .null := D26 (Or.inr w_39) (ty := (.array .byte)) (by decide)
  refine R.dup X26 hx (hb hby at_173) rfl (pc' := 174) rfl ?_
  refine R.aload X26 hx (hb hby at_174) rfl rfl (pc' := 176) rfl ?_
  refine R.specialH X26 hx hZ hS hk hEL HC (sf := [b26]) ((allS ⟨E_b26.lt, SF_b26⟩ all0)) (y := mY35) rfl hown w_14 w_15 w_13 w_16 (by decide) e26 (rmsj0 l Z aZ hw [] b26 b5 k5 [] h26 n0 Z26 OL E_b26 F_coder_b26 F_value_b26 g_b26 V_b5 (Ne.symm ne_b5_b26)) (by decide) (W := 1) (Nat.le_of_eq rfl) (by decide) (by rw [hml]; rfl) (lenOf pd_28 rfl) rfl (hb hby at_176) (pc' := 179) rfl (by decide) (by decide) ?_; intro v27 T27 L27 k27 X27 hS hk hZ hown hQ27
  obtain ⟨r_27, rfl, N27q, Kc27, P27_0, P27_1, P27_2, P27_3, P27_4⟩ := hQ27
  have N27 := Fr.app NL N27q
  generalize e27 : T27.heap = h27 at Kc27 P27_0 P27_1 P27_2 P27_3 P27_4 hk
  have K27 : Keep h0 h27 [] := K26.trans Kc27 ((allS (Or.inr sz_b26) all0))
  have Z27 : n0 ≤ h27.size := Nat.le_trans Z26 Kc27.1
  have OL := OL.keep Kc27 (allS g_b26 all0)
  have V_b5 := V_b5.keep Kc27 (ninS ne_b5_b26 nin0)
  have V_b15 := V_b15.keep Kc27 (ninS ne_b15_b26 nin0)
  have E_b26 : Exa Z h27 b26 "java/lang/String" := P27_0
  have F_coder_b26 : Fld Z h27 b26 "java/lang/String" "coder" "B" (.int (0 : Int32)) := P27_1
  have F_value_b26 : Fld Z h27 b26 "java/lang/String" "value" "[B" (.ref r_27) := P27_2
  have Y_r_27 : own_By Z h27 r_27 (0 : Int32) (fun _ => (0 : Int32)) := P27_3
  have HC := P27_4
  refine R.astore X27 hx (hb hby at_179) rfl (L' := #[.val (.int p0), .val (.int p1), .val (.int p2), .val (.int i1), .val (.int i2), .val (.int i3), .val (.int (0 : Int32)), .val (.ref b5), .val (.ref b6), .val (.ref b8), .val (.ref b11), .val (.ref b15), .val (.ref b26), .unset, .unset, .unset, .unset, .unset, .unset, .unset]) rfl (pc' := 181) rfl ?_
  refine R.goto X27 hx (hb hby at_181) (by decide) (pc' := 235) (by decide) ?_
  refine R.newO X27 hx hZ hown w_40 w_41 w_42 e27 (hb hby at_235) (pc' := 238) rfl (by decide) (by decide) ?_; intro T28 h28 b28 g28 X28 e28 E28 AA28 D28
  have g_b28 : n0 ≤ b28 := Nat.le_trans Z27 (Nat.le_of_eq g28.symm)
  have sz_b28 : h0.size ≤ b28 := Nat.le_trans K27.1 (Nat.le_of_eq g28.symm)
  have ne_b5_b28 : b5 ≠ b28 := Nat.ne_of_lt (Nat.lt_of_lt_of_le V_b5.lt (Nat.le_of_eq g28.symm))
  have ne_b15_b28 : b15 ≠ b28 := Nat.ne_of_lt (Nat.lt_of_lt_of_le V_b15.lt (Nat.le_of_eq g28.symm))
  have ne_b26_b28 : b26 ≠ b28 := Nat.ne_of_lt (Nat.lt_of_lt_of_le E_b26.lt (Nat.le_of_eq g28.symm))
  have ne_r_27_b28 : r_27 ≠ b28 := Nat.ne_of_lt (Nat.lt_of_lt_of_le Y_r_27.lt (Nat.le_of_eq g28.symm))
  have K28 : Keep h0 h28 [] := K27.ext E28
  have Z28 : n0 ≤ h28.size := Nat.le_trans Z27 E28.1
  have hk := Nat.le_trans hk E28.1
  have HC := HC.ext E28
  have OL := OL.ext E28
  have V_b5 := V_b5.ext E28
  have V_b15 := V_b15.ext E28
  have E_b26 := E_b26.ext E28
  have F_coder_b26 := F_coder_b26.ext E28
  have F_value_b26 := F_value_b26.ext E28
  have Y_r_27 := Y_r_27.ext E28
  have E_b28 := AA28
  have F_file_b28 : Fld Z h28 b28 "com/example/apportion/apportion/jsonl/LedgerFiles$Place" "file" "Ljava/lang/String;" .null := D28 (Or.inr w_53) (ty := (.object "java/lang/String")) (by decide)
  have F_line_b28 : Fld Z h28 b28 "com/example/apportion/apportion/jsonl/LedgerFiles$Place" "line" "I" (.int (0 : Int32)) := D28 (Or.inr w_55) (ty := .int) (by decide)
  refine R.dup X28 hx (hb hby at_238) rfl (pc' := 239) rfl ?_
  refine R.aload X28 hx (hb hby at_239) rfl rfl (pc' := 241) rfl ?_
  refine R.iloadN X28 hx (hb hby at_241) rfl (pc' := 242) rfl ?_
  refine R.special X28 hx hZ (y := mY36) rfl hown w_43 w_44 w_42 w_45 (by decide) e28 (rm7 l Z aZ hw [] b28 b26 p2 h28 n0 Z28 E_b28 F_file_b28 F_line_b28 g_b28) (by decide) (W := 1) (Nat.le_of_eq rfl) (by decide) (by rw [hml]; rfl) (lenOf pd_29 rfl) rfl (hb hby at_242) (pc' := 245) rfl (by decide) (by decide) ?_; intro v29 T29 L29 X29 hQ29
  obtain ⟨rfl, N29q, Kc29, P29_0, P29_1, P29_2⟩ := hQ29
  have N29 := Fr.app N27 N29q
  generalize e29 : T29.heap = h29 at Kc29 P29_0 P29_1 P29_2
  have K29 : Keep h0 h29 [] := K28.trans Kc29 ((allS (Or.inr sz_b28) all0))
  have Z29 : n0 ≤ h29.size := Nat.le_trans Z28 Kc29.1
  have hk := Nat.le_trans hk Kc29.1
  have HC' := HC.keep Kc29 (allS (Safe.exa hZ.alike E_b28 (by decide) (by decide)) all0)
  have HC := HC'
  have OL := OL.keep Kc29 (allS g_b28 all0)
  have V_b5 := V_b5.keep Kc29 (ninS ne_b5_b28 nin0)
  have V_b15 := V_b15.keep Kc29 (ninS ne_b15_b28 nin0)
  have E_b26 := E_b26.keep Kc29
  have F_coder_b26 := F_coder_b26.keep Kc29 (ninS ne_b26_b28 nin0)
  have F_value_b26 := F_value_b26.keep Kc29 (ninS ne_b26_b28 nin0)
  have Y_r_27 := Y_r_27.keep Kc29 (ninS ne_r_27_b28 nin0)
  have E_b28 : Exa Z h29 b28 "com/example/apportion/apportion/jsonl/LedgerFiles$Place" := P29_0
  have F_file_b28 : Fld Z h29 b28 "com/example/apportion/apportion/jsonl/LedgerFiles$Place" "file" "Ljava/lang/String;" (.ref b26) := P29_1
  have F_line_b28 : Fld Z h29 b28 "com/example/apportion/apportion/jsonl/LedgerFiles$Place" "line" "I" (.int p2) := P29_2
  refine R.virtualH X29 hx hZ hS hk hEL HC (sf := []) (all0) (y := mY37) hown w_56 w_57 w_59 w_58 w_42 w_60 (by decide) e29 E_b28 (rm9 l Z aZ hw [] b28 cs dO dT b26 p2 r_27 (0 : Int32) (fun _ => (0 : Int32)) h29 n0 Z29 OL CS DG E_b28 F_file_b28 F_line_b28 E_b26 F_coder_b26 F_value_b26 Y_r_27 (by decide)) (by decide) (W := 0) (Nat.le_of_eq rfl) (by decide) (by rw [hml]; rfl) (lenOf pd_26 rfl) rfl (hb hby at_245) (pc' := 248) rfl (by decide) (by decide) ?_; intro v30 T30 L30 k30 X30 hS hk hZ hown hQ30
  obtain ⟨o_30, r_30, zr_30, ff_30, nd_30, rfl, N30q, Kc30, P30_0, P30_1, P30_2, P30_3, P30_4, P30_5, P30_6⟩ := hQ30
  have N30 := Fr.app N29 N30q
  generalize e30 : T30.heap = h30 at Kc30 P30_0 P30_1 P30_2 P30_3 P30_4 P30_5 P30_6 hk
  have K30 : Keep h0 h30 [] := K29.trans Kc30 (all0)
  have Z30 : n0 ≤ h30.size := Nat.le_trans Z29 Kc30.1
  have OL := OL.keep Kc30 all0
  have V_b5 := V_b5.keep Kc30 nin0
  have V_b15 := V_b15.keep Kc30 nin0
  have E_b26 := E_b26.keep Kc30
  have F_coder_b26 := F_coder_b26.keep Kc30 nin0
  have F_value_b26 := F_value_b26.keep Kc30 nin0
  have Y_r_27 := Y_r_27.keep Kc30 nin0
  have E_b28 := E_b28.keep Kc30
  have F_file_b28 := F_file_b28.keep Kc30 nin0
  have F_line_b28 := F_line_b28.keep Kc30 nin0
  have E_o_30 : Exa Z h30 o_30 "java/lang/String" := P30_0
  have F_coder_o_30 : Fld Z h30 o_30 "java/lang/String" "coder" "B" (.int (0 : Int32)) := P30_1
  have F_value_o_30 : Fld Z h30 o_30 "java/lang/String" "value" "[B" (.ref r_30) := P30_2
  have Y_r_30 : own_By Z h30 r_30 zr_30 ff_30 := P30_3
  have hx_30 := P30_4
  have ct_30 := P30_5
  have ts_30 := P30_6
  refine R.astore X30 hx (hb hby at_248) rfl (L' := #[.val (.int p0), .val (.int p1), .val (.int p2), .val (.int i1), .val (.int i2), .val (.int i3), .val (.int (0 : Int32)), .val (.ref b5), .val (.ref b6), .val (.ref b8), .val (.ref b11), .val (.ref b15), .val (.ref b26), .val (.ref o_30), .unset, .unset, .unset, .unset, .unset, .unset]) rfl (pc' := 250) rfl ?_
  refine R.iloadN X30 hx (hb hby at_250) rfl (pc' := 251) rfl ?_
  by_cases hc251 : p2 < (0 : Int32)
  · refine R.ifNo X30 hx (hb hby at_251) (tlt hc251).2.1 (pc' := 254) rfl ?_
    refine R.iconst X30 hx (hb hby at_254) (v := (1 : Int32)) (by decide) (pc' := 255) rfl ?_
    refine R.goto X30 hx (hb hby at_255) (by decide) (pc' := 259) (by decide) ?_
    refine R.istore X30 hx (hb hby at_259) (L' := #[.val (.int p0), .val (.int p1), .val (.int p2), .val (.int i1), .val (.int i2), .val (.int i3), .val (.int (0 : Int32)), .val (.ref b5), .val (.ref b6), .val (.ref b8), .val (.ref b11), .val (.ref b15), .val (.ref b26), .val (.ref o_30), .val (.int (1 : Int32)), .unset, .unset, .unset, .unset, .unset]) rfl (pc' := 261) rfl ?_
    have hneg : p2.toInt < 0 := own_lt0 hc251
    have hsg : own_sg p2.toInt = 1 := by unfold own_sg; rw [if_pos (by omega)]
    have bp := own_b p2
    have hn1 := hx_30.1
    have hn10 := hx_30.2.1
    have ct := ct_30
    rw [hsg] at ct
    have tz : ((0 : Int32)).toInt = 0 := by decide
    refine R.iloadN X30 hx (hb hby at_261) rfl (pc' := 262) rfl ?_
    refine R.i2l X30 hx (hb hby at_262) (pc' := 263) rfl ?_
    refine R.callS X30 hx hZ (y := mY38) hown w_192 w_193 w_189 w_194 (by decide) e30 (rm35 l Z aZ hw [] (p2.toInt64) h30 n0 Z30 (by rw [Int32.toInt_toInt64]; omega)) (by decide) (W := 0) (Nat.le_of_eq rfl) (by decide) (by rw [hml]; rfl) (lenOf pd_30 rfl) rfl (hb hby at_263) (pc' := 266) rfl (by decide) (by decide) ?_; intro v31 T31 L31 X31 hQ31
    obtain ⟨r_31, rfl, N31q, e31, P31_0⟩ := hQ31
    have N31 := Fr.app N30 N31q
    have ab_31 := P31_0
    have ab : r_31.toInt = (p2.toInt.natAbs : Int) := by have q := ab_31; rw [Int32.toInt_toInt64] at q; exact q
    refine R.lstore X31 hx (hb hby at_266) (L' := #[.val (.int p0), .val (.int p1), .val (.int p2), .val (.int i1), .val (.int i2), .val (.int i3), .val (.int (0 : Int32)), .val (.ref b5), .val (.ref b6), .val (.ref b8), .val (.ref b11), .val (.ref b15), .val (.ref b26), .val (.ref o_30), .val (.int (1 : Int32)), .val (.long r_31), .second, .unset, .unset, .unset]) rfl (pc' := 268) rfl ?_
    refine R.lload X31 hx (hb hby at_268) rfl (pc' := 270) rfl ?_
    refine R.callS X31 hx hZ (y := mY39) hown w_195 w_196 w_197 w_198 (by decide) e31 (rm36 l Z aZ hw [] r_31 h30 n0 Z30 (by omega)) (by decide) (W := 0) (Nat.le_of_eq rfl) (by decide) (by rw [hml]; rfl) (lenOf pd_31 rfl) rfl (hb hby at_270) (pc' := 273) rfl (by decide) (by decide) ?_; intro v32 T32 L32 X32 hQ32
    obtain ⟨r_32, rfl, N32q, e32, P32_0⟩ := hQ32
    have N32 := Fr.app N31 N32q
    have dg_32 := P32_0
    obtain ⟨n2, hn2, en2⟩ := dg_32
    have eab : r_31.toInt.toNat = p2.toInt.natAbs := by omega
    rw [eab] at hn2
    have enn : n2 = nd_30 := own_ndU hn2 hx_30
    rw [enn] at en2
    refine R.istore X32 hx (hb hby at_273) (L' := #[.val (.int p0), .val (.int p1), .val (.int p2), .val (.int i1), .val (.int i2), .val (.int i3), .val (.int (0 : Int32)), .val (.ref b5), .val (.ref b6), .val (.ref b8), .val (.ref b11), .val (.ref b15), .val (.ref b26), .val (.ref o_30), .val (.int (1 : Int32)), .val (.long r_31), .second, .val (.int r_32), .unset, .unset]) rfl (pc' := 275) rfl ?_
    refine R.iload X32 hx (hb hby at_275) rfl (pc' := 277) rfl ?_
    refine R.ifNo X32 hx (hb hby at_277) (feq (by decide : ¬ ((1 : Int32) = (0 : Int32)))).1 (pc' := 280) rfl ?_
    refine R.iconst X32 hx (hb hby at_280) (v := (1 : Int32)) (by decide) (pc' := 281) rfl ?_
    refine R.goto X32 hx (hb hby at_281) (by decide) (pc' := 285) (by decide) ?_
    refine R.istore X32 hx (hb hby at_285) (L' := #[.val (.int p0), .val (.int p1), .val (.int p2), .val (.int i1), .val (.int i2), .val (.int i3), .val (.int (0 : Int32)), .val (.ref b5), .val (.ref b6), .val (.ref b8), .val (.ref b11), .val (.ref b15), .val (.ref b26), .val (.ref o_30), .val (.int (1 : Int32)), .val (.long r_31), .second, .val (.int r_32), .val (.int (1 : Int32)), .unset]) rfl (pc' := 287) rfl ?_
    refine R.aload X32 hx (hb hby at_287) rfl rfl (pc' := 289) rfl ?_
    refine R.virtual X32 hx hZ (y := mY9) (z := mY9) hown w_199 w_90 (notFace_of_selects (args := #[]) (mvT hZ w_92)) w_92 w_91 w_13 w_93 (by decide) e32 E_o_30 (rm14 l Z aZ hw [] o_30 cs r_30 zr_30 ff_30 h30 n0 Z30 OL CS E_o_30 F_coder_o_30 F_value_o_30 Y_r_30) (by decide) (W := 0) (Nat.le_of_eq rfl) (by decide) (by rw [hml]; rfl) (lenOf pd_0 rfl) rfl (hb hby at_289) (pc' := 292) rfl (by decide) (by decide) ?_; intro v33 T33 L33 X33 hQ33
    obtain ⟨rfl, N33q, e33⟩ := hQ33
    have N33 := Fr.app N32 N33q
    refine R.iload X33 hx (hb hby at_292) rfl (pc' := 294) rfl ?_
    refine R.iconst X33 hx (hb hby at_294) (v := (1 : Int32)) (by decide) (pc' := 295) rfl ?_
    refine R.iadd X33 hx (hb hby at_295) (v := (1 : Int32)) (by decide) (pc' := 296) rfl ?_
    refine R.iload X33 hx (hb hby at_296) rfl (pc' := 298) rfl ?_
    refine R.iadd X33 hx (hb hby at_298) (v := (2 : Int32)) (by decide) (pc' := 299) rfl ?_
    refine R.iload X33 hx (hb hby at_299) rfl (pc' := 301) rfl ?_
    refine R.iadd X33 hx (hb hby at_301) rfl (pc' := 302) rfl ?_
    refine R.icmpYes X33 hx (hb hby at_302) (teq (own_len (k := 2) (by decide) en2 hn10 (by omega) : zr_30 = ((2 : Int32) + r_32))).1 (by decide) (pc' := 307) (by decide) ?_
    refine R.iload X33 hx (hb hby at_307) rfl (pc' := 309) rfl ?_
    refine R.ifYes X33 hx (hb hby at_309) (flt (by decide : ¬ ((0 : Int32) < (0 : Int32)))).2.2.2 (by decide) (pc' := 324) (by decide) ?_
    refine R.iload X33 hx (hb hby at_324) rfl (pc' := 326) rfl ?_
    refine R.iconst X33 hx (hb hby at_326) (v := (1 : Int32)) (by decide) (pc' := 327) rfl ?_
    refine R.icmpYes X33 hx (hb hby at_327) (flt (by decide : ¬ ((1 : Int32) < (0 : Int32)))).2.2.2 (by decide) (pc' := 343) (by decide) ?_
    refine R.iload X33 hx (hb hby at_343) rfl (pc' := 345) rfl ?_
    refine R.iconst X33 hx (hb hby at_345) (v := (2 : Int32)) (by decide) (pc' := 346) rfl ?_
    refine R.icmpYes X33 hx (hb hby at_346) (flt (by decide : ¬ ((2 : Int32) < (0 : Int32)))).2.2.2 (by decide) (pc' := 362) (by decide) ?_
    refine R.aload X33 hx (hb hby at_362) rfl rfl (pc' := 364) rfl ?_
    refine R.iload X33 hx (hb hby at_364) rfl (pc' := 366) rfl ?_
    refine R.virtual X33 hx hZ (y := mY34) (z := mY34) hown w_200 w_201 (notFace_of_selects (args := #[]) (mvT hZ w_203)) w_203 w_202 w_13 w_204 (by decide) e33 E_o_30 (rm37 l Z aZ hw [] o_30 (0 : Int32) cs r_30 zr_30 ff_30 h30 n0 Z30 OL CS FM E_o_30 F_coder_o_30 F_value_o_30 Y_r_30 (by decide) (own_ltI (k := 0) (by decide) (by omega))) (by decide) (W := 0) (Nat.le_of_eq rfl) (by decide) (by rw [hml]; rfl) (lenOf pd_27 rfl) rfl (hb hby at_366) (pc' := 369) rfl (by decide) (by decide) ?_; intro v34 T34 L34 X34 hQ34
    obtain ⟨r_34, rfl, N34q, e34, P34_0⟩ := hQ34
    have N34 := Fr.app N33 N34q
    have ch_34 := P34_0
    refine R.bipush X34 hx (hb hby at_369) (v := (58 : Int32)) (by decide) (pc' := 371) rfl ?_
    refine R.icmpYes X34 hx (hb hby at_371) (teq (own_chv ts_30.2.1 (by decide) ch_34 : r_34 = (58 : Int32))).1 (by decide) (pc' := 376) (by decide) ?_
    refine R.iload X34 hx (hb hby at_376) rfl (pc' := 378) rfl ?_
    refine R.ifNo X34 hx (hb hby at_378) (feq (by decide : ¬ ((1 : Int32) = (0 : Int32)))).1 (pc' := 381) rfl ?_
    refine R.aload X34 hx (hb hby at_381) rfl rfl (pc' := 383) rfl ?_
    refine R.iload X34 hx (hb hby at_383) rfl (pc' := 385) rfl ?_
    refine R.iconst X34 hx (hb hby at_385) (v := (1 : Int32)) (by decide) (pc' := 386) rfl ?_
    refine R.iadd X34 hx (hb hby at_386) (v := (1 : Int32)) (by decide) (pc' := 387) rfl ?_
    refine R.virtual X34 hx hZ (y := mY34) (z := mY34) hown w_200 w_201 (notFace_of_selects (args := #[]) (mvT hZ w_203)) w_203 w_202 w_13 w_204 (by decide) e34 E_o_30 (rm37 l Z aZ hw [] o_30 (1 : Int32) cs r_30 zr_30 ff_30 h30 n0 Z30 OL CS FM E_o_30 F_coder_o_30 F_value_o_30 Y_r_30 (by decide) (own_ltI (k := 1) (by decide) (by omega))) (by decide) (W := 0) (Nat.le_of_eq rfl) (by decide) (by rw [hml]; rfl) (lenOf pd_27 rfl) rfl (hb hby at_387) (pc' := 390) rfl (by decide) (by decide) ?_; intro v35 T35 L35 X35 hQ35
    obtain ⟨r_35, rfl, N35q, e35, P35_0⟩ := hQ35
    have N35 := Fr.app N34 N35q
    have ch_35 := P35_0
    refine R.bipush X35 hx (hb hby at_390) (v := (45 : Int32)) (by decide) (pc' := 392) rfl ?_
    refine R.icmpYes X35 hx (hb hby at_392) (teq (own_chv (i := ((1 : Int32)).toNatClampNeg) (ts_30.2.2.1 hsg) (by decide) ch_35 : r_35 = (45 : Int32))).1 (by decide) (pc' := 397) (by decide) ?_
    refine R.iload X35 hx (hb hby at_397) rfl (pc' := 399) rfl ?_
    refine R.iconst X35 hx (hb hby at_399) (v := (1 : Int32)) (by decide) (pc' := 400) rfl ?_
    refine R.iadd X35 hx (hb hby at_400) (v := (1 : Int32)) (by decide) (pc' := 401) rfl ?_
    refine R.iload X35 hx (hb hby at_401) rfl (pc' := 403) rfl ?_
    refine R.iadd X35 hx (hb hby at_403) (v := (2 : Int32)) (by decide) (pc' := 404) rfl ?_
    refine R.istore X35 hx (hb hby at_404) (L' := #[.val (.int p0), .val (.int p1), .val (.int p2), .val (.int i1), .val (.int i2), .val (.int i3), .val (.int (0 : Int32)), .val (.ref b5), .val (.ref b6), .val (.ref b8), .val (.ref b11), .val (.ref b15), .val (.ref b26), .val (.ref o_30), .val (.int (1 : Int32)), .val (.long r_31), .second, .val (.int r_32), .val (.int (1 : Int32)), .val (.int (2 : Int32))]) rfl (pc' := 406) rfl ?_
    refine R.aload X35 hx (hb hby at_406) rfl rfl (pc' := 408) rfl ?_
    refine R.iload X35 hx (hb hby at_408) rfl (pc' := 410) rfl ?_
    refine R.iload X35 hx (hb hby at_410) rfl (pc' := 412) rfl ?_
    refine R.iconst X35 hx (hb hby at_412) (v := (0 : Int32)) (by decide) (pc' := 413) rfl ?_
    refine R.lload X35 hx (hb hby at_413) rfl (pc' := 415) rfl ?_
    refine R.aload X35 hx (hb hby at_415) rfl rfl (pc' := 417) rfl ?_
    refine R.callS X35 hx hZ (y := mY40) hown w_222 w_223 w_197 w_224 (by decide) e35 (rm42 l Z aZ hw [] o_30 (2 : Int32) r_32 (0 : Int32) r_31 b15 cs r_30 zr_30 ff_30 k15 h30 n0 Z30 OL CS FM E_o_30 F_coder_o_30 F_value_o_30 Y_r_30 V_b15 (own_hk ts_30 en2 eab ct_30 hsg (z := (0 : Int32)) (B := (2 : Int32)) (K := (0 : Int32)) (by decide) (by decide) (by decide)) (by decide) (by omega) (by omega)) (by decide) (W := 0) (Nat.le_of_eq rfl) (by decide) (by rw [hml]; rfl) (lenOf pd_32 rfl) rfl (hb hby at_417) (pc' := 420) rfl (by decide) (by decide) ?_; intro v36 T36 L36 X36 hQ36
    obtain ⟨rfl, N36q, e36⟩ := hQ36
    have N36 := Fr.app N35 N36q
    refine R.ifNo X36 hx (hb hby at_420) (feq (by decide : ¬ ((1 : Int32) = (0 : Int32)))).1 (pc' := 423) rfl ?_
    refine R.aload X36 hx (hb hby at_423) rfl rfl (pc' := 425) rfl ?_
    refine R.iload X36 hx (hb hby at_425) rfl (pc' := 427) rfl ?_
    refine R.iload X36 hx (hb hby at_427) rfl (pc' := 429) rfl ?_
    refine R.iconst X36 hx (hb hby at_429) (v := (1 : Int32)) (by decide) (pc' := 430) rfl ?_
    refine R.lload X36 hx (hb hby at_430) rfl (pc' := 432) rfl ?_
    refine R.aload X36 hx (hb hby at_432) rfl rfl (pc' := 434) rfl ?_
    refine R.callS X36 hx hZ (y := mY40) hown w_222 w_223 w_197 w_224 (by decide) e36 (rm42 l Z aZ hw [] o_30 (2 : Int32) r_32 (1 : Int32) r_31 b15 cs r_30 zr_30 ff_30 k15 h30 n0 Z30 OL CS FM E_o_30 F_coder_o_30 F_value_o_30 Y_r_30 V_b15 (own_hk ts_30 en2 eab ct_30 hsg (z := (0 : Int32)) (B := (2 : Int32)) (K := (1 : Int32)) (by decide) (by decide) (by decide)) (by decide) (by omega) (by omega)) (by decide) (W := 0) (Nat.le_of_eq rfl) (by decide) (by rw [hml]; rfl) (lenOf pd_32 rfl) rfl (hb hby at_434) (pc' := 437) rfl (by decide) (by decide) ?_; intro v37 T37 L37 X37 hQ37
    obtain ⟨rfl, N37q, e37⟩ := hQ37
    have N37 := Fr.app N36 N37q
    refine R.ifNo X37 hx (hb hby at_437) (feq (by decide : ¬ ((1 : Int32) = (0 : Int32)))).1 (pc' := 440) rfl ?_
    refine R.aload X37 hx (hb hby at_440) rfl rfl (pc' := 442) rfl ?_
    refine R.iload X37 hx (hb hby at_442) rfl (pc' := 444) rfl ?_
    refine R.iload X37 hx (hb hby at_444) rfl (pc' := 446) rfl ?_
    refine R.iconst X37 hx (hb hby at_446) (v := (2 : Int32)) (by decide) (pc' := 447) rfl ?_
    refine R.lload X37 hx (hb hby at_447) rfl (pc' := 449) rfl ?_
    refine R.aload X37 hx (hb hby at_449) rfl rfl (pc' := 451) rfl ?_
    refine R.callS X37 hx hZ (y := mY40) hown w_222 w_223 w_197 w_224 (by decide) e37 (rm42 l Z aZ hw [] o_30 (2 : Int32) r_32 (2 : Int32) r_31 b15 cs r_30 zr_30 ff_30 k15 h30 n0 Z30 OL CS FM E_o_30 F_coder_o_30 F_value_o_30 Y_r_30 V_b15 (own_hk ts_30 en2 eab ct_30 hsg (z := (0 : Int32)) (B := (2 : Int32)) (K := (2 : Int32)) (by decide) (by decide) (by decide)) (by decide) (by omega) (by omega)) (by decide) (W := 0) (Nat.le_of_eq rfl) (by decide) (by rw [hml]; rfl) (lenOf pd_32 rfl) rfl (hb hby at_451) (pc' := 454) rfl (by decide) (by decide) ?_; intro v38 T38 L38 X38 hQ38
    obtain ⟨rfl, N38q, e38⟩ := hQ38
    have N38 := Fr.app N37 N38q
    refine R.ifNo X38 hx (hb hby at_454) (feq (by decide : ¬ ((1 : Int32) = (0 : Int32)))).1 (pc' := 457) rfl ?_
    refine R.aload X38 hx (hb hby at_457) rfl rfl (pc' := 459) rfl ?_
    refine R.iload X38 hx (hb hby at_459) rfl (pc' := 461) rfl ?_
    refine R.iload X38 hx (hb hby at_461) rfl (pc' := 463) rfl ?_
    refine R.iconst X38 hx (hb hby at_463) (v := (3 : Int32)) (by decide) (pc' := 464) rfl ?_
    refine R.lload X38 hx (hb hby at_464) rfl (pc' := 466) rfl ?_
    refine R.aload X38 hx (hb hby at_466) rfl rfl (pc' := 468) rfl ?_
    refine R.callS X38 hx hZ (y := mY40) hown w_222 w_223 w_197 w_224 (by decide) e38 (rm42 l Z aZ hw [] o_30 (2 : Int32) r_32 (3 : Int32) r_31 b15 cs r_30 zr_30 ff_30 k15 h30 n0 Z30 OL CS FM E_o_30 F_coder_o_30 F_value_o_30 Y_r_30 V_b15 (own_hk ts_30 en2 eab ct_30 hsg (z := (0 : Int32)) (B := (2 : Int32)) (K := (3 : Int32)) (by decide) (by decide) (by decide)) (by decide) (by omega) (by omega)) (by decide) (W := 0) (Nat.le_of_eq rfl) (by decide) (by rw [hml]; rfl) (lenOf pd_32 rfl) rfl (hb hby at_468) (pc' := 471) rfl (by decide) (by decide) ?_; intro v39 T39 L39 X39 hQ39
    obtain ⟨rfl, N39q, e39⟩ := hQ39
    have N39 := Fr.app N38 N39q
    refine R.ifNo X39 hx (hb hby at_471) (feq (by decide : ¬ ((1 : Int32) = (0 : Int32)))).1 (pc' := 474) rfl ?_
    refine R.aload X39 hx (hb hby at_474) rfl rfl (pc' := 476) rfl ?_
    refine R.iload X39 hx (hb hby at_476) rfl (pc' := 478) rfl ?_
    refine R.iload X39 hx (hb hby at_478) rfl (pc' := 480) rfl ?_
    refine R.iconst X39 hx (hb hby at_480) (v := (4 : Int32)) (by decide) (pc' := 481) rfl ?_
    refine R.lload X39 hx (hb hby at_481) rfl (pc' := 483) rfl ?_
    refine R.aload X39 hx (hb hby at_483) rfl rfl (pc' := 485) rfl ?_
    refine R.callS X39 hx hZ (y := mY40) hown w_222 w_223 w_197 w_224 (by decide) e39 (rm42 l Z aZ hw [] o_30 (2 : Int32) r_32 (4 : Int32) r_31 b15 cs r_30 zr_30 ff_30 k15 h30 n0 Z30 OL CS FM E_o_30 F_coder_o_30 F_value_o_30 Y_r_30 V_b15 (own_hk ts_30 en2 eab ct_30 hsg (z := (0 : Int32)) (B := (2 : Int32)) (K := (4 : Int32)) (by decide) (by decide) (by decide)) (by decide) (by omega) (by omega)) (by decide) (W := 0) (Nat.le_of_eq rfl) (by decide) (by rw [hml]; rfl) (lenOf pd_32 rfl) rfl (hb hby at_485) (pc' := 488) rfl (by decide) (by decide) ?_; intro v40 T40 L40 X40 hQ40
    obtain ⟨rfl, N40q, e40⟩ := hQ40
    have N40 := Fr.app N39 N40q
    refine R.ifNo X40 hx (hb hby at_488) (feq (by decide : ¬ ((1 : Int32) = (0 : Int32)))).1 (pc' := 491) rfl ?_
    refine R.aload X40 hx (hb hby at_491) rfl rfl (pc' := 493) rfl ?_
    refine R.iload X40 hx (hb hby at_493) rfl (pc' := 495) rfl ?_
    refine R.iload X40 hx (hb hby at_495) rfl (pc' := 497) rfl ?_
    refine R.iconst X40 hx (hb hby at_497) (v := (5 : Int32)) (by decide) (pc' := 498) rfl ?_
    refine R.lload X40 hx (hb hby at_498) rfl (pc' := 500) rfl ?_
    refine R.aload X40 hx (hb hby at_500) rfl rfl (pc' := 502) rfl ?_
    refine R.callS X40 hx hZ (y := mY40) hown w_222 w_223 w_197 w_224 (by decide) e40 (rm42 l Z aZ hw [] o_30 (2 : Int32) r_32 (5 : Int32) r_31 b15 cs r_30 zr_30 ff_30 k15 h30 n0 Z30 OL CS FM E_o_30 F_coder_o_30 F_value_o_30 Y_r_30 V_b15 (own_hk ts_30 en2 eab ct_30 hsg (z := (0 : Int32)) (B := (2 : Int32)) (K := (5 : Int32)) (by decide) (by decide) (by decide)) (by decide) (by omega) (by omega)) (by decide) (W := 0) (Nat.le_of_eq rfl) (by decide) (by rw [hml]; rfl) (lenOf pd_32 rfl) rfl (hb hby at_502) (pc' := 505) rfl (by decide) (by decide) ?_; intro v41 T41 L41 X41 hQ41
    obtain ⟨rfl, N41q, e41⟩ := hQ41
    have N41 := Fr.app N40 N41q
    refine R.ifNo X41 hx (hb hby at_505) (feq (by decide : ¬ ((1 : Int32) = (0 : Int32)))).1 (pc' := 508) rfl ?_
    refine R.aload X41 hx (hb hby at_508) rfl rfl (pc' := 510) rfl ?_
    refine R.iload X41 hx (hb hby at_510) rfl (pc' := 512) rfl ?_
    refine R.iload X41 hx (hb hby at_512) rfl (pc' := 514) rfl ?_
    refine R.bipush X41 hx (hb hby at_514) (v := (6 : Int32)) (by decide) (pc' := 516) rfl ?_
    refine R.lload X41 hx (hb hby at_516) rfl (pc' := 518) rfl ?_
    refine R.aload X41 hx (hb hby at_518) rfl rfl (pc' := 520) rfl ?_
    refine R.callS X41 hx hZ (y := mY40) hown w_222 w_223 w_197 w_224 (by decide) e41 (rm42 l Z aZ hw [] o_30 (2 : Int32) r_32 (6 : Int32) r_31 b15 cs r_30 zr_30 ff_30 k15 h30 n0 Z30 OL CS FM E_o_30 F_coder_o_30 F_value_o_30 Y_r_30 V_b15 (own_hk ts_30 en2 eab ct_30 hsg (z := (0 : Int32)) (B := (2 : Int32)) (K := (6 : Int32)) (by decide) (by decide) (by decide)) (by decide) (by omega) (by omega)) (by decide) (W := 0) (Nat.le_of_eq rfl) (by decide) (by rw [hml]; rfl) (lenOf pd_32 rfl) rfl (hb hby at_520) (pc' := 523) rfl (by decide) (by decide) ?_; intro v42 T42 L42 X42 hQ42
    obtain ⟨rfl, N42q, e42⟩ := hQ42
    have N42 := Fr.app N41 N42q
    refine R.ifNo X42 hx (hb hby at_523) (feq (by decide : ¬ ((1 : Int32) = (0 : Int32)))).1 (pc' := 526) rfl ?_
    refine R.aload X42 hx (hb hby at_526) rfl rfl (pc' := 528) rfl ?_
    refine R.iload X42 hx (hb hby at_528) rfl (pc' := 530) rfl ?_
    refine R.iload X42 hx (hb hby at_530) rfl (pc' := 532) rfl ?_
    refine R.bipush X42 hx (hb hby at_532) (v := (7 : Int32)) (by decide) (pc' := 534) rfl ?_
    refine R.lload X42 hx (hb hby at_534) rfl (pc' := 536) rfl ?_
    refine R.aload X42 hx (hb hby at_536) rfl rfl (pc' := 538) rfl ?_
    refine R.callS X42 hx hZ (y := mY40) hown w_222 w_223 w_197 w_224 (by decide) e42 (rm42 l Z aZ hw [] o_30 (2 : Int32) r_32 (7 : Int32) r_31 b15 cs r_30 zr_30 ff_30 k15 h30 n0 Z30 OL CS FM E_o_30 F_coder_o_30 F_value_o_30 Y_r_30 V_b15 (own_hk ts_30 en2 eab ct_30 hsg (z := (0 : Int32)) (B := (2 : Int32)) (K := (7 : Int32)) (by decide) (by decide) (by decide)) (by decide) (by omega) (by omega)) (by decide) (W := 0) (Nat.le_of_eq rfl) (by decide) (by rw [hml]; rfl) (lenOf pd_32 rfl) rfl (hb hby at_538) (pc' := 541) rfl (by decide) (by decide) ?_; intro v43 T43 L43 X43 hQ43
    obtain ⟨rfl, N43q, e43⟩ := hQ43
    have N43 := Fr.app N42 N43q
    refine R.ifNo X43 hx (hb hby at_541) (feq (by decide : ¬ ((1 : Int32) = (0 : Int32)))).1 (pc' := 544) rfl ?_
    refine R.aload X43 hx (hb hby at_544) rfl rfl (pc' := 546) rfl ?_
    refine R.iload X43 hx (hb hby at_546) rfl (pc' := 548) rfl ?_
    refine R.iload X43 hx (hb hby at_548) rfl (pc' := 550) rfl ?_
    refine R.bipush X43 hx (hb hby at_550) (v := (8 : Int32)) (by decide) (pc' := 552) rfl ?_
    refine R.lload X43 hx (hb hby at_552) rfl (pc' := 554) rfl ?_
    refine R.aload X43 hx (hb hby at_554) rfl rfl (pc' := 556) rfl ?_
    refine R.callS X43 hx hZ (y := mY40) hown w_222 w_223 w_197 w_224 (by decide) e43 (rm42 l Z aZ hw [] o_30 (2 : Int32) r_32 (8 : Int32) r_31 b15 cs r_30 zr_30 ff_30 k15 h30 n0 Z30 OL CS FM E_o_30 F_coder_o_30 F_value_o_30 Y_r_30 V_b15 (own_hk ts_30 en2 eab ct_30 hsg (z := (0 : Int32)) (B := (2 : Int32)) (K := (8 : Int32)) (by decide) (by decide) (by decide)) (by decide) (by omega) (by omega)) (by decide) (W := 0) (Nat.le_of_eq rfl) (by decide) (by rw [hml]; rfl) (lenOf pd_32 rfl) rfl (hb hby at_556) (pc' := 559) rfl (by decide) (by decide) ?_; intro v44 T44 L44 X44 hQ44
    obtain ⟨rfl, N44q, e44⟩ := hQ44
    have N44 := Fr.app N43 N44q
    refine R.ifNo X44 hx (hb hby at_559) (feq (by decide : ¬ ((1 : Int32) = (0 : Int32)))).1 (pc' := 562) rfl ?_
    refine R.aload X44 hx (hb hby at_562) rfl rfl (pc' := 564) rfl ?_
    refine R.iload X44 hx (hb hby at_564) rfl (pc' := 566) rfl ?_
    refine R.iload X44 hx (hb hby at_566) rfl (pc' := 568) rfl ?_
    refine R.bipush X44 hx (hb hby at_568) (v := (9 : Int32)) (by decide) (pc' := 570) rfl ?_
    refine R.lload X44 hx (hb hby at_570) rfl (pc' := 572) rfl ?_
    refine R.aload X44 hx (hb hby at_572) rfl rfl (pc' := 574) rfl ?_
    refine R.callS X44 hx hZ (y := mY40) hown w_222 w_223 w_197 w_224 (by decide) e44 (rm42 l Z aZ hw [] o_30 (2 : Int32) r_32 (9 : Int32) r_31 b15 cs r_30 zr_30 ff_30 k15 h30 n0 Z30 OL CS FM E_o_30 F_coder_o_30 F_value_o_30 Y_r_30 V_b15 (own_hk ts_30 en2 eab ct_30 hsg (z := (0 : Int32)) (B := (2 : Int32)) (K := (9 : Int32)) (by decide) (by decide) (by decide)) (by decide) (by omega) (by omega)) (by decide) (W := 0) (Nat.le_of_eq rfl) (by decide) (by rw [hml]; rfl) (lenOf pd_32 rfl) rfl (hb hby at_574) (pc' := 577) rfl (by decide) (by decide) ?_; intro v45 T45 L45 X45 hQ45
    obtain ⟨rfl, N45q, e45⟩ := hQ45
    have N45 := Fr.app N44 N45q
    refine R.ifNo X45 hx (hb hby at_577) (feq (by decide : ¬ ((1 : Int32) = (0 : Int32)))).1 (pc' := 580) rfl ?_
    refine R.iconst X45 hx (hb hby at_580) (v := (1 : Int32)) (by decide) (pc' := 581) rfl ?_
    refine R.goto X45 hx (hb hby at_581) (by decide) (pc' := 585) (by decide) ?_
    rw [← hG]
    exact Rn.retW X45 hS hk (BodyLoose.notSynchronized Bd) (v := some (.int (1 : Int32))) (fun h => by rw [Bd.returns] at h; cases h) (Q := Q0 Z p0 p1 p2 cs dO dT h0 n0) e45 (fun fs hr => retN X45 hx (t := .boolean) Bd.returns (by simp) (hb hby at_585) hr) ⟨rfl, N45⟩ (by decide) (by decide)
  · refine R.ifYes X30 hx (hb hby at_251) (flt hc251).2.1 (by decide) (pc' := 258) (by decide) ?_
    refine R.iconst X30 hx (hb hby at_258) (v := (0 : Int32)) (by decide) (pc' := 259) rfl ?_
    refine R.istore X30 hx (hb hby at_259) (L' := #[.val (.int p0), .val (.int p1), .val (.int p2), .val (.int i1), .val (.int i2), .val (.int i3), .val (.int (0 : Int32)), .val (.ref b5), .val (.ref b6), .val (.ref b8), .val (.ref b11), .val (.ref b15), .val (.ref b26), .val (.ref o_30), .val (.int (0 : Int32)), .unset, .unset, .unset, .unset, .unset]) rfl (pc' := 261) rfl ?_
    have hneg : 0 ≤ p2.toInt := own_ge0 hc251
    have hsg : own_sg p2.toInt = 0 := by unfold own_sg; rw [if_neg (by omega)]
    have bp := own_b p2
    have hn1 := hx_30.1
    have hn10 := hx_30.2.1
    have ct := ct_30
    rw [hsg] at ct
    have tz : ((0 : Int32)).toInt = 0 := by decide
    refine R.iloadN X30 hx (hb hby at_261) rfl (pc' := 262) rfl ?_
    refine R.i2l X30 hx (hb hby at_262) (pc' := 263) rfl ?_
    refine R.callS X30 hx hZ (y := mY38) hown w_192 w_193 w_189 w_194 (by decide) e30 (rm35 l Z aZ hw [] (p2.toInt64) h30 n0 Z30 (by rw [Int32.toInt_toInt64]; omega)) (by decide) (W := 0) (Nat.le_of_eq rfl) (by decide) (by rw [hml]; rfl) (lenOf pd_30 rfl) rfl (hb hby at_263) (pc' := 266) rfl (by decide) (by decide) ?_; intro v46 T46 L46 X46 hQ46
    obtain ⟨r_46, rfl, N46q, e46, P46_0⟩ := hQ46
    have N46 := Fr.app N30 N46q
    have ab_46 := P46_0
    have ab : r_46.toInt = (p2.toInt.natAbs : Int) := by have q := ab_46; rw [Int32.toInt_toInt64] at q; exact q
    refine R.lstore X46 hx (hb hby at_266) (L' := #[.val (.int p0), .val (.int p1), .val (.int p2), .val (.int i1), .val (.int i2), .val (.int i3), .val (.int (0 : Int32)), .val (.ref b5), .val (.ref b6), .val (.ref b8), .val (.ref b11), .val (.ref b15), .val (.ref b26), .val (.ref o_30), .val (.int (0 : Int32)), .val (.long r_46), .second, .unset, .unset, .unset]) rfl (pc' := 268) rfl ?_
    refine R.lload X46 hx (hb hby at_268) rfl (pc' := 270) rfl ?_
    refine R.callS X46 hx hZ (y := mY39) hown w_195 w_196 w_197 w_198 (by decide) e46 (rm36 l Z aZ hw [] r_46 h30 n0 Z30 (by omega)) (by decide) (W := 0) (Nat.le_of_eq rfl) (by decide) (by rw [hml]; rfl) (lenOf pd_31 rfl) rfl (hb hby at_270) (pc' := 273) rfl (by decide) (by decide) ?_; intro v47 T47 L47 X47 hQ47
    obtain ⟨r_47, rfl, N47q, e47, P47_0⟩ := hQ47
    have N47 := Fr.app N46 N47q
    have dg_47 := P47_0
    obtain ⟨n2, hn2, en2⟩ := dg_47
    have eab : r_46.toInt.toNat = p2.toInt.natAbs := by omega
    rw [eab] at hn2
    have enn : n2 = nd_30 := own_ndU hn2 hx_30
    rw [enn] at en2
    refine R.istore X47 hx (hb hby at_273) (L' := #[.val (.int p0), .val (.int p1), .val (.int p2), .val (.int i1), .val (.int i2), .val (.int i3), .val (.int (0 : Int32)), .val (.ref b5), .val (.ref b6), .val (.ref b8), .val (.ref b11), .val (.ref b15), .val (.ref b26), .val (.ref o_30), .val (.int (0 : Int32)), .val (.long r_46), .second, .val (.int r_47), .unset, .unset]) rfl (pc' := 275) rfl ?_
    refine R.iload X47 hx (hb hby at_275) rfl (pc' := 277) rfl ?_
    refine R.ifYes X47 hx (hb hby at_277) (teq (by decide : (0 : Int32) = (0 : Int32))).1 (by decide) (pc' := 284) (by decide) ?_
    refine R.iconst X47 hx (hb hby at_284) (v := (0 : Int32)) (by decide) (pc' := 285) rfl ?_
    refine R.istore X47 hx (hb hby at_285) (L' := #[.val (.int p0), .val (.int p1), .val (.int p2), .val (.int i1), .val (.int i2), .val (.int i3), .val (.int (0 : Int32)), .val (.ref b5), .val (.ref b6), .val (.ref b8), .val (.ref b11), .val (.ref b15), .val (.ref b26), .val (.ref o_30), .val (.int (0 : Int32)), .val (.long r_46), .second, .val (.int r_47), .val (.int (0 : Int32)), .unset]) rfl (pc' := 287) rfl ?_
    refine R.aload X47 hx (hb hby at_287) rfl rfl (pc' := 289) rfl ?_
    refine R.virtual X47 hx hZ (y := mY9) (z := mY9) hown w_199 w_90 (notFace_of_selects (args := #[]) (mvT hZ w_92)) w_92 w_91 w_13 w_93 (by decide) e47 E_o_30 (rm14 l Z aZ hw [] o_30 cs r_30 zr_30 ff_30 h30 n0 Z30 OL CS E_o_30 F_coder_o_30 F_value_o_30 Y_r_30) (by decide) (W := 0) (Nat.le_of_eq rfl) (by decide) (by rw [hml]; rfl) (lenOf pd_0 rfl) rfl (hb hby at_289) (pc' := 292) rfl (by decide) (by decide) ?_; intro v48 T48 L48 X48 hQ48
    obtain ⟨rfl, N48q, e48⟩ := hQ48
    have N48 := Fr.app N47 N48q
    refine R.iload X48 hx (hb hby at_292) rfl (pc' := 294) rfl ?_
    refine R.iconst X48 hx (hb hby at_294) (v := (1 : Int32)) (by decide) (pc' := 295) rfl ?_
    refine R.iadd X48 hx (hb hby at_295) (v := (1 : Int32)) (by decide) (pc' := 296) rfl ?_
    refine R.iload X48 hx (hb hby at_296) rfl (pc' := 298) rfl ?_
    refine R.iadd X48 hx (hb hby at_298) (v := (1 : Int32)) (by decide) (pc' := 299) rfl ?_
    refine R.iload X48 hx (hb hby at_299) rfl (pc' := 301) rfl ?_
    refine R.iadd X48 hx (hb hby at_301) rfl (pc' := 302) rfl ?_
    refine R.icmpYes X48 hx (hb hby at_302) (teq (own_len (k := 1) (by decide) en2 hn10 (by omega) : zr_30 = ((1 : Int32) + r_47))).1 (by decide) (pc' := 307) (by decide) ?_
    refine R.iload X48 hx (hb hby at_307) rfl (pc' := 309) rfl ?_
    refine R.ifYes X48 hx (hb hby at_309) (flt (by decide : ¬ ((0 : Int32) < (0 : Int32)))).2.2.2 (by decide) (pc' := 324) (by decide) ?_
    refine R.iload X48 hx (hb hby at_324) rfl (pc' := 326) rfl ?_
    refine R.iconst X48 hx (hb hby at_326) (v := (1 : Int32)) (by decide) (pc' := 327) rfl ?_
    refine R.icmpYes X48 hx (hb hby at_327) (flt (by decide : ¬ ((1 : Int32) < (0 : Int32)))).2.2.2 (by decide) (pc' := 343) (by decide) ?_
    refine R.iload X48 hx (hb hby at_343) rfl (pc' := 345) rfl ?_
    refine R.iconst X48 hx (hb hby at_345) (v := (2 : Int32)) (by decide) (pc' := 346) rfl ?_
    refine R.icmpYes X48 hx (hb hby at_346) (flt (by decide : ¬ ((2 : Int32) < (0 : Int32)))).2.2.2 (by decide) (pc' := 362) (by decide) ?_
    refine R.aload X48 hx (hb hby at_362) rfl rfl (pc' := 364) rfl ?_
    refine R.iload X48 hx (hb hby at_364) rfl (pc' := 366) rfl ?_
    refine R.virtual X48 hx hZ (y := mY34) (z := mY34) hown w_200 w_201 (notFace_of_selects (args := #[]) (mvT hZ w_203)) w_203 w_202 w_13 w_204 (by decide) e48 E_o_30 (rm37 l Z aZ hw [] o_30 (0 : Int32) cs r_30 zr_30 ff_30 h30 n0 Z30 OL CS FM E_o_30 F_coder_o_30 F_value_o_30 Y_r_30 (by decide) (own_ltI (k := 0) (by decide) (by omega))) (by decide) (W := 0) (Nat.le_of_eq rfl) (by decide) (by rw [hml]; rfl) (lenOf pd_27 rfl) rfl (hb hby at_366) (pc' := 369) rfl (by decide) (by decide) ?_; intro v49 T49 L49 X49 hQ49
    obtain ⟨r_49, rfl, N49q, e49, P49_0⟩ := hQ49
    have N49 := Fr.app N48 N49q
    have ch_49 := P49_0
    refine R.bipush X49 hx (hb hby at_369) (v := (58 : Int32)) (by decide) (pc' := 371) rfl ?_
    refine R.icmpYes X49 hx (hb hby at_371) (teq (own_chv ts_30.2.1 (by decide) ch_49 : r_49 = (58 : Int32))).1 (by decide) (pc' := 376) (by decide) ?_
    refine R.iload X49 hx (hb hby at_376) rfl (pc' := 378) rfl ?_
    refine R.ifYes X49 hx (hb hby at_378) (teq (by decide : (0 : Int32) = (0 : Int32))).1 (by decide) (pc' := 397) (by decide) ?_
    refine R.iload X49 hx (hb hby at_397) rfl (pc' := 399) rfl ?_
    refine R.iconst X49 hx (hb hby at_399) (v := (1 : Int32)) (by decide) (pc' := 400) rfl ?_
    refine R.iadd X49 hx (hb hby at_400) (v := (1 : Int32)) (by decide) (pc' := 401) rfl ?_
    refine R.iload X49 hx (hb hby at_401) rfl (pc' := 403) rfl ?_
    refine R.iadd X49 hx (hb hby at_403) (v := (1 : Int32)) (by decide) (pc' := 404) rfl ?_
    refine R.istore X49 hx (hb hby at_404) (L' := #[.val (.int p0), .val (.int p1), .val (.int p2), .val (.int i1), .val (.int i2), .val (.int i3), .val (.int (0 : Int32)), .val (.ref b5), .val (.ref b6), .val (.ref b8), .val (.ref b11), .val (.ref b15), .val (.ref b26), .val (.ref o_30), .val (.int (0 : Int32)), .val (.long r_46), .second, .val (.int r_47), .val (.int (0 : Int32)), .val (.int (1 : Int32))]) rfl (pc' := 406) rfl ?_
    refine R.aload X49 hx (hb hby at_406) rfl rfl (pc' := 408) rfl ?_
    refine R.iload X49 hx (hb hby at_408) rfl (pc' := 410) rfl ?_
    refine R.iload X49 hx (hb hby at_410) rfl (pc' := 412) rfl ?_
    refine R.iconst X49 hx (hb hby at_412) (v := (0 : Int32)) (by decide) (pc' := 413) rfl ?_
    refine R.lload X49 hx (hb hby at_413) rfl (pc' := 415) rfl ?_
    refine R.aload X49 hx (hb hby at_415) rfl rfl (pc' := 417) rfl ?_
    refine R.callS X49 hx hZ (y := mY40) hown w_222 w_223 w_197 w_224 (by decide) e49 (rm42 l Z aZ hw [] o_30 (1 : Int32) r_47 (0 : Int32) r_46 b15 cs r_30 zr_30 ff_30 k15 h30 n0 Z30 OL CS FM E_o_30 F_coder_o_30 F_value_o_30 Y_r_30 V_b15 (own_hk ts_30 en2 eab ct_30 hsg (z := (0 : Int32)) (B := (1 : Int32)) (K := (0 : Int32)) (by decide) (by decide) (by decide)) (by decide) (by omega) (by omega)) (by decide) (W := 0) (Nat.le_of_eq rfl) (by decide) (by rw [hml]; rfl) (lenOf pd_32 rfl) rfl (hb hby at_417) (pc' := 420) rfl (by decide) (by decide) ?_; intro v50 T50 L50 X50 hQ50
    obtain ⟨rfl, N50q, e50⟩ := hQ50
    have N50 := Fr.app N49 N50q
    refine R.ifNo X50 hx (hb hby at_420) (feq (by decide : ¬ ((1 : Int32) = (0 : Int32)))).1 (pc' := 423) rfl ?_
    refine R.aload X50 hx (hb hby at_423) rfl rfl (pc' := 425) rfl ?_
    refine R.iload X50 hx (hb hby at_425) rfl (pc' := 427) rfl ?_
    refine R.iload X50 hx (hb hby at_427) rfl (pc' := 429) rfl ?_
    refine R.iconst X50 hx (hb hby at_429) (v := (1 : Int32)) (by decide) (pc' := 430) rfl ?_
    refine R.lload X50 hx (hb hby at_430) rfl (pc' := 432) rfl ?_
    refine R.aload X50 hx (hb hby at_432) rfl rfl (pc' := 434) rfl ?_
    refine R.callS X50 hx hZ (y := mY40) hown w_222 w_223 w_197 w_224 (by decide) e50 (rm42 l Z aZ hw [] o_30 (1 : Int32) r_47 (1 : Int32) r_46 b15 cs r_30 zr_30 ff_30 k15 h30 n0 Z30 OL CS FM E_o_30 F_coder_o_30 F_value_o_30 Y_r_30 V_b15 (own_hk ts_30 en2 eab ct_30 hsg (z := (0 : Int32)) (B := (1 : Int32)) (K := (1 : Int32)) (by decide) (by decide) (by decide)) (by decide) (by omega) (by omega)) (by decide) (W := 0) (Nat.le_of_eq rfl) (by decide) (by rw [hml]; rfl) (lenOf pd_32 rfl) rfl (hb hby at_434) (pc' := 437) rfl (by decide) (by decide) ?_; intro v51 T51 L51 X51 hQ51
    obtain ⟨rfl, N51q, e51⟩ := hQ51
    have N51 := Fr.app N50 N51q
    refine R.ifNo X51 hx (hb hby at_437) (feq (by decide : ¬ ((1 : Int32) = (0 : Int32)))).1 (pc' := 440) rfl ?_
    refine R.aload X51 hx (hb hby at_440) rfl rfl (pc' := 442) rfl ?_
    refine R.iload X51 hx (hb hby at_442) rfl (pc' := 444) rfl ?_
    refine R.iload X51 hx (hb hby at_444) rfl (pc' := 446) rfl ?_
    refine R.iconst X51 hx (hb hby at_446) (v := (2 : Int32)) (by decide) (pc' := 447) rfl ?_
    refine R.lload X51 hx (hb hby at_447) rfl (pc' := 449) rfl ?_
    refine R.aload X51 hx (hb hby at_449) rfl rfl (pc' := 451) rfl ?_
    refine R.callS X51 hx hZ (y := mY40) hown w_222 w_223 w_197 w_224 (by decide) e51 (rm42 l Z aZ hw [] o_30 (1 : Int32) r_47 (2 : Int32) r_46 b15 cs r_30 zr_30 ff_30 k15 h30 n0 Z30 OL CS FM E_o_30 F_coder_o_30 F_value_o_30 Y_r_30 V_b15 (own_hk ts_30 en2 eab ct_30 hsg (z := (0 : Int32)) (B := (1 : Int32)) (K := (2 : Int32)) (by decide) (by decide) (by decide)) (by decide) (by omega) (by omega)) (by decide) (W := 0) (Nat.le_of_eq rfl) (by decide) (by rw [hml]; rfl) (lenOf pd_32 rfl) rfl (hb hby at_451) (pc' := 454) rfl (by decide) (by decide) ?_; intro v52 T52 L52 X52 hQ52
    obtain ⟨rfl, N52q, e52⟩ := hQ52
    have N52 := Fr.app N51 N52q
    refine R.ifNo X52 hx (hb hby at_454) (feq (by decide : ¬ ((1 : Int32) = (0 : Int32)))).1 (pc' := 457) rfl ?_
    refine R.aload X52 hx (hb hby at_457) rfl rfl (pc' := 459) rfl ?_
    refine R.iload X52 hx (hb hby at_459) rfl (pc' := 461) rfl ?_
    refine R.iload X52 hx (hb hby at_461) rfl (pc' := 463) rfl ?_
    refine R.iconst X52 hx (hb hby at_463) (v := (3 : Int32)) (by decide) (pc' := 464) rfl ?_
    refine R.lload X52 hx (hb hby at_464) rfl (pc' := 466) rfl ?_
    refine R.aload X52 hx (hb hby at_466) rfl rfl (pc' := 468) rfl ?_
    refine R.callS X52 hx hZ (y := mY40) hown w_222 w_223 w_197 w_224 (by decide) e52 (rm42 l Z aZ hw [] o_30 (1 : Int32) r_47 (3 : Int32) r_46 b15 cs r_30 zr_30 ff_30 k15 h30 n0 Z30 OL CS FM E_o_30 F_coder_o_30 F_value_o_30 Y_r_30 V_b15 (own_hk ts_30 en2 eab ct_30 hsg (z := (0 : Int32)) (B := (1 : Int32)) (K := (3 : Int32)) (by decide) (by decide) (by decide)) (by decide) (by omega) (by omega)) (by decide) (W := 0) (Nat.le_of_eq rfl) (by decide) (by rw [hml]; rfl) (lenOf pd_32 rfl) rfl (hb hby at_468) (pc' := 471) rfl (by decide) (by decide) ?_; intro v53 T53 L53 X53 hQ53
    obtain ⟨rfl, N53q, e53⟩ := hQ53
    have N53 := Fr.app N52 N53q
    refine R.ifNo X53 hx (hb hby at_471) (feq (by decide : ¬ ((1 : Int32) = (0 : Int32)))).1 (pc' := 474) rfl ?_
    refine R.aload X53 hx (hb hby at_474) rfl rfl (pc' := 476) rfl ?_
    refine R.iload X53 hx (hb hby at_476) rfl (pc' := 478) rfl ?_
    refine R.iload X53 hx (hb hby at_478) rfl (pc' := 480) rfl ?_
    refine R.iconst X53 hx (hb hby at_480) (v := (4 : Int32)) (by decide) (pc' := 481) rfl ?_
    refine R.lload X53 hx (hb hby at_481) rfl (pc' := 483) rfl ?_
    refine R.aload X53 hx (hb hby at_483) rfl rfl (pc' := 485) rfl ?_
    refine R.callS X53 hx hZ (y := mY40) hown w_222 w_223 w_197 w_224 (by decide) e53 (rm42 l Z aZ hw [] o_30 (1 : Int32) r_47 (4 : Int32) r_46 b15 cs r_30 zr_30 ff_30 k15 h30 n0 Z30 OL CS FM E_o_30 F_coder_o_30 F_value_o_30 Y_r_30 V_b15 (own_hk ts_30 en2 eab ct_30 hsg (z := (0 : Int32)) (B := (1 : Int32)) (K := (4 : Int32)) (by decide) (by decide) (by decide)) (by decide) (by omega) (by omega)) (by decide) (W := 0) (Nat.le_of_eq rfl) (by decide) (by rw [hml]; rfl) (lenOf pd_32 rfl) rfl (hb hby at_485) (pc' := 488) rfl (by decide) (by decide) ?_; intro v54 T54 L54 X54 hQ54
    obtain ⟨rfl, N54q, e54⟩ := hQ54
    have N54 := Fr.app N53 N54q
    refine R.ifNo X54 hx (hb hby at_488) (feq (by decide : ¬ ((1 : Int32) = (0 : Int32)))).1 (pc' := 491) rfl ?_
    refine R.aload X54 hx (hb hby at_491) rfl rfl (pc' := 493) rfl ?_
    refine R.iload X54 hx (hb hby at_493) rfl (pc' := 495) rfl ?_
    refine R.iload X54 hx (hb hby at_495) rfl (pc' := 497) rfl ?_
    refine R.iconst X54 hx (hb hby at_497) (v := (5 : Int32)) (by decide) (pc' := 498) rfl ?_
    refine R.lload X54 hx (hb hby at_498) rfl (pc' := 500) rfl ?_
    refine R.aload X54 hx (hb hby at_500) rfl rfl (pc' := 502) rfl ?_
    refine R.callS X54 hx hZ (y := mY40) hown w_222 w_223 w_197 w_224 (by decide) e54 (rm42 l Z aZ hw [] o_30 (1 : Int32) r_47 (5 : Int32) r_46 b15 cs r_30 zr_30 ff_30 k15 h30 n0 Z30 OL CS FM E_o_30 F_coder_o_30 F_value_o_30 Y_r_30 V_b15 (own_hk ts_30 en2 eab ct_30 hsg (z := (0 : Int32)) (B := (1 : Int32)) (K := (5 : Int32)) (by decide) (by decide) (by decide)) (by decide) (by omega) (by omega)) (by decide) (W := 0) (Nat.le_of_eq rfl) (by decide) (by rw [hml]; rfl) (lenOf pd_32 rfl) rfl (hb hby at_502) (pc' := 505) rfl (by decide) (by decide) ?_; intro v55 T55 L55 X55 hQ55
    obtain ⟨rfl, N55q, e55⟩ := hQ55
    have N55 := Fr.app N54 N55q
    refine R.ifNo X55 hx (hb hby at_505) (feq (by decide : ¬ ((1 : Int32) = (0 : Int32)))).1 (pc' := 508) rfl ?_
    refine R.aload X55 hx (hb hby at_508) rfl rfl (pc' := 510) rfl ?_
    refine R.iload X55 hx (hb hby at_510) rfl (pc' := 512) rfl ?_
    refine R.iload X55 hx (hb hby at_512) rfl (pc' := 514) rfl ?_
    refine R.bipush X55 hx (hb hby at_514) (v := (6 : Int32)) (by decide) (pc' := 516) rfl ?_
    refine R.lload X55 hx (hb hby at_516) rfl (pc' := 518) rfl ?_
    refine R.aload X55 hx (hb hby at_518) rfl rfl (pc' := 520) rfl ?_
    refine R.callS X55 hx hZ (y := mY40) hown w_222 w_223 w_197 w_224 (by decide) e55 (rm42 l Z aZ hw [] o_30 (1 : Int32) r_47 (6 : Int32) r_46 b15 cs r_30 zr_30 ff_30 k15 h30 n0 Z30 OL CS FM E_o_30 F_coder_o_30 F_value_o_30 Y_r_30 V_b15 (own_hk ts_30 en2 eab ct_30 hsg (z := (0 : Int32)) (B := (1 : Int32)) (K := (6 : Int32)) (by decide) (by decide) (by decide)) (by decide) (by omega) (by omega)) (by decide) (W := 0) (Nat.le_of_eq rfl) (by decide) (by rw [hml]; rfl) (lenOf pd_32 rfl) rfl (hb hby at_520) (pc' := 523) rfl (by decide) (by decide) ?_; intro v56 T56 L56 X56 hQ56
    obtain ⟨rfl, N56q, e56⟩ := hQ56
    have N56 := Fr.app N55 N56q
    refine R.ifNo X56 hx (hb hby at_523) (feq (by decide : ¬ ((1 : Int32) = (0 : Int32)))).1 (pc' := 526) rfl ?_
    refine R.aload X56 hx (hb hby at_526) rfl rfl (pc' := 528) rfl ?_
    refine R.iload X56 hx (hb hby at_528) rfl (pc' := 530) rfl ?_
    refine R.iload X56 hx (hb hby at_530) rfl (pc' := 532) rfl ?_
    refine R.bipush X56 hx (hb hby at_532) (v := (7 : Int32)) (by decide) (pc' := 534) rfl ?_
    refine R.lload X56 hx (hb hby at_534) rfl (pc' := 536) rfl ?_
    refine R.aload X56 hx (hb hby at_536) rfl rfl (pc' := 538) rfl ?_
    refine R.callS X56 hx hZ (y := mY40) hown w_222 w_223 w_197 w_224 (by decide) e56 (rm42 l Z aZ hw [] o_30 (1 : Int32) r_47 (7 : Int32) r_46 b15 cs r_30 zr_30 ff_30 k15 h30 n0 Z30 OL CS FM E_o_30 F_coder_o_30 F_value_o_30 Y_r_30 V_b15 (own_hk ts_30 en2 eab ct_30 hsg (z := (0 : Int32)) (B := (1 : Int32)) (K := (7 : Int32)) (by decide) (by decide) (by decide)) (by decide) (by omega) (by omega)) (by decide) (W := 0) (Nat.le_of_eq rfl) (by decide) (by rw [hml]; rfl) (lenOf pd_32 rfl) rfl (hb hby at_538) (pc' := 541) rfl (by decide) (by decide) ?_; intro v57 T57 L57 X57 hQ57
    obtain ⟨rfl, N57q, e57⟩ := hQ57
    have N57 := Fr.app N56 N57q
    refine R.ifNo X57 hx (hb hby at_541) (feq (by decide : ¬ ((1 : Int32) = (0 : Int32)))).1 (pc' := 544) rfl ?_
    refine R.aload X57 hx (hb hby at_544) rfl rfl (pc' := 546) rfl ?_
    refine R.iload X57 hx (hb hby at_546) rfl (pc' := 548) rfl ?_
    refine R.iload X57 hx (hb hby at_548) rfl (pc' := 550) rfl ?_
    refine R.bipush X57 hx (hb hby at_550) (v := (8 : Int32)) (by decide) (pc' := 552) rfl ?_
    refine R.lload X57 hx (hb hby at_552) rfl (pc' := 554) rfl ?_
    refine R.aload X57 hx (hb hby at_554) rfl rfl (pc' := 556) rfl ?_
    refine R.callS X57 hx hZ (y := mY40) hown w_222 w_223 w_197 w_224 (by decide) e57 (rm42 l Z aZ hw [] o_30 (1 : Int32) r_47 (8 : Int32) r_46 b15 cs r_30 zr_30 ff_30 k15 h30 n0 Z30 OL CS FM E_o_30 F_coder_o_30 F_value_o_30 Y_r_30 V_b15 (own_hk ts_30 en2 eab ct_30 hsg (z := (0 : Int32)) (B := (1 : Int32)) (K := (8 : Int32)) (by decide) (by decide) (by decide)) (by decide) (by omega) (by omega)) (by decide) (W := 0) (Nat.le_of_eq rfl) (by decide) (by rw [hml]; rfl) (lenOf pd_32 rfl) rfl (hb hby at_556) (pc' := 559) rfl (by decide) (by decide) ?_; intro v58 T58 L58 X58 hQ58
    obtain ⟨rfl, N58q, e58⟩ := hQ58
    have N58 := Fr.app N57 N58q
    refine R.ifNo X58 hx (hb hby at_559) (feq (by decide : ¬ ((1 : Int32) = (0 : Int32)))).1 (pc' := 562) rfl ?_
    refine R.aload X58 hx (hb hby at_562) rfl rfl (pc' := 564) rfl ?_
    refine R.iload X58 hx (hb hby at_564) rfl (pc' := 566) rfl ?_
    refine R.iload X58 hx (hb hby at_566) rfl (pc' := 568) rfl ?_
    refine R.bipush X58 hx (hb hby at_568) (v := (9 : Int32)) (by decide) (pc' := 570) rfl ?_
    refine R.lload X58 hx (hb hby at_570) rfl (pc' := 572) rfl ?_
    refine R.aload X58 hx (hb hby at_572) rfl rfl (pc' := 574) rfl ?_
    refine R.callS X58 hx hZ (y := mY40) hown w_222 w_223 w_197 w_224 (by decide) e58 (rm42 l Z aZ hw [] o_30 (1 : Int32) r_47 (9 : Int32) r_46 b15 cs r_30 zr_30 ff_30 k15 h30 n0 Z30 OL CS FM E_o_30 F_coder_o_30 F_value_o_30 Y_r_30 V_b15 (own_hk ts_30 en2 eab ct_30 hsg (z := (0 : Int32)) (B := (1 : Int32)) (K := (9 : Int32)) (by decide) (by decide) (by decide)) (by decide) (by omega) (by omega)) (by decide) (W := 0) (Nat.le_of_eq rfl) (by decide) (by rw [hml]; rfl) (lenOf pd_32 rfl) rfl (hb hby at_574) (pc' := 577) rfl (by decide) (by decide) ?_; intro v59 T59 L59 X59 hQ59
    obtain ⟨rfl, N59q, e59⟩ := hQ59
    have N59 := Fr.app N58 N59q
    refine R.ifNo X59 hx (hb hby at_577) (feq (by decide : ¬ ((1 : Int32) = (0 : Int32)))).1 (pc' := 580) rfl ?_
    refine R.iconst X59 hx (hb hby at_580) (v := (1 : Int32)) (by decide) (pc' := 581) rfl ?_
    refine R.goto X59 hx (hb hby at_581) (by decide) (pc' := 585) (by decide) ?_
    rw [← hG]
    exact Rn.retW X59 hS hk (BodyLoose.notSynchronized Bd) (v := some (.int (1 : Int32))) (fun h => by rw [Bd.returns] at h; cases h) (Q := Q0 Z p0 p1 p2 cs dO dT h0 n0) e59 (fun fs hr => retN X59 hx (t := .boolean) Bd.returns (by simp) (hb hby at_585) hr) ⟨rfl, N59⟩ (by decide) (by decide)
set_option maxRecDepth 65536 in
set_option maxHeartbeats 40000000 in
theorem rm0_1 (l : Launch) (Z : State) (aZ : Array Value) (hw : ∀ d ∈ tables_1, d.before aZ Z = true) (ws : List Jvm.Cond) (p0 : Int32) (p1 : Int32) (p2 : Int32) (cs : Int32) (dO : Addr) (dT : Addr) (h0 : Heap) (n0 : Nat) {p : Program} {e : Env} {s : State} {m : MethodId} {below : List Frame} {meth : Method} {c : Code} {s₁ : State} (Bd : BodyLoose p l x (head1 (Jvm.Cond.code x code maxLocals ret :: ws) room_1) code maxLocals ret e s m #[(.int p0), (.int p1), (.int p2)] below meth c s₁) (hml : c.maxLocals = 20) (hZ : Z.Warmed39 (s.setVm s.vm).vm) {TL : State} {hL : Heap} {lL : List Loc} (XL : Stand p l e room_1 (s.setVm s.vm) m #[(.int p0), (.int p1), (.int p2)] below meth c TL lL 5 16) (eL : TL.heap = hL) (NL : Fr n0 lL) (KL : Keep h0 hL []) (ZL : n0 ≤ hL.size) (b11 : Addr) (b15 : Addr) (b5 : Addr) (b6 : Addr) (b8 : Addr) (i1 : Int32) (i2 : Int32) (i3 : Int32) (k15 : ClassId) (k6 : ClassId) {G : Outcome → State → Prop} (hG : (Fn0 Z p0 p1 p2 cs dO dT h0 n0 s) = G) (OL : Old Z n0 hL) (V_b6 : Arh Z hL b6 k6 .char (1 : Int32) [((0 : Int32), (.int i1))] [] (.int (0 : Int32))) (V_b15 : Arh Z hL b15 k15 .long (10 : Int32) [((9 : Int32), (.long (1000000000 : Int64))), ((8 : Int32), (.long (100000000 : Int64))), ((7 : Int32), (.long (10000000 : Int64))), ((6 : Int32), (.long (1000000 : Int64))), ((5 : Int32), (.long (100000 : Int64))), ((4 : Int32), (.long (10000 : Int64))), ((3 : Int32), (.long (1000 : Int64))), ((2 : Int32), (.long (100 : Int64))), ((1 : Int32), (.long (10 : Int64))), ((0 : Int32), (.long (1 : Int64)))] [] (.long (0 : Int64))) (ne_b6_b15 : b6 ≠ b15) (g_b6 : n0 ≤ b6) (g_b15 : n0 ≤ b15) (sz_b6 : h0.size ≤ b6) (sz_b15 : h0.size ≤ b15) (CS : own_CS Z cs) (FM : own_FM Z) (DG : own_DG Z dO dT) (HC : CHv Z consts_1 s.vm h0) (b_i1 : 0 ≤ i1.toInt ∧ i1.toInt ≤ 255) (b_i2 : 0 ≤ i2.toInt ∧ i2.toInt ≤ 255) (b_i3 : 0 ≤ i3.toInt ∧ i3.toInt ≤ 255) : Rn p e below (TL.setTop (mkF m 165 #[.val (.int p0), .val (.int p1), .val (.int p2), .val (.int i1), .val (.int i2), .val (.int i3), .val (.int (1 : Int32)), .val (.ref b5), .val (.ref b6), .val (.ref b8), .val (.ref b11), .val (.ref b15), .unset, .unset, .unset, .unset, .unset, .unset, .unset, .unset] [])) G := by
  have hx := Bd.exec
  have hby := Bd.bytes
  have hown : (s.setVm s.vm).vm.findClass "com/example/apportion/apportion/jsonl/PlaceToStringPinLaw" = some m.cls := findClass_of_methodNamed Bd.named
  have hnm := (name_of_methodNamed Bd.named Bd.method).1
  have w_11 := hw _ (List.mem_of_getElem? (i := 11) rfl)
  have w_12 := hw _ (List.mem_of_getElem? (i := 12) rfl)
  have w_13 := hw _ (List.mem_of_getElem? (i := 13) rfl)
  have w_14 := hw _ (List.mem_of_getElem? (i := 14) rfl)
  have w_15 := hw _ (List.mem_of_getElem? (i := 15) rfl)
  have w_16 := hw _ (List.mem_of_getElem? (i := 16) rfl)
  have w_37 := hw _ (List.mem_of_getElem? (i := 37) rfl)
  have w_39 := hw _ (List.mem_of_getElem? (i := 39) rfl)
  have w_40 := hw _ (List.mem_of_getElem? (i := 40) rfl)
  have w_41 := hw _ (List.mem_of_getElem? (i := 41) rfl)
  have w_42 := hw _ (List.mem_of_getElem? (i := 42) rfl)
  have w_43 := hw _ (List.mem_of_getElem? (i := 43) rfl)
  have w_44 := hw _ (List.mem_of_getElem? (i := 44) rfl)
  have w_45 := hw _ (List.mem_of_getElem? (i := 45) rfl)
  have w_53 := hw _ (List.mem_of_getElem? (i := 53) rfl)
  have w_55 := hw _ (List.mem_of_getElem? (i := 55) rfl)
  have w_56 := hw _ (List.mem_of_getElem? (i := 56) rfl)
  have w_57 := hw _ (List.mem_of_getElem? (i := 57) rfl)
  have w_58 := hw _ (List.mem_of_getElem? (i := 58) rfl)
  have w_59 := hw _ (List.mem_of_getElem? (i := 59) rfl)
  have w_60 := hw _ (List.mem_of_getElem? (i := 60) rfl)
  have w_90 := hw _ (List.mem_of_getElem? (i := 90) rfl)
  have w_91 := hw _ (List.mem_of_getElem? (i := 91) rfl)
  have w_92 := hw _ (List.mem_of_getElem? (i := 92) rfl)
  have w_93 := hw _ (List.mem_of_getElem? (i := 93) rfl)
  have w_189 := hw _ (List.mem_of_getElem? (i := 189) rfl)
  have w_192 := hw _ (List.mem_of_getElem? (i := 192) rfl)
  have w_193 := hw _ (List.mem_of_getElem? (i := 193) rfl)
  have w_194 := hw _ (List.mem_of_getElem? (i := 194) rfl)
  have w_195 := hw _ (List.mem_of_getElem? (i := 195) rfl)
  have w_196 := hw _ (List.mem_of_getElem? (i := 196) rfl)
  have w_197 := hw _ (List.mem_of_getElem? (i := 197) rfl)
  have w_198 := hw _ (List.mem_of_getElem? (i := 198) rfl)
  have w_199 := hw _ (List.mem_of_getElem? (i := 199) rfl)
  have w_200 := hw _ (List.mem_of_getElem? (i := 200) rfl)
  have w_201 := hw _ (List.mem_of_getElem? (i := 201) rfl)
  have w_202 := hw _ (List.mem_of_getElem? (i := 202) rfl)
  have w_203 := hw _ (List.mem_of_getElem? (i := 203) rfl)
  have w_204 := hw _ (List.mem_of_getElem? (i := 204) rfl)
  have w_222 := hw _ (List.mem_of_getElem? (i := 222) rfl)
  have w_223 := hw _ (List.mem_of_getElem? (i := 223) rfl)
  have w_224 := hw _ (List.mem_of_getElem? (i := 224) rfl)
  have hS : s.Since s.vm 0 := (State.WarmedH.refl s).since 0
  have hk : 0 ≤ hL.size := Nat.zero_le _
  have hEL := own_ew hw
  have wS := own_ws hw
  show Rn p e below (TL.setTop (mkF m 165 #[.val (.int p0), .val (.int p1), .val (.int p2), .val (.int i1), .val (.int i2), .val (.int i3), .val (.int (1 : Int32)), .val (.ref b5), .val (.ref b6), .val (.ref b8), .val (.ref b11), .val (.ref b15), .unset, .unset, .unset, .unset, .unset, .unset, .unset, .unset] [])) G
  refine R.iload XL hx (hb hby at_165) rfl (pc' := 167) rfl ?_
  refine R.ifYes XL hx (hb hby at_167) (feq (by decide : ¬ ((1 : Int32) = (0 : Int32)))).2 (by decide) (pc' := 184) (by decide) ?_
  refine R.iload XL hx (hb hby at_184) rfl (pc' := 186) rfl ?_
  refine R.iconst XL hx (hb hby at_186) (v := (1 : Int32)) (by decide) (pc' := 187) rfl ?_
  refine R.icmpNo XL hx (hb hby at_187) (teq (by decide : (1 : Int32) = (1 : Int32))).2 (pc' := 190) rfl ?_
  refine R.newO XL hx hZ hown w_11 w_12 w_13 eL (hb hby at_190) (pc' := 193) rfl (by decide) (by decide) ?_; intro T60 h60 b60 g60 X60 e60 E60 AA60 D60
  have g_b60 : n0 ≤ b60 := Nat.le_trans ZL (Nat.le_of_eq g60.symm)
  have sz_b60 : h0.size ≤ b60 := Nat.le_trans KL.1 (Nat.le_of_eq g60.symm)
  have ne_b6_b60 : b6 ≠ b60 := Nat.ne_of_lt (Nat.lt_of_lt_of_le V_b6.lt (Nat.le_of_eq g60.symm))
  have ne_b15_b60 : b15 ≠ b60 := Nat.ne_of_lt (Nat.lt_of_lt_of_le V_b15.lt (Nat.le_of_eq g60.symm))
  have K60 : Keep h0 h60 [] := KL.ext E60
  have Z60 : n0 ≤ h60.size := Nat.le_trans ZL E60.1
  have hk := Nat.le_trans hk E60.1
  have OL := OL.ext E60
  have V_b6 := V_b6.ext E60
  have V_b15 := V_b15.ext E60
  have E_b60 := AA60
  have F_coder_b60 : Fld Z h60 b60 "java/lang/String" "coder" "B" (.int (0 : Int32)) := D60 (Or.inr w_37) (ty := .byte) (by decide)
  have F_value_b60 : Fld Z h60 b60 "java/lang/String" "value" "[B" .null := D60 (Or.inr w_39) (ty := (.array .byte)) (by decide)
  refine R.dup X60 hx (hb hby at_193) rfl (pc' := 194) rfl ?_
  refine R.aload X60 hx (hb hby at_194) rfl rfl (pc' := 196) rfl ?_
  refine R.special X60 hx hZ (y := mY35) rfl hown w_14 w_15 w_13 w_16 (by decide) e60 (rmsj1 l Z aZ hw [] b60 b6 cs k6 [((0 : Int32), (.int i1))] i1 h60 n0 Z60 OL CS E_b60 F_coder_b60 F_value_b60 g_b60 V_b6 (Ne.symm ne_b6_b60) (getH_hit (by decide) (rfl)) (b_i1)) (by decide) (W := 1) (Nat.le_of_eq rfl) (by decide) (by rw [hml]; rfl) (lenOf pd_28 rfl) rfl (hb hby at_196) (pc' := 199) rfl (by decide) (by decide) ?_; intro v61 T61 L61 X61 hQ61
  obtain ⟨r_61, rfl, N61q, Kc61, P61_0, P61_1, P61_2, P61_3, P61_4⟩ := hQ61
  have N61 := Fr.app NL N61q
  generalize e61 : T61.heap = h61 at Kc61 P61_0 P61_1 P61_2 P61_3 P61_4
  have K61 : Keep h0 h61 [] := K60.trans Kc61 ((allS (Or.inr sz_b60) all0))
  have Z61 : n0 ≤ h61.size := Nat.le_trans Z60 Kc61.1
  have hk := Nat.le_trans hk Kc61.1
  have ne_b6_r_61 : b6 ≠ r_61 := Nat.ne_of_lt (Nat.lt_of_lt_of_le V_b6.lt P61_0)
  have ne_b15_r_61 : b15 ≠ r_61 := Nat.ne_of_lt (Nat.lt_of_lt_of_le V_b15.lt P61_0)
  have ne_b60_r_61 : b60 ≠ r_61 := Nat.ne_of_lt (Nat.lt_of_lt_of_le E_b60.lt P61_0)
  have g_r_61 : n0 ≤ r_61 := Nat.le_trans Z60 P61_0
  have sz_r_61 : h0.size ≤ r_61 := Nat.le_trans K60.1 P61_0
  have OL := OL.keep Kc61 (allS g_b60 all0)
  have V_b6 := V_b6.keep Kc61 (ninS ne_b6_b60 nin0)
  have V_b15 := V_b15.keep Kc61 (ninS ne_b15_b60 nin0)
  have fresh_61 := P61_0
  have E_b60 : Exa Z h61 b60 "java/lang/String" := P61_1
  have F_coder_b60 : Fld Z h61 b60 "java/lang/String" "coder" "B" (.int (0 : Int32)) := P61_2
  have F_value_b60 : Fld Z h61 b60 "java/lang/String" "value" "[B" (.ref r_61) := P61_3
  have Y_r_61 : own_By Z h61 r_61 (1 : Int32) (own_up (fun _ => 0) (0 : Int32).toNatClampNeg (i1.toInt8.toInt32)) := P61_4
  refine R.astore X61 hx (hb hby at_199) rfl (L' := #[.val (.int p0), .val (.int p1), .val (.int p2), .val (.int i1), .val (.int i2), .val (.int i3), .val (.int (1 : Int32)), .val (.ref b5), .val (.ref b6), .val (.ref b8), .val (.ref b11), .val (.ref b15), .val (.ref b60), .unset, .unset, .unset, .unset, .unset, .unset, .unset]) rfl (pc' := 201) rfl ?_
  refine R.goto X61 hx (hb hby at_201) (by decide) (pc' := 235) (by decide) ?_
  refine R.newO X61 hx hZ hown w_40 w_41 w_42 e61 (hb hby at_235) (pc' := 238) rfl (by decide) (by decide) ?_; intro T62 h62 b62 g62 X62 e62 E62 AA62 D62
  have g_b62 : n0 ≤ b62 := Nat.le_trans Z61 (Nat.le_of_eq g62.symm)
  have sz_b62 : h0.size ≤ b62 := Nat.le_trans K61.1 (Nat.le_of_eq g62.symm)
  have ne_b6_b62 : b6 ≠ b62 := Nat.ne_of_lt (Nat.lt_of_lt_of_le V_b6.lt (Nat.le_of_eq g62.symm))
  have ne_b15_b62 : b15 ≠ b62 := Nat.ne_of_lt (Nat.lt_of_lt_of_le V_b15.lt (Nat.le_of_eq g62.symm))
  have ne_b60_b62 : b60 ≠ b62 := Nat.ne_of_lt (Nat.lt_of_lt_of_le E_b60.lt (Nat.le_of_eq g62.symm))
  have ne_r_61_b62 : r_61 ≠ b62 := Nat.ne_of_lt (Nat.lt_of_lt_of_le Y_r_61.lt (Nat.le_of_eq g62.symm))
  have K62 : Keep h0 h62 [] := K61.ext E62
  have Z62 : n0 ≤ h62.size := Nat.le_trans Z61 E62.1
  have hk := Nat.le_trans hk E62.1
  have OL := OL.ext E62
  have V_b6 := V_b6.ext E62
  have V_b15 := V_b15.ext E62
  have E_b60 := E_b60.ext E62
  have F_coder_b60 := F_coder_b60.ext E62
  have F_value_b60 := F_value_b60.ext E62
  have Y_r_61 := Y_r_61.ext E62
  have E_b62 := AA62
  have F_file_b62 : Fld Z h62 b62 "com/example/apportion/apportion/jsonl/LedgerFiles$Place" "file" "Ljava/lang/String;" .null := D62 (Or.inr w_53) (ty := (.object "java/lang/String")) (by decide)
  have F_line_b62 : Fld Z h62 b62 "com/example/apportion/apportion/jsonl/LedgerFiles$Place" "line" "I" (.int (0 : Int32)) := D62 (Or.inr w_55) (ty := .int) (by decide)
  refine R.dup X62 hx (hb hby at_238) rfl (pc' := 239) rfl ?_
  refine R.aload X62 hx (hb hby at_239) rfl rfl (pc' := 241) rfl ?_
  refine R.iloadN X62 hx (hb hby at_241) rfl (pc' := 242) rfl ?_
  refine R.special X62 hx hZ (y := mY36) rfl hown w_43 w_44 w_42 w_45 (by decide) e62 (rm7 l Z aZ hw [] b62 b60 p2 h62 n0 Z62 E_b62 F_file_b62 F_line_b62 g_b62) (by decide) (W := 1) (Nat.le_of_eq rfl) (by decide) (by rw [hml]; rfl) (lenOf pd_29 rfl) rfl (hb hby at_242) (pc' := 245) rfl (by decide) (by decide) ?_; intro v63 T63 L63 X63 hQ63
  obtain ⟨rfl, N63q, Kc63, P63_0, P63_1, P63_2⟩ := hQ63
  have N63 := Fr.app N61 N63q
  generalize e63 : T63.heap = h63 at Kc63 P63_0 P63_1 P63_2
  have K63 : Keep h0 h63 [] := K62.trans Kc63 ((allS (Or.inr sz_b62) all0))
  have Z63 : n0 ≤ h63.size := Nat.le_trans Z62 Kc63.1
  have hk := Nat.le_trans hk Kc63.1
  have OL := OL.keep Kc63 (allS g_b62 all0)
  have V_b6 := V_b6.keep Kc63 (ninS ne_b6_b62 nin0)
  have V_b15 := V_b15.keep Kc63 (ninS ne_b15_b62 nin0)
  have E_b60 := E_b60.keep Kc63
  have F_coder_b60 := F_coder_b60.keep Kc63 (ninS ne_b60_b62 nin0)
  have F_value_b60 := F_value_b60.keep Kc63 (ninS ne_b60_b62 nin0)
  have Y_r_61 := Y_r_61.keep Kc63 (ninS ne_r_61_b62 nin0)
  have E_b62 : Exa Z h63 b62 "com/example/apportion/apportion/jsonl/LedgerFiles$Place" := P63_0
  have F_file_b62 : Fld Z h63 b62 "com/example/apportion/apportion/jsonl/LedgerFiles$Place" "file" "Ljava/lang/String;" (.ref b60) := P63_1
  have F_line_b62 : Fld Z h63 b62 "com/example/apportion/apportion/jsonl/LedgerFiles$Place" "line" "I" (.int p2) := P63_2
  refine R.virtualH X63 hx hZ hS hk hEL (HC.keep K63 (fun x q => nomatch q)) (sf := []) (all0) (y := mY37) hown w_56 w_57 w_59 w_58 w_42 w_60 (by decide) e63 E_b62 (rm9 l Z aZ hw [] b62 cs dO dT b60 p2 r_61 (1 : Int32) (own_up (fun _ => 0) (0 : Int32).toNatClampNeg (i1.toInt8.toInt32)) h63 n0 Z63 OL CS DG E_b62 F_file_b62 F_line_b62 E_b60 F_coder_b60 F_value_b60 Y_r_61 (by decide)) (by decide) (W := 0) (Nat.le_of_eq rfl) (by decide) (by rw [hml]; rfl) (lenOf pd_26 rfl) rfl (hb hby at_245) (pc' := 248) rfl (by decide) (by decide) ?_; intro v64 T64 L64 k64 X64 hS hk hZ hown hQ64
  obtain ⟨o_64, r_64, zr_64, ff_64, nd_64, rfl, N64q, Kc64, P64_0, P64_1, P64_2, P64_3, P64_4, P64_5, P64_6⟩ := hQ64
  have N64 := Fr.app N63 N64q
  generalize e64 : T64.heap = h64 at Kc64 P64_0 P64_1 P64_2 P64_3 P64_4 P64_5 P64_6 hk
  have K64 : Keep h0 h64 [] := K63.trans Kc64 (all0)
  have Z64 : n0 ≤ h64.size := Nat.le_trans Z63 Kc64.1
  have OL := OL.keep Kc64 all0
  have V_b6 := V_b6.keep Kc64 nin0
  have V_b15 := V_b15.keep Kc64 nin0
  have E_b60 := E_b60.keep Kc64
  have F_coder_b60 := F_coder_b60.keep Kc64 nin0
  have F_value_b60 := F_value_b60.keep Kc64 nin0
  have Y_r_61 := Y_r_61.keep Kc64 nin0
  have E_b62 := E_b62.keep Kc64
  have F_file_b62 := F_file_b62.keep Kc64 nin0
  have F_line_b62 := F_line_b62.keep Kc64 nin0
  have E_o_64 : Exa Z h64 o_64 "java/lang/String" := P64_0
  have F_coder_o_64 : Fld Z h64 o_64 "java/lang/String" "coder" "B" (.int (0 : Int32)) := P64_1
  have F_value_o_64 : Fld Z h64 o_64 "java/lang/String" "value" "[B" (.ref r_64) := P64_2
  have Y_r_64 : own_By Z h64 r_64 zr_64 ff_64 := P64_3
  have hx_64 := P64_4
  have ct_64 := P64_5
  have ts_64 := P64_6
  refine R.astore X64 hx (hb hby at_248) rfl (L' := #[.val (.int p0), .val (.int p1), .val (.int p2), .val (.int i1), .val (.int i2), .val (.int i3), .val (.int (1 : Int32)), .val (.ref b5), .val (.ref b6), .val (.ref b8), .val (.ref b11), .val (.ref b15), .val (.ref b60), .val (.ref o_64), .unset, .unset, .unset, .unset, .unset, .unset]) rfl (pc' := 250) rfl ?_
  refine R.iloadN X64 hx (hb hby at_250) rfl (pc' := 251) rfl ?_
  by_cases hc251 : p2 < (0 : Int32)
  · refine R.ifNo X64 hx (hb hby at_251) (tlt hc251).2.1 (pc' := 254) rfl ?_
    refine R.iconst X64 hx (hb hby at_254) (v := (1 : Int32)) (by decide) (pc' := 255) rfl ?_
    refine R.goto X64 hx (hb hby at_255) (by decide) (pc' := 259) (by decide) ?_
    refine R.istore X64 hx (hb hby at_259) (L' := #[.val (.int p0), .val (.int p1), .val (.int p2), .val (.int i1), .val (.int i2), .val (.int i3), .val (.int (1 : Int32)), .val (.ref b5), .val (.ref b6), .val (.ref b8), .val (.ref b11), .val (.ref b15), .val (.ref b60), .val (.ref o_64), .val (.int (1 : Int32)), .unset, .unset, .unset, .unset, .unset]) rfl (pc' := 261) rfl ?_
    have hneg : p2.toInt < 0 := own_lt0 hc251
    have hsg : own_sg p2.toInt = 1 := by unfold own_sg; rw [if_pos (by omega)]
    have bp := own_b p2
    have hn1 := hx_64.1
    have hn10 := hx_64.2.1
    have ct := ct_64
    rw [hsg] at ct
    have tz : ((1 : Int32)).toInt = 1 := by decide
    refine R.iloadN X64 hx (hb hby at_261) rfl (pc' := 262) rfl ?_
    refine R.i2l X64 hx (hb hby at_262) (pc' := 263) rfl ?_
    refine R.callS X64 hx hZ (y := mY38) hown w_192 w_193 w_189 w_194 (by decide) e64 (rm35 l Z aZ hw [] (p2.toInt64) h64 n0 Z64 (by rw [Int32.toInt_toInt64]; omega)) (by decide) (W := 0) (Nat.le_of_eq rfl) (by decide) (by rw [hml]; rfl) (lenOf pd_30 rfl) rfl (hb hby at_263) (pc' := 266) rfl (by decide) (by decide) ?_; intro v65 T65 L65 X65 hQ65
    obtain ⟨r_65, rfl, N65q, e65, P65_0⟩ := hQ65
    have N65 := Fr.app N64 N65q
    have ab_65 := P65_0
    have ab : r_65.toInt = (p2.toInt.natAbs : Int) := by have q := ab_65; rw [Int32.toInt_toInt64] at q; exact q
    refine R.lstore X65 hx (hb hby at_266) (L' := #[.val (.int p0), .val (.int p1), .val (.int p2), .val (.int i1), .val (.int i2), .val (.int i3), .val (.int (1 : Int32)), .val (.ref b5), .val (.ref b6), .val (.ref b8), .val (.ref b11), .val (.ref b15), .val (.ref b60), .val (.ref o_64), .val (.int (1 : Int32)), .val (.long r_65), .second, .unset, .unset, .unset]) rfl (pc' := 268) rfl ?_
    refine R.lload X65 hx (hb hby at_268) rfl (pc' := 270) rfl ?_
    refine R.callS X65 hx hZ (y := mY39) hown w_195 w_196 w_197 w_198 (by decide) e65 (rm36 l Z aZ hw [] r_65 h64 n0 Z64 (by omega)) (by decide) (W := 0) (Nat.le_of_eq rfl) (by decide) (by rw [hml]; rfl) (lenOf pd_31 rfl) rfl (hb hby at_270) (pc' := 273) rfl (by decide) (by decide) ?_; intro v66 T66 L66 X66 hQ66
    obtain ⟨r_66, rfl, N66q, e66, P66_0⟩ := hQ66
    have N66 := Fr.app N65 N66q
    have dg_66 := P66_0
    obtain ⟨n2, hn2, en2⟩ := dg_66
    have eab : r_65.toInt.toNat = p2.toInt.natAbs := by omega
    rw [eab] at hn2
    have enn : n2 = nd_64 := own_ndU hn2 hx_64
    rw [enn] at en2
    refine R.istore X66 hx (hb hby at_273) (L' := #[.val (.int p0), .val (.int p1), .val (.int p2), .val (.int i1), .val (.int i2), .val (.int i3), .val (.int (1 : Int32)), .val (.ref b5), .val (.ref b6), .val (.ref b8), .val (.ref b11), .val (.ref b15), .val (.ref b60), .val (.ref o_64), .val (.int (1 : Int32)), .val (.long r_65), .second, .val (.int r_66), .unset, .unset]) rfl (pc' := 275) rfl ?_
    refine R.iload X66 hx (hb hby at_275) rfl (pc' := 277) rfl ?_
    refine R.ifNo X66 hx (hb hby at_277) (feq (by decide : ¬ ((1 : Int32) = (0 : Int32)))).1 (pc' := 280) rfl ?_
    refine R.iconst X66 hx (hb hby at_280) (v := (1 : Int32)) (by decide) (pc' := 281) rfl ?_
    refine R.goto X66 hx (hb hby at_281) (by decide) (pc' := 285) (by decide) ?_
    refine R.istore X66 hx (hb hby at_285) (L' := #[.val (.int p0), .val (.int p1), .val (.int p2), .val (.int i1), .val (.int i2), .val (.int i3), .val (.int (1 : Int32)), .val (.ref b5), .val (.ref b6), .val (.ref b8), .val (.ref b11), .val (.ref b15), .val (.ref b60), .val (.ref o_64), .val (.int (1 : Int32)), .val (.long r_65), .second, .val (.int r_66), .val (.int (1 : Int32)), .unset]) rfl (pc' := 287) rfl ?_
    refine R.aload X66 hx (hb hby at_287) rfl rfl (pc' := 289) rfl ?_
    refine R.virtual X66 hx hZ (y := mY9) (z := mY9) hown w_199 w_90 (notFace_of_selects (args := #[]) (mvT hZ w_92)) w_92 w_91 w_13 w_93 (by decide) e66 E_o_64 (rm14 l Z aZ hw [] o_64 cs r_64 zr_64 ff_64 h64 n0 Z64 OL CS E_o_64 F_coder_o_64 F_value_o_64 Y_r_64) (by decide) (W := 0) (Nat.le_of_eq rfl) (by decide) (by rw [hml]; rfl) (lenOf pd_0 rfl) rfl (hb hby at_289) (pc' := 292) rfl (by decide) (by decide) ?_; intro v67 T67 L67 X67 hQ67
    obtain ⟨rfl, N67q, e67⟩ := hQ67
    have N67 := Fr.app N66 N67q
    refine R.iload X67 hx (hb hby at_292) rfl (pc' := 294) rfl ?_
    refine R.iconst X67 hx (hb hby at_294) (v := (1 : Int32)) (by decide) (pc' := 295) rfl ?_
    refine R.iadd X67 hx (hb hby at_295) (v := (2 : Int32)) (by decide) (pc' := 296) rfl ?_
    refine R.iload X67 hx (hb hby at_296) rfl (pc' := 298) rfl ?_
    refine R.iadd X67 hx (hb hby at_298) (v := (3 : Int32)) (by decide) (pc' := 299) rfl ?_
    refine R.iload X67 hx (hb hby at_299) rfl (pc' := 301) rfl ?_
    refine R.iadd X67 hx (hb hby at_301) rfl (pc' := 302) rfl ?_
    refine R.icmpYes X67 hx (hb hby at_302) (teq (own_len (k := 3) (by decide) en2 hn10 (by omega) : zr_64 = ((3 : Int32) + r_66))).1 (by decide) (pc' := 307) (by decide) ?_
    refine R.iload X67 hx (hb hby at_307) rfl (pc' := 309) rfl ?_
    refine R.ifNo X67 hx (hb hby at_309) (tlt (by decide : (0 : Int32) < (1 : Int32))).2.2.2 (pc' := 312) rfl ?_
    refine R.aload X67 hx (hb hby at_312) rfl rfl (pc' := 314) rfl ?_
    refine R.iconst X67 hx (hb hby at_314) (v := (0 : Int32)) (by decide) (pc' := 315) rfl ?_
    refine R.virtual X67 hx hZ (y := mY34) (z := mY34) hown w_200 w_201 (notFace_of_selects (args := #[]) (mvT hZ w_203)) w_203 w_202 w_13 w_204 (by decide) e67 E_o_64 (rm37 l Z aZ hw [] o_64 (0 : Int32) cs r_64 zr_64 ff_64 h64 n0 Z64 OL CS FM E_o_64 F_coder_o_64 F_value_o_64 Y_r_64 (by decide) (own_ltI (k := 0) (by decide) (by omega))) (by decide) (W := 0) (Nat.le_of_eq rfl) (by decide) (by rw [hml]; rfl) (lenOf pd_27 rfl) rfl (hb hby at_315) (pc' := 318) rfl (by decide) (by decide) ?_; intro v68 T68 L68 X68 hQ68
    obtain ⟨r_68, rfl, N68q, e68, P68_0⟩ := hQ68
    have N68 := Fr.app N67 N68q
    have ch_68 := P68_0
    refine R.iloadN X68 hx (hb hby at_318) rfl (pc' := 319) rfl ?_
    refine R.icmpYes X68 hx (hb hby at_319) (teq (own_chk ((ts_64.1 _ (by decide)).trans rfl) b_i1 ch_68 : r_68 = i1)).1 (by decide) (pc' := 324) (by decide) ?_
    refine R.iload X68 hx (hb hby at_324) rfl (pc' := 326) rfl ?_
    refine R.iconst X68 hx (hb hby at_326) (v := (1 : Int32)) (by decide) (pc' := 327) rfl ?_
    refine R.icmpYes X68 hx (hb hby at_327) (flt (by decide : ¬ ((1 : Int32) < (1 : Int32)))).2.2.2 (by decide) (pc' := 343) (by decide) ?_
    refine R.iload X68 hx (hb hby at_343) rfl (pc' := 345) rfl ?_
    refine R.iconst X68 hx (hb hby at_345) (v := (2 : Int32)) (by decide) (pc' := 346) rfl ?_
    refine R.icmpYes X68 hx (hb hby at_346) (flt (by decide : ¬ ((2 : Int32) < (1 : Int32)))).2.2.2 (by decide) (pc' := 362) (by decide) ?_
    refine R.aload X68 hx (hb hby at_362) rfl rfl (pc' := 364) rfl ?_
    refine R.iload X68 hx (hb hby at_364) rfl (pc' := 366) rfl ?_
    refine R.virtual X68 hx hZ (y := mY34) (z := mY34) hown w_200 w_201 (notFace_of_selects (args := #[]) (mvT hZ w_203)) w_203 w_202 w_13 w_204 (by decide) e68 E_o_64 (rm37 l Z aZ hw [] o_64 (1 : Int32) cs r_64 zr_64 ff_64 h64 n0 Z64 OL CS FM E_o_64 F_coder_o_64 F_value_o_64 Y_r_64 (by decide) (own_ltI (k := 1) (by decide) (by omega))) (by decide) (W := 0) (Nat.le_of_eq rfl) (by decide) (by rw [hml]; rfl) (lenOf pd_27 rfl) rfl (hb hby at_366) (pc' := 369) rfl (by decide) (by decide) ?_; intro v69 T69 L69 X69 hQ69
    obtain ⟨r_69, rfl, N69q, e69, P69_0⟩ := hQ69
    have N69 := Fr.app N68 N69q
    have ch_69 := P69_0
    refine R.bipush X69 hx (hb hby at_369) (v := (58 : Int32)) (by decide) (pc' := 371) rfl ?_
    refine R.icmpYes X69 hx (hb hby at_371) (teq (own_chv ts_64.2.1 (by decide) ch_69 : r_69 = (58 : Int32))).1 (by decide) (pc' := 376) (by decide) ?_
    refine R.iload X69 hx (hb hby at_376) rfl (pc' := 378) rfl ?_
    refine R.ifNo X69 hx (hb hby at_378) (feq (by decide : ¬ ((1 : Int32) = (0 : Int32)))).1 (pc' := 381) rfl ?_
    refine R.aload X69 hx (hb hby at_381) rfl rfl (pc' := 383) rfl ?_
    refine R.iload X69 hx (hb hby at_383) rfl (pc' := 385) rfl ?_
    refine R.iconst X69 hx (hb hby at_385) (v := (1 : Int32)) (by decide) (pc' := 386) rfl ?_
    refine R.iadd X69 hx (hb hby at_386) (v := (2 : Int32)) (by decide) (pc' := 387) rfl ?_
    refine R.virtual X69 hx hZ (y := mY34) (z := mY34) hown w_200 w_201 (notFace_of_selects (args := #[]) (mvT hZ w_203)) w_203 w_202 w_13 w_204 (by decide) e69 E_o_64 (rm37 l Z aZ hw [] o_64 (2 : Int32) cs r_64 zr_64 ff_64 h64 n0 Z64 OL CS FM E_o_64 F_coder_o_64 F_value_o_64 Y_r_64 (by decide) (own_ltI (k := 2) (by decide) (by omega))) (by decide) (W := 0) (Nat.le_of_eq rfl) (by decide) (by rw [hml]; rfl) (lenOf pd_27 rfl) rfl (hb hby at_387) (pc' := 390) rfl (by decide) (by decide) ?_; intro v70 T70 L70 X70 hQ70
    obtain ⟨r_70, rfl, N70q, e70, P70_0⟩ := hQ70
    have N70 := Fr.app N69 N70q
    have ch_70 := P70_0
    refine R.bipush X70 hx (hb hby at_390) (v := (45 : Int32)) (by decide) (pc' := 392) rfl ?_
    refine R.icmpYes X70 hx (hb hby at_392) (teq (own_chv (i := ((2 : Int32)).toNatClampNeg) (ts_64.2.2.1 hsg) (by decide) ch_70 : r_70 = (45 : Int32))).1 (by decide) (pc' := 397) (by decide) ?_
    refine R.iload X70 hx (hb hby at_397) rfl (pc' := 399) rfl ?_
    refine R.iconst X70 hx (hb hby at_399) (v := (1 : Int32)) (by decide) (pc' := 400) rfl ?_
    refine R.iadd X70 hx (hb hby at_400) (v := (2 : Int32)) (by decide) (pc' := 401) rfl ?_
    refine R.iload X70 hx (hb hby at_401) rfl (pc' := 403) rfl ?_
    refine R.iadd X70 hx (hb hby at_403) (v := (3 : Int32)) (by decide) (pc' := 404) rfl ?_
    refine R.istore X70 hx (hb hby at_404) (L' := #[.val (.int p0), .val (.int p1), .val (.int p2), .val (.int i1), .val (.int i2), .val (.int i3), .val (.int (1 : Int32)), .val (.ref b5), .val (.ref b6), .val (.ref b8), .val (.ref b11), .val (.ref b15), .val (.ref b60), .val (.ref o_64), .val (.int (1 : Int32)), .val (.long r_65), .second, .val (.int r_66), .val (.int (1 : Int32)), .val (.int (3 : Int32))]) rfl (pc' := 406) rfl ?_
    refine R.aload X70 hx (hb hby at_406) rfl rfl (pc' := 408) rfl ?_
    refine R.iload X70 hx (hb hby at_408) rfl (pc' := 410) rfl ?_
    refine R.iload X70 hx (hb hby at_410) rfl (pc' := 412) rfl ?_
    refine R.iconst X70 hx (hb hby at_412) (v := (0 : Int32)) (by decide) (pc' := 413) rfl ?_
    refine R.lload X70 hx (hb hby at_413) rfl (pc' := 415) rfl ?_
    refine R.aload X70 hx (hb hby at_415) rfl rfl (pc' := 417) rfl ?_
    refine R.callS X70 hx hZ (y := mY40) hown w_222 w_223 w_197 w_224 (by decide) e70 (rm42 l Z aZ hw [] o_64 (3 : Int32) r_66 (0 : Int32) r_65 b15 cs r_64 zr_64 ff_64 k15 h64 n0 Z64 OL CS FM E_o_64 F_coder_o_64 F_value_o_64 Y_r_64 V_b15 (own_hk ts_64 en2 eab ct_64 hsg (z := (1 : Int32)) (B := (3 : Int32)) (K := (0 : Int32)) (by decide) (by decide) (by decide)) (by decide) (by omega) (by omega)) (by decide) (W := 0) (Nat.le_of_eq rfl) (by decide) (by rw [hml]; rfl) (lenOf pd_32 rfl) rfl (hb hby at_417) (pc' := 420) rfl (by decide) (by decide) ?_; intro v71 T71 L71 X71 hQ71
    obtain ⟨rfl, N71q, e71⟩ := hQ71
    have N71 := Fr.app N70 N71q
    refine R.ifNo X71 hx (hb hby at_420) (feq (by decide : ¬ ((1 : Int32) = (0 : Int32)))).1 (pc' := 423) rfl ?_
    refine R.aload X71 hx (hb hby at_423) rfl rfl (pc' := 425) rfl ?_
    refine R.iload X71 hx (hb hby at_425) rfl (pc' := 427) rfl ?_
    refine R.iload X71 hx (hb hby at_427) rfl (pc' := 429) rfl ?_
    refine R.iconst X71 hx (hb hby at_429) (v := (1 : Int32)) (by decide) (pc' := 430) rfl ?_
    refine R.lload X71 hx (hb hby at_430) rfl (pc' := 432) rfl ?_
    refine R.aload X71 hx (hb hby at_432) rfl rfl (pc' := 434) rfl ?_
    refine R.callS X71 hx hZ (y := mY40) hown w_222 w_223 w_197 w_224 (by decide) e71 (rm42 l Z aZ hw [] o_64 (3 : Int32) r_66 (1 : Int32) r_65 b15 cs r_64 zr_64 ff_64 k15 h64 n0 Z64 OL CS FM E_o_64 F_coder_o_64 F_value_o_64 Y_r_64 V_b15 (own_hk ts_64 en2 eab ct_64 hsg (z := (1 : Int32)) (B := (3 : Int32)) (K := (1 : Int32)) (by decide) (by decide) (by decide)) (by decide) (by omega) (by omega)) (by decide) (W := 0) (Nat.le_of_eq rfl) (by decide) (by rw [hml]; rfl) (lenOf pd_32 rfl) rfl (hb hby at_434) (pc' := 437) rfl (by decide) (by decide) ?_; intro v72 T72 L72 X72 hQ72
    obtain ⟨rfl, N72q, e72⟩ := hQ72
    have N72 := Fr.app N71 N72q
    refine R.ifNo X72 hx (hb hby at_437) (feq (by decide : ¬ ((1 : Int32) = (0 : Int32)))).1 (pc' := 440) rfl ?_
    refine R.aload X72 hx (hb hby at_440) rfl rfl (pc' := 442) rfl ?_
    refine R.iload X72 hx (hb hby at_442) rfl (pc' := 444) rfl ?_
    refine R.iload X72 hx (hb hby at_444) rfl (pc' := 446) rfl ?_
    refine R.iconst X72 hx (hb hby at_446) (v := (2 : Int32)) (by decide) (pc' := 447) rfl ?_
    refine R.lload X72 hx (hb hby at_447) rfl (pc' := 449) rfl ?_
    refine R.aload X72 hx (hb hby at_449) rfl rfl (pc' := 451) rfl ?_
    refine R.callS X72 hx hZ (y := mY40) hown w_222 w_223 w_197 w_224 (by decide) e72 (rm42 l Z aZ hw [] o_64 (3 : Int32) r_66 (2 : Int32) r_65 b15 cs r_64 zr_64 ff_64 k15 h64 n0 Z64 OL CS FM E_o_64 F_coder_o_64 F_value_o_64 Y_r_64 V_b15 (own_hk ts_64 en2 eab ct_64 hsg (z := (1 : Int32)) (B := (3 : Int32)) (K := (2 : Int32)) (by decide) (by decide) (by decide)) (by decide) (by omega) (by omega)) (by decide) (W := 0) (Nat.le_of_eq rfl) (by decide) (by rw [hml]; rfl) (lenOf pd_32 rfl) rfl (hb hby at_451) (pc' := 454) rfl (by decide) (by decide) ?_; intro v73 T73 L73 X73 hQ73
    obtain ⟨rfl, N73q, e73⟩ := hQ73
    have N73 := Fr.app N72 N73q
    refine R.ifNo X73 hx (hb hby at_454) (feq (by decide : ¬ ((1 : Int32) = (0 : Int32)))).1 (pc' := 457) rfl ?_
    refine R.aload X73 hx (hb hby at_457) rfl rfl (pc' := 459) rfl ?_
    refine R.iload X73 hx (hb hby at_459) rfl (pc' := 461) rfl ?_
    refine R.iload X73 hx (hb hby at_461) rfl (pc' := 463) rfl ?_
    refine R.iconst X73 hx (hb hby at_463) (v := (3 : Int32)) (by decide) (pc' := 464) rfl ?_
    refine R.lload X73 hx (hb hby at_464) rfl (pc' := 466) rfl ?_
    refine R.aload X73 hx (hb hby at_466) rfl rfl (pc' := 468) rfl ?_
    refine R.callS X73 hx hZ (y := mY40) hown w_222 w_223 w_197 w_224 (by decide) e73 (rm42 l Z aZ hw [] o_64 (3 : Int32) r_66 (3 : Int32) r_65 b15 cs r_64 zr_64 ff_64 k15 h64 n0 Z64 OL CS FM E_o_64 F_coder_o_64 F_value_o_64 Y_r_64 V_b15 (own_hk ts_64 en2 eab ct_64 hsg (z := (1 : Int32)) (B := (3 : Int32)) (K := (3 : Int32)) (by decide) (by decide) (by decide)) (by decide) (by omega) (by omega)) (by decide) (W := 0) (Nat.le_of_eq rfl) (by decide) (by rw [hml]; rfl) (lenOf pd_32 rfl) rfl (hb hby at_468) (pc' := 471) rfl (by decide) (by decide) ?_; intro v74 T74 L74 X74 hQ74
    obtain ⟨rfl, N74q, e74⟩ := hQ74
    have N74 := Fr.app N73 N74q
    refine R.ifNo X74 hx (hb hby at_471) (feq (by decide : ¬ ((1 : Int32) = (0 : Int32)))).1 (pc' := 474) rfl ?_
    refine R.aload X74 hx (hb hby at_474) rfl rfl (pc' := 476) rfl ?_
    refine R.iload X74 hx (hb hby at_476) rfl (pc' := 478) rfl ?_
    refine R.iload X74 hx (hb hby at_478) rfl (pc' := 480) rfl ?_
    refine R.iconst X74 hx (hb hby at_480) (v := (4 : Int32)) (by decide) (pc' := 481) rfl ?_
    refine R.lload X74 hx (hb hby at_481) rfl (pc' := 483) rfl ?_
    refine R.aload X74 hx (hb hby at_483) rfl rfl (pc' := 485) rfl ?_
    refine R.callS X74 hx hZ (y := mY40) hown w_222 w_223 w_197 w_224 (by decide) e74 (rm42 l Z aZ hw [] o_64 (3 : Int32) r_66 (4 : Int32) r_65 b15 cs r_64 zr_64 ff_64 k15 h64 n0 Z64 OL CS FM E_o_64 F_coder_o_64 F_value_o_64 Y_r_64 V_b15 (own_hk ts_64 en2 eab ct_64 hsg (z := (1 : Int32)) (B := (3 : Int32)) (K := (4 : Int32)) (by decide) (by decide) (by decide)) (by decide) (by omega) (by omega)) (by decide) (W := 0) (Nat.le_of_eq rfl) (by decide) (by rw [hml]; rfl) (lenOf pd_32 rfl) rfl (hb hby at_485) (pc' := 488) rfl (by decide) (by decide) ?_; intro v75 T75 L75 X75 hQ75
    obtain ⟨rfl, N75q, e75⟩ := hQ75
    have N75 := Fr.app N74 N75q
    refine R.ifNo X75 hx (hb hby at_488) (feq (by decide : ¬ ((1 : Int32) = (0 : Int32)))).1 (pc' := 491) rfl ?_
    refine R.aload X75 hx (hb hby at_491) rfl rfl (pc' := 493) rfl ?_
    refine R.iload X75 hx (hb hby at_493) rfl (pc' := 495) rfl ?_
    refine R.iload X75 hx (hb hby at_495) rfl (pc' := 497) rfl ?_
    refine R.iconst X75 hx (hb hby at_497) (v := (5 : Int32)) (by decide) (pc' := 498) rfl ?_
    refine R.lload X75 hx (hb hby at_498) rfl (pc' := 500) rfl ?_
    refine R.aload X75 hx (hb hby at_500) rfl rfl (pc' := 502) rfl ?_
    refine R.callS X75 hx hZ (y := mY40) hown w_222 w_223 w_197 w_224 (by decide) e75 (rm42 l Z aZ hw [] o_64 (3 : Int32) r_66 (5 : Int32) r_65 b15 cs r_64 zr_64 ff_64 k15 h64 n0 Z64 OL CS FM E_o_64 F_coder_o_64 F_value_o_64 Y_r_64 V_b15 (own_hk ts_64 en2 eab ct_64 hsg (z := (1 : Int32)) (B := (3 : Int32)) (K := (5 : Int32)) (by decide) (by decide) (by decide)) (by decide) (by omega) (by omega)) (by decide) (W := 0) (Nat.le_of_eq rfl) (by decide) (by rw [hml]; rfl) (lenOf pd_32 rfl) rfl (hb hby at_502) (pc' := 505) rfl (by decide) (by decide) ?_; intro v76 T76 L76 X76 hQ76
    obtain ⟨rfl, N76q, e76⟩ := hQ76
    have N76 := Fr.app N75 N76q
    refine R.ifNo X76 hx (hb hby at_505) (feq (by decide : ¬ ((1 : Int32) = (0 : Int32)))).1 (pc' := 508) rfl ?_
    refine R.aload X76 hx (hb hby at_508) rfl rfl (pc' := 510) rfl ?_
    refine R.iload X76 hx (hb hby at_510) rfl (pc' := 512) rfl ?_
    refine R.iload X76 hx (hb hby at_512) rfl (pc' := 514) rfl ?_
    refine R.bipush X76 hx (hb hby at_514) (v := (6 : Int32)) (by decide) (pc' := 516) rfl ?_
    refine R.lload X76 hx (hb hby at_516) rfl (pc' := 518) rfl ?_
    refine R.aload X76 hx (hb hby at_518) rfl rfl (pc' := 520) rfl ?_
    refine R.callS X76 hx hZ (y := mY40) hown w_222 w_223 w_197 w_224 (by decide) e76 (rm42 l Z aZ hw [] o_64 (3 : Int32) r_66 (6 : Int32) r_65 b15 cs r_64 zr_64 ff_64 k15 h64 n0 Z64 OL CS FM E_o_64 F_coder_o_64 F_value_o_64 Y_r_64 V_b15 (own_hk ts_64 en2 eab ct_64 hsg (z := (1 : Int32)) (B := (3 : Int32)) (K := (6 : Int32)) (by decide) (by decide) (by decide)) (by decide) (by omega) (by omega)) (by decide) (W := 0) (Nat.le_of_eq rfl) (by decide) (by rw [hml]; rfl) (lenOf pd_32 rfl) rfl (hb hby at_520) (pc' := 523) rfl (by decide) (by decide) ?_; intro v77 T77 L77 X77 hQ77
    obtain ⟨rfl, N77q, e77⟩ := hQ77
    have N77 := Fr.app N76 N77q
    refine R.ifNo X77 hx (hb hby at_523) (feq (by decide : ¬ ((1 : Int32) = (0 : Int32)))).1 (pc' := 526) rfl ?_
    refine R.aload X77 hx (hb hby at_526) rfl rfl (pc' := 528) rfl ?_
    refine R.iload X77 hx (hb hby at_528) rfl (pc' := 530) rfl ?_
    refine R.iload X77 hx (hb hby at_530) rfl (pc' := 532) rfl ?_
    refine R.bipush X77 hx (hb hby at_532) (v := (7 : Int32)) (by decide) (pc' := 534) rfl ?_
    refine R.lload X77 hx (hb hby at_534) rfl (pc' := 536) rfl ?_
    refine R.aload X77 hx (hb hby at_536) rfl rfl (pc' := 538) rfl ?_
    refine R.callS X77 hx hZ (y := mY40) hown w_222 w_223 w_197 w_224 (by decide) e77 (rm42 l Z aZ hw [] o_64 (3 : Int32) r_66 (7 : Int32) r_65 b15 cs r_64 zr_64 ff_64 k15 h64 n0 Z64 OL CS FM E_o_64 F_coder_o_64 F_value_o_64 Y_r_64 V_b15 (own_hk ts_64 en2 eab ct_64 hsg (z := (1 : Int32)) (B := (3 : Int32)) (K := (7 : Int32)) (by decide) (by decide) (by decide)) (by decide) (by omega) (by omega)) (by decide) (W := 0) (Nat.le_of_eq rfl) (by decide) (by rw [hml]; rfl) (lenOf pd_32 rfl) rfl (hb hby at_538) (pc' := 541) rfl (by decide) (by decide) ?_; intro v78 T78 L78 X78 hQ78
    obtain ⟨rfl, N78q, e78⟩ := hQ78
    have N78 := Fr.app N77 N78q
    refine R.ifNo X78 hx (hb hby at_541) (feq (by decide : ¬ ((1 : Int32) = (0 : Int32)))).1 (pc' := 544) rfl ?_
    refine R.aload X78 hx (hb hby at_544) rfl rfl (pc' := 546) rfl ?_
    refine R.iload X78 hx (hb hby at_546) rfl (pc' := 548) rfl ?_
    refine R.iload X78 hx (hb hby at_548) rfl (pc' := 550) rfl ?_
    refine R.bipush X78 hx (hb hby at_550) (v := (8 : Int32)) (by decide) (pc' := 552) rfl ?_
    refine R.lload X78 hx (hb hby at_552) rfl (pc' := 554) rfl ?_
    refine R.aload X78 hx (hb hby at_554) rfl rfl (pc' := 556) rfl ?_
    refine R.callS X78 hx hZ (y := mY40) hown w_222 w_223 w_197 w_224 (by decide) e78 (rm42 l Z aZ hw [] o_64 (3 : Int32) r_66 (8 : Int32) r_65 b15 cs r_64 zr_64 ff_64 k15 h64 n0 Z64 OL CS FM E_o_64 F_coder_o_64 F_value_o_64 Y_r_64 V_b15 (own_hk ts_64 en2 eab ct_64 hsg (z := (1 : Int32)) (B := (3 : Int32)) (K := (8 : Int32)) (by decide) (by decide) (by decide)) (by decide) (by omega) (by omega)) (by decide) (W := 0) (Nat.le_of_eq rfl) (by decide) (by rw [hml]; rfl) (lenOf pd_32 rfl) rfl (hb hby at_556) (pc' := 559) rfl (by decide) (by decide) ?_; intro v79 T79 L79 X79 hQ79
    obtain ⟨rfl, N79q, e79⟩ := hQ79
    have N79 := Fr.app N78 N79q
    refine R.ifNo X79 hx (hb hby at_559) (feq (by decide : ¬ ((1 : Int32) = (0 : Int32)))).1 (pc' := 562) rfl ?_
    refine R.aload X79 hx (hb hby at_562) rfl rfl (pc' := 564) rfl ?_
    refine R.iload X79 hx (hb hby at_564) rfl (pc' := 566) rfl ?_
    refine R.iload X79 hx (hb hby at_566) rfl (pc' := 568) rfl ?_
    refine R.bipush X79 hx (hb hby at_568) (v := (9 : Int32)) (by decide) (pc' := 570) rfl ?_
    refine R.lload X79 hx (hb hby at_570) rfl (pc' := 572) rfl ?_
    refine R.aload X79 hx (hb hby at_572) rfl rfl (pc' := 574) rfl ?_
    refine R.callS X79 hx hZ (y := mY40) hown w_222 w_223 w_197 w_224 (by decide) e79 (rm42 l Z aZ hw [] o_64 (3 : Int32) r_66 (9 : Int32) r_65 b15 cs r_64 zr_64 ff_64 k15 h64 n0 Z64 OL CS FM E_o_64 F_coder_o_64 F_value_o_64 Y_r_64 V_b15 (own_hk ts_64 en2 eab ct_64 hsg (z := (1 : Int32)) (B := (3 : Int32)) (K := (9 : Int32)) (by decide) (by decide) (by decide)) (by decide) (by omega) (by omega)) (by decide) (W := 0) (Nat.le_of_eq rfl) (by decide) (by rw [hml]; rfl) (lenOf pd_32 rfl) rfl (hb hby at_574) (pc' := 577) rfl (by decide) (by decide) ?_; intro v80 T80 L80 X80 hQ80
    obtain ⟨rfl, N80q, e80⟩ := hQ80
    have N80 := Fr.app N79 N80q
    refine R.ifNo X80 hx (hb hby at_577) (feq (by decide : ¬ ((1 : Int32) = (0 : Int32)))).1 (pc' := 580) rfl ?_
    refine R.iconst X80 hx (hb hby at_580) (v := (1 : Int32)) (by decide) (pc' := 581) rfl ?_
    refine R.goto X80 hx (hb hby at_581) (by decide) (pc' := 585) (by decide) ?_
    rw [← hG]
    exact Rn.retW X80 hS hk (BodyLoose.notSynchronized Bd) (v := some (.int (1 : Int32))) (fun h => by rw [Bd.returns] at h; cases h) (Q := Q0 Z p0 p1 p2 cs dO dT h0 n0) e80 (fun fs hr => retN X80 hx (t := .boolean) Bd.returns (by simp) (hb hby at_585) hr) ⟨rfl, N80⟩ (by decide) (by decide)
  · refine R.ifYes X64 hx (hb hby at_251) (flt hc251).2.1 (by decide) (pc' := 258) (by decide) ?_
    refine R.iconst X64 hx (hb hby at_258) (v := (0 : Int32)) (by decide) (pc' := 259) rfl ?_
    refine R.istore X64 hx (hb hby at_259) (L' := #[.val (.int p0), .val (.int p1), .val (.int p2), .val (.int i1), .val (.int i2), .val (.int i3), .val (.int (1 : Int32)), .val (.ref b5), .val (.ref b6), .val (.ref b8), .val (.ref b11), .val (.ref b15), .val (.ref b60), .val (.ref o_64), .val (.int (0 : Int32)), .unset, .unset, .unset, .unset, .unset]) rfl (pc' := 261) rfl ?_
    have hneg : 0 ≤ p2.toInt := own_ge0 hc251
    have hsg : own_sg p2.toInt = 0 := by unfold own_sg; rw [if_neg (by omega)]
    have bp := own_b p2
    have hn1 := hx_64.1
    have hn10 := hx_64.2.1
    have ct := ct_64
    rw [hsg] at ct
    have tz : ((1 : Int32)).toInt = 1 := by decide
    refine R.iloadN X64 hx (hb hby at_261) rfl (pc' := 262) rfl ?_
    refine R.i2l X64 hx (hb hby at_262) (pc' := 263) rfl ?_
    refine R.callS X64 hx hZ (y := mY38) hown w_192 w_193 w_189 w_194 (by decide) e64 (rm35 l Z aZ hw [] (p2.toInt64) h64 n0 Z64 (by rw [Int32.toInt_toInt64]; omega)) (by decide) (W := 0) (Nat.le_of_eq rfl) (by decide) (by rw [hml]; rfl) (lenOf pd_30 rfl) rfl (hb hby at_263) (pc' := 266) rfl (by decide) (by decide) ?_; intro v81 T81 L81 X81 hQ81
    obtain ⟨r_81, rfl, N81q, e81, P81_0⟩ := hQ81
    have N81 := Fr.app N64 N81q
    have ab_81 := P81_0
    have ab : r_81.toInt = (p2.toInt.natAbs : Int) := by have q := ab_81; rw [Int32.toInt_toInt64] at q; exact q
    refine R.lstore X81 hx (hb hby at_266) (L' := #[.val (.int p0), .val (.int p1), .val (.int p2), .val (.int i1), .val (.int i2), .val (.int i3), .val (.int (1 : Int32)), .val (.ref b5), .val (.ref b6), .val (.ref b8), .val (.ref b11), .val (.ref b15), .val (.ref b60), .val (.ref o_64), .val (.int (0 : Int32)), .val (.long r_81), .second, .unset, .unset, .unset]) rfl (pc' := 268) rfl ?_
    refine R.lload X81 hx (hb hby at_268) rfl (pc' := 270) rfl ?_
    refine R.callS X81 hx hZ (y := mY39) hown w_195 w_196 w_197 w_198 (by decide) e81 (rm36 l Z aZ hw [] r_81 h64 n0 Z64 (by omega)) (by decide) (W := 0) (Nat.le_of_eq rfl) (by decide) (by rw [hml]; rfl) (lenOf pd_31 rfl) rfl (hb hby at_270) (pc' := 273) rfl (by decide) (by decide) ?_; intro v82 T82 L82 X82 hQ82
    obtain ⟨r_82, rfl, N82q, e82, P82_0⟩ := hQ82
    have N82 := Fr.app N81 N82q
    have dg_82 := P82_0
    obtain ⟨n2, hn2, en2⟩ := dg_82
    have eab : r_81.toInt.toNat = p2.toInt.natAbs := by omega
    rw [eab] at hn2
    have enn : n2 = nd_64 := own_ndU hn2 hx_64
    rw [enn] at en2
    refine R.istore X82 hx (hb hby at_273) (L' := #[.val (.int p0), .val (.int p1), .val (.int p2), .val (.int i1), .val (.int i2), .val (.int i3), .val (.int (1 : Int32)), .val (.ref b5), .val (.ref b6), .val (.ref b8), .val (.ref b11), .val (.ref b15), .val (.ref b60), .val (.ref o_64), .val (.int (0 : Int32)), .val (.long r_81), .second, .val (.int r_82), .unset, .unset]) rfl (pc' := 275) rfl ?_
    refine R.iload X82 hx (hb hby at_275) rfl (pc' := 277) rfl ?_
    refine R.ifYes X82 hx (hb hby at_277) (teq (by decide : (0 : Int32) = (0 : Int32))).1 (by decide) (pc' := 284) (by decide) ?_
    refine R.iconst X82 hx (hb hby at_284) (v := (0 : Int32)) (by decide) (pc' := 285) rfl ?_
    refine R.istore X82 hx (hb hby at_285) (L' := #[.val (.int p0), .val (.int p1), .val (.int p2), .val (.int i1), .val (.int i2), .val (.int i3), .val (.int (1 : Int32)), .val (.ref b5), .val (.ref b6), .val (.ref b8), .val (.ref b11), .val (.ref b15), .val (.ref b60), .val (.ref o_64), .val (.int (0 : Int32)), .val (.long r_81), .second, .val (.int r_82), .val (.int (0 : Int32)), .unset]) rfl (pc' := 287) rfl ?_
    refine R.aload X82 hx (hb hby at_287) rfl rfl (pc' := 289) rfl ?_
    refine R.virtual X82 hx hZ (y := mY9) (z := mY9) hown w_199 w_90 (notFace_of_selects (args := #[]) (mvT hZ w_92)) w_92 w_91 w_13 w_93 (by decide) e82 E_o_64 (rm14 l Z aZ hw [] o_64 cs r_64 zr_64 ff_64 h64 n0 Z64 OL CS E_o_64 F_coder_o_64 F_value_o_64 Y_r_64) (by decide) (W := 0) (Nat.le_of_eq rfl) (by decide) (by rw [hml]; rfl) (lenOf pd_0 rfl) rfl (hb hby at_289) (pc' := 292) rfl (by decide) (by decide) ?_; intro v83 T83 L83 X83 hQ83
    obtain ⟨rfl, N83q, e83⟩ := hQ83
    have N83 := Fr.app N82 N83q
    refine R.iload X83 hx (hb hby at_292) rfl (pc' := 294) rfl ?_
    refine R.iconst X83 hx (hb hby at_294) (v := (1 : Int32)) (by decide) (pc' := 295) rfl ?_
    refine R.iadd X83 hx (hb hby at_295) (v := (2 : Int32)) (by decide) (pc' := 296) rfl ?_
    refine R.iload X83 hx (hb hby at_296) rfl (pc' := 298) rfl ?_
    refine R.iadd X83 hx (hb hby at_298) (v := (2 : Int32)) (by decide) (pc' := 299) rfl ?_
    refine R.iload X83 hx (hb hby at_299) rfl (pc' := 301) rfl ?_
    refine R.iadd X83 hx (hb hby at_301) rfl (pc' := 302) rfl ?_
    refine R.icmpYes X83 hx (hb hby at_302) (teq (own_len (k := 2) (by decide) en2 hn10 (by omega) : zr_64 = ((2 : Int32) + r_82))).1 (by decide) (pc' := 307) (by decide) ?_
    refine R.iload X83 hx (hb hby at_307) rfl (pc' := 309) rfl ?_
    refine R.ifNo X83 hx (hb hby at_309) (tlt (by decide : (0 : Int32) < (1 : Int32))).2.2.2 (pc' := 312) rfl ?_
    refine R.aload X83 hx (hb hby at_312) rfl rfl (pc' := 314) rfl ?_
    refine R.iconst X83 hx (hb hby at_314) (v := (0 : Int32)) (by decide) (pc' := 315) rfl ?_
    refine R.virtual X83 hx hZ (y := mY34) (z := mY34) hown w_200 w_201 (notFace_of_selects (args := #[]) (mvT hZ w_203)) w_203 w_202 w_13 w_204 (by decide) e83 E_o_64 (rm37 l Z aZ hw [] o_64 (0 : Int32) cs r_64 zr_64 ff_64 h64 n0 Z64 OL CS FM E_o_64 F_coder_o_64 F_value_o_64 Y_r_64 (by decide) (own_ltI (k := 0) (by decide) (by omega))) (by decide) (W := 0) (Nat.le_of_eq rfl) (by decide) (by rw [hml]; rfl) (lenOf pd_27 rfl) rfl (hb hby at_315) (pc' := 318) rfl (by decide) (by decide) ?_; intro v84 T84 L84 X84 hQ84
    obtain ⟨r_84, rfl, N84q, e84, P84_0⟩ := hQ84
    have N84 := Fr.app N83 N84q
    have ch_84 := P84_0
    refine R.iloadN X84 hx (hb hby at_318) rfl (pc' := 319) rfl ?_
    refine R.icmpYes X84 hx (hb hby at_319) (teq (own_chk ((ts_64.1 _ (by decide)).trans rfl) b_i1 ch_84 : r_84 = i1)).1 (by decide) (pc' := 324) (by decide) ?_
    refine R.iload X84 hx (hb hby at_324) rfl (pc' := 326) rfl ?_
    refine R.iconst X84 hx (hb hby at_326) (v := (1 : Int32)) (by decide) (pc' := 327) rfl ?_
    refine R.icmpYes X84 hx (hb hby at_327) (flt (by decide : ¬ ((1 : Int32) < (1 : Int32)))).2.2.2 (by decide) (pc' := 343) (by decide) ?_
    refine R.iload X84 hx (hb hby at_343) rfl (pc' := 345) rfl ?_
    refine R.iconst X84 hx (hb hby at_345) (v := (2 : Int32)) (by decide) (pc' := 346) rfl ?_
    refine R.icmpYes X84 hx (hb hby at_346) (flt (by decide : ¬ ((2 : Int32) < (1 : Int32)))).2.2.2 (by decide) (pc' := 362) (by decide) ?_
    refine R.aload X84 hx (hb hby at_362) rfl rfl (pc' := 364) rfl ?_
    refine R.iload X84 hx (hb hby at_364) rfl (pc' := 366) rfl ?_
    refine R.virtual X84 hx hZ (y := mY34) (z := mY34) hown w_200 w_201 (notFace_of_selects (args := #[]) (mvT hZ w_203)) w_203 w_202 w_13 w_204 (by decide) e84 E_o_64 (rm37 l Z aZ hw [] o_64 (1 : Int32) cs r_64 zr_64 ff_64 h64 n0 Z64 OL CS FM E_o_64 F_coder_o_64 F_value_o_64 Y_r_64 (by decide) (own_ltI (k := 1) (by decide) (by omega))) (by decide) (W := 0) (Nat.le_of_eq rfl) (by decide) (by rw [hml]; rfl) (lenOf pd_27 rfl) rfl (hb hby at_366) (pc' := 369) rfl (by decide) (by decide) ?_; intro v85 T85 L85 X85 hQ85
    obtain ⟨r_85, rfl, N85q, e85, P85_0⟩ := hQ85
    have N85 := Fr.app N84 N85q
    have ch_85 := P85_0
    refine R.bipush X85 hx (hb hby at_369) (v := (58 : Int32)) (by decide) (pc' := 371) rfl ?_
    refine R.icmpYes X85 hx (hb hby at_371) (teq (own_chv ts_64.2.1 (by decide) ch_85 : r_85 = (58 : Int32))).1 (by decide) (pc' := 376) (by decide) ?_
    refine R.iload X85 hx (hb hby at_376) rfl (pc' := 378) rfl ?_
    refine R.ifYes X85 hx (hb hby at_378) (teq (by decide : (0 : Int32) = (0 : Int32))).1 (by decide) (pc' := 397) (by decide) ?_
    refine R.iload X85 hx (hb hby at_397) rfl (pc' := 399) rfl ?_
    refine R.iconst X85 hx (hb hby at_399) (v := (1 : Int32)) (by decide) (pc' := 400) rfl ?_
    refine R.iadd X85 hx (hb hby at_400) (v := (2 : Int32)) (by decide) (pc' := 401) rfl ?_
    refine R.iload X85 hx (hb hby at_401) rfl (pc' := 403) rfl ?_
    refine R.iadd X85 hx (hb hby at_403) (v := (2 : Int32)) (by decide) (pc' := 404) rfl ?_
    refine R.istore X85 hx (hb hby at_404) (L' := #[.val (.int p0), .val (.int p1), .val (.int p2), .val (.int i1), .val (.int i2), .val (.int i3), .val (.int (1 : Int32)), .val (.ref b5), .val (.ref b6), .val (.ref b8), .val (.ref b11), .val (.ref b15), .val (.ref b60), .val (.ref o_64), .val (.int (0 : Int32)), .val (.long r_81), .second, .val (.int r_82), .val (.int (0 : Int32)), .val (.int (2 : Int32))]) rfl (pc' := 406) rfl ?_
    refine R.aload X85 hx (hb hby at_406) rfl rfl (pc' := 408) rfl ?_
    refine R.iload X85 hx (hb hby at_408) rfl (pc' := 410) rfl ?_
    refine R.iload X85 hx (hb hby at_410) rfl (pc' := 412) rfl ?_
    refine R.iconst X85 hx (hb hby at_412) (v := (0 : Int32)) (by decide) (pc' := 413) rfl ?_
    refine R.lload X85 hx (hb hby at_413) rfl (pc' := 415) rfl ?_
    refine R.aload X85 hx (hb hby at_415) rfl rfl (pc' := 417) rfl ?_
    refine R.callS X85 hx hZ (y := mY40) hown w_222 w_223 w_197 w_224 (by decide) e85 (rm42 l Z aZ hw [] o_64 (2 : Int32) r_82 (0 : Int32) r_81 b15 cs r_64 zr_64 ff_64 k15 h64 n0 Z64 OL CS FM E_o_64 F_coder_o_64 F_value_o_64 Y_r_64 V_b15 (own_hk ts_64 en2 eab ct_64 hsg (z := (1 : Int32)) (B := (2 : Int32)) (K := (0 : Int32)) (by decide) (by decide) (by decide)) (by decide) (by omega) (by omega)) (by decide) (W := 0) (Nat.le_of_eq rfl) (by decide) (by rw [hml]; rfl) (lenOf pd_32 rfl) rfl (hb hby at_417) (pc' := 420) rfl (by decide) (by decide) ?_; intro v86 T86 L86 X86 hQ86
    obtain ⟨rfl, N86q, e86⟩ := hQ86
    have N86 := Fr.app N85 N86q
    refine R.ifNo X86 hx (hb hby at_420) (feq (by decide : ¬ ((1 : Int32) = (0 : Int32)))).1 (pc' := 423) rfl ?_
    refine R.aload X86 hx (hb hby at_423) rfl rfl (pc' := 425) rfl ?_
    refine R.iload X86 hx (hb hby at_425) rfl (pc' := 427) rfl ?_
    refine R.iload X86 hx (hb hby at_427) rfl (pc' := 429) rfl ?_
    refine R.iconst X86 hx (hb hby at_429) (v := (1 : Int32)) (by decide) (pc' := 430) rfl ?_
    refine R.lload X86 hx (hb hby at_430) rfl (pc' := 432) rfl ?_
    refine R.aload X86 hx (hb hby at_432) rfl rfl (pc' := 434) rfl ?_
    refine R.callS X86 hx hZ (y := mY40) hown w_222 w_223 w_197 w_224 (by decide) e86 (rm42 l Z aZ hw [] o_64 (2 : Int32) r_82 (1 : Int32) r_81 b15 cs r_64 zr_64 ff_64 k15 h64 n0 Z64 OL CS FM E_o_64 F_coder_o_64 F_value_o_64 Y_r_64 V_b15 (own_hk ts_64 en2 eab ct_64 hsg (z := (1 : Int32)) (B := (2 : Int32)) (K := (1 : Int32)) (by decide) (by decide) (by decide)) (by decide) (by omega) (by omega)) (by decide) (W := 0) (Nat.le_of_eq rfl) (by decide) (by rw [hml]; rfl) (lenOf pd_32 rfl) rfl (hb hby at_434) (pc' := 437) rfl (by decide) (by decide) ?_; intro v87 T87 L87 X87 hQ87
    obtain ⟨rfl, N87q, e87⟩ := hQ87
    have N87 := Fr.app N86 N87q
    refine R.ifNo X87 hx (hb hby at_437) (feq (by decide : ¬ ((1 : Int32) = (0 : Int32)))).1 (pc' := 440) rfl ?_
    refine R.aload X87 hx (hb hby at_440) rfl rfl (pc' := 442) rfl ?_
    refine R.iload X87 hx (hb hby at_442) rfl (pc' := 444) rfl ?_
    refine R.iload X87 hx (hb hby at_444) rfl (pc' := 446) rfl ?_
    refine R.iconst X87 hx (hb hby at_446) (v := (2 : Int32)) (by decide) (pc' := 447) rfl ?_
    refine R.lload X87 hx (hb hby at_447) rfl (pc' := 449) rfl ?_
    refine R.aload X87 hx (hb hby at_449) rfl rfl (pc' := 451) rfl ?_
    refine R.callS X87 hx hZ (y := mY40) hown w_222 w_223 w_197 w_224 (by decide) e87 (rm42 l Z aZ hw [] o_64 (2 : Int32) r_82 (2 : Int32) r_81 b15 cs r_64 zr_64 ff_64 k15 h64 n0 Z64 OL CS FM E_o_64 F_coder_o_64 F_value_o_64 Y_r_64 V_b15 (own_hk ts_64 en2 eab ct_64 hsg (z := (1 : Int32)) (B := (2 : Int32)) (K := (2 : Int32)) (by decide) (by decide) (by decide)) (by decide) (by omega) (by omega)) (by decide) (W := 0) (Nat.le_of_eq rfl) (by decide) (by rw [hml]; rfl) (lenOf pd_32 rfl) rfl (hb hby at_451) (pc' := 454) rfl (by decide) (by decide) ?_; intro v88 T88 L88 X88 hQ88
    obtain ⟨rfl, N88q, e88⟩ := hQ88
    have N88 := Fr.app N87 N88q
    refine R.ifNo X88 hx (hb hby at_454) (feq (by decide : ¬ ((1 : Int32) = (0 : Int32)))).1 (pc' := 457) rfl ?_
    refine R.aload X88 hx (hb hby at_457) rfl rfl (pc' := 459) rfl ?_
    refine R.iload X88 hx (hb hby at_459) rfl (pc' := 461) rfl ?_
    refine R.iload X88 hx (hb hby at_461) rfl (pc' := 463) rfl ?_
    refine R.iconst X88 hx (hb hby at_463) (v := (3 : Int32)) (by decide) (pc' := 464) rfl ?_
    refine R.lload X88 hx (hb hby at_464) rfl (pc' := 466) rfl ?_
    refine R.aload X88 hx (hb hby at_466) rfl rfl (pc' := 468) rfl ?_
    refine R.callS X88 hx hZ (y := mY40) hown w_222 w_223 w_197 w_224 (by decide) e88 (rm42 l Z aZ hw [] o_64 (2 : Int32) r_82 (3 : Int32) r_81 b15 cs r_64 zr_64 ff_64 k15 h64 n0 Z64 OL CS FM E_o_64 F_coder_o_64 F_value_o_64 Y_r_64 V_b15 (own_hk ts_64 en2 eab ct_64 hsg (z := (1 : Int32)) (B := (2 : Int32)) (K := (3 : Int32)) (by decide) (by decide) (by decide)) (by decide) (by omega) (by omega)) (by decide) (W := 0) (Nat.le_of_eq rfl) (by decide) (by rw [hml]; rfl) (lenOf pd_32 rfl) rfl (hb hby at_468) (pc' := 471) rfl (by decide) (by decide) ?_; intro v89 T89 L89 X89 hQ89
    obtain ⟨rfl, N89q, e89⟩ := hQ89
    have N89 := Fr.app N88 N89q
    refine R.ifNo X89 hx (hb hby at_471) (feq (by decide : ¬ ((1 : Int32) = (0 : Int32)))).1 (pc' := 474) rfl ?_
    refine R.aload X89 hx (hb hby at_474) rfl rfl (pc' := 476) rfl ?_
    refine R.iload X89 hx (hb hby at_476) rfl (pc' := 478) rfl ?_
    refine R.iload X89 hx (hb hby at_478) rfl (pc' := 480) rfl ?_
    refine R.iconst X89 hx (hb hby at_480) (v := (4 : Int32)) (by decide) (pc' := 481) rfl ?_
    refine R.lload X89 hx (hb hby at_481) rfl (pc' := 483) rfl ?_
    refine R.aload X89 hx (hb hby at_483) rfl rfl (pc' := 485) rfl ?_
    refine R.callS X89 hx hZ (y := mY40) hown w_222 w_223 w_197 w_224 (by decide) e89 (rm42 l Z aZ hw [] o_64 (2 : Int32) r_82 (4 : Int32) r_81 b15 cs r_64 zr_64 ff_64 k15 h64 n0 Z64 OL CS FM E_o_64 F_coder_o_64 F_value_o_64 Y_r_64 V_b15 (own_hk ts_64 en2 eab ct_64 hsg (z := (1 : Int32)) (B := (2 : Int32)) (K := (4 : Int32)) (by decide) (by decide) (by decide)) (by decide) (by omega) (by omega)) (by decide) (W := 0) (Nat.le_of_eq rfl) (by decide) (by rw [hml]; rfl) (lenOf pd_32 rfl) rfl (hb hby at_485) (pc' := 488) rfl (by decide) (by decide) ?_; intro v90 T90 L90 X90 hQ90
    obtain ⟨rfl, N90q, e90⟩ := hQ90
    have N90 := Fr.app N89 N90q
    refine R.ifNo X90 hx (hb hby at_488) (feq (by decide : ¬ ((1 : Int32) = (0 : Int32)))).1 (pc' := 491) rfl ?_
    refine R.aload X90 hx (hb hby at_491) rfl rfl (pc' := 493) rfl ?_
    refine R.iload X90 hx (hb hby at_493) rfl (pc' := 495) rfl ?_
    refine R.iload X90 hx (hb hby at_495) rfl (pc' := 497) rfl ?_
    refine R.iconst X90 hx (hb hby at_497) (v := (5 : Int32)) (by decide) (pc' := 498) rfl ?_
    refine R.lload X90 hx (hb hby at_498) rfl (pc' := 500) rfl ?_
    refine R.aload X90 hx (hb hby at_500) rfl rfl (pc' := 502) rfl ?_
    refine R.callS X90 hx hZ (y := mY40) hown w_222 w_223 w_197 w_224 (by decide) e90 (rm42 l Z aZ hw [] o_64 (2 : Int32) r_82 (5 : Int32) r_81 b15 cs r_64 zr_64 ff_64 k15 h64 n0 Z64 OL CS FM E_o_64 F_coder_o_64 F_value_o_64 Y_r_64 V_b15 (own_hk ts_64 en2 eab ct_64 hsg (z := (1 : Int32)) (B := (2 : Int32)) (K := (5 : Int32)) (by decide) (by decide) (by decide)) (by decide) (by omega) (by omega)) (by decide) (W := 0) (Nat.le_of_eq rfl) (by decide) (by rw [hml]; rfl) (lenOf pd_32 rfl) rfl (hb hby at_502) (pc' := 505) rfl (by decide) (by decide) ?_; intro v91 T91 L91 X91 hQ91
    obtain ⟨rfl, N91q, e91⟩ := hQ91
    have N91 := Fr.app N90 N91q
    refine R.ifNo X91 hx (hb hby at_505) (feq (by decide : ¬ ((1 : Int32) = (0 : Int32)))).1 (pc' := 508) rfl ?_
    refine R.aload X91 hx (hb hby at_508) rfl rfl (pc' := 510) rfl ?_
    refine R.iload X91 hx (hb hby at_510) rfl (pc' := 512) rfl ?_
    refine R.iload X91 hx (hb hby at_512) rfl (pc' := 514) rfl ?_
    refine R.bipush X91 hx (hb hby at_514) (v := (6 : Int32)) (by decide) (pc' := 516) rfl ?_
    refine R.lload X91 hx (hb hby at_516) rfl (pc' := 518) rfl ?_
    refine R.aload X91 hx (hb hby at_518) rfl rfl (pc' := 520) rfl ?_
    refine R.callS X91 hx hZ (y := mY40) hown w_222 w_223 w_197 w_224 (by decide) e91 (rm42 l Z aZ hw [] o_64 (2 : Int32) r_82 (6 : Int32) r_81 b15 cs r_64 zr_64 ff_64 k15 h64 n0 Z64 OL CS FM E_o_64 F_coder_o_64 F_value_o_64 Y_r_64 V_b15 (own_hk ts_64 en2 eab ct_64 hsg (z := (1 : Int32)) (B := (2 : Int32)) (K := (6 : Int32)) (by decide) (by decide) (by decide)) (by decide) (by omega) (by omega)) (by decide) (W := 0) (Nat.le_of_eq rfl) (by decide) (by rw [hml]; rfl) (lenOf pd_32 rfl) rfl (hb hby at_520) (pc' := 523) rfl (by decide) (by decide) ?_; intro v92 T92 L92 X92 hQ92
    obtain ⟨rfl, N92q, e92⟩ := hQ92
    have N92 := Fr.app N91 N92q
    refine R.ifNo X92 hx (hb hby at_523) (feq (by decide : ¬ ((1 : Int32) = (0 : Int32)))).1 (pc' := 526) rfl ?_
    refine R.aload X92 hx (hb hby at_526) rfl rfl (pc' := 528) rfl ?_
    refine R.iload X92 hx (hb hby at_528) rfl (pc' := 530) rfl ?_
    refine R.iload X92 hx (hb hby at_530) rfl (pc' := 532) rfl ?_
    refine R.bipush X92 hx (hb hby at_532) (v := (7 : Int32)) (by decide) (pc' := 534) rfl ?_
    refine R.lload X92 hx (hb hby at_534) rfl (pc' := 536) rfl ?_
    refine R.aload X92 hx (hb hby at_536) rfl rfl (pc' := 538) rfl ?_
    refine R.callS X92 hx hZ (y := mY40) hown w_222 w_223 w_197 w_224 (by decide) e92 (rm42 l Z aZ hw [] o_64 (2 : Int32) r_82 (7 : Int32) r_81 b15 cs r_64 zr_64 ff_64 k15 h64 n0 Z64 OL CS FM E_o_64 F_coder_o_64 F_value_o_64 Y_r_64 V_b15 (own_hk ts_64 en2 eab ct_64 hsg (z := (1 : Int32)) (B := (2 : Int32)) (K := (7 : Int32)) (by decide) (by decide) (by decide)) (by decide) (by omega) (by omega)) (by decide) (W := 0) (Nat.le_of_eq rfl) (by decide) (by rw [hml]; rfl) (lenOf pd_32 rfl) rfl (hb hby at_538) (pc' := 541) rfl (by decide) (by decide) ?_; intro v93 T93 L93 X93 hQ93
    obtain ⟨rfl, N93q, e93⟩ := hQ93
    have N93 := Fr.app N92 N93q
    refine R.ifNo X93 hx (hb hby at_541) (feq (by decide : ¬ ((1 : Int32) = (0 : Int32)))).1 (pc' := 544) rfl ?_
    refine R.aload X93 hx (hb hby at_544) rfl rfl (pc' := 546) rfl ?_
    refine R.iload X93 hx (hb hby at_546) rfl (pc' := 548) rfl ?_
    refine R.iload X93 hx (hb hby at_548) rfl (pc' := 550) rfl ?_
    refine R.bipush X93 hx (hb hby at_550) (v := (8 : Int32)) (by decide) (pc' := 552) rfl ?_
    refine R.lload X93 hx (hb hby at_552) rfl (pc' := 554) rfl ?_
    refine R.aload X93 hx (hb hby at_554) rfl rfl (pc' := 556) rfl ?_
    refine R.callS X93 hx hZ (y := mY40) hown w_222 w_223 w_197 w_224 (by decide) e93 (rm42 l Z aZ hw [] o_64 (2 : Int32) r_82 (8 : Int32) r_81 b15 cs r_64 zr_64 ff_64 k15 h64 n0 Z64 OL CS FM E_o_64 F_coder_o_64 F_value_o_64 Y_r_64 V_b15 (own_hk ts_64 en2 eab ct_64 hsg (z := (1 : Int32)) (B := (2 : Int32)) (K := (8 : Int32)) (by decide) (by decide) (by decide)) (by decide) (by omega) (by omega)) (by decide) (W := 0) (Nat.le_of_eq rfl) (by decide) (by rw [hml]; rfl) (lenOf pd_32 rfl) rfl (hb hby at_556) (pc' := 559) rfl (by decide) (by decide) ?_; intro v94 T94 L94 X94 hQ94
    obtain ⟨rfl, N94q, e94⟩ := hQ94
    have N94 := Fr.app N93 N94q
    refine R.ifNo X94 hx (hb hby at_559) (feq (by decide : ¬ ((1 : Int32) = (0 : Int32)))).1 (pc' := 562) rfl ?_
    refine R.aload X94 hx (hb hby at_562) rfl rfl (pc' := 564) rfl ?_
    refine R.iload X94 hx (hb hby at_564) rfl (pc' := 566) rfl ?_
    refine R.iload X94 hx (hb hby at_566) rfl (pc' := 568) rfl ?_
    refine R.bipush X94 hx (hb hby at_568) (v := (9 : Int32)) (by decide) (pc' := 570) rfl ?_
    refine R.lload X94 hx (hb hby at_570) rfl (pc' := 572) rfl ?_
    refine R.aload X94 hx (hb hby at_572) rfl rfl (pc' := 574) rfl ?_
    refine R.callS X94 hx hZ (y := mY40) hown w_222 w_223 w_197 w_224 (by decide) e94 (rm42 l Z aZ hw [] o_64 (2 : Int32) r_82 (9 : Int32) r_81 b15 cs r_64 zr_64 ff_64 k15 h64 n0 Z64 OL CS FM E_o_64 F_coder_o_64 F_value_o_64 Y_r_64 V_b15 (own_hk ts_64 en2 eab ct_64 hsg (z := (1 : Int32)) (B := (2 : Int32)) (K := (9 : Int32)) (by decide) (by decide) (by decide)) (by decide) (by omega) (by omega)) (by decide) (W := 0) (Nat.le_of_eq rfl) (by decide) (by rw [hml]; rfl) (lenOf pd_32 rfl) rfl (hb hby at_574) (pc' := 577) rfl (by decide) (by decide) ?_; intro v95 T95 L95 X95 hQ95
    obtain ⟨rfl, N95q, e95⟩ := hQ95
    have N95 := Fr.app N94 N95q
    refine R.ifNo X95 hx (hb hby at_577) (feq (by decide : ¬ ((1 : Int32) = (0 : Int32)))).1 (pc' := 580) rfl ?_
    refine R.iconst X95 hx (hb hby at_580) (v := (1 : Int32)) (by decide) (pc' := 581) rfl ?_
    refine R.goto X95 hx (hb hby at_581) (by decide) (pc' := 585) (by decide) ?_
    rw [← hG]
    exact Rn.retW X95 hS hk (BodyLoose.notSynchronized Bd) (v := some (.int (1 : Int32))) (fun h => by rw [Bd.returns] at h; cases h) (Q := Q0 Z p0 p1 p2 cs dO dT h0 n0) e95 (fun fs hr => retN X95 hx (t := .boolean) Bd.returns (by simp) (hb hby at_585) hr) ⟨rfl, N95⟩ (by decide) (by decide)
set_option maxRecDepth 65536 in
set_option maxHeartbeats 40000000 in
theorem rm0_2 (l : Launch) (Z : State) (aZ : Array Value) (hw : ∀ d ∈ tables_1, d.before aZ Z = true) (ws : List Jvm.Cond) (p0 : Int32) (p1 : Int32) (p2 : Int32) (cs : Int32) (dO : Addr) (dT : Addr) (h0 : Heap) (n0 : Nat) {p : Program} {e : Env} {s : State} {m : MethodId} {below : List Frame} {meth : Method} {c : Code} {s₁ : State} (Bd : BodyLoose p l x (head1 (Jvm.Cond.code x code maxLocals ret :: ws) room_1) code maxLocals ret e s m #[(.int p0), (.int p1), (.int p2)] below meth c s₁) (hml : c.maxLocals = 20) (hZ : Z.Warmed39 (s.setVm s.vm).vm) {TL : State} {hL : Heap} {lL : List Loc} (XL : Stand p l e room_1 (s.setVm s.vm) m #[(.int p0), (.int p1), (.int p2)] below meth c TL lL 5 16) (eL : TL.heap = hL) (NL : Fr n0 lL) (KL : Keep h0 hL []) (ZL : n0 ≤ hL.size) (b11 : Addr) (b15 : Addr) (b5 : Addr) (b6 : Addr) (b8 : Addr) (i1 : Int32) (i2 : Int32) (i3 : Int32) (k15 : ClassId) (k8 : ClassId) {G : Outcome → State → Prop} (hG : (Fn0 Z p0 p1 p2 cs dO dT h0 n0 s) = G) (OL : Old Z n0 hL) (V_b8 : Arh Z hL b8 k8 .char (2 : Int32) [((1 : Int32), (.int i2)), ((0 : Int32), (.int i1))] [] (.int (0 : Int32))) (V_b15 : Arh Z hL b15 k15 .long (10 : Int32) [((9 : Int32), (.long (1000000000 : Int64))), ((8 : Int32), (.long (100000000 : Int64))), ((7 : Int32), (.long (10000000 : Int64))), ((6 : Int32), (.long (1000000 : Int64))), ((5 : Int32), (.long (100000 : Int64))), ((4 : Int32), (.long (10000 : Int64))), ((3 : Int32), (.long (1000 : Int64))), ((2 : Int32), (.long (100 : Int64))), ((1 : Int32), (.long (10 : Int64))), ((0 : Int32), (.long (1 : Int64)))] [] (.long (0 : Int64))) (ne_b8_b15 : b8 ≠ b15) (g_b8 : n0 ≤ b8) (g_b15 : n0 ≤ b15) (sz_b8 : h0.size ≤ b8) (sz_b15 : h0.size ≤ b15) (CS : own_CS Z cs) (FM : own_FM Z) (DG : own_DG Z dO dT) (HC : CHv Z consts_1 s.vm h0) (b_i1 : 0 ≤ i1.toInt ∧ i1.toInt ≤ 255) (b_i2 : 0 ≤ i2.toInt ∧ i2.toInt ≤ 255) (b_i3 : 0 ≤ i3.toInt ∧ i3.toInt ≤ 255) : Rn p e below (TL.setTop (mkF m 165 #[.val (.int p0), .val (.int p1), .val (.int p2), .val (.int i1), .val (.int i2), .val (.int i3), .val (.int (2 : Int32)), .val (.ref b5), .val (.ref b6), .val (.ref b8), .val (.ref b11), .val (.ref b15), .unset, .unset, .unset, .unset, .unset, .unset, .unset, .unset] [])) G := by
  have hx := Bd.exec
  have hby := Bd.bytes
  have hown : (s.setVm s.vm).vm.findClass "com/example/apportion/apportion/jsonl/PlaceToStringPinLaw" = some m.cls := findClass_of_methodNamed Bd.named
  have hnm := (name_of_methodNamed Bd.named Bd.method).1
  have w_11 := hw _ (List.mem_of_getElem? (i := 11) rfl)
  have w_12 := hw _ (List.mem_of_getElem? (i := 12) rfl)
  have w_13 := hw _ (List.mem_of_getElem? (i := 13) rfl)
  have w_14 := hw _ (List.mem_of_getElem? (i := 14) rfl)
  have w_15 := hw _ (List.mem_of_getElem? (i := 15) rfl)
  have w_16 := hw _ (List.mem_of_getElem? (i := 16) rfl)
  have w_37 := hw _ (List.mem_of_getElem? (i := 37) rfl)
  have w_39 := hw _ (List.mem_of_getElem? (i := 39) rfl)
  have w_40 := hw _ (List.mem_of_getElem? (i := 40) rfl)
  have w_41 := hw _ (List.mem_of_getElem? (i := 41) rfl)
  have w_42 := hw _ (List.mem_of_getElem? (i := 42) rfl)
  have w_43 := hw _ (List.mem_of_getElem? (i := 43) rfl)
  have w_44 := hw _ (List.mem_of_getElem? (i := 44) rfl)
  have w_45 := hw _ (List.mem_of_getElem? (i := 45) rfl)
  have w_53 := hw _ (List.mem_of_getElem? (i := 53) rfl)
  have w_55 := hw _ (List.mem_of_getElem? (i := 55) rfl)
  have w_56 := hw _ (List.mem_of_getElem? (i := 56) rfl)
  have w_57 := hw _ (List.mem_of_getElem? (i := 57) rfl)
  have w_58 := hw _ (List.mem_of_getElem? (i := 58) rfl)
  have w_59 := hw _ (List.mem_of_getElem? (i := 59) rfl)
  have w_60 := hw _ (List.mem_of_getElem? (i := 60) rfl)
  have w_90 := hw _ (List.mem_of_getElem? (i := 90) rfl)
  have w_91 := hw _ (List.mem_of_getElem? (i := 91) rfl)
  have w_92 := hw _ (List.mem_of_getElem? (i := 92) rfl)
  have w_93 := hw _ (List.mem_of_getElem? (i := 93) rfl)
  have w_189 := hw _ (List.mem_of_getElem? (i := 189) rfl)
  have w_192 := hw _ (List.mem_of_getElem? (i := 192) rfl)
  have w_193 := hw _ (List.mem_of_getElem? (i := 193) rfl)
  have w_194 := hw _ (List.mem_of_getElem? (i := 194) rfl)
  have w_195 := hw _ (List.mem_of_getElem? (i := 195) rfl)
  have w_196 := hw _ (List.mem_of_getElem? (i := 196) rfl)
  have w_197 := hw _ (List.mem_of_getElem? (i := 197) rfl)
  have w_198 := hw _ (List.mem_of_getElem? (i := 198) rfl)
  have w_199 := hw _ (List.mem_of_getElem? (i := 199) rfl)
  have w_200 := hw _ (List.mem_of_getElem? (i := 200) rfl)
  have w_201 := hw _ (List.mem_of_getElem? (i := 201) rfl)
  have w_202 := hw _ (List.mem_of_getElem? (i := 202) rfl)
  have w_203 := hw _ (List.mem_of_getElem? (i := 203) rfl)
  have w_204 := hw _ (List.mem_of_getElem? (i := 204) rfl)
  have w_222 := hw _ (List.mem_of_getElem? (i := 222) rfl)
  have w_223 := hw _ (List.mem_of_getElem? (i := 223) rfl)
  have w_224 := hw _ (List.mem_of_getElem? (i := 224) rfl)
  have hS : s.Since s.vm 0 := (State.WarmedH.refl s).since 0
  have hk : 0 ≤ hL.size := Nat.zero_le _
  have hEL := own_ew hw
  have wS := own_ws hw
  show Rn p e below (TL.setTop (mkF m 165 #[.val (.int p0), .val (.int p1), .val (.int p2), .val (.int i1), .val (.int i2), .val (.int i3), .val (.int (2 : Int32)), .val (.ref b5), .val (.ref b6), .val (.ref b8), .val (.ref b11), .val (.ref b15), .unset, .unset, .unset, .unset, .unset, .unset, .unset, .unset] [])) G
  refine R.iload XL hx (hb hby at_165) rfl (pc' := 167) rfl ?_
  refine R.ifYes XL hx (hb hby at_167) (feq (by decide : ¬ ((2 : Int32) = (0 : Int32)))).2 (by decide) (pc' := 184) (by decide) ?_
  refine R.iload XL hx (hb hby at_184) rfl (pc' := 186) rfl ?_
  refine R.iconst XL hx (hb hby at_186) (v := (1 : Int32)) (by decide) (pc' := 187) rfl ?_
  refine R.icmpYes XL hx (hb hby at_187) (feq (by decide : ¬ ((2 : Int32) = (1 : Int32)))).2 (by decide) (pc' := 204) (by decide) ?_
  refine R.iload XL hx (hb hby at_204) rfl (pc' := 206) rfl ?_
  refine R.iconst XL hx (hb hby at_206) (v := (2 : Int32)) (by decide) (pc' := 207) rfl ?_
  refine R.icmpNo XL hx (hb hby at_207) (teq (by decide : (2 : Int32) = (2 : Int32))).2 (pc' := 210) rfl ?_
  refine R.newO XL hx hZ hown w_11 w_12 w_13 eL (hb hby at_210) (pc' := 213) rfl (by decide) (by decide) ?_; intro T96 h96 b96 g96 X96 e96 E96 AA96 D96
  have g_b96 : n0 ≤ b96 := Nat.le_trans ZL (Nat.le_of_eq g96.symm)
  have sz_b96 : h0.size ≤ b96 := Nat.le_trans KL.1 (Nat.le_of_eq g96.symm)
  have ne_b8_b96 : b8 ≠ b96 := Nat.ne_of_lt (Nat.lt_of_lt_of_le V_b8.lt (Nat.le_of_eq g96.symm))
  have ne_b15_b96 : b15 ≠ b96 := Nat.ne_of_lt (Nat.lt_of_lt_of_le V_b15.lt (Nat.le_of_eq g96.symm))
  have K96 : Keep h0 h96 [] := KL.ext E96
  have Z96 : n0 ≤ h96.size := Nat.le_trans ZL E96.1
  have hk := Nat.le_trans hk E96.1
  have OL := OL.ext E96
  have V_b8 := V_b8.ext E96
  have V_b15 := V_b15.ext E96
  have E_b96 := AA96
  have F_coder_b96 : Fld Z h96 b96 "java/lang/String" "coder" "B" (.int (0 : Int32)) := D96 (Or.inr w_37) (ty := .byte) (by decide)
  have F_value_b96 : Fld Z h96 b96 "java/lang/String" "value" "[B" .null := D96 (Or.inr w_39) (ty := (.array .byte)) (by decide)
  refine R.dup X96 hx (hb hby at_213) rfl (pc' := 214) rfl ?_
  refine R.aload X96 hx (hb hby at_214) rfl rfl (pc' := 216) rfl ?_
  refine R.special X96 hx hZ (y := mY35) rfl hown w_14 w_15 w_13 w_16 (by decide) e96 (rmsj2 l Z aZ hw [] b96 b8 cs k8 [((1 : Int32), (.int i2)), ((0 : Int32), (.int i1))] i1 i2 h96 n0 Z96 OL CS E_b96 F_coder_b96 F_value_b96 g_b96 V_b8 (Ne.symm ne_b8_b96) (getH_miss (by decide) (by decide) (getH_hit (by decide) (rfl))) (getH_hit (by decide) (rfl)) (b_i1) (b_i2)) (by decide) (W := 1) (Nat.le_of_eq rfl) (by decide) (by rw [hml]; rfl) (lenOf pd_28 rfl) rfl (hb hby at_216) (pc' := 219) rfl (by decide) (by decide) ?_; intro v97 T97 L97 X97 hQ97
  obtain ⟨r_97, rfl, N97q, Kc97, P97_0, P97_1, P97_2, P97_3, P97_4⟩ := hQ97
  have N97 := Fr.app NL N97q
  generalize e97 : T97.heap = h97 at Kc97 P97_0 P97_1 P97_2 P97_3 P97_4
  have K97 : Keep h0 h97 [] := K96.trans Kc97 ((allS (Or.inr sz_b96) all0))
  have Z97 : n0 ≤ h97.size := Nat.le_trans Z96 Kc97.1
  have hk := Nat.le_trans hk Kc97.1
  have ne_b8_r_97 : b8 ≠ r_97 := Nat.ne_of_lt (Nat.lt_of_lt_of_le V_b8.lt P97_0)
  have ne_b15_r_97 : b15 ≠ r_97 := Nat.ne_of_lt (Nat.lt_of_lt_of_le V_b15.lt P97_0)
  have ne_b96_r_97 : b96 ≠ r_97 := Nat.ne_of_lt (Nat.lt_of_lt_of_le E_b96.lt P97_0)
  have g_r_97 : n0 ≤ r_97 := Nat.le_trans Z96 P97_0
  have sz_r_97 : h0.size ≤ r_97 := Nat.le_trans K96.1 P97_0
  have OL := OL.keep Kc97 (allS g_b96 all0)
  have V_b8 := V_b8.keep Kc97 (ninS ne_b8_b96 nin0)
  have V_b15 := V_b15.keep Kc97 (ninS ne_b15_b96 nin0)
  have fresh_97 := P97_0
  have E_b96 : Exa Z h97 b96 "java/lang/String" := P97_1
  have F_coder_b96 : Fld Z h97 b96 "java/lang/String" "coder" "B" (.int (0 : Int32)) := P97_2
  have F_value_b96 : Fld Z h97 b96 "java/lang/String" "value" "[B" (.ref r_97) := P97_3
  have Y_r_97 : own_By Z h97 r_97 (2 : Int32) (own_up (own_up (fun _ => 0) (0 : Int32).toNatClampNeg (i1.toInt8.toInt32)) (1 : Int32).toNatClampNeg (i2.toInt8.toInt32)) := P97_4
  refine R.astore X97 hx (hb hby at_219) rfl (L' := #[.val (.int p0), .val (.int p1), .val (.int p2), .val (.int i1), .val (.int i2), .val (.int i3), .val (.int (2 : Int32)), .val (.ref b5), .val (.ref b6), .val (.ref b8), .val (.ref b11), .val (.ref b15), .val (.ref b96), .unset, .unset, .unset, .unset, .unset, .unset, .unset]) rfl (pc' := 221) rfl ?_
  refine R.goto X97 hx (hb hby at_221) (by decide) (pc' := 235) (by decide) ?_
  refine R.newO X97 hx hZ hown w_40 w_41 w_42 e97 (hb hby at_235) (pc' := 238) rfl (by decide) (by decide) ?_; intro T98 h98 b98 g98 X98 e98 E98 AA98 D98
  have g_b98 : n0 ≤ b98 := Nat.le_trans Z97 (Nat.le_of_eq g98.symm)
  have sz_b98 : h0.size ≤ b98 := Nat.le_trans K97.1 (Nat.le_of_eq g98.symm)
  have ne_b8_b98 : b8 ≠ b98 := Nat.ne_of_lt (Nat.lt_of_lt_of_le V_b8.lt (Nat.le_of_eq g98.symm))
  have ne_b15_b98 : b15 ≠ b98 := Nat.ne_of_lt (Nat.lt_of_lt_of_le V_b15.lt (Nat.le_of_eq g98.symm))
  have ne_b96_b98 : b96 ≠ b98 := Nat.ne_of_lt (Nat.lt_of_lt_of_le E_b96.lt (Nat.le_of_eq g98.symm))
  have ne_r_97_b98 : r_97 ≠ b98 := Nat.ne_of_lt (Nat.lt_of_lt_of_le Y_r_97.lt (Nat.le_of_eq g98.symm))
  have K98 : Keep h0 h98 [] := K97.ext E98
  have Z98 : n0 ≤ h98.size := Nat.le_trans Z97 E98.1
  have hk := Nat.le_trans hk E98.1
  have OL := OL.ext E98
  have V_b8 := V_b8.ext E98
  have V_b15 := V_b15.ext E98
  have E_b96 := E_b96.ext E98
  have F_coder_b96 := F_coder_b96.ext E98
  have F_value_b96 := F_value_b96.ext E98
  have Y_r_97 := Y_r_97.ext E98
  have E_b98 := AA98
  have F_file_b98 : Fld Z h98 b98 "com/example/apportion/apportion/jsonl/LedgerFiles$Place" "file" "Ljava/lang/String;" .null := D98 (Or.inr w_53) (ty := (.object "java/lang/String")) (by decide)
  have F_line_b98 : Fld Z h98 b98 "com/example/apportion/apportion/jsonl/LedgerFiles$Place" "line" "I" (.int (0 : Int32)) := D98 (Or.inr w_55) (ty := .int) (by decide)
  refine R.dup X98 hx (hb hby at_238) rfl (pc' := 239) rfl ?_
  refine R.aload X98 hx (hb hby at_239) rfl rfl (pc' := 241) rfl ?_
  refine R.iloadN X98 hx (hb hby at_241) rfl (pc' := 242) rfl ?_
  refine R.special X98 hx hZ (y := mY36) rfl hown w_43 w_44 w_42 w_45 (by decide) e98 (rm7 l Z aZ hw [] b98 b96 p2 h98 n0 Z98 E_b98 F_file_b98 F_line_b98 g_b98) (by decide) (W := 1) (Nat.le_of_eq rfl) (by decide) (by rw [hml]; rfl) (lenOf pd_29 rfl) rfl (hb hby at_242) (pc' := 245) rfl (by decide) (by decide) ?_; intro v99 T99 L99 X99 hQ99
  obtain ⟨rfl, N99q, Kc99, P99_0, P99_1, P99_2⟩ := hQ99
  have N99 := Fr.app N97 N99q
  generalize e99 : T99.heap = h99 at Kc99 P99_0 P99_1 P99_2
  have K99 : Keep h0 h99 [] := K98.trans Kc99 ((allS (Or.inr sz_b98) all0))
  have Z99 : n0 ≤ h99.size := Nat.le_trans Z98 Kc99.1
  have hk := Nat.le_trans hk Kc99.1
  have OL := OL.keep Kc99 (allS g_b98 all0)
  have V_b8 := V_b8.keep Kc99 (ninS ne_b8_b98 nin0)
  have V_b15 := V_b15.keep Kc99 (ninS ne_b15_b98 nin0)
  have E_b96 := E_b96.keep Kc99
  have F_coder_b96 := F_coder_b96.keep Kc99 (ninS ne_b96_b98 nin0)
  have F_value_b96 := F_value_b96.keep Kc99 (ninS ne_b96_b98 nin0)
  have Y_r_97 := Y_r_97.keep Kc99 (ninS ne_r_97_b98 nin0)
  have E_b98 : Exa Z h99 b98 "com/example/apportion/apportion/jsonl/LedgerFiles$Place" := P99_0
  have F_file_b98 : Fld Z h99 b98 "com/example/apportion/apportion/jsonl/LedgerFiles$Place" "file" "Ljava/lang/String;" (.ref b96) := P99_1
  have F_line_b98 : Fld Z h99 b98 "com/example/apportion/apportion/jsonl/LedgerFiles$Place" "line" "I" (.int p2) := P99_2
  refine R.virtualH X99 hx hZ hS hk hEL (HC.keep K99 (fun x q => nomatch q)) (sf := []) (all0) (y := mY37) hown w_56 w_57 w_59 w_58 w_42 w_60 (by decide) e99 E_b98 (rm9 l Z aZ hw [] b98 cs dO dT b96 p2 r_97 (2 : Int32) (own_up (own_up (fun _ => 0) (0 : Int32).toNatClampNeg (i1.toInt8.toInt32)) (1 : Int32).toNatClampNeg (i2.toInt8.toInt32)) h99 n0 Z99 OL CS DG E_b98 F_file_b98 F_line_b98 E_b96 F_coder_b96 F_value_b96 Y_r_97 (by decide)) (by decide) (W := 0) (Nat.le_of_eq rfl) (by decide) (by rw [hml]; rfl) (lenOf pd_26 rfl) rfl (hb hby at_245) (pc' := 248) rfl (by decide) (by decide) ?_; intro v100 T100 L100 k100 X100 hS hk hZ hown hQ100
  obtain ⟨o_100, r_100, zr_100, ff_100, nd_100, rfl, N100q, Kc100, P100_0, P100_1, P100_2, P100_3, P100_4, P100_5, P100_6⟩ := hQ100
  have N100 := Fr.app N99 N100q
  generalize e100 : T100.heap = h100 at Kc100 P100_0 P100_1 P100_2 P100_3 P100_4 P100_5 P100_6 hk
  have K100 : Keep h0 h100 [] := K99.trans Kc100 (all0)
  have Z100 : n0 ≤ h100.size := Nat.le_trans Z99 Kc100.1
  have OL := OL.keep Kc100 all0
  have V_b8 := V_b8.keep Kc100 nin0
  have V_b15 := V_b15.keep Kc100 nin0
  have E_b96 := E_b96.keep Kc100
  have F_coder_b96 := F_coder_b96.keep Kc100 nin0
  have F_value_b96 := F_value_b96.keep Kc100 nin0
  have Y_r_97 := Y_r_97.keep Kc100 nin0
  have E_b98 := E_b98.keep Kc100
  have F_file_b98 := F_file_b98.keep Kc100 nin0
  have F_line_b98 := F_line_b98.keep Kc100 nin0
  have E_o_100 : Exa Z h100 o_100 "java/lang/String" := P100_0
  have F_coder_o_100 : Fld Z h100 o_100 "java/lang/String" "coder" "B" (.int (0 : Int32)) := P100_1
  have F_value_o_100 : Fld Z h100 o_100 "java/lang/String" "value" "[B" (.ref r_100) := P100_2
  have Y_r_100 : own_By Z h100 r_100 zr_100 ff_100 := P100_3
  have hx_100 := P100_4
  have ct_100 := P100_5
  have ts_100 := P100_6
  refine R.astore X100 hx (hb hby at_248) rfl (L' := #[.val (.int p0), .val (.int p1), .val (.int p2), .val (.int i1), .val (.int i2), .val (.int i3), .val (.int (2 : Int32)), .val (.ref b5), .val (.ref b6), .val (.ref b8), .val (.ref b11), .val (.ref b15), .val (.ref b96), .val (.ref o_100), .unset, .unset, .unset, .unset, .unset, .unset]) rfl (pc' := 250) rfl ?_
  refine R.iloadN X100 hx (hb hby at_250) rfl (pc' := 251) rfl ?_
  by_cases hc251 : p2 < (0 : Int32)
  · refine R.ifNo X100 hx (hb hby at_251) (tlt hc251).2.1 (pc' := 254) rfl ?_
    refine R.iconst X100 hx (hb hby at_254) (v := (1 : Int32)) (by decide) (pc' := 255) rfl ?_
    refine R.goto X100 hx (hb hby at_255) (by decide) (pc' := 259) (by decide) ?_
    refine R.istore X100 hx (hb hby at_259) (L' := #[.val (.int p0), .val (.int p1), .val (.int p2), .val (.int i1), .val (.int i2), .val (.int i3), .val (.int (2 : Int32)), .val (.ref b5), .val (.ref b6), .val (.ref b8), .val (.ref b11), .val (.ref b15), .val (.ref b96), .val (.ref o_100), .val (.int (1 : Int32)), .unset, .unset, .unset, .unset, .unset]) rfl (pc' := 261) rfl ?_
    have hneg : p2.toInt < 0 := own_lt0 hc251
    have hsg : own_sg p2.toInt = 1 := by unfold own_sg; rw [if_pos (by omega)]
    have bp := own_b p2
    have hn1 := hx_100.1
    have hn10 := hx_100.2.1
    have ct := ct_100
    rw [hsg] at ct
    have tz : ((2 : Int32)).toInt = 2 := by decide
    refine R.iloadN X100 hx (hb hby at_261) rfl (pc' := 262) rfl ?_
    refine R.i2l X100 hx (hb hby at_262) (pc' := 263) rfl ?_
    refine R.callS X100 hx hZ (y := mY38) hown w_192 w_193 w_189 w_194 (by decide) e100 (rm35 l Z aZ hw [] (p2.toInt64) h100 n0 Z100 (by rw [Int32.toInt_toInt64]; omega)) (by decide) (W := 0) (Nat.le_of_eq rfl) (by decide) (by rw [hml]; rfl) (lenOf pd_30 rfl) rfl (hb hby at_263) (pc' := 266) rfl (by decide) (by decide) ?_; intro v101 T101 L101 X101 hQ101
    obtain ⟨r_101, rfl, N101q, e101, P101_0⟩ := hQ101
    have N101 := Fr.app N100 N101q
    have ab_101 := P101_0
    have ab : r_101.toInt = (p2.toInt.natAbs : Int) := by have q := ab_101; rw [Int32.toInt_toInt64] at q; exact q
    refine R.lstore X101 hx (hb hby at_266) (L' := #[.val (.int p0), .val (.int p1), .val (.int p2), .val (.int i1), .val (.int i2), .val (.int i3), .val (.int (2 : Int32)), .val (.ref b5), .val (.ref b6), .val (.ref b8), .val (.ref b11), .val (.ref b15), .val (.ref b96), .val (.ref o_100), .val (.int (1 : Int32)), .val (.long r_101), .second, .unset, .unset, .unset]) rfl (pc' := 268) rfl ?_
    refine R.lload X101 hx (hb hby at_268) rfl (pc' := 270) rfl ?_
    refine R.callS X101 hx hZ (y := mY39) hown w_195 w_196 w_197 w_198 (by decide) e101 (rm36 l Z aZ hw [] r_101 h100 n0 Z100 (by omega)) (by decide) (W := 0) (Nat.le_of_eq rfl) (by decide) (by rw [hml]; rfl) (lenOf pd_31 rfl) rfl (hb hby at_270) (pc' := 273) rfl (by decide) (by decide) ?_; intro v102 T102 L102 X102 hQ102
    obtain ⟨r_102, rfl, N102q, e102, P102_0⟩ := hQ102
    have N102 := Fr.app N101 N102q
    have dg_102 := P102_0
    obtain ⟨n2, hn2, en2⟩ := dg_102
    have eab : r_101.toInt.toNat = p2.toInt.natAbs := by omega
    rw [eab] at hn2
    have enn : n2 = nd_100 := own_ndU hn2 hx_100
    rw [enn] at en2
    refine R.istore X102 hx (hb hby at_273) (L' := #[.val (.int p0), .val (.int p1), .val (.int p2), .val (.int i1), .val (.int i2), .val (.int i3), .val (.int (2 : Int32)), .val (.ref b5), .val (.ref b6), .val (.ref b8), .val (.ref b11), .val (.ref b15), .val (.ref b96), .val (.ref o_100), .val (.int (1 : Int32)), .val (.long r_101), .second, .val (.int r_102), .unset, .unset]) rfl (pc' := 275) rfl ?_
    refine R.iload X102 hx (hb hby at_275) rfl (pc' := 277) rfl ?_
    refine R.ifNo X102 hx (hb hby at_277) (feq (by decide : ¬ ((1 : Int32) = (0 : Int32)))).1 (pc' := 280) rfl ?_
    refine R.iconst X102 hx (hb hby at_280) (v := (1 : Int32)) (by decide) (pc' := 281) rfl ?_
    refine R.goto X102 hx (hb hby at_281) (by decide) (pc' := 285) (by decide) ?_
    refine R.istore X102 hx (hb hby at_285) (L' := #[.val (.int p0), .val (.int p1), .val (.int p2), .val (.int i1), .val (.int i2), .val (.int i3), .val (.int (2 : Int32)), .val (.ref b5), .val (.ref b6), .val (.ref b8), .val (.ref b11), .val (.ref b15), .val (.ref b96), .val (.ref o_100), .val (.int (1 : Int32)), .val (.long r_101), .second, .val (.int r_102), .val (.int (1 : Int32)), .unset]) rfl (pc' := 287) rfl ?_
    refine R.aload X102 hx (hb hby at_287) rfl rfl (pc' := 289) rfl ?_
    refine R.virtual X102 hx hZ (y := mY9) (z := mY9) hown w_199 w_90 (notFace_of_selects (args := #[]) (mvT hZ w_92)) w_92 w_91 w_13 w_93 (by decide) e102 E_o_100 (rm14 l Z aZ hw [] o_100 cs r_100 zr_100 ff_100 h100 n0 Z100 OL CS E_o_100 F_coder_o_100 F_value_o_100 Y_r_100) (by decide) (W := 0) (Nat.le_of_eq rfl) (by decide) (by rw [hml]; rfl) (lenOf pd_0 rfl) rfl (hb hby at_289) (pc' := 292) rfl (by decide) (by decide) ?_; intro v103 T103 L103 X103 hQ103
    obtain ⟨rfl, N103q, e103⟩ := hQ103
    have N103 := Fr.app N102 N103q
    refine R.iload X103 hx (hb hby at_292) rfl (pc' := 294) rfl ?_
    refine R.iconst X103 hx (hb hby at_294) (v := (1 : Int32)) (by decide) (pc' := 295) rfl ?_
    refine R.iadd X103 hx (hb hby at_295) (v := (3 : Int32)) (by decide) (pc' := 296) rfl ?_
    refine R.iload X103 hx (hb hby at_296) rfl (pc' := 298) rfl ?_
    refine R.iadd X103 hx (hb hby at_298) (v := (4 : Int32)) (by decide) (pc' := 299) rfl ?_
    refine R.iload X103 hx (hb hby at_299) rfl (pc' := 301) rfl ?_
    refine R.iadd X103 hx (hb hby at_301) rfl (pc' := 302) rfl ?_
    refine R.icmpYes X103 hx (hb hby at_302) (teq (own_len (k := 4) (by decide) en2 hn10 (by omega) : zr_100 = ((4 : Int32) + r_102))).1 (by decide) (pc' := 307) (by decide) ?_
    refine R.iload X103 hx (hb hby at_307) rfl (pc' := 309) rfl ?_
    refine R.ifNo X103 hx (hb hby at_309) (tlt (by decide : (0 : Int32) < (2 : Int32))).2.2.2 (pc' := 312) rfl ?_
    refine R.aload X103 hx (hb hby at_312) rfl rfl (pc' := 314) rfl ?_
    refine R.iconst X103 hx (hb hby at_314) (v := (0 : Int32)) (by decide) (pc' := 315) rfl ?_
    refine R.virtual X103 hx hZ (y := mY34) (z := mY34) hown w_200 w_201 (notFace_of_selects (args := #[]) (mvT hZ w_203)) w_203 w_202 w_13 w_204 (by decide) e103 E_o_100 (rm37 l Z aZ hw [] o_100 (0 : Int32) cs r_100 zr_100 ff_100 h100 n0 Z100 OL CS FM E_o_100 F_coder_o_100 F_value_o_100 Y_r_100 (by decide) (own_ltI (k := 0) (by decide) (by omega))) (by decide) (W := 0) (Nat.le_of_eq rfl) (by decide) (by rw [hml]; rfl) (lenOf pd_27 rfl) rfl (hb hby at_315) (pc' := 318) rfl (by decide) (by decide) ?_; intro v104 T104 L104 X104 hQ104
    obtain ⟨r_104, rfl, N104q, e104, P104_0⟩ := hQ104
    have N104 := Fr.app N103 N104q
    have ch_104 := P104_0
    refine R.iloadN X104 hx (hb hby at_318) rfl (pc' := 319) rfl ?_
    refine R.icmpYes X104 hx (hb hby at_319) (teq (own_chk ((ts_100.1 _ (by decide)).trans rfl) b_i1 ch_104 : r_104 = i1)).1 (by decide) (pc' := 324) (by decide) ?_
    refine R.iload X104 hx (hb hby at_324) rfl (pc' := 326) rfl ?_
    refine R.iconst X104 hx (hb hby at_326) (v := (1 : Int32)) (by decide) (pc' := 327) rfl ?_
    refine R.icmpNo X104 hx (hb hby at_327) (tlt (by decide : (1 : Int32) < (2 : Int32))).2.2.2 (pc' := 330) rfl ?_
    refine R.aload X104 hx (hb hby at_330) rfl rfl (pc' := 332) rfl ?_
    refine R.iconst X104 hx (hb hby at_332) (v := (1 : Int32)) (by decide) (pc' := 333) rfl ?_
    refine R.virtual X104 hx hZ (y := mY34) (z := mY34) hown w_200 w_201 (notFace_of_selects (args := #[]) (mvT hZ w_203)) w_203 w_202 w_13 w_204 (by decide) e104 E_o_100 (rm37 l Z aZ hw [] o_100 (1 : Int32) cs r_100 zr_100 ff_100 h100 n0 Z100 OL CS FM E_o_100 F_coder_o_100 F_value_o_100 Y_r_100 (by decide) (own_ltI (k := 1) (by decide) (by omega))) (by decide) (W := 0) (Nat.le_of_eq rfl) (by decide) (by rw [hml]; rfl) (lenOf pd_27 rfl) rfl (hb hby at_333) (pc' := 336) rfl (by decide) (by decide) ?_; intro v105 T105 L105 X105 hQ105
    obtain ⟨r_105, rfl, N105q, e105, P105_0⟩ := hQ105
    have N105 := Fr.app N104 N105q
    have ch_105 := P105_0
    refine R.iload X105 hx (hb hby at_336) rfl (pc' := 338) rfl ?_
    refine R.icmpYes X105 hx (hb hby at_338) (teq (own_chk ((ts_100.1 _ (by decide)).trans rfl) b_i2 ch_105 : r_105 = i2)).1 (by decide) (pc' := 343) (by decide) ?_
    refine R.iload X105 hx (hb hby at_343) rfl (pc' := 345) rfl ?_
    refine R.iconst X105 hx (hb hby at_345) (v := (2 : Int32)) (by decide) (pc' := 346) rfl ?_
    refine R.icmpYes X105 hx (hb hby at_346) (flt (by decide : ¬ ((2 : Int32) < (2 : Int32)))).2.2.2 (by decide) (pc' := 362) (by decide) ?_
    refine R.aload X105 hx (hb hby at_362) rfl rfl (pc' := 364) rfl ?_
    refine R.iload X105 hx (hb hby at_364) rfl (pc' := 366) rfl ?_
    refine R.virtual X105 hx hZ (y := mY34) (z := mY34) hown w_200 w_201 (notFace_of_selects (args := #[]) (mvT hZ w_203)) w_203 w_202 w_13 w_204 (by decide) e105 E_o_100 (rm37 l Z aZ hw [] o_100 (2 : Int32) cs r_100 zr_100 ff_100 h100 n0 Z100 OL CS FM E_o_100 F_coder_o_100 F_value_o_100 Y_r_100 (by decide) (own_ltI (k := 2) (by decide) (by omega))) (by decide) (W := 0) (Nat.le_of_eq rfl) (by decide) (by rw [hml]; rfl) (lenOf pd_27 rfl) rfl (hb hby at_366) (pc' := 369) rfl (by decide) (by decide) ?_; intro v106 T106 L106 X106 hQ106
    obtain ⟨r_106, rfl, N106q, e106, P106_0⟩ := hQ106
    have N106 := Fr.app N105 N106q
    have ch_106 := P106_0
    refine R.bipush X106 hx (hb hby at_369) (v := (58 : Int32)) (by decide) (pc' := 371) rfl ?_
    refine R.icmpYes X106 hx (hb hby at_371) (teq (own_chv ts_100.2.1 (by decide) ch_106 : r_106 = (58 : Int32))).1 (by decide) (pc' := 376) (by decide) ?_
    refine R.iload X106 hx (hb hby at_376) rfl (pc' := 378) rfl ?_
    refine R.ifNo X106 hx (hb hby at_378) (feq (by decide : ¬ ((1 : Int32) = (0 : Int32)))).1 (pc' := 381) rfl ?_
    refine R.aload X106 hx (hb hby at_381) rfl rfl (pc' := 383) rfl ?_
    refine R.iload X106 hx (hb hby at_383) rfl (pc' := 385) rfl ?_
    refine R.iconst X106 hx (hb hby at_385) (v := (1 : Int32)) (by decide) (pc' := 386) rfl ?_
    refine R.iadd X106 hx (hb hby at_386) (v := (3 : Int32)) (by decide) (pc' := 387) rfl ?_
    refine R.virtual X106 hx hZ (y := mY34) (z := mY34) hown w_200 w_201 (notFace_of_selects (args := #[]) (mvT hZ w_203)) w_203 w_202 w_13 w_204 (by decide) e106 E_o_100 (rm37 l Z aZ hw [] o_100 (3 : Int32) cs r_100 zr_100 ff_100 h100 n0 Z100 OL CS FM E_o_100 F_coder_o_100 F_value_o_100 Y_r_100 (by decide) (own_ltI (k := 3) (by decide) (by omega))) (by decide) (W := 0) (Nat.le_of_eq rfl) (by decide) (by rw [hml]; rfl) (lenOf pd_27 rfl) rfl (hb hby at_387) (pc' := 390) rfl (by decide) (by decide) ?_; intro v107 T107 L107 X107 hQ107
    obtain ⟨r_107, rfl, N107q, e107, P107_0⟩ := hQ107
    have N107 := Fr.app N106 N107q
    have ch_107 := P107_0
    refine R.bipush X107 hx (hb hby at_390) (v := (45 : Int32)) (by decide) (pc' := 392) rfl ?_
    refine R.icmpYes X107 hx (hb hby at_392) (teq (own_chv (i := ((3 : Int32)).toNatClampNeg) (ts_100.2.2.1 hsg) (by decide) ch_107 : r_107 = (45 : Int32))).1 (by decide) (pc' := 397) (by decide) ?_
    refine R.iload X107 hx (hb hby at_397) rfl (pc' := 399) rfl ?_
    refine R.iconst X107 hx (hb hby at_399) (v := (1 : Int32)) (by decide) (pc' := 400) rfl ?_
    refine R.iadd X107 hx (hb hby at_400) (v := (3 : Int32)) (by decide) (pc' := 401) rfl ?_
    refine R.iload X107 hx (hb hby at_401) rfl (pc' := 403) rfl ?_
    refine R.iadd X107 hx (hb hby at_403) (v := (4 : Int32)) (by decide) (pc' := 404) rfl ?_
    refine R.istore X107 hx (hb hby at_404) (L' := #[.val (.int p0), .val (.int p1), .val (.int p2), .val (.int i1), .val (.int i2), .val (.int i3), .val (.int (2 : Int32)), .val (.ref b5), .val (.ref b6), .val (.ref b8), .val (.ref b11), .val (.ref b15), .val (.ref b96), .val (.ref o_100), .val (.int (1 : Int32)), .val (.long r_101), .second, .val (.int r_102), .val (.int (1 : Int32)), .val (.int (4 : Int32))]) rfl (pc' := 406) rfl ?_
    refine R.aload X107 hx (hb hby at_406) rfl rfl (pc' := 408) rfl ?_
    refine R.iload X107 hx (hb hby at_408) rfl (pc' := 410) rfl ?_
    refine R.iload X107 hx (hb hby at_410) rfl (pc' := 412) rfl ?_
    refine R.iconst X107 hx (hb hby at_412) (v := (0 : Int32)) (by decide) (pc' := 413) rfl ?_
    refine R.lload X107 hx (hb hby at_413) rfl (pc' := 415) rfl ?_
    refine R.aload X107 hx (hb hby at_415) rfl rfl (pc' := 417) rfl ?_
    refine R.callS X107 hx hZ (y := mY40) hown w_222 w_223 w_197 w_224 (by decide) e107 (rm42 l Z aZ hw [] o_100 (4 : Int32) r_102 (0 : Int32) r_101 b15 cs r_100 zr_100 ff_100 k15 h100 n0 Z100 OL CS FM E_o_100 F_coder_o_100 F_value_o_100 Y_r_100 V_b15 (own_hk ts_100 en2 eab ct_100 hsg (z := (2 : Int32)) (B := (4 : Int32)) (K := (0 : Int32)) (by decide) (by decide) (by decide)) (by decide) (by omega) (by omega)) (by decide) (W := 0) (Nat.le_of_eq rfl) (by decide) (by rw [hml]; rfl) (lenOf pd_32 rfl) rfl (hb hby at_417) (pc' := 420) rfl (by decide) (by decide) ?_; intro v108 T108 L108 X108 hQ108
    obtain ⟨rfl, N108q, e108⟩ := hQ108
    have N108 := Fr.app N107 N108q
    refine R.ifNo X108 hx (hb hby at_420) (feq (by decide : ¬ ((1 : Int32) = (0 : Int32)))).1 (pc' := 423) rfl ?_
    refine R.aload X108 hx (hb hby at_423) rfl rfl (pc' := 425) rfl ?_
    refine R.iload X108 hx (hb hby at_425) rfl (pc' := 427) rfl ?_
    refine R.iload X108 hx (hb hby at_427) rfl (pc' := 429) rfl ?_
    refine R.iconst X108 hx (hb hby at_429) (v := (1 : Int32)) (by decide) (pc' := 430) rfl ?_
    refine R.lload X108 hx (hb hby at_430) rfl (pc' := 432) rfl ?_
    refine R.aload X108 hx (hb hby at_432) rfl rfl (pc' := 434) rfl ?_
    refine R.callS X108 hx hZ (y := mY40) hown w_222 w_223 w_197 w_224 (by decide) e108 (rm42 l Z aZ hw [] o_100 (4 : Int32) r_102 (1 : Int32) r_101 b15 cs r_100 zr_100 ff_100 k15 h100 n0 Z100 OL CS FM E_o_100 F_coder_o_100 F_value_o_100 Y_r_100 V_b15 (own_hk ts_100 en2 eab ct_100 hsg (z := (2 : Int32)) (B := (4 : Int32)) (K := (1 : Int32)) (by decide) (by decide) (by decide)) (by decide) (by omega) (by omega)) (by decide) (W := 0) (Nat.le_of_eq rfl) (by decide) (by rw [hml]; rfl) (lenOf pd_32 rfl) rfl (hb hby at_434) (pc' := 437) rfl (by decide) (by decide) ?_; intro v109 T109 L109 X109 hQ109
    obtain ⟨rfl, N109q, e109⟩ := hQ109
    have N109 := Fr.app N108 N109q
    refine R.ifNo X109 hx (hb hby at_437) (feq (by decide : ¬ ((1 : Int32) = (0 : Int32)))).1 (pc' := 440) rfl ?_
    refine R.aload X109 hx (hb hby at_440) rfl rfl (pc' := 442) rfl ?_
    refine R.iload X109 hx (hb hby at_442) rfl (pc' := 444) rfl ?_
    refine R.iload X109 hx (hb hby at_444) rfl (pc' := 446) rfl ?_
    refine R.iconst X109 hx (hb hby at_446) (v := (2 : Int32)) (by decide) (pc' := 447) rfl ?_
    refine R.lload X109 hx (hb hby at_447) rfl (pc' := 449) rfl ?_
    refine R.aload X109 hx (hb hby at_449) rfl rfl (pc' := 451) rfl ?_
    refine R.callS X109 hx hZ (y := mY40) hown w_222 w_223 w_197 w_224 (by decide) e109 (rm42 l Z aZ hw [] o_100 (4 : Int32) r_102 (2 : Int32) r_101 b15 cs r_100 zr_100 ff_100 k15 h100 n0 Z100 OL CS FM E_o_100 F_coder_o_100 F_value_o_100 Y_r_100 V_b15 (own_hk ts_100 en2 eab ct_100 hsg (z := (2 : Int32)) (B := (4 : Int32)) (K := (2 : Int32)) (by decide) (by decide) (by decide)) (by decide) (by omega) (by omega)) (by decide) (W := 0) (Nat.le_of_eq rfl) (by decide) (by rw [hml]; rfl) (lenOf pd_32 rfl) rfl (hb hby at_451) (pc' := 454) rfl (by decide) (by decide) ?_; intro v110 T110 L110 X110 hQ110
    obtain ⟨rfl, N110q, e110⟩ := hQ110
    have N110 := Fr.app N109 N110q
    refine R.ifNo X110 hx (hb hby at_454) (feq (by decide : ¬ ((1 : Int32) = (0 : Int32)))).1 (pc' := 457) rfl ?_
    refine R.aload X110 hx (hb hby at_457) rfl rfl (pc' := 459) rfl ?_
    refine R.iload X110 hx (hb hby at_459) rfl (pc' := 461) rfl ?_
    refine R.iload X110 hx (hb hby at_461) rfl (pc' := 463) rfl ?_
    refine R.iconst X110 hx (hb hby at_463) (v := (3 : Int32)) (by decide) (pc' := 464) rfl ?_
    refine R.lload X110 hx (hb hby at_464) rfl (pc' := 466) rfl ?_
    refine R.aload X110 hx (hb hby at_466) rfl rfl (pc' := 468) rfl ?_
    refine R.callS X110 hx hZ (y := mY40) hown w_222 w_223 w_197 w_224 (by decide) e110 (rm42 l Z aZ hw [] o_100 (4 : Int32) r_102 (3 : Int32) r_101 b15 cs r_100 zr_100 ff_100 k15 h100 n0 Z100 OL CS FM E_o_100 F_coder_o_100 F_value_o_100 Y_r_100 V_b15 (own_hk ts_100 en2 eab ct_100 hsg (z := (2 : Int32)) (B := (4 : Int32)) (K := (3 : Int32)) (by decide) (by decide) (by decide)) (by decide) (by omega) (by omega)) (by decide) (W := 0) (Nat.le_of_eq rfl) (by decide) (by rw [hml]; rfl) (lenOf pd_32 rfl) rfl (hb hby at_468) (pc' := 471) rfl (by decide) (by decide) ?_; intro v111 T111 L111 X111 hQ111
    obtain ⟨rfl, N111q, e111⟩ := hQ111
    have N111 := Fr.app N110 N111q
    refine R.ifNo X111 hx (hb hby at_471) (feq (by decide : ¬ ((1 : Int32) = (0 : Int32)))).1 (pc' := 474) rfl ?_
    refine R.aload X111 hx (hb hby at_474) rfl rfl (pc' := 476) rfl ?_
    refine R.iload X111 hx (hb hby at_476) rfl (pc' := 478) rfl ?_
    refine R.iload X111 hx (hb hby at_478) rfl (pc' := 480) rfl ?_
    refine R.iconst X111 hx (hb hby at_480) (v := (4 : Int32)) (by decide) (pc' := 481) rfl ?_
    refine R.lload X111 hx (hb hby at_481) rfl (pc' := 483) rfl ?_
    refine R.aload X111 hx (hb hby at_483) rfl rfl (pc' := 485) rfl ?_
    refine R.callS X111 hx hZ (y := mY40) hown w_222 w_223 w_197 w_224 (by decide) e111 (rm42 l Z aZ hw [] o_100 (4 : Int32) r_102 (4 : Int32) r_101 b15 cs r_100 zr_100 ff_100 k15 h100 n0 Z100 OL CS FM E_o_100 F_coder_o_100 F_value_o_100 Y_r_100 V_b15 (own_hk ts_100 en2 eab ct_100 hsg (z := (2 : Int32)) (B := (4 : Int32)) (K := (4 : Int32)) (by decide) (by decide) (by decide)) (by decide) (by omega) (by omega)) (by decide) (W := 0) (Nat.le_of_eq rfl) (by decide) (by rw [hml]; rfl) (lenOf pd_32 rfl) rfl (hb hby at_485) (pc' := 488) rfl (by decide) (by decide) ?_; intro v112 T112 L112 X112 hQ112
    obtain ⟨rfl, N112q, e112⟩ := hQ112
    have N112 := Fr.app N111 N112q
    refine R.ifNo X112 hx (hb hby at_488) (feq (by decide : ¬ ((1 : Int32) = (0 : Int32)))).1 (pc' := 491) rfl ?_
    refine R.aload X112 hx (hb hby at_491) rfl rfl (pc' := 493) rfl ?_
    refine R.iload X112 hx (hb hby at_493) rfl (pc' := 495) rfl ?_
    refine R.iload X112 hx (hb hby at_495) rfl (pc' := 497) rfl ?_
    refine R.iconst X112 hx (hb hby at_497) (v := (5 : Int32)) (by decide) (pc' := 498) rfl ?_
    refine R.lload X112 hx (hb hby at_498) rfl (pc' := 500) rfl ?_
    refine R.aload X112 hx (hb hby at_500) rfl rfl (pc' := 502) rfl ?_
    refine R.callS X112 hx hZ (y := mY40) hown w_222 w_223 w_197 w_224 (by decide) e112 (rm42 l Z aZ hw [] o_100 (4 : Int32) r_102 (5 : Int32) r_101 b15 cs r_100 zr_100 ff_100 k15 h100 n0 Z100 OL CS FM E_o_100 F_coder_o_100 F_value_o_100 Y_r_100 V_b15 (own_hk ts_100 en2 eab ct_100 hsg (z := (2 : Int32)) (B := (4 : Int32)) (K := (5 : Int32)) (by decide) (by decide) (by decide)) (by decide) (by omega) (by omega)) (by decide) (W := 0) (Nat.le_of_eq rfl) (by decide) (by rw [hml]; rfl) (lenOf pd_32 rfl) rfl (hb hby at_502) (pc' := 505) rfl (by decide) (by decide) ?_; intro v113 T113 L113 X113 hQ113
    obtain ⟨rfl, N113q, e113⟩ := hQ113
    have N113 := Fr.app N112 N113q
    refine R.ifNo X113 hx (hb hby at_505) (feq (by decide : ¬ ((1 : Int32) = (0 : Int32)))).1 (pc' := 508) rfl ?_
    refine R.aload X113 hx (hb hby at_508) rfl rfl (pc' := 510) rfl ?_
    refine R.iload X113 hx (hb hby at_510) rfl (pc' := 512) rfl ?_
    refine R.iload X113 hx (hb hby at_512) rfl (pc' := 514) rfl ?_
    refine R.bipush X113 hx (hb hby at_514) (v := (6 : Int32)) (by decide) (pc' := 516) rfl ?_
    refine R.lload X113 hx (hb hby at_516) rfl (pc' := 518) rfl ?_
    refine R.aload X113 hx (hb hby at_518) rfl rfl (pc' := 520) rfl ?_
    refine R.callS X113 hx hZ (y := mY40) hown w_222 w_223 w_197 w_224 (by decide) e113 (rm42 l Z aZ hw [] o_100 (4 : Int32) r_102 (6 : Int32) r_101 b15 cs r_100 zr_100 ff_100 k15 h100 n0 Z100 OL CS FM E_o_100 F_coder_o_100 F_value_o_100 Y_r_100 V_b15 (own_hk ts_100 en2 eab ct_100 hsg (z := (2 : Int32)) (B := (4 : Int32)) (K := (6 : Int32)) (by decide) (by decide) (by decide)) (by decide) (by omega) (by omega)) (by decide) (W := 0) (Nat.le_of_eq rfl) (by decide) (by rw [hml]; rfl) (lenOf pd_32 rfl) rfl (hb hby at_520) (pc' := 523) rfl (by decide) (by decide) ?_; intro v114 T114 L114 X114 hQ114
    obtain ⟨rfl, N114q, e114⟩ := hQ114
    have N114 := Fr.app N113 N114q
    refine R.ifNo X114 hx (hb hby at_523) (feq (by decide : ¬ ((1 : Int32) = (0 : Int32)))).1 (pc' := 526) rfl ?_
    refine R.aload X114 hx (hb hby at_526) rfl rfl (pc' := 528) rfl ?_
    refine R.iload X114 hx (hb hby at_528) rfl (pc' := 530) rfl ?_
    refine R.iload X114 hx (hb hby at_530) rfl (pc' := 532) rfl ?_
    refine R.bipush X114 hx (hb hby at_532) (v := (7 : Int32)) (by decide) (pc' := 534) rfl ?_
    refine R.lload X114 hx (hb hby at_534) rfl (pc' := 536) rfl ?_
    refine R.aload X114 hx (hb hby at_536) rfl rfl (pc' := 538) rfl ?_
    refine R.callS X114 hx hZ (y := mY40) hown w_222 w_223 w_197 w_224 (by decide) e114 (rm42 l Z aZ hw [] o_100 (4 : Int32) r_102 (7 : Int32) r_101 b15 cs r_100 zr_100 ff_100 k15 h100 n0 Z100 OL CS FM E_o_100 F_coder_o_100 F_value_o_100 Y_r_100 V_b15 (own_hk ts_100 en2 eab ct_100 hsg (z := (2 : Int32)) (B := (4 : Int32)) (K := (7 : Int32)) (by decide) (by decide) (by decide)) (by decide) (by omega) (by omega)) (by decide) (W := 0) (Nat.le_of_eq rfl) (by decide) (by rw [hml]; rfl) (lenOf pd_32 rfl) rfl (hb hby at_538) (pc' := 541) rfl (by decide) (by decide) ?_; intro v115 T115 L115 X115 hQ115
    obtain ⟨rfl, N115q, e115⟩ := hQ115
    have N115 := Fr.app N114 N115q
    refine R.ifNo X115 hx (hb hby at_541) (feq (by decide : ¬ ((1 : Int32) = (0 : Int32)))).1 (pc' := 544) rfl ?_
    refine R.aload X115 hx (hb hby at_544) rfl rfl (pc' := 546) rfl ?_
    refine R.iload X115 hx (hb hby at_546) rfl (pc' := 548) rfl ?_
    refine R.iload X115 hx (hb hby at_548) rfl (pc' := 550) rfl ?_
    refine R.bipush X115 hx (hb hby at_550) (v := (8 : Int32)) (by decide) (pc' := 552) rfl ?_
    refine R.lload X115 hx (hb hby at_552) rfl (pc' := 554) rfl ?_
    refine R.aload X115 hx (hb hby at_554) rfl rfl (pc' := 556) rfl ?_
    refine R.callS X115 hx hZ (y := mY40) hown w_222 w_223 w_197 w_224 (by decide) e115 (rm42 l Z aZ hw [] o_100 (4 : Int32) r_102 (8 : Int32) r_101 b15 cs r_100 zr_100 ff_100 k15 h100 n0 Z100 OL CS FM E_o_100 F_coder_o_100 F_value_o_100 Y_r_100 V_b15 (own_hk ts_100 en2 eab ct_100 hsg (z := (2 : Int32)) (B := (4 : Int32)) (K := (8 : Int32)) (by decide) (by decide) (by decide)) (by decide) (by omega) (by omega)) (by decide) (W := 0) (Nat.le_of_eq rfl) (by decide) (by rw [hml]; rfl) (lenOf pd_32 rfl) rfl (hb hby at_556) (pc' := 559) rfl (by decide) (by decide) ?_; intro v116 T116 L116 X116 hQ116
    obtain ⟨rfl, N116q, e116⟩ := hQ116
    have N116 := Fr.app N115 N116q
    refine R.ifNo X116 hx (hb hby at_559) (feq (by decide : ¬ ((1 : Int32) = (0 : Int32)))).1 (pc' := 562) rfl ?_
    refine R.aload X116 hx (hb hby at_562) rfl rfl (pc' := 564) rfl ?_
    refine R.iload X116 hx (hb hby at_564) rfl (pc' := 566) rfl ?_
    refine R.iload X116 hx (hb hby at_566) rfl (pc' := 568) rfl ?_
    refine R.bipush X116 hx (hb hby at_568) (v := (9 : Int32)) (by decide) (pc' := 570) rfl ?_
    refine R.lload X116 hx (hb hby at_570) rfl (pc' := 572) rfl ?_
    refine R.aload X116 hx (hb hby at_572) rfl rfl (pc' := 574) rfl ?_
    refine R.callS X116 hx hZ (y := mY40) hown w_222 w_223 w_197 w_224 (by decide) e116 (rm42 l Z aZ hw [] o_100 (4 : Int32) r_102 (9 : Int32) r_101 b15 cs r_100 zr_100 ff_100 k15 h100 n0 Z100 OL CS FM E_o_100 F_coder_o_100 F_value_o_100 Y_r_100 V_b15 (own_hk ts_100 en2 eab ct_100 hsg (z := (2 : Int32)) (B := (4 : Int32)) (K := (9 : Int32)) (by decide) (by decide) (by decide)) (by decide) (by omega) (by omega)) (by decide) (W := 0) (Nat.le_of_eq rfl) (by decide) (by rw [hml]; rfl) (lenOf pd_32 rfl) rfl (hb hby at_574) (pc' := 577) rfl (by decide) (by decide) ?_; intro v117 T117 L117 X117 hQ117
    obtain ⟨rfl, N117q, e117⟩ := hQ117
    have N117 := Fr.app N116 N117q
    refine R.ifNo X117 hx (hb hby at_577) (feq (by decide : ¬ ((1 : Int32) = (0 : Int32)))).1 (pc' := 580) rfl ?_
    refine R.iconst X117 hx (hb hby at_580) (v := (1 : Int32)) (by decide) (pc' := 581) rfl ?_
    refine R.goto X117 hx (hb hby at_581) (by decide) (pc' := 585) (by decide) ?_
    rw [← hG]
    exact Rn.retW X117 hS hk (BodyLoose.notSynchronized Bd) (v := some (.int (1 : Int32))) (fun h => by rw [Bd.returns] at h; cases h) (Q := Q0 Z p0 p1 p2 cs dO dT h0 n0) e117 (fun fs hr => retN X117 hx (t := .boolean) Bd.returns (by simp) (hb hby at_585) hr) ⟨rfl, N117⟩ (by decide) (by decide)
  · refine R.ifYes X100 hx (hb hby at_251) (flt hc251).2.1 (by decide) (pc' := 258) (by decide) ?_
    refine R.iconst X100 hx (hb hby at_258) (v := (0 : Int32)) (by decide) (pc' := 259) rfl ?_
    refine R.istore X100 hx (hb hby at_259) (L' := #[.val (.int p0), .val (.int p1), .val (.int p2), .val (.int i1), .val (.int i2), .val (.int i3), .val (.int (2 : Int32)), .val (.ref b5), .val (.ref b6), .val (.ref b8), .val (.ref b11), .val (.ref b15), .val (.ref b96), .val (.ref o_100), .val (.int (0 : Int32)), .unset, .unset, .unset, .unset, .unset]) rfl (pc' := 261) rfl ?_
    have hneg : 0 ≤ p2.toInt := own_ge0 hc251
    have hsg : own_sg p2.toInt = 0 := by unfold own_sg; rw [if_neg (by omega)]
    have bp := own_b p2
    have hn1 := hx_100.1
    have hn10 := hx_100.2.1
    have ct := ct_100
    rw [hsg] at ct
    have tz : ((2 : Int32)).toInt = 2 := by decide
    refine R.iloadN X100 hx (hb hby at_261) rfl (pc' := 262) rfl ?_
    refine R.i2l X100 hx (hb hby at_262) (pc' := 263) rfl ?_
    refine R.callS X100 hx hZ (y := mY38) hown w_192 w_193 w_189 w_194 (by decide) e100 (rm35 l Z aZ hw [] (p2.toInt64) h100 n0 Z100 (by rw [Int32.toInt_toInt64]; omega)) (by decide) (W := 0) (Nat.le_of_eq rfl) (by decide) (by rw [hml]; rfl) (lenOf pd_30 rfl) rfl (hb hby at_263) (pc' := 266) rfl (by decide) (by decide) ?_; intro v118 T118 L118 X118 hQ118
    obtain ⟨r_118, rfl, N118q, e118, P118_0⟩ := hQ118
    have N118 := Fr.app N100 N118q
    have ab_118 := P118_0
    have ab : r_118.toInt = (p2.toInt.natAbs : Int) := by have q := ab_118; rw [Int32.toInt_toInt64] at q; exact q
    refine R.lstore X118 hx (hb hby at_266) (L' := #[.val (.int p0), .val (.int p1), .val (.int p2), .val (.int i1), .val (.int i2), .val (.int i3), .val (.int (2 : Int32)), .val (.ref b5), .val (.ref b6), .val (.ref b8), .val (.ref b11), .val (.ref b15), .val (.ref b96), .val (.ref o_100), .val (.int (0 : Int32)), .val (.long r_118), .second, .unset, .unset, .unset]) rfl (pc' := 268) rfl ?_
    refine R.lload X118 hx (hb hby at_268) rfl (pc' := 270) rfl ?_
    refine R.callS X118 hx hZ (y := mY39) hown w_195 w_196 w_197 w_198 (by decide) e118 (rm36 l Z aZ hw [] r_118 h100 n0 Z100 (by omega)) (by decide) (W := 0) (Nat.le_of_eq rfl) (by decide) (by rw [hml]; rfl) (lenOf pd_31 rfl) rfl (hb hby at_270) (pc' := 273) rfl (by decide) (by decide) ?_; intro v119 T119 L119 X119 hQ119
    obtain ⟨r_119, rfl, N119q, e119, P119_0⟩ := hQ119
    have N119 := Fr.app N118 N119q
    have dg_119 := P119_0
    obtain ⟨n2, hn2, en2⟩ := dg_119
    have eab : r_118.toInt.toNat = p2.toInt.natAbs := by omega
    rw [eab] at hn2
    have enn : n2 = nd_100 := own_ndU hn2 hx_100
    rw [enn] at en2
    refine R.istore X119 hx (hb hby at_273) (L' := #[.val (.int p0), .val (.int p1), .val (.int p2), .val (.int i1), .val (.int i2), .val (.int i3), .val (.int (2 : Int32)), .val (.ref b5), .val (.ref b6), .val (.ref b8), .val (.ref b11), .val (.ref b15), .val (.ref b96), .val (.ref o_100), .val (.int (0 : Int32)), .val (.long r_118), .second, .val (.int r_119), .unset, .unset]) rfl (pc' := 275) rfl ?_
    refine R.iload X119 hx (hb hby at_275) rfl (pc' := 277) rfl ?_
    refine R.ifYes X119 hx (hb hby at_277) (teq (by decide : (0 : Int32) = (0 : Int32))).1 (by decide) (pc' := 284) (by decide) ?_
    refine R.iconst X119 hx (hb hby at_284) (v := (0 : Int32)) (by decide) (pc' := 285) rfl ?_
    refine R.istore X119 hx (hb hby at_285) (L' := #[.val (.int p0), .val (.int p1), .val (.int p2), .val (.int i1), .val (.int i2), .val (.int i3), .val (.int (2 : Int32)), .val (.ref b5), .val (.ref b6), .val (.ref b8), .val (.ref b11), .val (.ref b15), .val (.ref b96), .val (.ref o_100), .val (.int (0 : Int32)), .val (.long r_118), .second, .val (.int r_119), .val (.int (0 : Int32)), .unset]) rfl (pc' := 287) rfl ?_
    refine R.aload X119 hx (hb hby at_287) rfl rfl (pc' := 289) rfl ?_
    refine R.virtual X119 hx hZ (y := mY9) (z := mY9) hown w_199 w_90 (notFace_of_selects (args := #[]) (mvT hZ w_92)) w_92 w_91 w_13 w_93 (by decide) e119 E_o_100 (rm14 l Z aZ hw [] o_100 cs r_100 zr_100 ff_100 h100 n0 Z100 OL CS E_o_100 F_coder_o_100 F_value_o_100 Y_r_100) (by decide) (W := 0) (Nat.le_of_eq rfl) (by decide) (by rw [hml]; rfl) (lenOf pd_0 rfl) rfl (hb hby at_289) (pc' := 292) rfl (by decide) (by decide) ?_; intro v120 T120 L120 X120 hQ120
    obtain ⟨rfl, N120q, e120⟩ := hQ120
    have N120 := Fr.app N119 N120q
    refine R.iload X120 hx (hb hby at_292) rfl (pc' := 294) rfl ?_
    refine R.iconst X120 hx (hb hby at_294) (v := (1 : Int32)) (by decide) (pc' := 295) rfl ?_
    refine R.iadd X120 hx (hb hby at_295) (v := (3 : Int32)) (by decide) (pc' := 296) rfl ?_
    refine R.iload X120 hx (hb hby at_296) rfl (pc' := 298) rfl ?_
    refine R.iadd X120 hx (hb hby at_298) (v := (3 : Int32)) (by decide) (pc' := 299) rfl ?_
    refine R.iload X120 hx (hb hby at_299) rfl (pc' := 301) rfl ?_
    refine R.iadd X120 hx (hb hby at_301) rfl (pc' := 302) rfl ?_
    refine R.icmpYes X120 hx (hb hby at_302) (teq (own_len (k := 3) (by decide) en2 hn10 (by omega) : zr_100 = ((3 : Int32) + r_119))).1 (by decide) (pc' := 307) (by decide) ?_
    refine R.iload X120 hx (hb hby at_307) rfl (pc' := 309) rfl ?_
    refine R.ifNo X120 hx (hb hby at_309) (tlt (by decide : (0 : Int32) < (2 : Int32))).2.2.2 (pc' := 312) rfl ?_
    refine R.aload X120 hx (hb hby at_312) rfl rfl (pc' := 314) rfl ?_
    refine R.iconst X120 hx (hb hby at_314) (v := (0 : Int32)) (by decide) (pc' := 315) rfl ?_
    refine R.virtual X120 hx hZ (y := mY34) (z := mY34) hown w_200 w_201 (notFace_of_selects (args := #[]) (mvT hZ w_203)) w_203 w_202 w_13 w_204 (by decide) e120 E_o_100 (rm37 l Z aZ hw [] o_100 (0 : Int32) cs r_100 zr_100 ff_100 h100 n0 Z100 OL CS FM E_o_100 F_coder_o_100 F_value_o_100 Y_r_100 (by decide) (own_ltI (k := 0) (by decide) (by omega))) (by decide) (W := 0) (Nat.le_of_eq rfl) (by decide) (by rw [hml]; rfl) (lenOf pd_27 rfl) rfl (hb hby at_315) (pc' := 318) rfl (by decide) (by decide) ?_; intro v121 T121 L121 X121 hQ121
    obtain ⟨r_121, rfl, N121q, e121, P121_0⟩ := hQ121
    have N121 := Fr.app N120 N121q
    have ch_121 := P121_0
    refine R.iloadN X121 hx (hb hby at_318) rfl (pc' := 319) rfl ?_
    refine R.icmpYes X121 hx (hb hby at_319) (teq (own_chk ((ts_100.1 _ (by decide)).trans rfl) b_i1 ch_121 : r_121 = i1)).1 (by decide) (pc' := 324) (by decide) ?_
    refine R.iload X121 hx (hb hby at_324) rfl (pc' := 326) rfl ?_
    refine R.iconst X121 hx (hb hby at_326) (v := (1 : Int32)) (by decide) (pc' := 327) rfl ?_
    refine R.icmpNo X121 hx (hb hby at_327) (tlt (by decide : (1 : Int32) < (2 : Int32))).2.2.2 (pc' := 330) rfl ?_
    refine R.aload X121 hx (hb hby at_330) rfl rfl (pc' := 332) rfl ?_
    refine R.iconst X121 hx (hb hby at_332) (v := (1 : Int32)) (by decide) (pc' := 333) rfl ?_
    refine R.virtual X121 hx hZ (y := mY34) (z := mY34) hown w_200 w_201 (notFace_of_selects (args := #[]) (mvT hZ w_203)) w_203 w_202 w_13 w_204 (by decide) e121 E_o_100 (rm37 l Z aZ hw [] o_100 (1 : Int32) cs r_100 zr_100 ff_100 h100 n0 Z100 OL CS FM E_o_100 F_coder_o_100 F_value_o_100 Y_r_100 (by decide) (own_ltI (k := 1) (by decide) (by omega))) (by decide) (W := 0) (Nat.le_of_eq rfl) (by decide) (by rw [hml]; rfl) (lenOf pd_27 rfl) rfl (hb hby at_333) (pc' := 336) rfl (by decide) (by decide) ?_; intro v122 T122 L122 X122 hQ122
    obtain ⟨r_122, rfl, N122q, e122, P122_0⟩ := hQ122
    have N122 := Fr.app N121 N122q
    have ch_122 := P122_0
    refine R.iload X122 hx (hb hby at_336) rfl (pc' := 338) rfl ?_
    refine R.icmpYes X122 hx (hb hby at_338) (teq (own_chk ((ts_100.1 _ (by decide)).trans rfl) b_i2 ch_122 : r_122 = i2)).1 (by decide) (pc' := 343) (by decide) ?_
    refine R.iload X122 hx (hb hby at_343) rfl (pc' := 345) rfl ?_
    refine R.iconst X122 hx (hb hby at_345) (v := (2 : Int32)) (by decide) (pc' := 346) rfl ?_
    refine R.icmpYes X122 hx (hb hby at_346) (flt (by decide : ¬ ((2 : Int32) < (2 : Int32)))).2.2.2 (by decide) (pc' := 362) (by decide) ?_
    refine R.aload X122 hx (hb hby at_362) rfl rfl (pc' := 364) rfl ?_
    refine R.iload X122 hx (hb hby at_364) rfl (pc' := 366) rfl ?_
    refine R.virtual X122 hx hZ (y := mY34) (z := mY34) hown w_200 w_201 (notFace_of_selects (args := #[]) (mvT hZ w_203)) w_203 w_202 w_13 w_204 (by decide) e122 E_o_100 (rm37 l Z aZ hw [] o_100 (2 : Int32) cs r_100 zr_100 ff_100 h100 n0 Z100 OL CS FM E_o_100 F_coder_o_100 F_value_o_100 Y_r_100 (by decide) (own_ltI (k := 2) (by decide) (by omega))) (by decide) (W := 0) (Nat.le_of_eq rfl) (by decide) (by rw [hml]; rfl) (lenOf pd_27 rfl) rfl (hb hby at_366) (pc' := 369) rfl (by decide) (by decide) ?_; intro v123 T123 L123 X123 hQ123
    obtain ⟨r_123, rfl, N123q, e123, P123_0⟩ := hQ123
    have N123 := Fr.app N122 N123q
    have ch_123 := P123_0
    refine R.bipush X123 hx (hb hby at_369) (v := (58 : Int32)) (by decide) (pc' := 371) rfl ?_
    refine R.icmpYes X123 hx (hb hby at_371) (teq (own_chv ts_100.2.1 (by decide) ch_123 : r_123 = (58 : Int32))).1 (by decide) (pc' := 376) (by decide) ?_
    refine R.iload X123 hx (hb hby at_376) rfl (pc' := 378) rfl ?_
    refine R.ifYes X123 hx (hb hby at_378) (teq (by decide : (0 : Int32) = (0 : Int32))).1 (by decide) (pc' := 397) (by decide) ?_
    refine R.iload X123 hx (hb hby at_397) rfl (pc' := 399) rfl ?_
    refine R.iconst X123 hx (hb hby at_399) (v := (1 : Int32)) (by decide) (pc' := 400) rfl ?_
    refine R.iadd X123 hx (hb hby at_400) (v := (3 : Int32)) (by decide) (pc' := 401) rfl ?_
    refine R.iload X123 hx (hb hby at_401) rfl (pc' := 403) rfl ?_
    refine R.iadd X123 hx (hb hby at_403) (v := (3 : Int32)) (by decide) (pc' := 404) rfl ?_
    refine R.istore X123 hx (hb hby at_404) (L' := #[.val (.int p0), .val (.int p1), .val (.int p2), .val (.int i1), .val (.int i2), .val (.int i3), .val (.int (2 : Int32)), .val (.ref b5), .val (.ref b6), .val (.ref b8), .val (.ref b11), .val (.ref b15), .val (.ref b96), .val (.ref o_100), .val (.int (0 : Int32)), .val (.long r_118), .second, .val (.int r_119), .val (.int (0 : Int32)), .val (.int (3 : Int32))]) rfl (pc' := 406) rfl ?_
    refine R.aload X123 hx (hb hby at_406) rfl rfl (pc' := 408) rfl ?_
    refine R.iload X123 hx (hb hby at_408) rfl (pc' := 410) rfl ?_
    refine R.iload X123 hx (hb hby at_410) rfl (pc' := 412) rfl ?_
    refine R.iconst X123 hx (hb hby at_412) (v := (0 : Int32)) (by decide) (pc' := 413) rfl ?_
    refine R.lload X123 hx (hb hby at_413) rfl (pc' := 415) rfl ?_
    refine R.aload X123 hx (hb hby at_415) rfl rfl (pc' := 417) rfl ?_
    refine R.callS X123 hx hZ (y := mY40) hown w_222 w_223 w_197 w_224 (by decide) e123 (rm42 l Z aZ hw [] o_100 (3 : Int32) r_119 (0 : Int32) r_118 b15 cs r_100 zr_100 ff_100 k15 h100 n0 Z100 OL CS FM E_o_100 F_coder_o_100 F_value_o_100 Y_r_100 V_b15 (own_hk ts_100 en2 eab ct_100 hsg (z := (2 : Int32)) (B := (3 : Int32)) (K := (0 : Int32)) (by decide) (by decide) (by decide)) (by decide) (by omega) (by omega)) (by decide) (W := 0) (Nat.le_of_eq rfl) (by decide) (by rw [hml]; rfl) (lenOf pd_32 rfl) rfl (hb hby at_417) (pc' := 420) rfl (by decide) (by decide) ?_; intro v124 T124 L124 X124 hQ124
    obtain ⟨rfl, N124q, e124⟩ := hQ124
    have N124 := Fr.app N123 N124q
    refine R.ifNo X124 hx (hb hby at_420) (feq (by decide : ¬ ((1 : Int32) = (0 : Int32)))).1 (pc' := 423) rfl ?_
    refine R.aload X124 hx (hb hby at_423) rfl rfl (pc' := 425) rfl ?_
    refine R.iload X124 hx (hb hby at_425) rfl (pc' := 427) rfl ?_
    refine R.iload X124 hx (hb hby at_427) rfl (pc' := 429) rfl ?_
    refine R.iconst X124 hx (hb hby at_429) (v := (1 : Int32)) (by decide) (pc' := 430) rfl ?_
    refine R.lload X124 hx (hb hby at_430) rfl (pc' := 432) rfl ?_
    refine R.aload X124 hx (hb hby at_432) rfl rfl (pc' := 434) rfl ?_
    refine R.callS X124 hx hZ (y := mY40) hown w_222 w_223 w_197 w_224 (by decide) e124 (rm42 l Z aZ hw [] o_100 (3 : Int32) r_119 (1 : Int32) r_118 b15 cs r_100 zr_100 ff_100 k15 h100 n0 Z100 OL CS FM E_o_100 F_coder_o_100 F_value_o_100 Y_r_100 V_b15 (own_hk ts_100 en2 eab ct_100 hsg (z := (2 : Int32)) (B := (3 : Int32)) (K := (1 : Int32)) (by decide) (by decide) (by decide)) (by decide) (by omega) (by omega)) (by decide) (W := 0) (Nat.le_of_eq rfl) (by decide) (by rw [hml]; rfl) (lenOf pd_32 rfl) rfl (hb hby at_434) (pc' := 437) rfl (by decide) (by decide) ?_; intro v125 T125 L125 X125 hQ125
    obtain ⟨rfl, N125q, e125⟩ := hQ125
    have N125 := Fr.app N124 N125q
    refine R.ifNo X125 hx (hb hby at_437) (feq (by decide : ¬ ((1 : Int32) = (0 : Int32)))).1 (pc' := 440) rfl ?_
    refine R.aload X125 hx (hb hby at_440) rfl rfl (pc' := 442) rfl ?_
    refine R.iload X125 hx (hb hby at_442) rfl (pc' := 444) rfl ?_
    refine R.iload X125 hx (hb hby at_444) rfl (pc' := 446) rfl ?_
    refine R.iconst X125 hx (hb hby at_446) (v := (2 : Int32)) (by decide) (pc' := 447) rfl ?_
    refine R.lload X125 hx (hb hby at_447) rfl (pc' := 449) rfl ?_
    refine R.aload X125 hx (hb hby at_449) rfl rfl (pc' := 451) rfl ?_
    refine R.callS X125 hx hZ (y := mY40) hown w_222 w_223 w_197 w_224 (by decide) e125 (rm42 l Z aZ hw [] o_100 (3 : Int32) r_119 (2 : Int32) r_118 b15 cs r_100 zr_100 ff_100 k15 h100 n0 Z100 OL CS FM E_o_100 F_coder_o_100 F_value_o_100 Y_r_100 V_b15 (own_hk ts_100 en2 eab ct_100 hsg (z := (2 : Int32)) (B := (3 : Int32)) (K := (2 : Int32)) (by decide) (by decide) (by decide)) (by decide) (by omega) (by omega)) (by decide) (W := 0) (Nat.le_of_eq rfl) (by decide) (by rw [hml]; rfl) (lenOf pd_32 rfl) rfl (hb hby at_451) (pc' := 454) rfl (by decide) (by decide) ?_; intro v126 T126 L126 X126 hQ126
    obtain ⟨rfl, N126q, e126⟩ := hQ126
    have N126 := Fr.app N125 N126q
    refine R.ifNo X126 hx (hb hby at_454) (feq (by decide : ¬ ((1 : Int32) = (0 : Int32)))).1 (pc' := 457) rfl ?_
    refine R.aload X126 hx (hb hby at_457) rfl rfl (pc' := 459) rfl ?_
    refine R.iload X126 hx (hb hby at_459) rfl (pc' := 461) rfl ?_
    refine R.iload X126 hx (hb hby at_461) rfl (pc' := 463) rfl ?_
    refine R.iconst X126 hx (hb hby at_463) (v := (3 : Int32)) (by decide) (pc' := 464) rfl ?_
    refine R.lload X126 hx (hb hby at_464) rfl (pc' := 466) rfl ?_
    refine R.aload X126 hx (hb hby at_466) rfl rfl (pc' := 468) rfl ?_
    refine R.callS X126 hx hZ (y := mY40) hown w_222 w_223 w_197 w_224 (by decide) e126 (rm42 l Z aZ hw [] o_100 (3 : Int32) r_119 (3 : Int32) r_118 b15 cs r_100 zr_100 ff_100 k15 h100 n0 Z100 OL CS FM E_o_100 F_coder_o_100 F_value_o_100 Y_r_100 V_b15 (own_hk ts_100 en2 eab ct_100 hsg (z := (2 : Int32)) (B := (3 : Int32)) (K := (3 : Int32)) (by decide) (by decide) (by decide)) (by decide) (by omega) (by omega)) (by decide) (W := 0) (Nat.le_of_eq rfl) (by decide) (by rw [hml]; rfl) (lenOf pd_32 rfl) rfl (hb hby at_468) (pc' := 471) rfl (by decide) (by decide) ?_; intro v127 T127 L127 X127 hQ127
    obtain ⟨rfl, N127q, e127⟩ := hQ127
    have N127 := Fr.app N126 N127q
    refine R.ifNo X127 hx (hb hby at_471) (feq (by decide : ¬ ((1 : Int32) = (0 : Int32)))).1 (pc' := 474) rfl ?_
    refine R.aload X127 hx (hb hby at_474) rfl rfl (pc' := 476) rfl ?_
    refine R.iload X127 hx (hb hby at_476) rfl (pc' := 478) rfl ?_
    refine R.iload X127 hx (hb hby at_478) rfl (pc' := 480) rfl ?_
    refine R.iconst X127 hx (hb hby at_480) (v := (4 : Int32)) (by decide) (pc' := 481) rfl ?_
    refine R.lload X127 hx (hb hby at_481) rfl (pc' := 483) rfl ?_
    refine R.aload X127 hx (hb hby at_483) rfl rfl (pc' := 485) rfl ?_
    refine R.callS X127 hx hZ (y := mY40) hown w_222 w_223 w_197 w_224 (by decide) e127 (rm42 l Z aZ hw [] o_100 (3 : Int32) r_119 (4 : Int32) r_118 b15 cs r_100 zr_100 ff_100 k15 h100 n0 Z100 OL CS FM E_o_100 F_coder_o_100 F_value_o_100 Y_r_100 V_b15 (own_hk ts_100 en2 eab ct_100 hsg (z := (2 : Int32)) (B := (3 : Int32)) (K := (4 : Int32)) (by decide) (by decide) (by decide)) (by decide) (by omega) (by omega)) (by decide) (W := 0) (Nat.le_of_eq rfl) (by decide) (by rw [hml]; rfl) (lenOf pd_32 rfl) rfl (hb hby at_485) (pc' := 488) rfl (by decide) (by decide) ?_; intro v128 T128 L128 X128 hQ128
    obtain ⟨rfl, N128q, e128⟩ := hQ128
    have N128 := Fr.app N127 N128q
    refine R.ifNo X128 hx (hb hby at_488) (feq (by decide : ¬ ((1 : Int32) = (0 : Int32)))).1 (pc' := 491) rfl ?_
    refine R.aload X128 hx (hb hby at_491) rfl rfl (pc' := 493) rfl ?_
    refine R.iload X128 hx (hb hby at_493) rfl (pc' := 495) rfl ?_
    refine R.iload X128 hx (hb hby at_495) rfl (pc' := 497) rfl ?_
    refine R.iconst X128 hx (hb hby at_497) (v := (5 : Int32)) (by decide) (pc' := 498) rfl ?_
    refine R.lload X128 hx (hb hby at_498) rfl (pc' := 500) rfl ?_
    refine R.aload X128 hx (hb hby at_500) rfl rfl (pc' := 502) rfl ?_
    refine R.callS X128 hx hZ (y := mY40) hown w_222 w_223 w_197 w_224 (by decide) e128 (rm42 l Z aZ hw [] o_100 (3 : Int32) r_119 (5 : Int32) r_118 b15 cs r_100 zr_100 ff_100 k15 h100 n0 Z100 OL CS FM E_o_100 F_coder_o_100 F_value_o_100 Y_r_100 V_b15 (own_hk ts_100 en2 eab ct_100 hsg (z := (2 : Int32)) (B := (3 : Int32)) (K := (5 : Int32)) (by decide) (by decide) (by decide)) (by decide) (by omega) (by omega)) (by decide) (W := 0) (Nat.le_of_eq rfl) (by decide) (by rw [hml]; rfl) (lenOf pd_32 rfl) rfl (hb hby at_502) (pc' := 505) rfl (by decide) (by decide) ?_; intro v129 T129 L129 X129 hQ129
    obtain ⟨rfl, N129q, e129⟩ := hQ129
    have N129 := Fr.app N128 N129q
    refine R.ifNo X129 hx (hb hby at_505) (feq (by decide : ¬ ((1 : Int32) = (0 : Int32)))).1 (pc' := 508) rfl ?_
    refine R.aload X129 hx (hb hby at_508) rfl rfl (pc' := 510) rfl ?_
    refine R.iload X129 hx (hb hby at_510) rfl (pc' := 512) rfl ?_
    refine R.iload X129 hx (hb hby at_512) rfl (pc' := 514) rfl ?_
    refine R.bipush X129 hx (hb hby at_514) (v := (6 : Int32)) (by decide) (pc' := 516) rfl ?_
    refine R.lload X129 hx (hb hby at_516) rfl (pc' := 518) rfl ?_
    refine R.aload X129 hx (hb hby at_518) rfl rfl (pc' := 520) rfl ?_
    refine R.callS X129 hx hZ (y := mY40) hown w_222 w_223 w_197 w_224 (by decide) e129 (rm42 l Z aZ hw [] o_100 (3 : Int32) r_119 (6 : Int32) r_118 b15 cs r_100 zr_100 ff_100 k15 h100 n0 Z100 OL CS FM E_o_100 F_coder_o_100 F_value_o_100 Y_r_100 V_b15 (own_hk ts_100 en2 eab ct_100 hsg (z := (2 : Int32)) (B := (3 : Int32)) (K := (6 : Int32)) (by decide) (by decide) (by decide)) (by decide) (by omega) (by omega)) (by decide) (W := 0) (Nat.le_of_eq rfl) (by decide) (by rw [hml]; rfl) (lenOf pd_32 rfl) rfl (hb hby at_520) (pc' := 523) rfl (by decide) (by decide) ?_; intro v130 T130 L130 X130 hQ130
    obtain ⟨rfl, N130q, e130⟩ := hQ130
    have N130 := Fr.app N129 N130q
    refine R.ifNo X130 hx (hb hby at_523) (feq (by decide : ¬ ((1 : Int32) = (0 : Int32)))).1 (pc' := 526) rfl ?_
    refine R.aload X130 hx (hb hby at_526) rfl rfl (pc' := 528) rfl ?_
    refine R.iload X130 hx (hb hby at_528) rfl (pc' := 530) rfl ?_
    refine R.iload X130 hx (hb hby at_530) rfl (pc' := 532) rfl ?_
    refine R.bipush X130 hx (hb hby at_532) (v := (7 : Int32)) (by decide) (pc' := 534) rfl ?_
    refine R.lload X130 hx (hb hby at_534) rfl (pc' := 536) rfl ?_
    refine R.aload X130 hx (hb hby at_536) rfl rfl (pc' := 538) rfl ?_
    refine R.callS X130 hx hZ (y := mY40) hown w_222 w_223 w_197 w_224 (by decide) e130 (rm42 l Z aZ hw [] o_100 (3 : Int32) r_119 (7 : Int32) r_118 b15 cs r_100 zr_100 ff_100 k15 h100 n0 Z100 OL CS FM E_o_100 F_coder_o_100 F_value_o_100 Y_r_100 V_b15 (own_hk ts_100 en2 eab ct_100 hsg (z := (2 : Int32)) (B := (3 : Int32)) (K := (7 : Int32)) (by decide) (by decide) (by decide)) (by decide) (by omega) (by omega)) (by decide) (W := 0) (Nat.le_of_eq rfl) (by decide) (by rw [hml]; rfl) (lenOf pd_32 rfl) rfl (hb hby at_538) (pc' := 541) rfl (by decide) (by decide) ?_; intro v131 T131 L131 X131 hQ131
    obtain ⟨rfl, N131q, e131⟩ := hQ131
    have N131 := Fr.app N130 N131q
    refine R.ifNo X131 hx (hb hby at_541) (feq (by decide : ¬ ((1 : Int32) = (0 : Int32)))).1 (pc' := 544) rfl ?_
    refine R.aload X131 hx (hb hby at_544) rfl rfl (pc' := 546) rfl ?_
    refine R.iload X131 hx (hb hby at_546) rfl (pc' := 548) rfl ?_
    refine R.iload X131 hx (hb hby at_548) rfl (pc' := 550) rfl ?_
    refine R.bipush X131 hx (hb hby at_550) (v := (8 : Int32)) (by decide) (pc' := 552) rfl ?_
    refine R.lload X131 hx (hb hby at_552) rfl (pc' := 554) rfl ?_
    refine R.aload X131 hx (hb hby at_554) rfl rfl (pc' := 556) rfl ?_
    refine R.callS X131 hx hZ (y := mY40) hown w_222 w_223 w_197 w_224 (by decide) e131 (rm42 l Z aZ hw [] o_100 (3 : Int32) r_119 (8 : Int32) r_118 b15 cs r_100 zr_100 ff_100 k15 h100 n0 Z100 OL CS FM E_o_100 F_coder_o_100 F_value_o_100 Y_r_100 V_b15 (own_hk ts_100 en2 eab ct_100 hsg (z := (2 : Int32)) (B := (3 : Int32)) (K := (8 : Int32)) (by decide) (by decide) (by decide)) (by decide) (by omega) (by omega)) (by decide) (W := 0) (Nat.le_of_eq rfl) (by decide) (by rw [hml]; rfl) (lenOf pd_32 rfl) rfl (hb hby at_556) (pc' := 559) rfl (by decide) (by decide) ?_; intro v132 T132 L132 X132 hQ132
    obtain ⟨rfl, N132q, e132⟩ := hQ132
    have N132 := Fr.app N131 N132q
    refine R.ifNo X132 hx (hb hby at_559) (feq (by decide : ¬ ((1 : Int32) = (0 : Int32)))).1 (pc' := 562) rfl ?_
    refine R.aload X132 hx (hb hby at_562) rfl rfl (pc' := 564) rfl ?_
    refine R.iload X132 hx (hb hby at_564) rfl (pc' := 566) rfl ?_
    refine R.iload X132 hx (hb hby at_566) rfl (pc' := 568) rfl ?_
    refine R.bipush X132 hx (hb hby at_568) (v := (9 : Int32)) (by decide) (pc' := 570) rfl ?_
    refine R.lload X132 hx (hb hby at_570) rfl (pc' := 572) rfl ?_
    refine R.aload X132 hx (hb hby at_572) rfl rfl (pc' := 574) rfl ?_
    refine R.callS X132 hx hZ (y := mY40) hown w_222 w_223 w_197 w_224 (by decide) e132 (rm42 l Z aZ hw [] o_100 (3 : Int32) r_119 (9 : Int32) r_118 b15 cs r_100 zr_100 ff_100 k15 h100 n0 Z100 OL CS FM E_o_100 F_coder_o_100 F_value_o_100 Y_r_100 V_b15 (own_hk ts_100 en2 eab ct_100 hsg (z := (2 : Int32)) (B := (3 : Int32)) (K := (9 : Int32)) (by decide) (by decide) (by decide)) (by decide) (by omega) (by omega)) (by decide) (W := 0) (Nat.le_of_eq rfl) (by decide) (by rw [hml]; rfl) (lenOf pd_32 rfl) rfl (hb hby at_574) (pc' := 577) rfl (by decide) (by decide) ?_; intro v133 T133 L133 X133 hQ133
    obtain ⟨rfl, N133q, e133⟩ := hQ133
    have N133 := Fr.app N132 N133q
    refine R.ifNo X133 hx (hb hby at_577) (feq (by decide : ¬ ((1 : Int32) = (0 : Int32)))).1 (pc' := 580) rfl ?_
    refine R.iconst X133 hx (hb hby at_580) (v := (1 : Int32)) (by decide) (pc' := 581) rfl ?_
    refine R.goto X133 hx (hb hby at_581) (by decide) (pc' := 585) (by decide) ?_
    rw [← hG]
    exact Rn.retW X133 hS hk (BodyLoose.notSynchronized Bd) (v := some (.int (1 : Int32))) (fun h => by rw [Bd.returns] at h; cases h) (Q := Q0 Z p0 p1 p2 cs dO dT h0 n0) e133 (fun fs hr => retN X133 hx (t := .boolean) Bd.returns (by simp) (hb hby at_585) hr) ⟨rfl, N133⟩ (by decide) (by decide)
set_option maxRecDepth 65536 in
set_option maxHeartbeats 40000000 in
theorem rm0_3 (l : Launch) (Z : State) (aZ : Array Value) (hw : ∀ d ∈ tables_1, d.before aZ Z = true) (ws : List Jvm.Cond) (p0 : Int32) (p1 : Int32) (p2 : Int32) (cs : Int32) (dO : Addr) (dT : Addr) (h0 : Heap) (n0 : Nat) {p : Program} {e : Env} {s : State} {m : MethodId} {below : List Frame} {meth : Method} {c : Code} {s₁ : State} (Bd : BodyLoose p l x (head1 (Jvm.Cond.code x code maxLocals ret :: ws) room_1) code maxLocals ret e s m #[(.int p0), (.int p1), (.int p2)] below meth c s₁) (hml : c.maxLocals = 20) (hZ : Z.Warmed39 (s.setVm s.vm).vm) {TL : State} {hL : Heap} {lL : List Loc} (XL : Stand p l e room_1 (s.setVm s.vm) m #[(.int p0), (.int p1), (.int p2)] below meth c TL lL 5 16) (eL : TL.heap = hL) (NL : Fr n0 lL) (KL : Keep h0 hL []) (ZL : n0 ≤ hL.size) (b11 : Addr) (b15 : Addr) (b5 : Addr) (b6 : Addr) (b8 : Addr) (i1 : Int32) (i2 : Int32) (i3 : Int32) (k11 : ClassId) (k15 : ClassId) {G : Outcome → State → Prop} (hG : (Fn0 Z p0 p1 p2 cs dO dT h0 n0 s) = G) (OL : Old Z n0 hL) (V_b11 : Arh Z hL b11 k11 .char (3 : Int32) [((2 : Int32), (.int i3)), ((1 : Int32), (.int i2)), ((0 : Int32), (.int i1))] [] (.int (0 : Int32))) (V_b15 : Arh Z hL b15 k15 .long (10 : Int32) [((9 : Int32), (.long (1000000000 : Int64))), ((8 : Int32), (.long (100000000 : Int64))), ((7 : Int32), (.long (10000000 : Int64))), ((6 : Int32), (.long (1000000 : Int64))), ((5 : Int32), (.long (100000 : Int64))), ((4 : Int32), (.long (10000 : Int64))), ((3 : Int32), (.long (1000 : Int64))), ((2 : Int32), (.long (100 : Int64))), ((1 : Int32), (.long (10 : Int64))), ((0 : Int32), (.long (1 : Int64)))] [] (.long (0 : Int64))) (ne_b11_b15 : b11 ≠ b15) (g_b11 : n0 ≤ b11) (g_b15 : n0 ≤ b15) (sz_b11 : h0.size ≤ b11) (sz_b15 : h0.size ≤ b15) (CS : own_CS Z cs) (FM : own_FM Z) (DG : own_DG Z dO dT) (HC : CHv Z consts_1 s.vm h0) (b_i1 : 0 ≤ i1.toInt ∧ i1.toInt ≤ 255) (b_i2 : 0 ≤ i2.toInt ∧ i2.toInt ≤ 255) (b_i3 : 0 ≤ i3.toInt ∧ i3.toInt ≤ 255) : Rn p e below (TL.setTop (mkF m 165 #[.val (.int p0), .val (.int p1), .val (.int p2), .val (.int i1), .val (.int i2), .val (.int i3), .val (.int (3 : Int32)), .val (.ref b5), .val (.ref b6), .val (.ref b8), .val (.ref b11), .val (.ref b15), .unset, .unset, .unset, .unset, .unset, .unset, .unset, .unset] [])) G := by
  have hx := Bd.exec
  have hby := Bd.bytes
  have hown : (s.setVm s.vm).vm.findClass "com/example/apportion/apportion/jsonl/PlaceToStringPinLaw" = some m.cls := findClass_of_methodNamed Bd.named
  have hnm := (name_of_methodNamed Bd.named Bd.method).1
  have w_11 := hw _ (List.mem_of_getElem? (i := 11) rfl)
  have w_12 := hw _ (List.mem_of_getElem? (i := 12) rfl)
  have w_13 := hw _ (List.mem_of_getElem? (i := 13) rfl)
  have w_14 := hw _ (List.mem_of_getElem? (i := 14) rfl)
  have w_15 := hw _ (List.mem_of_getElem? (i := 15) rfl)
  have w_16 := hw _ (List.mem_of_getElem? (i := 16) rfl)
  have w_37 := hw _ (List.mem_of_getElem? (i := 37) rfl)
  have w_39 := hw _ (List.mem_of_getElem? (i := 39) rfl)
  have w_40 := hw _ (List.mem_of_getElem? (i := 40) rfl)
  have w_41 := hw _ (List.mem_of_getElem? (i := 41) rfl)
  have w_42 := hw _ (List.mem_of_getElem? (i := 42) rfl)
  have w_43 := hw _ (List.mem_of_getElem? (i := 43) rfl)
  have w_44 := hw _ (List.mem_of_getElem? (i := 44) rfl)
  have w_45 := hw _ (List.mem_of_getElem? (i := 45) rfl)
  have w_53 := hw _ (List.mem_of_getElem? (i := 53) rfl)
  have w_55 := hw _ (List.mem_of_getElem? (i := 55) rfl)
  have w_56 := hw _ (List.mem_of_getElem? (i := 56) rfl)
  have w_57 := hw _ (List.mem_of_getElem? (i := 57) rfl)
  have w_58 := hw _ (List.mem_of_getElem? (i := 58) rfl)
  have w_59 := hw _ (List.mem_of_getElem? (i := 59) rfl)
  have w_60 := hw _ (List.mem_of_getElem? (i := 60) rfl)
  have w_90 := hw _ (List.mem_of_getElem? (i := 90) rfl)
  have w_91 := hw _ (List.mem_of_getElem? (i := 91) rfl)
  have w_92 := hw _ (List.mem_of_getElem? (i := 92) rfl)
  have w_93 := hw _ (List.mem_of_getElem? (i := 93) rfl)
  have w_189 := hw _ (List.mem_of_getElem? (i := 189) rfl)
  have w_192 := hw _ (List.mem_of_getElem? (i := 192) rfl)
  have w_193 := hw _ (List.mem_of_getElem? (i := 193) rfl)
  have w_194 := hw _ (List.mem_of_getElem? (i := 194) rfl)
  have w_195 := hw _ (List.mem_of_getElem? (i := 195) rfl)
  have w_196 := hw _ (List.mem_of_getElem? (i := 196) rfl)
  have w_197 := hw _ (List.mem_of_getElem? (i := 197) rfl)
  have w_198 := hw _ (List.mem_of_getElem? (i := 198) rfl)
  have w_199 := hw _ (List.mem_of_getElem? (i := 199) rfl)
  have w_200 := hw _ (List.mem_of_getElem? (i := 200) rfl)
  have w_201 := hw _ (List.mem_of_getElem? (i := 201) rfl)
  have w_202 := hw _ (List.mem_of_getElem? (i := 202) rfl)
  have w_203 := hw _ (List.mem_of_getElem? (i := 203) rfl)
  have w_204 := hw _ (List.mem_of_getElem? (i := 204) rfl)
  have w_222 := hw _ (List.mem_of_getElem? (i := 222) rfl)
  have w_223 := hw _ (List.mem_of_getElem? (i := 223) rfl)
  have w_224 := hw _ (List.mem_of_getElem? (i := 224) rfl)
  have hS : s.Since s.vm 0 := (State.WarmedH.refl s).since 0
  have hk : 0 ≤ hL.size := Nat.zero_le _
  have hEL := own_ew hw
  have wS := own_ws hw
  show Rn p e below (TL.setTop (mkF m 165 #[.val (.int p0), .val (.int p1), .val (.int p2), .val (.int i1), .val (.int i2), .val (.int i3), .val (.int (3 : Int32)), .val (.ref b5), .val (.ref b6), .val (.ref b8), .val (.ref b11), .val (.ref b15), .unset, .unset, .unset, .unset, .unset, .unset, .unset, .unset] [])) G
  refine R.iload XL hx (hb hby at_165) rfl (pc' := 167) rfl ?_
  refine R.ifYes XL hx (hb hby at_167) (feq (by decide : ¬ ((3 : Int32) = (0 : Int32)))).2 (by decide) (pc' := 184) (by decide) ?_
  refine R.iload XL hx (hb hby at_184) rfl (pc' := 186) rfl ?_
  refine R.iconst XL hx (hb hby at_186) (v := (1 : Int32)) (by decide) (pc' := 187) rfl ?_
  refine R.icmpYes XL hx (hb hby at_187) (feq (by decide : ¬ ((3 : Int32) = (1 : Int32)))).2 (by decide) (pc' := 204) (by decide) ?_
  refine R.iload XL hx (hb hby at_204) rfl (pc' := 206) rfl ?_
  refine R.iconst XL hx (hb hby at_206) (v := (2 : Int32)) (by decide) (pc' := 207) rfl ?_
  refine R.icmpYes XL hx (hb hby at_207) (feq (by decide : ¬ ((3 : Int32) = (2 : Int32)))).2 (by decide) (pc' := 224) (by decide) ?_
  refine R.newO XL hx hZ hown w_11 w_12 w_13 eL (hb hby at_224) (pc' := 227) rfl (by decide) (by decide) ?_; intro T134 h134 b134 g134 X134 e134 E134 AA134 D134
  have g_b134 : n0 ≤ b134 := Nat.le_trans ZL (Nat.le_of_eq g134.symm)
  have sz_b134 : h0.size ≤ b134 := Nat.le_trans KL.1 (Nat.le_of_eq g134.symm)
  have ne_b11_b134 : b11 ≠ b134 := Nat.ne_of_lt (Nat.lt_of_lt_of_le V_b11.lt (Nat.le_of_eq g134.symm))
  have ne_b15_b134 : b15 ≠ b134 := Nat.ne_of_lt (Nat.lt_of_lt_of_le V_b15.lt (Nat.le_of_eq g134.symm))
  have K134 : Keep h0 h134 [] := KL.ext E134
  have Z134 : n0 ≤ h134.size := Nat.le_trans ZL E134.1
  have hk := Nat.le_trans hk E134.1
  have OL := OL.ext E134
  have V_b11 := V_b11.ext E134
  have V_b15 := V_b15.ext E134
  have E_b134 := AA134
  have F_coder_b134 : Fld Z h134 b134 "java/lang/String" "coder" "B" (.int (0 : Int32)) := D134 (Or.inr w_37) (ty := .byte) (by decide)
  have F_value_b134 : Fld Z h134 b134 "java/lang/String" "value" "[B" .null := D134 (Or.inr w_39) (ty := (.array .byte)) (by decide)
  refine R.dup X134 hx (hb hby at_227) rfl (pc' := 228) rfl ?_
  refine R.aload X134 hx (hb hby at_228) rfl rfl (pc' := 230) rfl ?_
  refine R.special X134 hx hZ (y := mY35) rfl hown w_14 w_15 w_13 w_16 (by decide) e134 (rmsj3 l Z aZ hw [] b134 b11 cs k11 [((2 : Int32), (.int i3)), ((1 : Int32), (.int i2)), ((0 : Int32), (.int i1))] i1 i2 i3 h134 n0 Z134 OL CS E_b134 F_coder_b134 F_value_b134 g_b134 V_b11 (Ne.symm ne_b11_b134) (getH_miss (by decide) (by decide) (getH_miss (by decide) (by decide) (getH_hit (by decide) (rfl)))) (getH_miss (by decide) (by decide) (getH_hit (by decide) (rfl))) (getH_hit (by decide) (rfl)) (b_i1) (b_i2) (b_i3)) (by decide) (W := 1) (Nat.le_of_eq rfl) (by decide) (by rw [hml]; rfl) (lenOf pd_28 rfl) rfl (hb hby at_230) (pc' := 233) rfl (by decide) (by decide) ?_; intro v135 T135 L135 X135 hQ135
  obtain ⟨r_135, rfl, N135q, Kc135, P135_0, P135_1, P135_2, P135_3, P135_4⟩ := hQ135
  have N135 := Fr.app NL N135q
  generalize e135 : T135.heap = h135 at Kc135 P135_0 P135_1 P135_2 P135_3 P135_4
  have K135 : Keep h0 h135 [] := K134.trans Kc135 ((allS (Or.inr sz_b134) all0))
  have Z135 : n0 ≤ h135.size := Nat.le_trans Z134 Kc135.1
  have hk := Nat.le_trans hk Kc135.1
  have ne_b11_r_135 : b11 ≠ r_135 := Nat.ne_of_lt (Nat.lt_of_lt_of_le V_b11.lt P135_0)
  have ne_b15_r_135 : b15 ≠ r_135 := Nat.ne_of_lt (Nat.lt_of_lt_of_le V_b15.lt P135_0)
  have ne_b134_r_135 : b134 ≠ r_135 := Nat.ne_of_lt (Nat.lt_of_lt_of_le E_b134.lt P135_0)
  have g_r_135 : n0 ≤ r_135 := Nat.le_trans Z134 P135_0
  have sz_r_135 : h0.size ≤ r_135 := Nat.le_trans K134.1 P135_0
  have OL := OL.keep Kc135 (allS g_b134 all0)
  have V_b11 := V_b11.keep Kc135 (ninS ne_b11_b134 nin0)
  have V_b15 := V_b15.keep Kc135 (ninS ne_b15_b134 nin0)
  have fresh_135 := P135_0
  have E_b134 : Exa Z h135 b134 "java/lang/String" := P135_1
  have F_coder_b134 : Fld Z h135 b134 "java/lang/String" "coder" "B" (.int (0 : Int32)) := P135_2
  have F_value_b134 : Fld Z h135 b134 "java/lang/String" "value" "[B" (.ref r_135) := P135_3
  have Y_r_135 : own_By Z h135 r_135 (3 : Int32) (own_up (own_up (own_up (fun _ => 0) (0 : Int32).toNatClampNeg (i1.toInt8.toInt32)) (1 : Int32).toNatClampNeg (i2.toInt8.toInt32)) (2 : Int32).toNatClampNeg (i3.toInt8.toInt32)) := P135_4
  refine R.astore X135 hx (hb hby at_233) rfl (L' := #[.val (.int p0), .val (.int p1), .val (.int p2), .val (.int i1), .val (.int i2), .val (.int i3), .val (.int (3 : Int32)), .val (.ref b5), .val (.ref b6), .val (.ref b8), .val (.ref b11), .val (.ref b15), .val (.ref b134), .unset, .unset, .unset, .unset, .unset, .unset, .unset]) rfl (pc' := 235) rfl ?_
  refine R.newO X135 hx hZ hown w_40 w_41 w_42 e135 (hb hby at_235) (pc' := 238) rfl (by decide) (by decide) ?_; intro T136 h136 b136 g136 X136 e136 E136 AA136 D136
  have g_b136 : n0 ≤ b136 := Nat.le_trans Z135 (Nat.le_of_eq g136.symm)
  have sz_b136 : h0.size ≤ b136 := Nat.le_trans K135.1 (Nat.le_of_eq g136.symm)
  have ne_b11_b136 : b11 ≠ b136 := Nat.ne_of_lt (Nat.lt_of_lt_of_le V_b11.lt (Nat.le_of_eq g136.symm))
  have ne_b15_b136 : b15 ≠ b136 := Nat.ne_of_lt (Nat.lt_of_lt_of_le V_b15.lt (Nat.le_of_eq g136.symm))
  have ne_b134_b136 : b134 ≠ b136 := Nat.ne_of_lt (Nat.lt_of_lt_of_le E_b134.lt (Nat.le_of_eq g136.symm))
  have ne_r_135_b136 : r_135 ≠ b136 := Nat.ne_of_lt (Nat.lt_of_lt_of_le Y_r_135.lt (Nat.le_of_eq g136.symm))
  have K136 : Keep h0 h136 [] := K135.ext E136
  have Z136 : n0 ≤ h136.size := Nat.le_trans Z135 E136.1
  have hk := Nat.le_trans hk E136.1
  have OL := OL.ext E136
  have V_b11 := V_b11.ext E136
  have V_b15 := V_b15.ext E136
  have E_b134 := E_b134.ext E136
  have F_coder_b134 := F_coder_b134.ext E136
  have F_value_b134 := F_value_b134.ext E136
  have Y_r_135 := Y_r_135.ext E136
  have E_b136 := AA136
  have F_file_b136 : Fld Z h136 b136 "com/example/apportion/apportion/jsonl/LedgerFiles$Place" "file" "Ljava/lang/String;" .null := D136 (Or.inr w_53) (ty := (.object "java/lang/String")) (by decide)
  have F_line_b136 : Fld Z h136 b136 "com/example/apportion/apportion/jsonl/LedgerFiles$Place" "line" "I" (.int (0 : Int32)) := D136 (Or.inr w_55) (ty := .int) (by decide)
  refine R.dup X136 hx (hb hby at_238) rfl (pc' := 239) rfl ?_
  refine R.aload X136 hx (hb hby at_239) rfl rfl (pc' := 241) rfl ?_
  refine R.iloadN X136 hx (hb hby at_241) rfl (pc' := 242) rfl ?_
  refine R.special X136 hx hZ (y := mY36) rfl hown w_43 w_44 w_42 w_45 (by decide) e136 (rm7 l Z aZ hw [] b136 b134 p2 h136 n0 Z136 E_b136 F_file_b136 F_line_b136 g_b136) (by decide) (W := 1) (Nat.le_of_eq rfl) (by decide) (by rw [hml]; rfl) (lenOf pd_29 rfl) rfl (hb hby at_242) (pc' := 245) rfl (by decide) (by decide) ?_; intro v137 T137 L137 X137 hQ137
  obtain ⟨rfl, N137q, Kc137, P137_0, P137_1, P137_2⟩ := hQ137
  have N137 := Fr.app N135 N137q
  generalize e137 : T137.heap = h137 at Kc137 P137_0 P137_1 P137_2
  have K137 : Keep h0 h137 [] := K136.trans Kc137 ((allS (Or.inr sz_b136) all0))
  have Z137 : n0 ≤ h137.size := Nat.le_trans Z136 Kc137.1
  have hk := Nat.le_trans hk Kc137.1
  have OL := OL.keep Kc137 (allS g_b136 all0)
  have V_b11 := V_b11.keep Kc137 (ninS ne_b11_b136 nin0)
  have V_b15 := V_b15.keep Kc137 (ninS ne_b15_b136 nin0)
  have E_b134 := E_b134.keep Kc137
  have F_coder_b134 := F_coder_b134.keep Kc137 (ninS ne_b134_b136 nin0)
  have F_value_b134 := F_value_b134.keep Kc137 (ninS ne_b134_b136 nin0)
  have Y_r_135 := Y_r_135.keep Kc137 (ninS ne_r_135_b136 nin0)
  have E_b136 : Exa Z h137 b136 "com/example/apportion/apportion/jsonl/LedgerFiles$Place" := P137_0
  have F_file_b136 : Fld Z h137 b136 "com/example/apportion/apportion/jsonl/LedgerFiles$Place" "file" "Ljava/lang/String;" (.ref b134) := P137_1
  have F_line_b136 : Fld Z h137 b136 "com/example/apportion/apportion/jsonl/LedgerFiles$Place" "line" "I" (.int p2) := P137_2
  refine R.virtualH X137 hx hZ hS hk hEL (HC.keep K137 (fun x q => nomatch q)) (sf := []) (all0) (y := mY37) hown w_56 w_57 w_59 w_58 w_42 w_60 (by decide) e137 E_b136 (rm9 l Z aZ hw [] b136 cs dO dT b134 p2 r_135 (3 : Int32) (own_up (own_up (own_up (fun _ => 0) (0 : Int32).toNatClampNeg (i1.toInt8.toInt32)) (1 : Int32).toNatClampNeg (i2.toInt8.toInt32)) (2 : Int32).toNatClampNeg (i3.toInt8.toInt32)) h137 n0 Z137 OL CS DG E_b136 F_file_b136 F_line_b136 E_b134 F_coder_b134 F_value_b134 Y_r_135 (by decide)) (by decide) (W := 0) (Nat.le_of_eq rfl) (by decide) (by rw [hml]; rfl) (lenOf pd_26 rfl) rfl (hb hby at_245) (pc' := 248) rfl (by decide) (by decide) ?_; intro v138 T138 L138 k138 X138 hS hk hZ hown hQ138
  obtain ⟨o_138, r_138, zr_138, ff_138, nd_138, rfl, N138q, Kc138, P138_0, P138_1, P138_2, P138_3, P138_4, P138_5, P138_6⟩ := hQ138
  have N138 := Fr.app N137 N138q
  generalize e138 : T138.heap = h138 at Kc138 P138_0 P138_1 P138_2 P138_3 P138_4 P138_5 P138_6 hk
  have K138 : Keep h0 h138 [] := K137.trans Kc138 (all0)
  have Z138 : n0 ≤ h138.size := Nat.le_trans Z137 Kc138.1
  have OL := OL.keep Kc138 all0
  have V_b11 := V_b11.keep Kc138 nin0
  have V_b15 := V_b15.keep Kc138 nin0
  have E_b134 := E_b134.keep Kc138
  have F_coder_b134 := F_coder_b134.keep Kc138 nin0
  have F_value_b134 := F_value_b134.keep Kc138 nin0
  have Y_r_135 := Y_r_135.keep Kc138 nin0
  have E_b136 := E_b136.keep Kc138
  have F_file_b136 := F_file_b136.keep Kc138 nin0
  have F_line_b136 := F_line_b136.keep Kc138 nin0
  have E_o_138 : Exa Z h138 o_138 "java/lang/String" := P138_0
  have F_coder_o_138 : Fld Z h138 o_138 "java/lang/String" "coder" "B" (.int (0 : Int32)) := P138_1
  have F_value_o_138 : Fld Z h138 o_138 "java/lang/String" "value" "[B" (.ref r_138) := P138_2
  have Y_r_138 : own_By Z h138 r_138 zr_138 ff_138 := P138_3
  have hx_138 := P138_4
  have ct_138 := P138_5
  have ts_138 := P138_6
  refine R.astore X138 hx (hb hby at_248) rfl (L' := #[.val (.int p0), .val (.int p1), .val (.int p2), .val (.int i1), .val (.int i2), .val (.int i3), .val (.int (3 : Int32)), .val (.ref b5), .val (.ref b6), .val (.ref b8), .val (.ref b11), .val (.ref b15), .val (.ref b134), .val (.ref o_138), .unset, .unset, .unset, .unset, .unset, .unset]) rfl (pc' := 250) rfl ?_
  refine R.iloadN X138 hx (hb hby at_250) rfl (pc' := 251) rfl ?_
  by_cases hc251 : p2 < (0 : Int32)
  · refine R.ifNo X138 hx (hb hby at_251) (tlt hc251).2.1 (pc' := 254) rfl ?_
    refine R.iconst X138 hx (hb hby at_254) (v := (1 : Int32)) (by decide) (pc' := 255) rfl ?_
    refine R.goto X138 hx (hb hby at_255) (by decide) (pc' := 259) (by decide) ?_
    refine R.istore X138 hx (hb hby at_259) (L' := #[.val (.int p0), .val (.int p1), .val (.int p2), .val (.int i1), .val (.int i2), .val (.int i3), .val (.int (3 : Int32)), .val (.ref b5), .val (.ref b6), .val (.ref b8), .val (.ref b11), .val (.ref b15), .val (.ref b134), .val (.ref o_138), .val (.int (1 : Int32)), .unset, .unset, .unset, .unset, .unset]) rfl (pc' := 261) rfl ?_
    have hneg : p2.toInt < 0 := own_lt0 hc251
    have hsg : own_sg p2.toInt = 1 := by unfold own_sg; rw [if_pos (by omega)]
    have bp := own_b p2
    have hn1 := hx_138.1
    have hn10 := hx_138.2.1
    have ct := ct_138
    rw [hsg] at ct
    have tz : ((3 : Int32)).toInt = 3 := by decide
    refine R.iloadN X138 hx (hb hby at_261) rfl (pc' := 262) rfl ?_
    refine R.i2l X138 hx (hb hby at_262) (pc' := 263) rfl ?_
    refine R.callS X138 hx hZ (y := mY38) hown w_192 w_193 w_189 w_194 (by decide) e138 (rm35 l Z aZ hw [] (p2.toInt64) h138 n0 Z138 (by rw [Int32.toInt_toInt64]; omega)) (by decide) (W := 0) (Nat.le_of_eq rfl) (by decide) (by rw [hml]; rfl) (lenOf pd_30 rfl) rfl (hb hby at_263) (pc' := 266) rfl (by decide) (by decide) ?_; intro v139 T139 L139 X139 hQ139
    obtain ⟨r_139, rfl, N139q, e139, P139_0⟩ := hQ139
    have N139 := Fr.app N138 N139q
    have ab_139 := P139_0
    have ab : r_139.toInt = (p2.toInt.natAbs : Int) := by have q := ab_139; rw [Int32.toInt_toInt64] at q; exact q
    refine R.lstore X139 hx (hb hby at_266) (L' := #[.val (.int p0), .val (.int p1), .val (.int p2), .val (.int i1), .val (.int i2), .val (.int i3), .val (.int (3 : Int32)), .val (.ref b5), .val (.ref b6), .val (.ref b8), .val (.ref b11), .val (.ref b15), .val (.ref b134), .val (.ref o_138), .val (.int (1 : Int32)), .val (.long r_139), .second, .unset, .unset, .unset]) rfl (pc' := 268) rfl ?_
    refine R.lload X139 hx (hb hby at_268) rfl (pc' := 270) rfl ?_
    refine R.callS X139 hx hZ (y := mY39) hown w_195 w_196 w_197 w_198 (by decide) e139 (rm36 l Z aZ hw [] r_139 h138 n0 Z138 (by omega)) (by decide) (W := 0) (Nat.le_of_eq rfl) (by decide) (by rw [hml]; rfl) (lenOf pd_31 rfl) rfl (hb hby at_270) (pc' := 273) rfl (by decide) (by decide) ?_; intro v140 T140 L140 X140 hQ140
    obtain ⟨r_140, rfl, N140q, e140, P140_0⟩ := hQ140
    have N140 := Fr.app N139 N140q
    have dg_140 := P140_0
    obtain ⟨n2, hn2, en2⟩ := dg_140
    have eab : r_139.toInt.toNat = p2.toInt.natAbs := by omega
    rw [eab] at hn2
    have enn : n2 = nd_138 := own_ndU hn2 hx_138
    rw [enn] at en2
    refine R.istore X140 hx (hb hby at_273) (L' := #[.val (.int p0), .val (.int p1), .val (.int p2), .val (.int i1), .val (.int i2), .val (.int i3), .val (.int (3 : Int32)), .val (.ref b5), .val (.ref b6), .val (.ref b8), .val (.ref b11), .val (.ref b15), .val (.ref b134), .val (.ref o_138), .val (.int (1 : Int32)), .val (.long r_139), .second, .val (.int r_140), .unset, .unset]) rfl (pc' := 275) rfl ?_
    refine R.iload X140 hx (hb hby at_275) rfl (pc' := 277) rfl ?_
    refine R.ifNo X140 hx (hb hby at_277) (feq (by decide : ¬ ((1 : Int32) = (0 : Int32)))).1 (pc' := 280) rfl ?_
    refine R.iconst X140 hx (hb hby at_280) (v := (1 : Int32)) (by decide) (pc' := 281) rfl ?_
    refine R.goto X140 hx (hb hby at_281) (by decide) (pc' := 285) (by decide) ?_
    refine R.istore X140 hx (hb hby at_285) (L' := #[.val (.int p0), .val (.int p1), .val (.int p2), .val (.int i1), .val (.int i2), .val (.int i3), .val (.int (3 : Int32)), .val (.ref b5), .val (.ref b6), .val (.ref b8), .val (.ref b11), .val (.ref b15), .val (.ref b134), .val (.ref o_138), .val (.int (1 : Int32)), .val (.long r_139), .second, .val (.int r_140), .val (.int (1 : Int32)), .unset]) rfl (pc' := 287) rfl ?_
    refine R.aload X140 hx (hb hby at_287) rfl rfl (pc' := 289) rfl ?_
    refine R.virtual X140 hx hZ (y := mY9) (z := mY9) hown w_199 w_90 (notFace_of_selects (args := #[]) (mvT hZ w_92)) w_92 w_91 w_13 w_93 (by decide) e140 E_o_138 (rm14 l Z aZ hw [] o_138 cs r_138 zr_138 ff_138 h138 n0 Z138 OL CS E_o_138 F_coder_o_138 F_value_o_138 Y_r_138) (by decide) (W := 0) (Nat.le_of_eq rfl) (by decide) (by rw [hml]; rfl) (lenOf pd_0 rfl) rfl (hb hby at_289) (pc' := 292) rfl (by decide) (by decide) ?_; intro v141 T141 L141 X141 hQ141
    obtain ⟨rfl, N141q, e141⟩ := hQ141
    have N141 := Fr.app N140 N141q
    refine R.iload X141 hx (hb hby at_292) rfl (pc' := 294) rfl ?_
    refine R.iconst X141 hx (hb hby at_294) (v := (1 : Int32)) (by decide) (pc' := 295) rfl ?_
    refine R.iadd X141 hx (hb hby at_295) (v := (4 : Int32)) (by decide) (pc' := 296) rfl ?_
    refine R.iload X141 hx (hb hby at_296) rfl (pc' := 298) rfl ?_
    refine R.iadd X141 hx (hb hby at_298) (v := (5 : Int32)) (by decide) (pc' := 299) rfl ?_
    refine R.iload X141 hx (hb hby at_299) rfl (pc' := 301) rfl ?_
    refine R.iadd X141 hx (hb hby at_301) rfl (pc' := 302) rfl ?_
    refine R.icmpYes X141 hx (hb hby at_302) (teq (own_len (k := 5) (by decide) en2 hn10 (by omega) : zr_138 = ((5 : Int32) + r_140))).1 (by decide) (pc' := 307) (by decide) ?_
    refine R.iload X141 hx (hb hby at_307) rfl (pc' := 309) rfl ?_
    refine R.ifNo X141 hx (hb hby at_309) (tlt (by decide : (0 : Int32) < (3 : Int32))).2.2.2 (pc' := 312) rfl ?_
    refine R.aload X141 hx (hb hby at_312) rfl rfl (pc' := 314) rfl ?_
    refine R.iconst X141 hx (hb hby at_314) (v := (0 : Int32)) (by decide) (pc' := 315) rfl ?_
    refine R.virtual X141 hx hZ (y := mY34) (z := mY34) hown w_200 w_201 (notFace_of_selects (args := #[]) (mvT hZ w_203)) w_203 w_202 w_13 w_204 (by decide) e141 E_o_138 (rm37 l Z aZ hw [] o_138 (0 : Int32) cs r_138 zr_138 ff_138 h138 n0 Z138 OL CS FM E_o_138 F_coder_o_138 F_value_o_138 Y_r_138 (by decide) (own_ltI (k := 0) (by decide) (by omega))) (by decide) (W := 0) (Nat.le_of_eq rfl) (by decide) (by rw [hml]; rfl) (lenOf pd_27 rfl) rfl (hb hby at_315) (pc' := 318) rfl (by decide) (by decide) ?_; intro v142 T142 L142 X142 hQ142
    obtain ⟨r_142, rfl, N142q, e142, P142_0⟩ := hQ142
    have N142 := Fr.app N141 N142q
    have ch_142 := P142_0
    refine R.iloadN X142 hx (hb hby at_318) rfl (pc' := 319) rfl ?_
    refine R.icmpYes X142 hx (hb hby at_319) (teq (own_chk ((ts_138.1 _ (by decide)).trans rfl) b_i1 ch_142 : r_142 = i1)).1 (by decide) (pc' := 324) (by decide) ?_
    refine R.iload X142 hx (hb hby at_324) rfl (pc' := 326) rfl ?_
    refine R.iconst X142 hx (hb hby at_326) (v := (1 : Int32)) (by decide) (pc' := 327) rfl ?_
    refine R.icmpNo X142 hx (hb hby at_327) (tlt (by decide : (1 : Int32) < (3 : Int32))).2.2.2 (pc' := 330) rfl ?_
    refine R.aload X142 hx (hb hby at_330) rfl rfl (pc' := 332) rfl ?_
    refine R.iconst X142 hx (hb hby at_332) (v := (1 : Int32)) (by decide) (pc' := 333) rfl ?_
    refine R.virtual X142 hx hZ (y := mY34) (z := mY34) hown w_200 w_201 (notFace_of_selects (args := #[]) (mvT hZ w_203)) w_203 w_202 w_13 w_204 (by decide) e142 E_o_138 (rm37 l Z aZ hw [] o_138 (1 : Int32) cs r_138 zr_138 ff_138 h138 n0 Z138 OL CS FM E_o_138 F_coder_o_138 F_value_o_138 Y_r_138 (by decide) (own_ltI (k := 1) (by decide) (by omega))) (by decide) (W := 0) (Nat.le_of_eq rfl) (by decide) (by rw [hml]; rfl) (lenOf pd_27 rfl) rfl (hb hby at_333) (pc' := 336) rfl (by decide) (by decide) ?_; intro v143 T143 L143 X143 hQ143
    obtain ⟨r_143, rfl, N143q, e143, P143_0⟩ := hQ143
    have N143 := Fr.app N142 N143q
    have ch_143 := P143_0
    refine R.iload X143 hx (hb hby at_336) rfl (pc' := 338) rfl ?_
    refine R.icmpYes X143 hx (hb hby at_338) (teq (own_chk ((ts_138.1 _ (by decide)).trans rfl) b_i2 ch_143 : r_143 = i2)).1 (by decide) (pc' := 343) (by decide) ?_
    refine R.iload X143 hx (hb hby at_343) rfl (pc' := 345) rfl ?_
    refine R.iconst X143 hx (hb hby at_345) (v := (2 : Int32)) (by decide) (pc' := 346) rfl ?_
    refine R.icmpNo X143 hx (hb hby at_346) (tlt (by decide : (2 : Int32) < (3 : Int32))).2.2.2 (pc' := 349) rfl ?_
    refine R.aload X143 hx (hb hby at_349) rfl rfl (pc' := 351) rfl ?_
    refine R.iconst X143 hx (hb hby at_351) (v := (2 : Int32)) (by decide) (pc' := 352) rfl ?_
    refine R.virtual X143 hx hZ (y := mY34) (z := mY34) hown w_200 w_201 (notFace_of_selects (args := #[]) (mvT hZ w_203)) w_203 w_202 w_13 w_204 (by decide) e143 E_o_138 (rm37 l Z aZ hw [] o_138 (2 : Int32) cs r_138 zr_138 ff_138 h138 n0 Z138 OL CS FM E_o_138 F_coder_o_138 F_value_o_138 Y_r_138 (by decide) (own_ltI (k := 2) (by decide) (by omega))) (by decide) (W := 0) (Nat.le_of_eq rfl) (by decide) (by rw [hml]; rfl) (lenOf pd_27 rfl) rfl (hb hby at_352) (pc' := 355) rfl (by decide) (by decide) ?_; intro v144 T144 L144 X144 hQ144
    obtain ⟨r_144, rfl, N144q, e144, P144_0⟩ := hQ144
    have N144 := Fr.app N143 N144q
    have ch_144 := P144_0
    refine R.iload X144 hx (hb hby at_355) rfl (pc' := 357) rfl ?_
    refine R.icmpYes X144 hx (hb hby at_357) (teq (own_chk ((ts_138.1 _ (by decide)).trans rfl) b_i3 ch_144 : r_144 = i3)).1 (by decide) (pc' := 362) (by decide) ?_
    refine R.aload X144 hx (hb hby at_362) rfl rfl (pc' := 364) rfl ?_
    refine R.iload X144 hx (hb hby at_364) rfl (pc' := 366) rfl ?_
    refine R.virtual X144 hx hZ (y := mY34) (z := mY34) hown w_200 w_201 (notFace_of_selects (args := #[]) (mvT hZ w_203)) w_203 w_202 w_13 w_204 (by decide) e144 E_o_138 (rm37 l Z aZ hw [] o_138 (3 : Int32) cs r_138 zr_138 ff_138 h138 n0 Z138 OL CS FM E_o_138 F_coder_o_138 F_value_o_138 Y_r_138 (by decide) (own_ltI (k := 3) (by decide) (by omega))) (by decide) (W := 0) (Nat.le_of_eq rfl) (by decide) (by rw [hml]; rfl) (lenOf pd_27 rfl) rfl (hb hby at_366) (pc' := 369) rfl (by decide) (by decide) ?_; intro v145 T145 L145 X145 hQ145
    obtain ⟨r_145, rfl, N145q, e145, P145_0⟩ := hQ145
    have N145 := Fr.app N144 N145q
    have ch_145 := P145_0
    refine R.bipush X145 hx (hb hby at_369) (v := (58 : Int32)) (by decide) (pc' := 371) rfl ?_
    refine R.icmpYes X145 hx (hb hby at_371) (teq (own_chv ts_138.2.1 (by decide) ch_145 : r_145 = (58 : Int32))).1 (by decide) (pc' := 376) (by decide) ?_
    refine R.iload X145 hx (hb hby at_376) rfl (pc' := 378) rfl ?_
    refine R.ifNo X145 hx (hb hby at_378) (feq (by decide : ¬ ((1 : Int32) = (0 : Int32)))).1 (pc' := 381) rfl ?_
    refine R.aload X145 hx (hb hby at_381) rfl rfl (pc' := 383) rfl ?_
    refine R.iload X145 hx (hb hby at_383) rfl (pc' := 385) rfl ?_
    refine R.iconst X145 hx (hb hby at_385) (v := (1 : Int32)) (by decide) (pc' := 386) rfl ?_
    refine R.iadd X145 hx (hb hby at_386) (v := (4 : Int32)) (by decide) (pc' := 387) rfl ?_
    refine R.virtual X145 hx hZ (y := mY34) (z := mY34) hown w_200 w_201 (notFace_of_selects (args := #[]) (mvT hZ w_203)) w_203 w_202 w_13 w_204 (by decide) e145 E_o_138 (rm37 l Z aZ hw [] o_138 (4 : Int32) cs r_138 zr_138 ff_138 h138 n0 Z138 OL CS FM E_o_138 F_coder_o_138 F_value_o_138 Y_r_138 (by decide) (own_ltI (k := 4) (by decide) (by omega))) (by decide) (W := 0) (Nat.le_of_eq rfl) (by decide) (by rw [hml]; rfl) (lenOf pd_27 rfl) rfl (hb hby at_387) (pc' := 390) rfl (by decide) (by decide) ?_; intro v146 T146 L146 X146 hQ146
    obtain ⟨r_146, rfl, N146q, e146, P146_0⟩ := hQ146
    have N146 := Fr.app N145 N146q
    have ch_146 := P146_0
    refine R.bipush X146 hx (hb hby at_390) (v := (45 : Int32)) (by decide) (pc' := 392) rfl ?_
    refine R.icmpYes X146 hx (hb hby at_392) (teq (own_chv (i := ((4 : Int32)).toNatClampNeg) (ts_138.2.2.1 hsg) (by decide) ch_146 : r_146 = (45 : Int32))).1 (by decide) (pc' := 397) (by decide) ?_
    refine R.iload X146 hx (hb hby at_397) rfl (pc' := 399) rfl ?_
    refine R.iconst X146 hx (hb hby at_399) (v := (1 : Int32)) (by decide) (pc' := 400) rfl ?_
    refine R.iadd X146 hx (hb hby at_400) (v := (4 : Int32)) (by decide) (pc' := 401) rfl ?_
    refine R.iload X146 hx (hb hby at_401) rfl (pc' := 403) rfl ?_
    refine R.iadd X146 hx (hb hby at_403) (v := (5 : Int32)) (by decide) (pc' := 404) rfl ?_
    refine R.istore X146 hx (hb hby at_404) (L' := #[.val (.int p0), .val (.int p1), .val (.int p2), .val (.int i1), .val (.int i2), .val (.int i3), .val (.int (3 : Int32)), .val (.ref b5), .val (.ref b6), .val (.ref b8), .val (.ref b11), .val (.ref b15), .val (.ref b134), .val (.ref o_138), .val (.int (1 : Int32)), .val (.long r_139), .second, .val (.int r_140), .val (.int (1 : Int32)), .val (.int (5 : Int32))]) rfl (pc' := 406) rfl ?_
    refine R.aload X146 hx (hb hby at_406) rfl rfl (pc' := 408) rfl ?_
    refine R.iload X146 hx (hb hby at_408) rfl (pc' := 410) rfl ?_
    refine R.iload X146 hx (hb hby at_410) rfl (pc' := 412) rfl ?_
    refine R.iconst X146 hx (hb hby at_412) (v := (0 : Int32)) (by decide) (pc' := 413) rfl ?_
    refine R.lload X146 hx (hb hby at_413) rfl (pc' := 415) rfl ?_
    refine R.aload X146 hx (hb hby at_415) rfl rfl (pc' := 417) rfl ?_
    refine R.callS X146 hx hZ (y := mY40) hown w_222 w_223 w_197 w_224 (by decide) e146 (rm42 l Z aZ hw [] o_138 (5 : Int32) r_140 (0 : Int32) r_139 b15 cs r_138 zr_138 ff_138 k15 h138 n0 Z138 OL CS FM E_o_138 F_coder_o_138 F_value_o_138 Y_r_138 V_b15 (own_hk ts_138 en2 eab ct_138 hsg (z := (3 : Int32)) (B := (5 : Int32)) (K := (0 : Int32)) (by decide) (by decide) (by decide)) (by decide) (by omega) (by omega)) (by decide) (W := 0) (Nat.le_of_eq rfl) (by decide) (by rw [hml]; rfl) (lenOf pd_32 rfl) rfl (hb hby at_417) (pc' := 420) rfl (by decide) (by decide) ?_; intro v147 T147 L147 X147 hQ147
    obtain ⟨rfl, N147q, e147⟩ := hQ147
    have N147 := Fr.app N146 N147q
    refine R.ifNo X147 hx (hb hby at_420) (feq (by decide : ¬ ((1 : Int32) = (0 : Int32)))).1 (pc' := 423) rfl ?_
    refine R.aload X147 hx (hb hby at_423) rfl rfl (pc' := 425) rfl ?_
    refine R.iload X147 hx (hb hby at_425) rfl (pc' := 427) rfl ?_
    refine R.iload X147 hx (hb hby at_427) rfl (pc' := 429) rfl ?_
    refine R.iconst X147 hx (hb hby at_429) (v := (1 : Int32)) (by decide) (pc' := 430) rfl ?_
    refine R.lload X147 hx (hb hby at_430) rfl (pc' := 432) rfl ?_
    refine R.aload X147 hx (hb hby at_432) rfl rfl (pc' := 434) rfl ?_
    refine R.callS X147 hx hZ (y := mY40) hown w_222 w_223 w_197 w_224 (by decide) e147 (rm42 l Z aZ hw [] o_138 (5 : Int32) r_140 (1 : Int32) r_139 b15 cs r_138 zr_138 ff_138 k15 h138 n0 Z138 OL CS FM E_o_138 F_coder_o_138 F_value_o_138 Y_r_138 V_b15 (own_hk ts_138 en2 eab ct_138 hsg (z := (3 : Int32)) (B := (5 : Int32)) (K := (1 : Int32)) (by decide) (by decide) (by decide)) (by decide) (by omega) (by omega)) (by decide) (W := 0) (Nat.le_of_eq rfl) (by decide) (by rw [hml]; rfl) (lenOf pd_32 rfl) rfl (hb hby at_434) (pc' := 437) rfl (by decide) (by decide) ?_; intro v148 T148 L148 X148 hQ148
    obtain ⟨rfl, N148q, e148⟩ := hQ148
    have N148 := Fr.app N147 N148q
    refine R.ifNo X148 hx (hb hby at_437) (feq (by decide : ¬ ((1 : Int32) = (0 : Int32)))).1 (pc' := 440) rfl ?_
    refine R.aload X148 hx (hb hby at_440) rfl rfl (pc' := 442) rfl ?_
    refine R.iload X148 hx (hb hby at_442) rfl (pc' := 444) rfl ?_
    refine R.iload X148 hx (hb hby at_444) rfl (pc' := 446) rfl ?_
    refine R.iconst X148 hx (hb hby at_446) (v := (2 : Int32)) (by decide) (pc' := 447) rfl ?_
    refine R.lload X148 hx (hb hby at_447) rfl (pc' := 449) rfl ?_
    refine R.aload X148 hx (hb hby at_449) rfl rfl (pc' := 451) rfl ?_
    refine R.callS X148 hx hZ (y := mY40) hown w_222 w_223 w_197 w_224 (by decide) e148 (rm42 l Z aZ hw [] o_138 (5 : Int32) r_140 (2 : Int32) r_139 b15 cs r_138 zr_138 ff_138 k15 h138 n0 Z138 OL CS FM E_o_138 F_coder_o_138 F_value_o_138 Y_r_138 V_b15 (own_hk ts_138 en2 eab ct_138 hsg (z := (3 : Int32)) (B := (5 : Int32)) (K := (2 : Int32)) (by decide) (by decide) (by decide)) (by decide) (by omega) (by omega)) (by decide) (W := 0) (Nat.le_of_eq rfl) (by decide) (by rw [hml]; rfl) (lenOf pd_32 rfl) rfl (hb hby at_451) (pc' := 454) rfl (by decide) (by decide) ?_; intro v149 T149 L149 X149 hQ149
    obtain ⟨rfl, N149q, e149⟩ := hQ149
    have N149 := Fr.app N148 N149q
    refine R.ifNo X149 hx (hb hby at_454) (feq (by decide : ¬ ((1 : Int32) = (0 : Int32)))).1 (pc' := 457) rfl ?_
    refine R.aload X149 hx (hb hby at_457) rfl rfl (pc' := 459) rfl ?_
    refine R.iload X149 hx (hb hby at_459) rfl (pc' := 461) rfl ?_
    refine R.iload X149 hx (hb hby at_461) rfl (pc' := 463) rfl ?_
    refine R.iconst X149 hx (hb hby at_463) (v := (3 : Int32)) (by decide) (pc' := 464) rfl ?_
    refine R.lload X149 hx (hb hby at_464) rfl (pc' := 466) rfl ?_
    refine R.aload X149 hx (hb hby at_466) rfl rfl (pc' := 468) rfl ?_
    refine R.callS X149 hx hZ (y := mY40) hown w_222 w_223 w_197 w_224 (by decide) e149 (rm42 l Z aZ hw [] o_138 (5 : Int32) r_140 (3 : Int32) r_139 b15 cs r_138 zr_138 ff_138 k15 h138 n0 Z138 OL CS FM E_o_138 F_coder_o_138 F_value_o_138 Y_r_138 V_b15 (own_hk ts_138 en2 eab ct_138 hsg (z := (3 : Int32)) (B := (5 : Int32)) (K := (3 : Int32)) (by decide) (by decide) (by decide)) (by decide) (by omega) (by omega)) (by decide) (W := 0) (Nat.le_of_eq rfl) (by decide) (by rw [hml]; rfl) (lenOf pd_32 rfl) rfl (hb hby at_468) (pc' := 471) rfl (by decide) (by decide) ?_; intro v150 T150 L150 X150 hQ150
    obtain ⟨rfl, N150q, e150⟩ := hQ150
    have N150 := Fr.app N149 N150q
    refine R.ifNo X150 hx (hb hby at_471) (feq (by decide : ¬ ((1 : Int32) = (0 : Int32)))).1 (pc' := 474) rfl ?_
    refine R.aload X150 hx (hb hby at_474) rfl rfl (pc' := 476) rfl ?_
    refine R.iload X150 hx (hb hby at_476) rfl (pc' := 478) rfl ?_
    refine R.iload X150 hx (hb hby at_478) rfl (pc' := 480) rfl ?_
    refine R.iconst X150 hx (hb hby at_480) (v := (4 : Int32)) (by decide) (pc' := 481) rfl ?_
    refine R.lload X150 hx (hb hby at_481) rfl (pc' := 483) rfl ?_
    refine R.aload X150 hx (hb hby at_483) rfl rfl (pc' := 485) rfl ?_
    refine R.callS X150 hx hZ (y := mY40) hown w_222 w_223 w_197 w_224 (by decide) e150 (rm42 l Z aZ hw [] o_138 (5 : Int32) r_140 (4 : Int32) r_139 b15 cs r_138 zr_138 ff_138 k15 h138 n0 Z138 OL CS FM E_o_138 F_coder_o_138 F_value_o_138 Y_r_138 V_b15 (own_hk ts_138 en2 eab ct_138 hsg (z := (3 : Int32)) (B := (5 : Int32)) (K := (4 : Int32)) (by decide) (by decide) (by decide)) (by decide) (by omega) (by omega)) (by decide) (W := 0) (Nat.le_of_eq rfl) (by decide) (by rw [hml]; rfl) (lenOf pd_32 rfl) rfl (hb hby at_485) (pc' := 488) rfl (by decide) (by decide) ?_; intro v151 T151 L151 X151 hQ151
    obtain ⟨rfl, N151q, e151⟩ := hQ151
    have N151 := Fr.app N150 N151q
    refine R.ifNo X151 hx (hb hby at_488) (feq (by decide : ¬ ((1 : Int32) = (0 : Int32)))).1 (pc' := 491) rfl ?_
    refine R.aload X151 hx (hb hby at_491) rfl rfl (pc' := 493) rfl ?_
    refine R.iload X151 hx (hb hby at_493) rfl (pc' := 495) rfl ?_
    refine R.iload X151 hx (hb hby at_495) rfl (pc' := 497) rfl ?_
    refine R.iconst X151 hx (hb hby at_497) (v := (5 : Int32)) (by decide) (pc' := 498) rfl ?_
    refine R.lload X151 hx (hb hby at_498) rfl (pc' := 500) rfl ?_
    refine R.aload X151 hx (hb hby at_500) rfl rfl (pc' := 502) rfl ?_
    refine R.callS X151 hx hZ (y := mY40) hown w_222 w_223 w_197 w_224 (by decide) e151 (rm42 l Z aZ hw [] o_138 (5 : Int32) r_140 (5 : Int32) r_139 b15 cs r_138 zr_138 ff_138 k15 h138 n0 Z138 OL CS FM E_o_138 F_coder_o_138 F_value_o_138 Y_r_138 V_b15 (own_hk ts_138 en2 eab ct_138 hsg (z := (3 : Int32)) (B := (5 : Int32)) (K := (5 : Int32)) (by decide) (by decide) (by decide)) (by decide) (by omega) (by omega)) (by decide) (W := 0) (Nat.le_of_eq rfl) (by decide) (by rw [hml]; rfl) (lenOf pd_32 rfl) rfl (hb hby at_502) (pc' := 505) rfl (by decide) (by decide) ?_; intro v152 T152 L152 X152 hQ152
    obtain ⟨rfl, N152q, e152⟩ := hQ152
    have N152 := Fr.app N151 N152q
    refine R.ifNo X152 hx (hb hby at_505) (feq (by decide : ¬ ((1 : Int32) = (0 : Int32)))).1 (pc' := 508) rfl ?_
    refine R.aload X152 hx (hb hby at_508) rfl rfl (pc' := 510) rfl ?_
    refine R.iload X152 hx (hb hby at_510) rfl (pc' := 512) rfl ?_
    refine R.iload X152 hx (hb hby at_512) rfl (pc' := 514) rfl ?_
    refine R.bipush X152 hx (hb hby at_514) (v := (6 : Int32)) (by decide) (pc' := 516) rfl ?_
    refine R.lload X152 hx (hb hby at_516) rfl (pc' := 518) rfl ?_
    refine R.aload X152 hx (hb hby at_518) rfl rfl (pc' := 520) rfl ?_
    refine R.callS X152 hx hZ (y := mY40) hown w_222 w_223 w_197 w_224 (by decide) e152 (rm42 l Z aZ hw [] o_138 (5 : Int32) r_140 (6 : Int32) r_139 b15 cs r_138 zr_138 ff_138 k15 h138 n0 Z138 OL CS FM E_o_138 F_coder_o_138 F_value_o_138 Y_r_138 V_b15 (own_hk ts_138 en2 eab ct_138 hsg (z := (3 : Int32)) (B := (5 : Int32)) (K := (6 : Int32)) (by decide) (by decide) (by decide)) (by decide) (by omega) (by omega)) (by decide) (W := 0) (Nat.le_of_eq rfl) (by decide) (by rw [hml]; rfl) (lenOf pd_32 rfl) rfl (hb hby at_520) (pc' := 523) rfl (by decide) (by decide) ?_; intro v153 T153 L153 X153 hQ153
    obtain ⟨rfl, N153q, e153⟩ := hQ153
    have N153 := Fr.app N152 N153q
    refine R.ifNo X153 hx (hb hby at_523) (feq (by decide : ¬ ((1 : Int32) = (0 : Int32)))).1 (pc' := 526) rfl ?_
    refine R.aload X153 hx (hb hby at_526) rfl rfl (pc' := 528) rfl ?_
    refine R.iload X153 hx (hb hby at_528) rfl (pc' := 530) rfl ?_
    refine R.iload X153 hx (hb hby at_530) rfl (pc' := 532) rfl ?_
    refine R.bipush X153 hx (hb hby at_532) (v := (7 : Int32)) (by decide) (pc' := 534) rfl ?_
    refine R.lload X153 hx (hb hby at_534) rfl (pc' := 536) rfl ?_
    refine R.aload X153 hx (hb hby at_536) rfl rfl (pc' := 538) rfl ?_
    refine R.callS X153 hx hZ (y := mY40) hown w_222 w_223 w_197 w_224 (by decide) e153 (rm42 l Z aZ hw [] o_138 (5 : Int32) r_140 (7 : Int32) r_139 b15 cs r_138 zr_138 ff_138 k15 h138 n0 Z138 OL CS FM E_o_138 F_coder_o_138 F_value_o_138 Y_r_138 V_b15 (own_hk ts_138 en2 eab ct_138 hsg (z := (3 : Int32)) (B := (5 : Int32)) (K := (7 : Int32)) (by decide) (by decide) (by decide)) (by decide) (by omega) (by omega)) (by decide) (W := 0) (Nat.le_of_eq rfl) (by decide) (by rw [hml]; rfl) (lenOf pd_32 rfl) rfl (hb hby at_538) (pc' := 541) rfl (by decide) (by decide) ?_; intro v154 T154 L154 X154 hQ154
    obtain ⟨rfl, N154q, e154⟩ := hQ154
    have N154 := Fr.app N153 N154q
    refine R.ifNo X154 hx (hb hby at_541) (feq (by decide : ¬ ((1 : Int32) = (0 : Int32)))).1 (pc' := 544) rfl ?_
    refine R.aload X154 hx (hb hby at_544) rfl rfl (pc' := 546) rfl ?_
    refine R.iload X154 hx (hb hby at_546) rfl (pc' := 548) rfl ?_
    refine R.iload X154 hx (hb hby at_548) rfl (pc' := 550) rfl ?_
    refine R.bipush X154 hx (hb hby at_550) (v := (8 : Int32)) (by decide) (pc' := 552) rfl ?_
    refine R.lload X154 hx (hb hby at_552) rfl (pc' := 554) rfl ?_
    refine R.aload X154 hx (hb hby at_554) rfl rfl (pc' := 556) rfl ?_
    refine R.callS X154 hx hZ (y := mY40) hown w_222 w_223 w_197 w_224 (by decide) e154 (rm42 l Z aZ hw [] o_138 (5 : Int32) r_140 (8 : Int32) r_139 b15 cs r_138 zr_138 ff_138 k15 h138 n0 Z138 OL CS FM E_o_138 F_coder_o_138 F_value_o_138 Y_r_138 V_b15 (own_hk ts_138 en2 eab ct_138 hsg (z := (3 : Int32)) (B := (5 : Int32)) (K := (8 : Int32)) (by decide) (by decide) (by decide)) (by decide) (by omega) (by omega)) (by decide) (W := 0) (Nat.le_of_eq rfl) (by decide) (by rw [hml]; rfl) (lenOf pd_32 rfl) rfl (hb hby at_556) (pc' := 559) rfl (by decide) (by decide) ?_; intro v155 T155 L155 X155 hQ155
    obtain ⟨rfl, N155q, e155⟩ := hQ155
    have N155 := Fr.app N154 N155q
    refine R.ifNo X155 hx (hb hby at_559) (feq (by decide : ¬ ((1 : Int32) = (0 : Int32)))).1 (pc' := 562) rfl ?_
    refine R.aload X155 hx (hb hby at_562) rfl rfl (pc' := 564) rfl ?_
    refine R.iload X155 hx (hb hby at_564) rfl (pc' := 566) rfl ?_
    refine R.iload X155 hx (hb hby at_566) rfl (pc' := 568) rfl ?_
    refine R.bipush X155 hx (hb hby at_568) (v := (9 : Int32)) (by decide) (pc' := 570) rfl ?_
    refine R.lload X155 hx (hb hby at_570) rfl (pc' := 572) rfl ?_
    refine R.aload X155 hx (hb hby at_572) rfl rfl (pc' := 574) rfl ?_
    refine R.callS X155 hx hZ (y := mY40) hown w_222 w_223 w_197 w_224 (by decide) e155 (rm42 l Z aZ hw [] o_138 (5 : Int32) r_140 (9 : Int32) r_139 b15 cs r_138 zr_138 ff_138 k15 h138 n0 Z138 OL CS FM E_o_138 F_coder_o_138 F_value_o_138 Y_r_138 V_b15 (own_hk ts_138 en2 eab ct_138 hsg (z := (3 : Int32)) (B := (5 : Int32)) (K := (9 : Int32)) (by decide) (by decide) (by decide)) (by decide) (by omega) (by omega)) (by decide) (W := 0) (Nat.le_of_eq rfl) (by decide) (by rw [hml]; rfl) (lenOf pd_32 rfl) rfl (hb hby at_574) (pc' := 577) rfl (by decide) (by decide) ?_; intro v156 T156 L156 X156 hQ156
    obtain ⟨rfl, N156q, e156⟩ := hQ156
    have N156 := Fr.app N155 N156q
    refine R.ifNo X156 hx (hb hby at_577) (feq (by decide : ¬ ((1 : Int32) = (0 : Int32)))).1 (pc' := 580) rfl ?_
    refine R.iconst X156 hx (hb hby at_580) (v := (1 : Int32)) (by decide) (pc' := 581) rfl ?_
    refine R.goto X156 hx (hb hby at_581) (by decide) (pc' := 585) (by decide) ?_
    rw [← hG]
    exact Rn.retW X156 hS hk (BodyLoose.notSynchronized Bd) (v := some (.int (1 : Int32))) (fun h => by rw [Bd.returns] at h; cases h) (Q := Q0 Z p0 p1 p2 cs dO dT h0 n0) e156 (fun fs hr => retN X156 hx (t := .boolean) Bd.returns (by simp) (hb hby at_585) hr) ⟨rfl, N156⟩ (by decide) (by decide)
  · refine R.ifYes X138 hx (hb hby at_251) (flt hc251).2.1 (by decide) (pc' := 258) (by decide) ?_
    refine R.iconst X138 hx (hb hby at_258) (v := (0 : Int32)) (by decide) (pc' := 259) rfl ?_
    refine R.istore X138 hx (hb hby at_259) (L' := #[.val (.int p0), .val (.int p1), .val (.int p2), .val (.int i1), .val (.int i2), .val (.int i3), .val (.int (3 : Int32)), .val (.ref b5), .val (.ref b6), .val (.ref b8), .val (.ref b11), .val (.ref b15), .val (.ref b134), .val (.ref o_138), .val (.int (0 : Int32)), .unset, .unset, .unset, .unset, .unset]) rfl (pc' := 261) rfl ?_
    have hneg : 0 ≤ p2.toInt := own_ge0 hc251
    have hsg : own_sg p2.toInt = 0 := by unfold own_sg; rw [if_neg (by omega)]
    have bp := own_b p2
    have hn1 := hx_138.1
    have hn10 := hx_138.2.1
    have ct := ct_138
    rw [hsg] at ct
    have tz : ((3 : Int32)).toInt = 3 := by decide
    refine R.iloadN X138 hx (hb hby at_261) rfl (pc' := 262) rfl ?_
    refine R.i2l X138 hx (hb hby at_262) (pc' := 263) rfl ?_
    refine R.callS X138 hx hZ (y := mY38) hown w_192 w_193 w_189 w_194 (by decide) e138 (rm35 l Z aZ hw [] (p2.toInt64) h138 n0 Z138 (by rw [Int32.toInt_toInt64]; omega)) (by decide) (W := 0) (Nat.le_of_eq rfl) (by decide) (by rw [hml]; rfl) (lenOf pd_30 rfl) rfl (hb hby at_263) (pc' := 266) rfl (by decide) (by decide) ?_; intro v157 T157 L157 X157 hQ157
    obtain ⟨r_157, rfl, N157q, e157, P157_0⟩ := hQ157
    have N157 := Fr.app N138 N157q
    have ab_157 := P157_0
    have ab : r_157.toInt = (p2.toInt.natAbs : Int) := by have q := ab_157; rw [Int32.toInt_toInt64] at q; exact q
    refine R.lstore X157 hx (hb hby at_266) (L' := #[.val (.int p0), .val (.int p1), .val (.int p2), .val (.int i1), .val (.int i2), .val (.int i3), .val (.int (3 : Int32)), .val (.ref b5), .val (.ref b6), .val (.ref b8), .val (.ref b11), .val (.ref b15), .val (.ref b134), .val (.ref o_138), .val (.int (0 : Int32)), .val (.long r_157), .second, .unset, .unset, .unset]) rfl (pc' := 268) rfl ?_
    refine R.lload X157 hx (hb hby at_268) rfl (pc' := 270) rfl ?_
    refine R.callS X157 hx hZ (y := mY39) hown w_195 w_196 w_197 w_198 (by decide) e157 (rm36 l Z aZ hw [] r_157 h138 n0 Z138 (by omega)) (by decide) (W := 0) (Nat.le_of_eq rfl) (by decide) (by rw [hml]; rfl) (lenOf pd_31 rfl) rfl (hb hby at_270) (pc' := 273) rfl (by decide) (by decide) ?_; intro v158 T158 L158 X158 hQ158
    obtain ⟨r_158, rfl, N158q, e158, P158_0⟩ := hQ158
    have N158 := Fr.app N157 N158q
    have dg_158 := P158_0
    obtain ⟨n2, hn2, en2⟩ := dg_158
    have eab : r_157.toInt.toNat = p2.toInt.natAbs := by omega
    rw [eab] at hn2
    have enn : n2 = nd_138 := own_ndU hn2 hx_138
    rw [enn] at en2
    refine R.istore X158 hx (hb hby at_273) (L' := #[.val (.int p0), .val (.int p1), .val (.int p2), .val (.int i1), .val (.int i2), .val (.int i3), .val (.int (3 : Int32)), .val (.ref b5), .val (.ref b6), .val (.ref b8), .val (.ref b11), .val (.ref b15), .val (.ref b134), .val (.ref o_138), .val (.int (0 : Int32)), .val (.long r_157), .second, .val (.int r_158), .unset, .unset]) rfl (pc' := 275) rfl ?_
    refine R.iload X158 hx (hb hby at_275) rfl (pc' := 277) rfl ?_
    refine R.ifYes X158 hx (hb hby at_277) (teq (by decide : (0 : Int32) = (0 : Int32))).1 (by decide) (pc' := 284) (by decide) ?_
    refine R.iconst X158 hx (hb hby at_284) (v := (0 : Int32)) (by decide) (pc' := 285) rfl ?_
    refine R.istore X158 hx (hb hby at_285) (L' := #[.val (.int p0), .val (.int p1), .val (.int p2), .val (.int i1), .val (.int i2), .val (.int i3), .val (.int (3 : Int32)), .val (.ref b5), .val (.ref b6), .val (.ref b8), .val (.ref b11), .val (.ref b15), .val (.ref b134), .val (.ref o_138), .val (.int (0 : Int32)), .val (.long r_157), .second, .val (.int r_158), .val (.int (0 : Int32)), .unset]) rfl (pc' := 287) rfl ?_
    refine R.aload X158 hx (hb hby at_287) rfl rfl (pc' := 289) rfl ?_
    refine R.virtual X158 hx hZ (y := mY9) (z := mY9) hown w_199 w_90 (notFace_of_selects (args := #[]) (mvT hZ w_92)) w_92 w_91 w_13 w_93 (by decide) e158 E_o_138 (rm14 l Z aZ hw [] o_138 cs r_138 zr_138 ff_138 h138 n0 Z138 OL CS E_o_138 F_coder_o_138 F_value_o_138 Y_r_138) (by decide) (W := 0) (Nat.le_of_eq rfl) (by decide) (by rw [hml]; rfl) (lenOf pd_0 rfl) rfl (hb hby at_289) (pc' := 292) rfl (by decide) (by decide) ?_; intro v159 T159 L159 X159 hQ159
    obtain ⟨rfl, N159q, e159⟩ := hQ159
    have N159 := Fr.app N158 N159q
    refine R.iload X159 hx (hb hby at_292) rfl (pc' := 294) rfl ?_
    refine R.iconst X159 hx (hb hby at_294) (v := (1 : Int32)) (by decide) (pc' := 295) rfl ?_
    refine R.iadd X159 hx (hb hby at_295) (v := (4 : Int32)) (by decide) (pc' := 296) rfl ?_
    refine R.iload X159 hx (hb hby at_296) rfl (pc' := 298) rfl ?_
    refine R.iadd X159 hx (hb hby at_298) (v := (4 : Int32)) (by decide) (pc' := 299) rfl ?_
    refine R.iload X159 hx (hb hby at_299) rfl (pc' := 301) rfl ?_
    refine R.iadd X159 hx (hb hby at_301) rfl (pc' := 302) rfl ?_
    refine R.icmpYes X159 hx (hb hby at_302) (teq (own_len (k := 4) (by decide) en2 hn10 (by omega) : zr_138 = ((4 : Int32) + r_158))).1 (by decide) (pc' := 307) (by decide) ?_
    refine R.iload X159 hx (hb hby at_307) rfl (pc' := 309) rfl ?_
    refine R.ifNo X159 hx (hb hby at_309) (tlt (by decide : (0 : Int32) < (3 : Int32))).2.2.2 (pc' := 312) rfl ?_
    refine R.aload X159 hx (hb hby at_312) rfl rfl (pc' := 314) rfl ?_
    refine R.iconst X159 hx (hb hby at_314) (v := (0 : Int32)) (by decide) (pc' := 315) rfl ?_
    refine R.virtual X159 hx hZ (y := mY34) (z := mY34) hown w_200 w_201 (notFace_of_selects (args := #[]) (mvT hZ w_203)) w_203 w_202 w_13 w_204 (by decide) e159 E_o_138 (rm37 l Z aZ hw [] o_138 (0 : Int32) cs r_138 zr_138 ff_138 h138 n0 Z138 OL CS FM E_o_138 F_coder_o_138 F_value_o_138 Y_r_138 (by decide) (own_ltI (k := 0) (by decide) (by omega))) (by decide) (W := 0) (Nat.le_of_eq rfl) (by decide) (by rw [hml]; rfl) (lenOf pd_27 rfl) rfl (hb hby at_315) (pc' := 318) rfl (by decide) (by decide) ?_; intro v160 T160 L160 X160 hQ160
    obtain ⟨r_160, rfl, N160q, e160, P160_0⟩ := hQ160
    have N160 := Fr.app N159 N160q
    have ch_160 := P160_0
    refine R.iloadN X160 hx (hb hby at_318) rfl (pc' := 319) rfl ?_
    refine R.icmpYes X160 hx (hb hby at_319) (teq (own_chk ((ts_138.1 _ (by decide)).trans rfl) b_i1 ch_160 : r_160 = i1)).1 (by decide) (pc' := 324) (by decide) ?_
    refine R.iload X160 hx (hb hby at_324) rfl (pc' := 326) rfl ?_
    refine R.iconst X160 hx (hb hby at_326) (v := (1 : Int32)) (by decide) (pc' := 327) rfl ?_
    refine R.icmpNo X160 hx (hb hby at_327) (tlt (by decide : (1 : Int32) < (3 : Int32))).2.2.2 (pc' := 330) rfl ?_
    refine R.aload X160 hx (hb hby at_330) rfl rfl (pc' := 332) rfl ?_
    refine R.iconst X160 hx (hb hby at_332) (v := (1 : Int32)) (by decide) (pc' := 333) rfl ?_
    refine R.virtual X160 hx hZ (y := mY34) (z := mY34) hown w_200 w_201 (notFace_of_selects (args := #[]) (mvT hZ w_203)) w_203 w_202 w_13 w_204 (by decide) e160 E_o_138 (rm37 l Z aZ hw [] o_138 (1 : Int32) cs r_138 zr_138 ff_138 h138 n0 Z138 OL CS FM E_o_138 F_coder_o_138 F_value_o_138 Y_r_138 (by decide) (own_ltI (k := 1) (by decide) (by omega))) (by decide) (W := 0) (Nat.le_of_eq rfl) (by decide) (by rw [hml]; rfl) (lenOf pd_27 rfl) rfl (hb hby at_333) (pc' := 336) rfl (by decide) (by decide) ?_; intro v161 T161 L161 X161 hQ161
    obtain ⟨r_161, rfl, N161q, e161, P161_0⟩ := hQ161
    have N161 := Fr.app N160 N161q
    have ch_161 := P161_0
    refine R.iload X161 hx (hb hby at_336) rfl (pc' := 338) rfl ?_
    refine R.icmpYes X161 hx (hb hby at_338) (teq (own_chk ((ts_138.1 _ (by decide)).trans rfl) b_i2 ch_161 : r_161 = i2)).1 (by decide) (pc' := 343) (by decide) ?_
    refine R.iload X161 hx (hb hby at_343) rfl (pc' := 345) rfl ?_
    refine R.iconst X161 hx (hb hby at_345) (v := (2 : Int32)) (by decide) (pc' := 346) rfl ?_
    refine R.icmpNo X161 hx (hb hby at_346) (tlt (by decide : (2 : Int32) < (3 : Int32))).2.2.2 (pc' := 349) rfl ?_
    refine R.aload X161 hx (hb hby at_349) rfl rfl (pc' := 351) rfl ?_
    refine R.iconst X161 hx (hb hby at_351) (v := (2 : Int32)) (by decide) (pc' := 352) rfl ?_
    refine R.virtual X161 hx hZ (y := mY34) (z := mY34) hown w_200 w_201 (notFace_of_selects (args := #[]) (mvT hZ w_203)) w_203 w_202 w_13 w_204 (by decide) e161 E_o_138 (rm37 l Z aZ hw [] o_138 (2 : Int32) cs r_138 zr_138 ff_138 h138 n0 Z138 OL CS FM E_o_138 F_coder_o_138 F_value_o_138 Y_r_138 (by decide) (own_ltI (k := 2) (by decide) (by omega))) (by decide) (W := 0) (Nat.le_of_eq rfl) (by decide) (by rw [hml]; rfl) (lenOf pd_27 rfl) rfl (hb hby at_352) (pc' := 355) rfl (by decide) (by decide) ?_; intro v162 T162 L162 X162 hQ162
    obtain ⟨r_162, rfl, N162q, e162, P162_0⟩ := hQ162
    have N162 := Fr.app N161 N162q
    have ch_162 := P162_0
    refine R.iload X162 hx (hb hby at_355) rfl (pc' := 357) rfl ?_
    refine R.icmpYes X162 hx (hb hby at_357) (teq (own_chk ((ts_138.1 _ (by decide)).trans rfl) b_i3 ch_162 : r_162 = i3)).1 (by decide) (pc' := 362) (by decide) ?_
    refine R.aload X162 hx (hb hby at_362) rfl rfl (pc' := 364) rfl ?_
    refine R.iload X162 hx (hb hby at_364) rfl (pc' := 366) rfl ?_
    refine R.virtual X162 hx hZ (y := mY34) (z := mY34) hown w_200 w_201 (notFace_of_selects (args := #[]) (mvT hZ w_203)) w_203 w_202 w_13 w_204 (by decide) e162 E_o_138 (rm37 l Z aZ hw [] o_138 (3 : Int32) cs r_138 zr_138 ff_138 h138 n0 Z138 OL CS FM E_o_138 F_coder_o_138 F_value_o_138 Y_r_138 (by decide) (own_ltI (k := 3) (by decide) (by omega))) (by decide) (W := 0) (Nat.le_of_eq rfl) (by decide) (by rw [hml]; rfl) (lenOf pd_27 rfl) rfl (hb hby at_366) (pc' := 369) rfl (by decide) (by decide) ?_; intro v163 T163 L163 X163 hQ163
    obtain ⟨r_163, rfl, N163q, e163, P163_0⟩ := hQ163
    have N163 := Fr.app N162 N163q
    have ch_163 := P163_0
    refine R.bipush X163 hx (hb hby at_369) (v := (58 : Int32)) (by decide) (pc' := 371) rfl ?_
    refine R.icmpYes X163 hx (hb hby at_371) (teq (own_chv ts_138.2.1 (by decide) ch_163 : r_163 = (58 : Int32))).1 (by decide) (pc' := 376) (by decide) ?_
    refine R.iload X163 hx (hb hby at_376) rfl (pc' := 378) rfl ?_
    refine R.ifYes X163 hx (hb hby at_378) (teq (by decide : (0 : Int32) = (0 : Int32))).1 (by decide) (pc' := 397) (by decide) ?_
    refine R.iload X163 hx (hb hby at_397) rfl (pc' := 399) rfl ?_
    refine R.iconst X163 hx (hb hby at_399) (v := (1 : Int32)) (by decide) (pc' := 400) rfl ?_
    refine R.iadd X163 hx (hb hby at_400) (v := (4 : Int32)) (by decide) (pc' := 401) rfl ?_
    refine R.iload X163 hx (hb hby at_401) rfl (pc' := 403) rfl ?_
    refine R.iadd X163 hx (hb hby at_403) (v := (4 : Int32)) (by decide) (pc' := 404) rfl ?_
    refine R.istore X163 hx (hb hby at_404) (L' := #[.val (.int p0), .val (.int p1), .val (.int p2), .val (.int i1), .val (.int i2), .val (.int i3), .val (.int (3 : Int32)), .val (.ref b5), .val (.ref b6), .val (.ref b8), .val (.ref b11), .val (.ref b15), .val (.ref b134), .val (.ref o_138), .val (.int (0 : Int32)), .val (.long r_157), .second, .val (.int r_158), .val (.int (0 : Int32)), .val (.int (4 : Int32))]) rfl (pc' := 406) rfl ?_
    refine R.aload X163 hx (hb hby at_406) rfl rfl (pc' := 408) rfl ?_
    refine R.iload X163 hx (hb hby at_408) rfl (pc' := 410) rfl ?_
    refine R.iload X163 hx (hb hby at_410) rfl (pc' := 412) rfl ?_
    refine R.iconst X163 hx (hb hby at_412) (v := (0 : Int32)) (by decide) (pc' := 413) rfl ?_
    refine R.lload X163 hx (hb hby at_413) rfl (pc' := 415) rfl ?_
    refine R.aload X163 hx (hb hby at_415) rfl rfl (pc' := 417) rfl ?_
    refine R.callS X163 hx hZ (y := mY40) hown w_222 w_223 w_197 w_224 (by decide) e163 (rm42 l Z aZ hw [] o_138 (4 : Int32) r_158 (0 : Int32) r_157 b15 cs r_138 zr_138 ff_138 k15 h138 n0 Z138 OL CS FM E_o_138 F_coder_o_138 F_value_o_138 Y_r_138 V_b15 (own_hk ts_138 en2 eab ct_138 hsg (z := (3 : Int32)) (B := (4 : Int32)) (K := (0 : Int32)) (by decide) (by decide) (by decide)) (by decide) (by omega) (by omega)) (by decide) (W := 0) (Nat.le_of_eq rfl) (by decide) (by rw [hml]; rfl) (lenOf pd_32 rfl) rfl (hb hby at_417) (pc' := 420) rfl (by decide) (by decide) ?_; intro v164 T164 L164 X164 hQ164
    obtain ⟨rfl, N164q, e164⟩ := hQ164
    have N164 := Fr.app N163 N164q
    refine R.ifNo X164 hx (hb hby at_420) (feq (by decide : ¬ ((1 : Int32) = (0 : Int32)))).1 (pc' := 423) rfl ?_
    refine R.aload X164 hx (hb hby at_423) rfl rfl (pc' := 425) rfl ?_
    refine R.iload X164 hx (hb hby at_425) rfl (pc' := 427) rfl ?_
    refine R.iload X164 hx (hb hby at_427) rfl (pc' := 429) rfl ?_
    refine R.iconst X164 hx (hb hby at_429) (v := (1 : Int32)) (by decide) (pc' := 430) rfl ?_
    refine R.lload X164 hx (hb hby at_430) rfl (pc' := 432) rfl ?_
    refine R.aload X164 hx (hb hby at_432) rfl rfl (pc' := 434) rfl ?_
    refine R.callS X164 hx hZ (y := mY40) hown w_222 w_223 w_197 w_224 (by decide) e164 (rm42 l Z aZ hw [] o_138 (4 : Int32) r_158 (1 : Int32) r_157 b15 cs r_138 zr_138 ff_138 k15 h138 n0 Z138 OL CS FM E_o_138 F_coder_o_138 F_value_o_138 Y_r_138 V_b15 (own_hk ts_138 en2 eab ct_138 hsg (z := (3 : Int32)) (B := (4 : Int32)) (K := (1 : Int32)) (by decide) (by decide) (by decide)) (by decide) (by omega) (by omega)) (by decide) (W := 0) (Nat.le_of_eq rfl) (by decide) (by rw [hml]; rfl) (lenOf pd_32 rfl) rfl (hb hby at_434) (pc' := 437) rfl (by decide) (by decide) ?_; intro v165 T165 L165 X165 hQ165
    obtain ⟨rfl, N165q, e165⟩ := hQ165
    have N165 := Fr.app N164 N165q
    refine R.ifNo X165 hx (hb hby at_437) (feq (by decide : ¬ ((1 : Int32) = (0 : Int32)))).1 (pc' := 440) rfl ?_
    refine R.aload X165 hx (hb hby at_440) rfl rfl (pc' := 442) rfl ?_
    refine R.iload X165 hx (hb hby at_442) rfl (pc' := 444) rfl ?_
    refine R.iload X165 hx (hb hby at_444) rfl (pc' := 446) rfl ?_
    refine R.iconst X165 hx (hb hby at_446) (v := (2 : Int32)) (by decide) (pc' := 447) rfl ?_
    refine R.lload X165 hx (hb hby at_447) rfl (pc' := 449) rfl ?_
    refine R.aload X165 hx (hb hby at_449) rfl rfl (pc' := 451) rfl ?_
    refine R.callS X165 hx hZ (y := mY40) hown w_222 w_223 w_197 w_224 (by decide) e165 (rm42 l Z aZ hw [] o_138 (4 : Int32) r_158 (2 : Int32) r_157 b15 cs r_138 zr_138 ff_138 k15 h138 n0 Z138 OL CS FM E_o_138 F_coder_o_138 F_value_o_138 Y_r_138 V_b15 (own_hk ts_138 en2 eab ct_138 hsg (z := (3 : Int32)) (B := (4 : Int32)) (K := (2 : Int32)) (by decide) (by decide) (by decide)) (by decide) (by omega) (by omega)) (by decide) (W := 0) (Nat.le_of_eq rfl) (by decide) (by rw [hml]; rfl) (lenOf pd_32 rfl) rfl (hb hby at_451) (pc' := 454) rfl (by decide) (by decide) ?_; intro v166 T166 L166 X166 hQ166
    obtain ⟨rfl, N166q, e166⟩ := hQ166
    have N166 := Fr.app N165 N166q
    refine R.ifNo X166 hx (hb hby at_454) (feq (by decide : ¬ ((1 : Int32) = (0 : Int32)))).1 (pc' := 457) rfl ?_
    refine R.aload X166 hx (hb hby at_457) rfl rfl (pc' := 459) rfl ?_
    refine R.iload X166 hx (hb hby at_459) rfl (pc' := 461) rfl ?_
    refine R.iload X166 hx (hb hby at_461) rfl (pc' := 463) rfl ?_
    refine R.iconst X166 hx (hb hby at_463) (v := (3 : Int32)) (by decide) (pc' := 464) rfl ?_
    refine R.lload X166 hx (hb hby at_464) rfl (pc' := 466) rfl ?_
    refine R.aload X166 hx (hb hby at_466) rfl rfl (pc' := 468) rfl ?_
    refine R.callS X166 hx hZ (y := mY40) hown w_222 w_223 w_197 w_224 (by decide) e166 (rm42 l Z aZ hw [] o_138 (4 : Int32) r_158 (3 : Int32) r_157 b15 cs r_138 zr_138 ff_138 k15 h138 n0 Z138 OL CS FM E_o_138 F_coder_o_138 F_value_o_138 Y_r_138 V_b15 (own_hk ts_138 en2 eab ct_138 hsg (z := (3 : Int32)) (B := (4 : Int32)) (K := (3 : Int32)) (by decide) (by decide) (by decide)) (by decide) (by omega) (by omega)) (by decide) (W := 0) (Nat.le_of_eq rfl) (by decide) (by rw [hml]; rfl) (lenOf pd_32 rfl) rfl (hb hby at_468) (pc' := 471) rfl (by decide) (by decide) ?_; intro v167 T167 L167 X167 hQ167
    obtain ⟨rfl, N167q, e167⟩ := hQ167
    have N167 := Fr.app N166 N167q
    refine R.ifNo X167 hx (hb hby at_471) (feq (by decide : ¬ ((1 : Int32) = (0 : Int32)))).1 (pc' := 474) rfl ?_
    refine R.aload X167 hx (hb hby at_474) rfl rfl (pc' := 476) rfl ?_
    refine R.iload X167 hx (hb hby at_476) rfl (pc' := 478) rfl ?_
    refine R.iload X167 hx (hb hby at_478) rfl (pc' := 480) rfl ?_
    refine R.iconst X167 hx (hb hby at_480) (v := (4 : Int32)) (by decide) (pc' := 481) rfl ?_
    refine R.lload X167 hx (hb hby at_481) rfl (pc' := 483) rfl ?_
    refine R.aload X167 hx (hb hby at_483) rfl rfl (pc' := 485) rfl ?_
    refine R.callS X167 hx hZ (y := mY40) hown w_222 w_223 w_197 w_224 (by decide) e167 (rm42 l Z aZ hw [] o_138 (4 : Int32) r_158 (4 : Int32) r_157 b15 cs r_138 zr_138 ff_138 k15 h138 n0 Z138 OL CS FM E_o_138 F_coder_o_138 F_value_o_138 Y_r_138 V_b15 (own_hk ts_138 en2 eab ct_138 hsg (z := (3 : Int32)) (B := (4 : Int32)) (K := (4 : Int32)) (by decide) (by decide) (by decide)) (by decide) (by omega) (by omega)) (by decide) (W := 0) (Nat.le_of_eq rfl) (by decide) (by rw [hml]; rfl) (lenOf pd_32 rfl) rfl (hb hby at_485) (pc' := 488) rfl (by decide) (by decide) ?_; intro v168 T168 L168 X168 hQ168
    obtain ⟨rfl, N168q, e168⟩ := hQ168
    have N168 := Fr.app N167 N168q
    refine R.ifNo X168 hx (hb hby at_488) (feq (by decide : ¬ ((1 : Int32) = (0 : Int32)))).1 (pc' := 491) rfl ?_
    refine R.aload X168 hx (hb hby at_491) rfl rfl (pc' := 493) rfl ?_
    refine R.iload X168 hx (hb hby at_493) rfl (pc' := 495) rfl ?_
    refine R.iload X168 hx (hb hby at_495) rfl (pc' := 497) rfl ?_
    refine R.iconst X168 hx (hb hby at_497) (v := (5 : Int32)) (by decide) (pc' := 498) rfl ?_
    refine R.lload X168 hx (hb hby at_498) rfl (pc' := 500) rfl ?_
    refine R.aload X168 hx (hb hby at_500) rfl rfl (pc' := 502) rfl ?_
    refine R.callS X168 hx hZ (y := mY40) hown w_222 w_223 w_197 w_224 (by decide) e168 (rm42 l Z aZ hw [] o_138 (4 : Int32) r_158 (5 : Int32) r_157 b15 cs r_138 zr_138 ff_138 k15 h138 n0 Z138 OL CS FM E_o_138 F_coder_o_138 F_value_o_138 Y_r_138 V_b15 (own_hk ts_138 en2 eab ct_138 hsg (z := (3 : Int32)) (B := (4 : Int32)) (K := (5 : Int32)) (by decide) (by decide) (by decide)) (by decide) (by omega) (by omega)) (by decide) (W := 0) (Nat.le_of_eq rfl) (by decide) (by rw [hml]; rfl) (lenOf pd_32 rfl) rfl (hb hby at_502) (pc' := 505) rfl (by decide) (by decide) ?_; intro v169 T169 L169 X169 hQ169
    obtain ⟨rfl, N169q, e169⟩ := hQ169
    have N169 := Fr.app N168 N169q
    refine R.ifNo X169 hx (hb hby at_505) (feq (by decide : ¬ ((1 : Int32) = (0 : Int32)))).1 (pc' := 508) rfl ?_
    refine R.aload X169 hx (hb hby at_508) rfl rfl (pc' := 510) rfl ?_
    refine R.iload X169 hx (hb hby at_510) rfl (pc' := 512) rfl ?_
    refine R.iload X169 hx (hb hby at_512) rfl (pc' := 514) rfl ?_
    refine R.bipush X169 hx (hb hby at_514) (v := (6 : Int32)) (by decide) (pc' := 516) rfl ?_
    refine R.lload X169 hx (hb hby at_516) rfl (pc' := 518) rfl ?_
    refine R.aload X169 hx (hb hby at_518) rfl rfl (pc' := 520) rfl ?_
    refine R.callS X169 hx hZ (y := mY40) hown w_222 w_223 w_197 w_224 (by decide) e169 (rm42 l Z aZ hw [] o_138 (4 : Int32) r_158 (6 : Int32) r_157 b15 cs r_138 zr_138 ff_138 k15 h138 n0 Z138 OL CS FM E_o_138 F_coder_o_138 F_value_o_138 Y_r_138 V_b15 (own_hk ts_138 en2 eab ct_138 hsg (z := (3 : Int32)) (B := (4 : Int32)) (K := (6 : Int32)) (by decide) (by decide) (by decide)) (by decide) (by omega) (by omega)) (by decide) (W := 0) (Nat.le_of_eq rfl) (by decide) (by rw [hml]; rfl) (lenOf pd_32 rfl) rfl (hb hby at_520) (pc' := 523) rfl (by decide) (by decide) ?_; intro v170 T170 L170 X170 hQ170
    obtain ⟨rfl, N170q, e170⟩ := hQ170
    have N170 := Fr.app N169 N170q
    refine R.ifNo X170 hx (hb hby at_523) (feq (by decide : ¬ ((1 : Int32) = (0 : Int32)))).1 (pc' := 526) rfl ?_
    refine R.aload X170 hx (hb hby at_526) rfl rfl (pc' := 528) rfl ?_
    refine R.iload X170 hx (hb hby at_528) rfl (pc' := 530) rfl ?_
    refine R.iload X170 hx (hb hby at_530) rfl (pc' := 532) rfl ?_
    refine R.bipush X170 hx (hb hby at_532) (v := (7 : Int32)) (by decide) (pc' := 534) rfl ?_
    refine R.lload X170 hx (hb hby at_534) rfl (pc' := 536) rfl ?_
    refine R.aload X170 hx (hb hby at_536) rfl rfl (pc' := 538) rfl ?_
    refine R.callS X170 hx hZ (y := mY40) hown w_222 w_223 w_197 w_224 (by decide) e170 (rm42 l Z aZ hw [] o_138 (4 : Int32) r_158 (7 : Int32) r_157 b15 cs r_138 zr_138 ff_138 k15 h138 n0 Z138 OL CS FM E_o_138 F_coder_o_138 F_value_o_138 Y_r_138 V_b15 (own_hk ts_138 en2 eab ct_138 hsg (z := (3 : Int32)) (B := (4 : Int32)) (K := (7 : Int32)) (by decide) (by decide) (by decide)) (by decide) (by omega) (by omega)) (by decide) (W := 0) (Nat.le_of_eq rfl) (by decide) (by rw [hml]; rfl) (lenOf pd_32 rfl) rfl (hb hby at_538) (pc' := 541) rfl (by decide) (by decide) ?_; intro v171 T171 L171 X171 hQ171
    obtain ⟨rfl, N171q, e171⟩ := hQ171
    have N171 := Fr.app N170 N171q
    refine R.ifNo X171 hx (hb hby at_541) (feq (by decide : ¬ ((1 : Int32) = (0 : Int32)))).1 (pc' := 544) rfl ?_
    refine R.aload X171 hx (hb hby at_544) rfl rfl (pc' := 546) rfl ?_
    refine R.iload X171 hx (hb hby at_546) rfl (pc' := 548) rfl ?_
    refine R.iload X171 hx (hb hby at_548) rfl (pc' := 550) rfl ?_
    refine R.bipush X171 hx (hb hby at_550) (v := (8 : Int32)) (by decide) (pc' := 552) rfl ?_
    refine R.lload X171 hx (hb hby at_552) rfl (pc' := 554) rfl ?_
    refine R.aload X171 hx (hb hby at_554) rfl rfl (pc' := 556) rfl ?_
    refine R.callS X171 hx hZ (y := mY40) hown w_222 w_223 w_197 w_224 (by decide) e171 (rm42 l Z aZ hw [] o_138 (4 : Int32) r_158 (8 : Int32) r_157 b15 cs r_138 zr_138 ff_138 k15 h138 n0 Z138 OL CS FM E_o_138 F_coder_o_138 F_value_o_138 Y_r_138 V_b15 (own_hk ts_138 en2 eab ct_138 hsg (z := (3 : Int32)) (B := (4 : Int32)) (K := (8 : Int32)) (by decide) (by decide) (by decide)) (by decide) (by omega) (by omega)) (by decide) (W := 0) (Nat.le_of_eq rfl) (by decide) (by rw [hml]; rfl) (lenOf pd_32 rfl) rfl (hb hby at_556) (pc' := 559) rfl (by decide) (by decide) ?_; intro v172 T172 L172 X172 hQ172
    obtain ⟨rfl, N172q, e172⟩ := hQ172
    have N172 := Fr.app N171 N172q
    refine R.ifNo X172 hx (hb hby at_559) (feq (by decide : ¬ ((1 : Int32) = (0 : Int32)))).1 (pc' := 562) rfl ?_
    refine R.aload X172 hx (hb hby at_562) rfl rfl (pc' := 564) rfl ?_
    refine R.iload X172 hx (hb hby at_564) rfl (pc' := 566) rfl ?_
    refine R.iload X172 hx (hb hby at_566) rfl (pc' := 568) rfl ?_
    refine R.bipush X172 hx (hb hby at_568) (v := (9 : Int32)) (by decide) (pc' := 570) rfl ?_
    refine R.lload X172 hx (hb hby at_570) rfl (pc' := 572) rfl ?_
    refine R.aload X172 hx (hb hby at_572) rfl rfl (pc' := 574) rfl ?_
    refine R.callS X172 hx hZ (y := mY40) hown w_222 w_223 w_197 w_224 (by decide) e172 (rm42 l Z aZ hw [] o_138 (4 : Int32) r_158 (9 : Int32) r_157 b15 cs r_138 zr_138 ff_138 k15 h138 n0 Z138 OL CS FM E_o_138 F_coder_o_138 F_value_o_138 Y_r_138 V_b15 (own_hk ts_138 en2 eab ct_138 hsg (z := (3 : Int32)) (B := (4 : Int32)) (K := (9 : Int32)) (by decide) (by decide) (by decide)) (by decide) (by omega) (by omega)) (by decide) (W := 0) (Nat.le_of_eq rfl) (by decide) (by rw [hml]; rfl) (lenOf pd_32 rfl) rfl (hb hby at_574) (pc' := 577) rfl (by decide) (by decide) ?_; intro v173 T173 L173 X173 hQ173
    obtain ⟨rfl, N173q, e173⟩ := hQ173
    have N173 := Fr.app N172 N173q
    refine R.ifNo X173 hx (hb hby at_577) (feq (by decide : ¬ ((1 : Int32) = (0 : Int32)))).1 (pc' := 580) rfl ?_
    refine R.iconst X173 hx (hb hby at_580) (v := (1 : Int32)) (by decide) (pc' := 581) rfl ?_
    refine R.goto X173 hx (hb hby at_581) (by decide) (pc' := 585) (by decide) ?_
    rw [← hG]
    exact Rn.retW X173 hS hk (BodyLoose.notSynchronized Bd) (v := some (.int (1 : Int32))) (fun h => by rw [Bd.returns] at h; cases h) (Q := Q0 Z p0 p1 p2 cs dO dT h0 n0) e173 (fun fs hr => retN X173 hx (t := .boolean) Bd.returns (by simp) (hb hby at_585) hr) ⟨rfl, N173⟩ (by decide) (by decide)
set_option maxRecDepth 65536 in
set_option maxHeartbeats 40000000 in
theorem rm0 (l : Launch) (Z : State) (aZ : Array Value) (hw : ∀ d ∈ tables_1, d.before aZ Z = true) (ws : List Jvm.Cond) (p0 : Int32) (p1 : Int32) (p2 : Int32) (cs : Int32) (dO : Addr) (dT : Addr) (h0 : Heap) (n0 : Nat) (Z0 : n0 ≤ h0.size) (OL : Old Z n0 h0) (CS : own_CS Z cs) (FM : own_FM Z) (DG : own_DG Z dO dT) :
    MetFree l x (head1 (Jvm.Cond.code x code maxLocals ret :: ws) room_1) (fun aQ UQ => aQ = #[(.int p0), (.int p1), (.int p2)] ∧ Z.Warmed39 UQ.vm ∧ UQ.heap = h0 ∧ CHv Z consts_1 UQ.vm h0 ∧ ∀ x ∈ ([] : List Addr), Safe Z consts_1 UQ.vm h0 x) (fun _ _ _ _ _ => True) (fun _ UQ oQ UR => ∃ vQ LQ, oQ = .returned vQ ∧ Q0 Z p0 p1 p2 cs dO dT h0 n0 vQ UR.vm UR.heap LQ ∧ ReturnedEndW UQ oQ UR LQ room_1.cells room_1.slots) := by
  refine MetFree.of_bodySF (plainFor_of_name pn_7) hisR ?_
  intro p e s m args below meth c s₁ Bd hml0 hP hK
  obtain ⟨rfl, hZ, hh, HC, SF0⟩ := hP
  have hZ : Z.Warmed39 (s.setVm s.vm).vm := hZ
  have hS : s.Since s.vm 0 := (State.WarmedH.refl s).since 0
  have hk : 0 ≤ h0.size := Nat.zero_le _
  have hEL := own_ew hw
  have wS := own_ws hw
  have hx := Bd.exec
  have hby := Bd.bytes
  have hml : c.maxLocals = 20 := hml0
  have hown : (s.setVm s.vm).vm.findClass "com/example/apportion/apportion/jsonl/PlaceToStringPinLaw" = some m.cls := findClass_of_methodNamed Bd.named
  have hnm := (name_of_methodNamed Bd.named Bd.method).1
  have X0 : Stand p l e room_1 (s.setVm s.vm) m #[(.int p0), (.int p1), (.int p2)] below meth c s₁ [] 0 0 := Stand.of_body Bd
  have e0 : s₁.heap = h0 := by rw [← hh, Bd.state]; rfl
  have N0 := Fr.nil n0
  have K0 : Keep h0 h0 [] := Keep.refl _ _
  have w_0 := hw _ (List.mem_of_getElem? (i := 0) rfl)
  have w_1 := hw _ (List.mem_of_getElem? (i := 1) rfl)
  have w_2 := hw _ (List.mem_of_getElem? (i := 2) rfl)
  have w_3 := hw _ (List.mem_of_getElem? (i := 3) rfl)
  have w_4 := hw _ (List.mem_of_getElem? (i := 4) rfl)
  have w_5 := hw _ (List.mem_of_getElem? (i := 5) rfl)
  have w_6 := hw _ (List.mem_of_getElem? (i := 6) rfl)
  have w_7 := hw _ (List.mem_of_getElem? (i := 7) rfl)
  have w_8 := hw _ (List.mem_of_getElem? (i := 8) rfl)
  have w_9 := hw _ (List.mem_of_getElem? (i := 9) rfl)
  have w_10 := hw _ (List.mem_of_getElem? (i := 10) rfl)
  have first_ : Rn p e below (s₁.setTop (mkF m 0 #[.val (.int p0), .val (.int p1), .val (.int p2), .unset, .unset, .unset, .unset, .unset, .unset, .unset, .unset, .unset, .unset, .unset, .unset, .unset, .unset, .unset, .unset, .unset] [])) (Fn0 Z p0 p1 p2 cs dO dT h0 n0 s) := by
    generalize hG : (Fn0 Z p0 p1 p2 cs dO dT h0 n0 s) = G
    refine R.iloadN X0 hx (hb hby at_0) rfl (pc' := 1) rfl ?_
    refine R.sipush X0 hx (hb hby at_1) (v := (255 : Int32)) (by decide) (pc' := 4) rfl ?_
    refine R.iand X0 hx (hb hby at_4) rfl (pc' := 5) rfl ?_
    refine R.i2c X0 hx (hb hby at_5) (pc' := 6) rfl ?_
    generalize hi1 : ((p0 &&& (255 : Int32)).toUInt32.toUInt16.toUInt32.toInt32) = i1
    refine R.istoreN X0 hx (hb hby at_6) (L' := #[.val (.int p0), .val (.int p1), .val (.int p2), .val (.int i1), .unset, .unset, .unset, .unset, .unset, .unset, .unset, .unset, .unset, .unset, .unset, .unset, .unset, .unset, .unset, .unset]) rfl (pc' := 7) rfl ?_
    refine R.iloadN X0 hx (hb hby at_7) rfl (pc' := 8) rfl ?_
    refine R.bipush X0 hx (hb hby at_8) (v := (8 : Int32)) (by decide) (pc' := 10) rfl ?_
    refine R.iushr X0 hx (hb hby at_10) (pc' := 11) rfl ?_
    refine R.sipush X0 hx (hb hby at_11) (v := (255 : Int32)) (by decide) (pc' := 14) rfl ?_
    refine R.iand X0 hx (hb hby at_14) rfl (pc' := 15) rfl ?_
    refine R.i2c X0 hx (hb hby at_15) (pc' := 16) rfl ?_
    generalize hi2 : ((((p0.toUInt32 >>> ((8 : Int32) &&& 31).toUInt32).toInt32) &&& (255 : Int32)).toUInt32.toUInt16.toUInt32.toInt32) = i2
    refine R.istore X0 hx (hb hby at_16) (L' := #[.val (.int p0), .val (.int p1), .val (.int p2), .val (.int i1), .val (.int i2), .unset, .unset, .unset, .unset, .unset, .unset, .unset, .unset, .unset, .unset, .unset, .unset, .unset, .unset, .unset]) rfl (pc' := 18) rfl ?_
    refine R.iloadN X0 hx (hb hby at_18) rfl (pc' := 19) rfl ?_
    refine R.bipush X0 hx (hb hby at_19) (v := (16 : Int32)) (by decide) (pc' := 21) rfl ?_
    refine R.iushr X0 hx (hb hby at_21) (pc' := 22) rfl ?_
    refine R.sipush X0 hx (hb hby at_22) (v := (255 : Int32)) (by decide) (pc' := 25) rfl ?_
    refine R.iand X0 hx (hb hby at_25) rfl (pc' := 26) rfl ?_
    refine R.i2c X0 hx (hb hby at_26) (pc' := 27) rfl ?_
    generalize hi3 : ((((p0.toUInt32 >>> ((16 : Int32) &&& 31).toUInt32).toInt32) &&& (255 : Int32)).toUInt32.toUInt16.toUInt32.toInt32) = i3
    refine R.istore X0 hx (hb hby at_27) (L' := #[.val (.int p0), .val (.int p1), .val (.int p2), .val (.int i1), .val (.int i2), .val (.int i3), .unset, .unset, .unset, .unset, .unset, .unset, .unset, .unset, .unset, .unset, .unset, .unset, .unset, .unset]) rfl (pc' := 29) rfl ?_
    refine R.iloadN X0 hx (hb hby at_29) rfl (pc' := 30) rfl ?_
    refine R.iconst X0 hx (hb hby at_30) (v := (3 : Int32)) (by decide) (pc' := 31) rfl ?_
    refine R.iand X0 hx (hb hby at_31) rfl (pc' := 32) rfl ?_
    generalize hi4 : (p1 &&& (3 : Int32)) = i4
    refine R.istore X0 hx (hb hby at_32) (L' := #[.val (.int p0), .val (.int p1), .val (.int p2), .val (.int i1), .val (.int i2), .val (.int i3), .val (.int i4), .unset, .unset, .unset, .unset, .unset, .unset, .unset, .unset, .unset, .unset, .unset, .unset, .unset]) rfl (pc' := 34) rfl ?_
    have b_i1 := own_chr hi1
    have b_i2 := own_chr hi2
    have b_i3 := own_chr hi3
    have hq6 := own_03 hi4
    refine R.iconst X0 hx (hb hby at_34) (v := (0 : Int32)) (by decide) (pc' := 35) rfl ?_
    refine R.newP X0 hx hZ (ty := .char) rfl w_0 e0 (by decide) (cap := 0) (by decide) (by decide) (ad := "[C") (by decide) (hb hby at_35) (pc' := 37) rfl (by decide) (by decide) ?_; intro T5 h5 b5 k5 g5 X5 e5 E5 EE5 AA5
    have g_b5 : n0 ≤ b5 := Nat.le_trans Z0 (Nat.le_of_eq g5.symm)
    have sz_b5 : h0.size ≤ b5 := Nat.le_trans K0.1 (Nat.le_of_eq g5.symm)
    have K5 : Keep h0 h5 [] := K0.ext E5
    have Z5 : n0 ≤ h5.size := Nat.le_trans Z0 E5.1
    have hk := Nat.le_trans hk E5.1
    have OL := OL.ext E5
    have V_b5 : Arh Z h5 b5 k5 .char (0 : Int32) [] [] (.int (0 : Int32)) := AA5
    refine R.astore X5 hx (hb hby at_37) rfl (L' := #[.val (.int p0), .val (.int p1), .val (.int p2), .val (.int i1), .val (.int i2), .val (.int i3), .val (.int i4), .val (.ref b5), .unset, .unset, .unset, .unset, .unset, .unset, .unset, .unset, .unset, .unset, .unset, .unset]) rfl (pc' := 39) rfl ?_
    refine R.iconst X5 hx (hb hby at_39) (v := (1 : Int32)) (by decide) (pc' := 40) rfl ?_
    refine R.newP X5 hx hZ (ty := .char) rfl w_0 e5 (by decide) (cap := 1) (by decide) (by decide) (ad := "[C") (by decide) (hb hby at_40) (pc' := 42) rfl (by decide) (by decide) ?_; intro T6 h6 b6 k6 g6 X6 e6 E6 EE6 AA6
    have g_b6 : n0 ≤ b6 := Nat.le_trans Z5 (Nat.le_of_eq g6.symm)
    have sz_b6 : h0.size ≤ b6 := Nat.le_trans K5.1 (Nat.le_of_eq g6.symm)
    have ne_b5_b6 : b5 ≠ b6 := Nat.ne_of_lt (Nat.lt_of_lt_of_le V_b5.lt (Nat.le_of_eq g6.symm))
    have K6 : Keep h0 h6 [] := K5.ext E6
    have Z6 : n0 ≤ h6.size := Nat.le_trans Z5 E6.1
    have hk := Nat.le_trans hk E6.1
    have OL := OL.ext E6
    have V_b5 := V_b5.ext E6
    have V_b6 : Arh Z h6 b6 k6 .char (1 : Int32) [] [] (.int (0 : Int32)) := AA6
    refine R.astore X6 hx (hb hby at_42) rfl (L' := #[.val (.int p0), .val (.int p1), .val (.int p2), .val (.int i1), .val (.int i2), .val (.int i3), .val (.int i4), .val (.ref b5), .val (.ref b6), .unset, .unset, .unset, .unset, .unset, .unset, .unset, .unset, .unset, .unset, .unset]) rfl (pc' := 44) rfl ?_
    refine R.aload X6 hx (hb hby at_44) rfl rfl (pc' := 46) rfl ?_
    refine R.iconst X6 hx (hb hby at_46) (v := (0 : Int32)) (by decide) (pc' := 47) rfl ?_
    refine R.iloadN X6 hx (hb hby at_47) rfl (pc' := 48) rfl ?_
    refine R.castore X6 hx hZ e6 V_b6 (⟨by decide, by decide⟩ : ¬ (0 : Int32) < 0 ∧ (0 : Int32) < (1 : Int32)) (own_narCi b_i1) (hb hby at_48) (pc' := 49) rfl ?_; intro T7 h7 X7 e7 W7 V7
    have OL := OL.wr W7 g_b6
    have V_b5 := V_b5.other W7 ne_b5_b6
    have V_b6 : Arh Z h7 b6 k6 .char (1 : Int32) [((0 : Int32), (.int i1))] [] (.int (0 : Int32)) := V7
    have N7 := Fr.snoc X7 N0 g_b6
    have K7 : Keep h0 h7 [] := K6.wr W7 (Or.inr sz_b6)
    have Z7 : n0 ≤ h7.size := Nat.le_trans Z6 (Keep.of_wr W7).1
    have hk := Nat.le_trans hk (Keep.of_wr W7).1
    refine R.iconst X7 hx (hb hby at_49) (v := (2 : Int32)) (by decide) (pc' := 50) rfl ?_
    refine R.newP X7 hx hZ (ty := .char) rfl w_0 e7 (by decide) (cap := 2) (by decide) (by decide) (ad := "[C") (by decide) (hb hby at_50) (pc' := 52) rfl (by decide) (by decide) ?_; intro T8 h8 b8 k8 g8 X8 e8 E8 EE8 AA8
    have g_b8 : n0 ≤ b8 := Nat.le_trans Z7 (Nat.le_of_eq g8.symm)
    have sz_b8 : h0.size ≤ b8 := Nat.le_trans K7.1 (Nat.le_of_eq g8.symm)
    have ne_b5_b8 : b5 ≠ b8 := Nat.ne_of_lt (Nat.lt_of_lt_of_le V_b5.lt (Nat.le_of_eq g8.symm))
    have ne_b6_b8 : b6 ≠ b8 := Nat.ne_of_lt (Nat.lt_of_lt_of_le V_b6.lt (Nat.le_of_eq g8.symm))
    have K8 : Keep h0 h8 [] := K7.ext E8
    have Z8 : n0 ≤ h8.size := Nat.le_trans Z7 E8.1
    have hk := Nat.le_trans hk E8.1
    have OL := OL.ext E8
    have V_b5 := V_b5.ext E8
    have V_b6 := V_b6.ext E8
    have V_b8 : Arh Z h8 b8 k8 .char (2 : Int32) [] [] (.int (0 : Int32)) := AA8
    refine R.astore X8 hx (hb hby at_52) rfl (L' := #[.val (.int p0), .val (.int p1), .val (.int p2), .val (.int i1), .val (.int i2), .val (.int i3), .val (.int i4), .val (.ref b5), .val (.ref b6), .val (.ref b8), .unset, .unset, .unset, .unset, .unset, .unset, .unset, .unset, .unset, .unset]) rfl (pc' := 54) rfl ?_
    refine R.aload X8 hx (hb hby at_54) rfl rfl (pc' := 56) rfl ?_
    refine R.iconst X8 hx (hb hby at_56) (v := (0 : Int32)) (by decide) (pc' := 57) rfl ?_
    refine R.iloadN X8 hx (hb hby at_57) rfl (pc' := 58) rfl ?_
    refine R.castore X8 hx hZ e8 V_b8 (⟨by decide, by decide⟩ : ¬ (0 : Int32) < 0 ∧ (0 : Int32) < (2 : Int32)) (own_narCi b_i1) (hb hby at_58) (pc' := 59) rfl ?_; intro T9 h9 X9 e9 W9 V9
    have OL := OL.wr W9 g_b8
    have V_b5 := V_b5.other W9 ne_b5_b8
    have V_b6 := V_b6.other W9 ne_b6_b8
    have V_b8 : Arh Z h9 b8 k8 .char (2 : Int32) [((0 : Int32), (.int i1))] [] (.int (0 : Int32)) := V9
    have N9 := Fr.snoc X9 N7 g_b8
    have K9 : Keep h0 h9 [] := K8.wr W9 (Or.inr sz_b8)
    have Z9 : n0 ≤ h9.size := Nat.le_trans Z8 (Keep.of_wr W9).1
    have hk := Nat.le_trans hk (Keep.of_wr W9).1
    refine R.aload X9 hx (hb hby at_59) rfl rfl (pc' := 61) rfl ?_
    refine R.iconst X9 hx (hb hby at_61) (v := (1 : Int32)) (by decide) (pc' := 62) rfl ?_
    refine R.iload X9 hx (hb hby at_62) rfl (pc' := 64) rfl ?_
    refine R.castore X9 hx hZ e9 V_b8 (⟨by decide, by decide⟩ : ¬ (1 : Int32) < 0 ∧ (1 : Int32) < (2 : Int32)) (own_narCi b_i2) (hb hby at_64) (pc' := 65) rfl ?_; intro T10 h10 X10 e10 W10 V10
    have OL := OL.wr W10 g_b8
    have V_b5 := V_b5.other W10 ne_b5_b8
    have V_b6 := V_b6.other W10 ne_b6_b8
    have V_b8 : Arh Z h10 b8 k8 .char (2 : Int32) [((1 : Int32), (.int i2)), ((0 : Int32), (.int i1))] [] (.int (0 : Int32)) := V10
    have N10 := Fr.snoc X10 N9 g_b8
    have K10 : Keep h0 h10 [] := K9.wr W10 (Or.inr sz_b8)
    have Z10 : n0 ≤ h10.size := Nat.le_trans Z9 (Keep.of_wr W10).1
    have hk := Nat.le_trans hk (Keep.of_wr W10).1
    refine R.iconst X10 hx (hb hby at_65) (v := (3 : Int32)) (by decide) (pc' := 66) rfl ?_
    refine R.newP X10 hx hZ (ty := .char) rfl w_0 e10 (by decide) (cap := 3) (by decide) (by decide) (ad := "[C") (by decide) (hb hby at_66) (pc' := 68) rfl (by decide) (by decide) ?_; intro T11 h11 b11 k11 g11 X11 e11 E11 EE11 AA11
    have g_b11 : n0 ≤ b11 := Nat.le_trans Z10 (Nat.le_of_eq g11.symm)
    have sz_b11 : h0.size ≤ b11 := Nat.le_trans K10.1 (Nat.le_of_eq g11.symm)
    have ne_b5_b11 : b5 ≠ b11 := Nat.ne_of_lt (Nat.lt_of_lt_of_le V_b5.lt (Nat.le_of_eq g11.symm))
    have ne_b6_b11 : b6 ≠ b11 := Nat.ne_of_lt (Nat.lt_of_lt_of_le V_b6.lt (Nat.le_of_eq g11.symm))
    have ne_b8_b11 : b8 ≠ b11 := Nat.ne_of_lt (Nat.lt_of_lt_of_le V_b8.lt (Nat.le_of_eq g11.symm))
    have K11 : Keep h0 h11 [] := K10.ext E11
    have Z11 : n0 ≤ h11.size := Nat.le_trans Z10 E11.1
    have hk := Nat.le_trans hk E11.1
    have OL := OL.ext E11
    have V_b5 := V_b5.ext E11
    have V_b6 := V_b6.ext E11
    have V_b8 := V_b8.ext E11
    have V_b11 : Arh Z h11 b11 k11 .char (3 : Int32) [] [] (.int (0 : Int32)) := AA11
    refine R.astore X11 hx (hb hby at_68) rfl (L' := #[.val (.int p0), .val (.int p1), .val (.int p2), .val (.int i1), .val (.int i2), .val (.int i3), .val (.int i4), .val (.ref b5), .val (.ref b6), .val (.ref b8), .val (.ref b11), .unset, .unset, .unset, .unset, .unset, .unset, .unset, .unset, .unset]) rfl (pc' := 70) rfl ?_
    refine R.aload X11 hx (hb hby at_70) rfl rfl (pc' := 72) rfl ?_
    refine R.iconst X11 hx (hb hby at_72) (v := (0 : Int32)) (by decide) (pc' := 73) rfl ?_
    refine R.iloadN X11 hx (hb hby at_73) rfl (pc' := 74) rfl ?_
    refine R.castore X11 hx hZ e11 V_b11 (⟨by decide, by decide⟩ : ¬ (0 : Int32) < 0 ∧ (0 : Int32) < (3 : Int32)) (own_narCi b_i1) (hb hby at_74) (pc' := 75) rfl ?_; intro T12 h12 X12 e12 W12 V12
    have OL := OL.wr W12 g_b11
    have V_b5 := V_b5.other W12 ne_b5_b11
    have V_b6 := V_b6.other W12 ne_b6_b11
    have V_b8 := V_b8.other W12 ne_b8_b11
    have V_b11 : Arh Z h12 b11 k11 .char (3 : Int32) [((0 : Int32), (.int i1))] [] (.int (0 : Int32)) := V12
    have N12 := Fr.snoc X12 N10 g_b11
    have K12 : Keep h0 h12 [] := K11.wr W12 (Or.inr sz_b11)
    have Z12 : n0 ≤ h12.size := Nat.le_trans Z11 (Keep.of_wr W12).1
    have hk := Nat.le_trans hk (Keep.of_wr W12).1
    refine R.aload X12 hx (hb hby at_75) rfl rfl (pc' := 77) rfl ?_
    refine R.iconst X12 hx (hb hby at_77) (v := (1 : Int32)) (by decide) (pc' := 78) rfl ?_
    refine R.iload X12 hx (hb hby at_78) rfl (pc' := 80) rfl ?_
    refine R.castore X12 hx hZ e12 V_b11 (⟨by decide, by decide⟩ : ¬ (1 : Int32) < 0 ∧ (1 : Int32) < (3 : Int32)) (own_narCi b_i2) (hb hby at_80) (pc' := 81) rfl ?_; intro T13 h13 X13 e13 W13 V13
    have OL := OL.wr W13 g_b11
    have V_b5 := V_b5.other W13 ne_b5_b11
    have V_b6 := V_b6.other W13 ne_b6_b11
    have V_b8 := V_b8.other W13 ne_b8_b11
    have V_b11 : Arh Z h13 b11 k11 .char (3 : Int32) [((1 : Int32), (.int i2)), ((0 : Int32), (.int i1))] [] (.int (0 : Int32)) := V13
    have N13 := Fr.snoc X13 N12 g_b11
    have K13 : Keep h0 h13 [] := K12.wr W13 (Or.inr sz_b11)
    have Z13 : n0 ≤ h13.size := Nat.le_trans Z12 (Keep.of_wr W13).1
    have hk := Nat.le_trans hk (Keep.of_wr W13).1
    refine R.aload X13 hx (hb hby at_81) rfl rfl (pc' := 83) rfl ?_
    refine R.iconst X13 hx (hb hby at_83) (v := (2 : Int32)) (by decide) (pc' := 84) rfl ?_
    refine R.iload X13 hx (hb hby at_84) rfl (pc' := 86) rfl ?_
    refine R.castore X13 hx hZ e13 V_b11 (⟨by decide, by decide⟩ : ¬ (2 : Int32) < 0 ∧ (2 : Int32) < (3 : Int32)) (own_narCi b_i3) (hb hby at_86) (pc' := 87) rfl ?_; intro T14 h14 X14 e14 W14 V14
    have OL := OL.wr W14 g_b11
    have V_b5 := V_b5.other W14 ne_b5_b11
    have V_b6 := V_b6.other W14 ne_b6_b11
    have V_b8 := V_b8.other W14 ne_b8_b11
    have V_b11 : Arh Z h14 b11 k11 .char (3 : Int32) [((2 : Int32), (.int i3)), ((1 : Int32), (.int i2)), ((0 : Int32), (.int i1))] [] (.int (0 : Int32)) := V14
    have N14 := Fr.snoc X14 N13 g_b11
    have K14 : Keep h0 h14 [] := K13.wr W14 (Or.inr sz_b11)
    have Z14 : n0 ≤ h14.size := Nat.le_trans Z13 (Keep.of_wr W14).1
    have hk := Nat.le_trans hk (Keep.of_wr W14).1
    refine R.bipush X14 hx (hb hby at_87) (v := (10 : Int32)) (by decide) (pc' := 89) rfl ?_
    refine R.newP X14 hx hZ (ty := .long) rfl w_1 e14 (by decide) (cap := 10) (by decide) (by decide) (ad := "[J") (by decide) (hb hby at_89) (pc' := 91) rfl (by decide) (by decide) ?_; intro T15 h15 b15 k15 g15 X15 e15 E15 EE15 AA15
    have g_b15 : n0 ≤ b15 := Nat.le_trans Z14 (Nat.le_of_eq g15.symm)
    have sz_b15 : h0.size ≤ b15 := Nat.le_trans K14.1 (Nat.le_of_eq g15.symm)
    have ne_b5_b15 : b5 ≠ b15 := Nat.ne_of_lt (Nat.lt_of_lt_of_le V_b5.lt (Nat.le_of_eq g15.symm))
    have ne_b6_b15 : b6 ≠ b15 := Nat.ne_of_lt (Nat.lt_of_lt_of_le V_b6.lt (Nat.le_of_eq g15.symm))
    have ne_b8_b15 : b8 ≠ b15 := Nat.ne_of_lt (Nat.lt_of_lt_of_le V_b8.lt (Nat.le_of_eq g15.symm))
    have ne_b11_b15 : b11 ≠ b15 := Nat.ne_of_lt (Nat.lt_of_lt_of_le V_b11.lt (Nat.le_of_eq g15.symm))
    have K15 : Keep h0 h15 [] := K14.ext E15
    have Z15 : n0 ≤ h15.size := Nat.le_trans Z14 E15.1
    have hk := Nat.le_trans hk E15.1
    have OL := OL.ext E15
    have V_b5 := V_b5.ext E15
    have V_b6 := V_b6.ext E15
    have V_b8 := V_b8.ext E15
    have V_b11 := V_b11.ext E15
    have V_b15 : Arh Z h15 b15 k15 .long (10 : Int32) [] [] (.long (0 : Int64)) := AA15
    refine R.astore X15 hx (hb hby at_91) rfl (L' := #[.val (.int p0), .val (.int p1), .val (.int p2), .val (.int i1), .val (.int i2), .val (.int i3), .val (.int i4), .val (.ref b5), .val (.ref b6), .val (.ref b8), .val (.ref b11), .val (.ref b15), .unset, .unset, .unset, .unset, .unset, .unset, .unset, .unset]) rfl (pc' := 93) rfl ?_
    refine R.aload X15 hx (hb hby at_93) rfl rfl (pc' := 95) rfl ?_
    refine R.iconst X15 hx (hb hby at_95) (v := (0 : Int32)) (by decide) (pc' := 96) rfl ?_
    refine R.lconst X15 hx (hb hby at_96) (v := (1 : Int64)) (by decide) (pc' := 97) rfl ?_
    refine R.lastore X15 hx hZ e15 V_b15 (⟨by decide, by decide⟩ : ¬ (0 : Int32) < 0 ∧ (0 : Int32) < (10 : Int32)) (hb hby at_97) (pc' := 98) rfl ?_; intro T16 h16 X16 e16 W16 V16
    have OL := OL.wr W16 g_b15
    have V_b5 := V_b5.other W16 ne_b5_b15
    have V_b6 := V_b6.other W16 ne_b6_b15
    have V_b8 := V_b8.other W16 ne_b8_b15
    have V_b11 := V_b11.other W16 ne_b11_b15
    have V_b15 : Arh Z h16 b15 k15 .long (10 : Int32) [((0 : Int32), (.long (1 : Int64)))] [] (.long (0 : Int64)) := V16
    have N16 := Fr.snoc X16 N14 g_b15
    have K16 : Keep h0 h16 [] := K15.wr W16 (Or.inr sz_b15)
    have Z16 : n0 ≤ h16.size := Nat.le_trans Z15 (Keep.of_wr W16).1
    have hk := Nat.le_trans hk (Keep.of_wr W16).1
    refine R.aload X16 hx (hb hby at_98) rfl rfl (pc' := 100) rfl ?_
    refine R.iconst X16 hx (hb hby at_100) (v := (1 : Int32)) (by decide) (pc' := 101) rfl ?_
    refine R.ldc2J X16 hx hZ hown w_2 (hb hby at_101) (pc' := 104) rfl ?_
    refine R.lastore X16 hx hZ e16 V_b15 (⟨by decide, by decide⟩ : ¬ (1 : Int32) < 0 ∧ (1 : Int32) < (10 : Int32)) (hb hby at_104) (pc' := 105) rfl ?_; intro T17 h17 X17 e17 W17 V17
    have OL := OL.wr W17 g_b15
    have V_b5 := V_b5.other W17 ne_b5_b15
    have V_b6 := V_b6.other W17 ne_b6_b15
    have V_b8 := V_b8.other W17 ne_b8_b15
    have V_b11 := V_b11.other W17 ne_b11_b15
    have V_b15 : Arh Z h17 b15 k15 .long (10 : Int32) [((1 : Int32), (.long (10 : Int64))), ((0 : Int32), (.long (1 : Int64)))] [] (.long (0 : Int64)) := V17
    have N17 := Fr.snoc X17 N16 g_b15
    have K17 : Keep h0 h17 [] := K16.wr W17 (Or.inr sz_b15)
    have Z17 : n0 ≤ h17.size := Nat.le_trans Z16 (Keep.of_wr W17).1
    have hk := Nat.le_trans hk (Keep.of_wr W17).1
    refine R.aload X17 hx (hb hby at_105) rfl rfl (pc' := 107) rfl ?_
    refine R.iconst X17 hx (hb hby at_107) (v := (2 : Int32)) (by decide) (pc' := 108) rfl ?_
    refine R.ldc2J X17 hx hZ hown w_3 (hb hby at_108) (pc' := 111) rfl ?_
    refine R.lastore X17 hx hZ e17 V_b15 (⟨by decide, by decide⟩ : ¬ (2 : Int32) < 0 ∧ (2 : Int32) < (10 : Int32)) (hb hby at_111) (pc' := 112) rfl ?_; intro T18 h18 X18 e18 W18 V18
    have OL := OL.wr W18 g_b15
    have V_b5 := V_b5.other W18 ne_b5_b15
    have V_b6 := V_b6.other W18 ne_b6_b15
    have V_b8 := V_b8.other W18 ne_b8_b15
    have V_b11 := V_b11.other W18 ne_b11_b15
    have V_b15 : Arh Z h18 b15 k15 .long (10 : Int32) [((2 : Int32), (.long (100 : Int64))), ((1 : Int32), (.long (10 : Int64))), ((0 : Int32), (.long (1 : Int64)))] [] (.long (0 : Int64)) := V18
    have N18 := Fr.snoc X18 N17 g_b15
    have K18 : Keep h0 h18 [] := K17.wr W18 (Or.inr sz_b15)
    have Z18 : n0 ≤ h18.size := Nat.le_trans Z17 (Keep.of_wr W18).1
    have hk := Nat.le_trans hk (Keep.of_wr W18).1
    refine R.aload X18 hx (hb hby at_112) rfl rfl (pc' := 114) rfl ?_
    refine R.iconst X18 hx (hb hby at_114) (v := (3 : Int32)) (by decide) (pc' := 115) rfl ?_
    refine R.ldc2J X18 hx hZ hown w_4 (hb hby at_115) (pc' := 118) rfl ?_
    refine R.lastore X18 hx hZ e18 V_b15 (⟨by decide, by decide⟩ : ¬ (3 : Int32) < 0 ∧ (3 : Int32) < (10 : Int32)) (hb hby at_118) (pc' := 119) rfl ?_; intro T19 h19 X19 e19 W19 V19
    have OL := OL.wr W19 g_b15
    have V_b5 := V_b5.other W19 ne_b5_b15
    have V_b6 := V_b6.other W19 ne_b6_b15
    have V_b8 := V_b8.other W19 ne_b8_b15
    have V_b11 := V_b11.other W19 ne_b11_b15
    have V_b15 : Arh Z h19 b15 k15 .long (10 : Int32) [((3 : Int32), (.long (1000 : Int64))), ((2 : Int32), (.long (100 : Int64))), ((1 : Int32), (.long (10 : Int64))), ((0 : Int32), (.long (1 : Int64)))] [] (.long (0 : Int64)) := V19
    have N19 := Fr.snoc X19 N18 g_b15
    have K19 : Keep h0 h19 [] := K18.wr W19 (Or.inr sz_b15)
    have Z19 : n0 ≤ h19.size := Nat.le_trans Z18 (Keep.of_wr W19).1
    have hk := Nat.le_trans hk (Keep.of_wr W19).1
    refine R.aload X19 hx (hb hby at_119) rfl rfl (pc' := 121) rfl ?_
    refine R.iconst X19 hx (hb hby at_121) (v := (4 : Int32)) (by decide) (pc' := 122) rfl ?_
    refine R.ldc2J X19 hx hZ hown w_5 (hb hby at_122) (pc' := 125) rfl ?_
    refine R.lastore X19 hx hZ e19 V_b15 (⟨by decide, by decide⟩ : ¬ (4 : Int32) < 0 ∧ (4 : Int32) < (10 : Int32)) (hb hby at_125) (pc' := 126) rfl ?_; intro T20 h20 X20 e20 W20 V20
    have OL := OL.wr W20 g_b15
    have V_b5 := V_b5.other W20 ne_b5_b15
    have V_b6 := V_b6.other W20 ne_b6_b15
    have V_b8 := V_b8.other W20 ne_b8_b15
    have V_b11 := V_b11.other W20 ne_b11_b15
    have V_b15 : Arh Z h20 b15 k15 .long (10 : Int32) [((4 : Int32), (.long (10000 : Int64))), ((3 : Int32), (.long (1000 : Int64))), ((2 : Int32), (.long (100 : Int64))), ((1 : Int32), (.long (10 : Int64))), ((0 : Int32), (.long (1 : Int64)))] [] (.long (0 : Int64)) := V20
    have N20 := Fr.snoc X20 N19 g_b15
    have K20 : Keep h0 h20 [] := K19.wr W20 (Or.inr sz_b15)
    have Z20 : n0 ≤ h20.size := Nat.le_trans Z19 (Keep.of_wr W20).1
    have hk := Nat.le_trans hk (Keep.of_wr W20).1
    refine R.aload X20 hx (hb hby at_126) rfl rfl (pc' := 128) rfl ?_
    refine R.iconst X20 hx (hb hby at_128) (v := (5 : Int32)) (by decide) (pc' := 129) rfl ?_
    refine R.ldc2J X20 hx hZ hown w_6 (hb hby at_129) (pc' := 132) rfl ?_
    refine R.lastore X20 hx hZ e20 V_b15 (⟨by decide, by decide⟩ : ¬ (5 : Int32) < 0 ∧ (5 : Int32) < (10 : Int32)) (hb hby at_132) (pc' := 133) rfl ?_; intro T21 h21 X21 e21 W21 V21
    have OL := OL.wr W21 g_b15
    have V_b5 := V_b5.other W21 ne_b5_b15
    have V_b6 := V_b6.other W21 ne_b6_b15
    have V_b8 := V_b8.other W21 ne_b8_b15
    have V_b11 := V_b11.other W21 ne_b11_b15
    have V_b15 : Arh Z h21 b15 k15 .long (10 : Int32) [((5 : Int32), (.long (100000 : Int64))), ((4 : Int32), (.long (10000 : Int64))), ((3 : Int32), (.long (1000 : Int64))), ((2 : Int32), (.long (100 : Int64))), ((1 : Int32), (.long (10 : Int64))), ((0 : Int32), (.long (1 : Int64)))] [] (.long (0 : Int64)) := V21
    have N21 := Fr.snoc X21 N20 g_b15
    have K21 : Keep h0 h21 [] := K20.wr W21 (Or.inr sz_b15)
    have Z21 : n0 ≤ h21.size := Nat.le_trans Z20 (Keep.of_wr W21).1
    have hk := Nat.le_trans hk (Keep.of_wr W21).1
    refine R.aload X21 hx (hb hby at_133) rfl rfl (pc' := 135) rfl ?_
    refine R.bipush X21 hx (hb hby at_135) (v := (6 : Int32)) (by decide) (pc' := 137) rfl ?_
    refine R.ldc2J X21 hx hZ hown w_7 (hb hby at_137) (pc' := 140) rfl ?_
    refine R.lastore X21 hx hZ e21 V_b15 (⟨by decide, by decide⟩ : ¬ (6 : Int32) < 0 ∧ (6 : Int32) < (10 : Int32)) (hb hby at_140) (pc' := 141) rfl ?_; intro T22 h22 X22 e22 W22 V22
    have OL := OL.wr W22 g_b15
    have V_b5 := V_b5.other W22 ne_b5_b15
    have V_b6 := V_b6.other W22 ne_b6_b15
    have V_b8 := V_b8.other W22 ne_b8_b15
    have V_b11 := V_b11.other W22 ne_b11_b15
    have V_b15 : Arh Z h22 b15 k15 .long (10 : Int32) [((6 : Int32), (.long (1000000 : Int64))), ((5 : Int32), (.long (100000 : Int64))), ((4 : Int32), (.long (10000 : Int64))), ((3 : Int32), (.long (1000 : Int64))), ((2 : Int32), (.long (100 : Int64))), ((1 : Int32), (.long (10 : Int64))), ((0 : Int32), (.long (1 : Int64)))] [] (.long (0 : Int64)) := V22
    have N22 := Fr.snoc X22 N21 g_b15
    have K22 : Keep h0 h22 [] := K21.wr W22 (Or.inr sz_b15)
    have Z22 : n0 ≤ h22.size := Nat.le_trans Z21 (Keep.of_wr W22).1
    have hk := Nat.le_trans hk (Keep.of_wr W22).1
    refine R.aload X22 hx (hb hby at_141) rfl rfl (pc' := 143) rfl ?_
    refine R.bipush X22 hx (hb hby at_143) (v := (7 : Int32)) (by decide) (pc' := 145) rfl ?_
    refine R.ldc2J X22 hx hZ hown w_8 (hb hby at_145) (pc' := 148) rfl ?_
    refine R.lastore X22 hx hZ e22 V_b15 (⟨by decide, by decide⟩ : ¬ (7 : Int32) < 0 ∧ (7 : Int32) < (10 : Int32)) (hb hby at_148) (pc' := 149) rfl ?_; intro T23 h23 X23 e23 W23 V23
    have OL := OL.wr W23 g_b15
    have V_b5 := V_b5.other W23 ne_b5_b15
    have V_b6 := V_b6.other W23 ne_b6_b15
    have V_b8 := V_b8.other W23 ne_b8_b15
    have V_b11 := V_b11.other W23 ne_b11_b15
    have V_b15 : Arh Z h23 b15 k15 .long (10 : Int32) [((7 : Int32), (.long (10000000 : Int64))), ((6 : Int32), (.long (1000000 : Int64))), ((5 : Int32), (.long (100000 : Int64))), ((4 : Int32), (.long (10000 : Int64))), ((3 : Int32), (.long (1000 : Int64))), ((2 : Int32), (.long (100 : Int64))), ((1 : Int32), (.long (10 : Int64))), ((0 : Int32), (.long (1 : Int64)))] [] (.long (0 : Int64)) := V23
    have N23 := Fr.snoc X23 N22 g_b15
    have K23 : Keep h0 h23 [] := K22.wr W23 (Or.inr sz_b15)
    have Z23 : n0 ≤ h23.size := Nat.le_trans Z22 (Keep.of_wr W23).1
    have hk := Nat.le_trans hk (Keep.of_wr W23).1
    refine R.aload X23 hx (hb hby at_149) rfl rfl (pc' := 151) rfl ?_
    refine R.bipush X23 hx (hb hby at_151) (v := (8 : Int32)) (by decide) (pc' := 153) rfl ?_
    refine R.ldc2J X23 hx hZ hown w_9 (hb hby at_153) (pc' := 156) rfl ?_
    refine R.lastore X23 hx hZ e23 V_b15 (⟨by decide, by decide⟩ : ¬ (8 : Int32) < 0 ∧ (8 : Int32) < (10 : Int32)) (hb hby at_156) (pc' := 157) rfl ?_; intro T24 h24 X24 e24 W24 V24
    have OL := OL.wr W24 g_b15
    have V_b5 := V_b5.other W24 ne_b5_b15
    have V_b6 := V_b6.other W24 ne_b6_b15
    have V_b8 := V_b8.other W24 ne_b8_b15
    have V_b11 := V_b11.other W24 ne_b11_b15
    have V_b15 : Arh Z h24 b15 k15 .long (10 : Int32) [((8 : Int32), (.long (100000000 : Int64))), ((7 : Int32), (.long (10000000 : Int64))), ((6 : Int32), (.long (1000000 : Int64))), ((5 : Int32), (.long (100000 : Int64))), ((4 : Int32), (.long (10000 : Int64))), ((3 : Int32), (.long (1000 : Int64))), ((2 : Int32), (.long (100 : Int64))), ((1 : Int32), (.long (10 : Int64))), ((0 : Int32), (.long (1 : Int64)))] [] (.long (0 : Int64)) := V24
    have N24 := Fr.snoc X24 N23 g_b15
    have K24 : Keep h0 h24 [] := K23.wr W24 (Or.inr sz_b15)
    have Z24 : n0 ≤ h24.size := Nat.le_trans Z23 (Keep.of_wr W24).1
    have hk := Nat.le_trans hk (Keep.of_wr W24).1
    refine R.aload X24 hx (hb hby at_157) rfl rfl (pc' := 159) rfl ?_
    refine R.bipush X24 hx (hb hby at_159) (v := (9 : Int32)) (by decide) (pc' := 161) rfl ?_
    refine R.ldc2J X24 hx hZ hown w_10 (hb hby at_161) (pc' := 164) rfl ?_
    refine R.lastore X24 hx hZ e24 V_b15 (⟨by decide, by decide⟩ : ¬ (9 : Int32) < 0 ∧ (9 : Int32) < (10 : Int32)) (hb hby at_164) (pc' := 165) rfl ?_; intro T25 h25 X25 e25 W25 V25
    have OL := OL.wr W25 g_b15
    have V_b5 := V_b5.other W25 ne_b5_b15
    have V_b6 := V_b6.other W25 ne_b6_b15
    have V_b8 := V_b8.other W25 ne_b8_b15
    have V_b11 := V_b11.other W25 ne_b11_b15
    have V_b15 : Arh Z h25 b15 k15 .long (10 : Int32) [((9 : Int32), (.long (1000000000 : Int64))), ((8 : Int32), (.long (100000000 : Int64))), ((7 : Int32), (.long (10000000 : Int64))), ((6 : Int32), (.long (1000000 : Int64))), ((5 : Int32), (.long (100000 : Int64))), ((4 : Int32), (.long (10000 : Int64))), ((3 : Int32), (.long (1000 : Int64))), ((2 : Int32), (.long (100 : Int64))), ((1 : Int32), (.long (10 : Int64))), ((0 : Int32), (.long (1 : Int64)))] [] (.long (0 : Int64)) := V25
    have N25 := Fr.snoc X25 N24 g_b15
    have K25 : Keep h0 h25 [] := K24.wr W25 (Or.inr sz_b15)
    have Z25 : n0 ≤ h25.size := Nat.le_trans Z24 (Keep.of_wr W25).1
    have hk := Nat.le_trans hk (Keep.of_wr W25).1
    rcases hq6 with rfl | rfl | rfl | rfl
    · exact rm0_0 l Z aZ hw ws p0 p1 p2 cs dO dT h0 n0 Bd hml hZ X25 e25 N25 K25 Z25 b11 b15 b5 b6 b8 i1 i2 i3 k15 k5 hG OL V_b5 V_b15 ne_b5_b15 g_b5 g_b15 sz_b5 sz_b15 CS FM DG HC b_i1 b_i2 b_i3
    · exact rm0_1 l Z aZ hw ws p0 p1 p2 cs dO dT h0 n0 Bd hml hZ X25 e25 N25 K25 Z25 b11 b15 b5 b6 b8 i1 i2 i3 k15 k6 hG OL V_b6 V_b15 ne_b6_b15 g_b6 g_b15 sz_b6 sz_b15 CS FM DG HC b_i1 b_i2 b_i3
    · exact rm0_2 l Z aZ hw ws p0 p1 p2 cs dO dT h0 n0 Bd hml hZ X25 e25 N25 K25 Z25 b11 b15 b5 b6 b8 i1 i2 i3 k15 k8 hG OL V_b8 V_b15 ne_b8_b15 g_b8 g_b15 sz_b8 sz_b15 CS FM DG HC b_i1 b_i2 b_i3
    · exact rm0_3 l Z aZ hw ws p0 p1 p2 cs dO dT h0 n0 Bd hml hZ X25 e25 N25 K25 Z25 b11 b15 b5 b6 b8 i1 i2 i3 k11 k15 hG OL V_b11 V_b15 ne_b11_b15 g_b11 g_b15 sz_b11 sz_b15 CS FM DG HC b_i1 b_i2 b_i3
  exact (Rn.st (fun t k => castTop (ef_0 m p0 p1 p2) k) first_ : Rn p e below (s₁.setTop (entryFrame m #[(.int p0), (.int p1), (.int p2)] maxLocals)) (Fn0 Z p0 p1 p2 cs dO dT h0 n0 s))
set_option maxRecDepth 65536 in
set_option maxHeartbeats 40000000 in
theorem comes_1 {Post : Tables → Env → Array Value → State → Outcome → State → Prop} (hpost : ∀ tb e args s v u, (limb_1_1.after args s (.returned v) u = true ∧ limb_1_2.after args s (.returned v) u = true ∧ True) → Jvm.Pilot.@@N@@.Jvm.D.FramedW s (.returned v) u (Jvm.fieldLocs frame_1_writes args s ++ Jvm.arrayLocs frame_1_arrays args s ++ Jvm.staticLocs frame_1_statics s) 40 2304 → Post tb e args s (.returned v) u) :
    ArmFor flags0 classFile x code maxLocals ret World_1 tables_1 room_1 Calls_1 rest_1 Pre_1 Post := by
  intro l hfl _ _ p e ha hc hk s m args below hf hA hF happ hP
  obtain ⟨hcalls, hrest, hpre⟩ := hP
  obtain ⟨-, -, -, hnamed, -, -, -, hat⟩ := (Spec.applies_iff hf).mp happ
  obtain ⟨hg, hn⟩ := and_e (Cond.before_iff.mp (show (Jvm.Cond.and given_1 narrow_1).before args s = true from hpre))
  obtain ⟨g1, g2⟩ := and_e hg
  obtain ⟨g3, g4⟩ := and_e g2
  obtain ⟨g5, g6⟩ := and_e g4
  obtain ⟨w0, w1, w2, rfl⟩ : ∃ w0 w1 w2 : Value, args = #[w0, w1, w2] := by
    have hs : args.size = 3 := by simpa [Cond.value, given_1] using g1
    obtain ⟨L⟩ := args
    match L, hs with
    | [w0, w1, w2], _ => exact ⟨w0, w1, w2, rfl⟩
  have hw := fun d (hd : d ∈ tables_1) => atoms_spec (ws := Jvm.Cond.code x code maxLocals ret :: tables_1) hat d (List.mem_cons_of_mem _ hd)
  obtain ⟨hsets, hown0⟩ := atoms_of _ (rest_1_c_eq ▸ (show rest_1_c.before _ s = true from hrest))
  have hr0 := Cond.before_iff.mp hown0
  obtain ⟨dO, dT, DG⟩ := own_dg hsets (hw _ (List.mem_of_getElem? (i := 29) rfl))
  have FM := own_fm hsets
  obtain ⟨cs, ecs⟩ := is_v (Cond.before_iff.mp (hsets _ (List.mem_of_getElem? (i := 1) rfl)))
  have S_CS : Sta s s.heap "java/lang/String" "COMPACT_STRINGS" "Z" (.int cs) := Sta.start ecs (Or.inl (hsets _ (List.mem_of_getElem? (i := 0) rfl)))
  have hcs : ¬ cs = (0 : Int32) := gotF (Cond.eq_ints ecs (Term.int_eval _)) (not_v (Cond.before_iff.mp (hsets _ (List.mem_of_getElem? (i := 2) rfl))))
  have HC0 : CHv s consts_1 s.vm s.heap := CHv.start (own_ew hw) (fun p hp => hcalls.1 p hp) (hsets _ (List.mem_of_getElem? (i := 2) rfl)) (hw _ (List.mem_of_getElem? (i := 29) rfl)) (hw _ (List.mem_of_getElem? (i := 12) rfl))
  obtain ⟨i0, ei0⟩ := is_v g3
  obtain rfl : w0 = (.int i0) := Option.some.inj ei0
  obtain ⟨i1, ei1⟩ := is_v g5
  obtain rfl : w1 = (.int i1) := Option.some.inj ei1
  obtain ⟨i2, ei2⟩ := is_v g6
  obtain rfl : w2 = (.int i2) := Option.some.inj ei2
  obtain ⟨n, o, h1, h2, h3, _, L, rfl, ⟨rfl, N⟩, hq⟩ := rm0 l s _ hw tables_1 i0 i1 i2 cs dO dT s.heap s.heap.size (Nat.le_refl _) (Old.start s) ⟨S_CS, hcs⟩ FM DG p e ha hc hk s m _ below hf ((Spec.applies_iff_loose hf).mp happ).1 ⟨rfl, State.Warmed39.refl s, rfl, HC0, fun x q => nomatch q⟩ trivial
  refine ⟨n, _, h1, h2, h3, hpost _ _ _ _ _ _ ⟨Cond.after_iff.mpr rfl, Cond.after_iff.mpr (eq_i res_at (Term.int_eval (1)) rfl), trivial⟩ ⟨hq.1, hq.2.1, hq.2.2.1, (hq.2.2.2.sift fun y hy => Or.inr (N y hy)).mono (by decide) (by decide)⟩⟩
theorem main_1_1 : Claimed_1_1 := comes_1 fun _ _ _ _ _ _ h hF => ⟨h.1, hF⟩
theorem main_1_2 : Claimed_1_2 := comes_1 fun _ _ _ _ _ _ h hF => ⟨h.2.1, hF⟩
end Jvm.Pilot.@@N@@
namespace Jvm.Pilot.@@N@@
open Jvm Jvm.ClassFile Sem Op Lib Jvm.Free Jvm.Stand Jvm.Pilot.@@N@@.Jvm.D
/-! MADE BY PROGRAM (witnessworld.py) out of the Statement's table words and the real class files: 31 classes; the members and pool entries that the words name. The judged class is class 1, her method 1. -/
namespace start1
open Jvm.ClassFile
def u (s : String) : CpInfo := .utf8 (stringToUtf16 s)
/-- a pool by its gaps: so many unusable entries, then the entry; so many at the end -/
def gap : Nat → List CpInfo → List CpInfo
  | 0, r => r
  | n + 1, r => .unusable :: gap n r
def poolList (es : List (Nat × CpInfo)) (last : Nat) : List CpInfo := es.foldr (fun e r => gap e.1 (e.2 :: r)) (gap last [])
def pool (es : List (Nat × CpInfo)) (last : Nat) : Array CpInfo := ⟨poolList es last⟩
def fileOf (pool : Array CpInfo) (this : Nat) (attrs : Array Attribute := #[]) (ms : Array MethodInfo := #[]) (fl : Nat := 33) (sup : Nat := 0) (ifs : Array Nat := #[]) (fds : Array FieldInfo := #[]) : ClassFile where
  minorVersion := 0
  majorVersion := 65
  constantPool := pool
  accessFlags := fl
  thisClass := this
  superClass := sup
  interfaces := ifs
  fields := fds
  methods := ms
  attributes := attrs
def plain (name : String) (sup : Option ClassId) : Class where
  name := name
  kind := .ordinary
  loader := none
  accessFlags := 33
  super := sup
  interfaces := #[]
  cf := none
  fields := #[]
  methods := #[]
  instanceTypes := #[]
  staticTypes := #[]
  resolved := #[]
  callSites := []
  init := .initialized
  statics := none
  mirror := none

def pool0 : Array CpInfo := pool [(5, u "<init>"), (0, u "()V"), (1, .class_ 10), (1, u "java/lang/Object")] 113

def k0c0 : Code := { maxStack := 0, maxLocals := 1, code := object_method_1_code, exceptionTable := #[], attributes := #[] }
def k0m0 : Method := { name := "<init>", desc := "()V", sig := { parameters := [], returnType := none }, accessFlags := 1, code := some k0c0 }
/-- java/lang/Object -/
def k0 : Class := { plain "java/lang/Object" none with
  accessFlags := 33
  interfaces := #[]
  cf := some (fileOf pool0 8 #[] #[{ accessFlags := 1, nameIndex := 5, descriptorIndex := 6, attributes := #[] }] 33 0 #[] #[])
  fields := #[]
  methods := #[k0m0]
  instanceTypes := #[]
  staticTypes := #[]
  resolved := Array.replicate 124 none
  statics := none }

def pool1 : Array CpInfo := pool [(2, .class_ 4), (1, u "java/lang/Object"), (0, u "<init>"), (0, u "()V"), (0, .long 10), (1, .long 100), (1, .long 1000), (1, .long 10000), (1, .long 100000), (1, .long 1000000), (1, .long 10000000), (1, .long 100000000), (1, .long 1000000000), (1, .class_ 26), (0, u "java/lang/String"), (0, .methodref 25 28), (0, .nameAndType 5 29), (0, u "([C)V"), (0, .class_ 31), (0, u "com/example/apportion/apportion/jsonl/LedgerFiles$Place"), (0, .methodref 30 33), (0, .nameAndType 5 34), (0, u "(Ljava/lang/String;I)V"), (0, .methodref 30 36), (0, .nameAndType 37 38), (0, u "toString"), (0, u "()Ljava/lang/String;"), (0, .methodref 40 41), (0, .class_ 42), (0, .nameAndType 43 44), (0, u "java/lang/Math"), (0, u "abs"), (0, u "(J)J"), (0, .methodref 46 47), (0, .class_ 48), (0, .nameAndType 49 50), (0, u "com/example/apportion/apportion/jsonl/PlaceToStringPinLaw"), (0, u "digits"), (0, u "(J)I"), (0, .methodref 25 52), (0, .nameAndType 53 54), (0, u "length"), (0, u "()I"), (0, .methodref 25 56), (0, .nameAndType 57 58), (0, u "charAt"), (0, u "(I)C"), (0, .methodref 46 60), (0, .nameAndType 61 62), (0, u "digitOk"), (0, u "(Ljava/lang/String;IIIJ[J)Z"), (2, u "law"), (0, u "(III)Z")] 11

def k1m0 : Method := { name := "<init>", desc := "()V", sig := { parameters := [], returnType := none }, accessFlags := 1, code := none }
def k1c1 : Code := { maxStack := 7, maxLocals := 20, code := code, exceptionTable := #[], attributes := #[] }
def k1m1 : Method := { name := "law", desc := "(III)Z", sig := { parameters := [.int, .int, .int], returnType := some .boolean }, accessFlags := 9, code := some k1c1 }
def k1c2 : Code := { maxStack := 4, maxLocals := 2, code := method_3_code, exceptionTable := #[], attributes := #[] }
def k1m2 : Method := { name := "digits", desc := "(J)I", sig := { parameters := [.long], returnType := some .int }, accessFlags := 10, code := some k1c2 }
def k1c3 : Code := { maxStack := 5, maxLocals := 9, code := method_4_code, exceptionTable := #[], attributes := #[] }
def k1m3 : Method := { name := "digitOk", desc := "(Ljava/lang/String;IIIJ[J)Z", sig := { parameters := [(.object "java/lang/String"), .int, .int, .int, .long, (.array .long)], returnType := some .boolean }, accessFlags := 10, code := some k1c3 }
/-- com/example/apportion/apportion/jsonl/PlaceToStringPinLaw -/
def k1 : Class := { plain "com/example/apportion/apportion/jsonl/PlaceToStringPinLaw" (some 0) with
  accessFlags := 49
  interfaces := #[]
  cf := some (fileOf pool1 46 #[] #[{ accessFlags := 1, nameIndex := 5, descriptorIndex := 6, attributes := #[] }, { accessFlags := 9, nameIndex := 65, descriptorIndex := 66, attributes := #[] }, { accessFlags := 10, nameIndex := 49, descriptorIndex := 50, attributes := #[] }, { accessFlags := 10, nameIndex := 61, descriptorIndex := 62, attributes := #[] }] 49 2 #[] #[])
  fields := #[]
  methods := #[k1m0, k1m1, k1m2, k1m3]
  instanceTypes := #[]
  staticTypes := #[]
  resolved := Array.replicate 78 none
  statics := none }

def pool2 : Array CpInfo := pool [(1, .class_ 2), (0, u "java/io/Serializable"), (0, .class_ 4), (0, u "java/lang/Object")] 2

/-- java/io/Serializable -/
def k2 : Class := { plain "java/io/Serializable" (some 0) with
  accessFlags := 1537
  interfaces := #[]
  cf := some (fileOf pool2 1 #[] #[] 1537 3 #[] #[])
  fields := #[]
  methods := #[]
  instanceTypes := #[]
  staticTypes := #[]
  resolved := Array.replicate 7 none
  statics := none }

def pool3 : Array CpInfo := pool [(1, .class_ 2), (0, u "java/lang/Comparable"), (0, .class_ 4), (0, u "java/lang/Object")] 7

/-- java/lang/Comparable -/
def k3 : Class := { plain "java/lang/Comparable" (some 0) with
  accessFlags := 1537
  interfaces := #[]
  cf := some (fileOf pool3 1 #[] #[] 1537 3 #[] #[])
  fields := #[]
  methods := #[]
  instanceTypes := #[]
  staticTypes := #[]
  resolved := Array.replicate 12 none
  statics := none }

def pool4 : Array CpInfo := pool [(2, .class_ 4), (1, u "java/lang/CharSequence"), (42, .class_ 48), (0, u "java/lang/CharSequence$1CodePointIterator"), (10, .class_ 60), (0, u "java/lang/CharSequence$1CharIterator"), (5, .class_ 67), (0, u "java/lang/Object")] 63

/-- java/lang/CharSequence -/
def k4 : Class := { plain "java/lang/CharSequence" (some 0) with
  accessFlags := 1537
  interfaces := #[]
  cf := some (fileOf pool4 2 #[.nestMembers #[47, 59]] #[] 1537 66 #[] #[])
  fields := #[]
  methods := #[]
  instanceTypes := #[]
  staticTypes := #[]
  resolved := Array.replicate 131 none
  statics := none }

def pool5 : Array CpInfo := pool [(1, .class_ 2), (0, u "java/lang/constant/Constable"), (0, .class_ 4), (0, u "java/lang/Object")] 6

/-- java/lang/constant/Constable -/
def k5 : Class := { plain "java/lang/constant/Constable" (some 0) with
  accessFlags := 1537
  interfaces := #[]
  cf := some (fileOf pool5 1 #[] #[] 1537 3 #[] #[])
  fields := #[]
  methods := #[]
  instanceTypes := #[]
  staticTypes := #[]
  resolved := Array.replicate 11 none
  statics := none }

def pool6 : Array CpInfo := pool [(1, .class_ 2), (0, u "java/lang/constant/ConstantDesc"), (0, .class_ 4), (0, u "java/lang/Object")] 32

/-- java/lang/constant/ConstantDesc -/
def k6 : Class := { plain "java/lang/constant/ConstantDesc" (some 0) with
  accessFlags := 1537
  interfaces := #[]
  cf := some (fileOf pool6 1 #[] #[] 1537 3 #[] #[])
  fields := #[]
  methods := #[]
  instanceTypes := #[]
  staticTypes := #[]
  resolved := Array.replicate 37 none
  statics := none }

def pool7 : Array CpInfo := pool [(1, .methodref 2 3), (0, .class_ 4), (0, .nameAndType 5 6), (0, u "java/lang/Object"), (0, u "<init>"), (0, u "()V"), (0, .string 8), (0, u ""), (0, .fieldref 10 11), (0, .class_ 12), (0, .nameAndType 13 14), (0, u "java/lang/String"), (0, u "value"), (0, u "[B"), (0, .fieldref 10 16), (0, .nameAndType 17 18), (0, u "coder"), (0, u "B"), (2, u "hash"), (0, u "I"), (2, u "hashIsZero"), (0, u "Z"), (0, .methodref 10 28), (0, .nameAndType 5 29), (0, u "([CIILjava/lang/Void;)V"), (8, .fieldref 10 39), (0, .nameAndType 40 26), (0, u "COMPACT_STRINGS"), (1, .class_ 44), (1, u "java/lang/StringUTF16"), (0, u "compress"), (1, .methodref 42 48), (0, .nameAndType 49 50), (0, u "coderFromArrayLen"), (0, u "([BI)B"), (3, .methodref 55 56), (0, .class_ 57), (0, .nameAndType 58 59), (0, u "java/util/Arrays"), (0, u "copyOfRange"), (0, u "([BII)[B"), (47, .class_ 109), (1, u "java/lang/StringLatin1"), (32, u "()Z"), (34, .methodref 42 178), (0, .nameAndType 45 179), (0, u "([CII)[B"), (13, .class_ 195), (1, u "java/lang/System"), (16, .methodref 193 213), (0, .nameAndType 214 215), (0, u "arraycopy"), (0, u "(Ljava/lang/Object;ILjava/lang/Object;II)V"), (118, u "()I"), (0, .methodref 10 336), (0, .nameAndType 17 337), (0, u "()B"), (2, u "()[B"), (22, u "([BI)C"), (27, u "(II)V"), (35, u "(I)C"), (61, .methodref 10 490), (0, .nameAndType 5 491), (0, u "(Ljava/lang/AbstractStringBuilder;Ljava/lang/Void;)V"), (0, .methodref 10 493), (0, .nameAndType 494 142), (0, u "isLatin1"), (0, .methodref 107 496), (0, .nameAndType 497 363), (0, u "charAt"), (3, u "checkIndex"), (4, .nameAndType 507 334), (0, u "length"), (24, u "getBytes"), (16, .methodref 550 506), (0, .class_ 551), (0, u "java/lang/AbstractStringBuilder"), (0, .methodref 550 553), (0, .nameAndType 554 340), (0, u "getValue"), (20, .class_ 576), (0, u "java/lang/CharSequence"), (22, u "CASE_INSENSITIVE_ORDER"), (0, u "Ljava/util/Comparator;"), (220, u "([BIB)V"), (188, u "([C)V"), (36, .methodref 550 493), (5, .fieldref 1054 1055), (0, .class_ 1056), (0, .nameAndType 1057 1058), (0, u "jdk/internal/util/Preconditions"), (0, u "SIOOBE_FORMATTER"), (0, u "Ljava/util/function/BiFunction;"), (0, .methodref 1054 1060), (0, .nameAndType 501 1061), (0, u "(IILjava/util/function/BiFunction;)I"), (39, u "serialPersistentFields"), (0, u "[Ljava/io/ObjectStreamField;"), (0, .class_ 1104), (0, u "java/lang/String$CaseInsensitiveComparator"), (1, .class_ 1107), (0, u "java/io/Serializable"), (0, .class_ 1109), (0, u "java/lang/Comparable"), (0, .class_ 1111), (0, u "java/lang/constant/Constable"), (0, .class_ 1113), (0, u "java/lang/constant/ConstantDesc"), (2, u "serialVersionUID"), (0, u "J"), (3, u "REPL"), (0, u "C"), (2, u "LATIN1"), (1, u "UTF16"), (105, u "(Ljava/lang/StringBuilder;)V")] 217

def k7m0 : Method := { name := "<init>", desc := "()V", sig := { parameters := [], returnType := none }, accessFlags := 1, code := none }
def k7c1 : Code := { maxStack := 5, maxLocals := 2, code := jdk_42_method_3_code, exceptionTable := #[], attributes := #[] }
def k7m1 : Method := { name := "<init>", desc := "([C)V", sig := { parameters := [(.array .char)], returnType := none }, accessFlags := 1, code := some k7c1 }
def k7c2 : Code := { maxStack := 3, maxLocals := 2, code := jdk_42_method_53_code, exceptionTable := #[], attributes := #[] }
def k7m2 : Method := { name := "<init>", desc := "(Ljava/lang/StringBuilder;)V", sig := { parameters := [(.object "java/lang/StringBuilder")], returnType := none }, accessFlags := 1, code := some k7c2 }
def k7c3 : Code := { maxStack := 2, maxLocals := 1, code := jdk_42_method_54_code, exceptionTable := #[], attributes := #[] }
def k7m3 : Method := { name := "length", desc := "()I", sig := { parameters := [], returnType := some .int }, accessFlags := 1, code := some k7c3 }
def k7c4 : Code := { maxStack := 2, maxLocals := 2, code := jdk_42_method_56_code, exceptionTable := #[], attributes := #[] }
def k7m4 : Method := { name := "charAt", desc := "(I)C", sig := { parameters := [.int], returnType := some .char }, accessFlags := 1, code := some k7c4 }
def k7c5 : Code := { maxStack := 5, maxLocals := 4, code := jdk_42_method_147_code, exceptionTable := #[], attributes := #[] }
def k7m5 : Method := { name := "getBytes", desc := "([BIB)V", sig := { parameters := [(.array .byte), .int, .byte], returnType := none }, accessFlags := 0, code := some k7c5 }
def k7c6 : Code := { maxStack := 4, maxLocals := 6, code := jdk_42_method_149_code, exceptionTable := #[], attributes := #[] }
def k7m6 : Method := { name := "<init>", desc := "([CIILjava/lang/Void;)V", sig := { parameters := [(.array .char), .int, .int, (.object "java/lang/Void")], returnType := none }, accessFlags := 2, code := some k7c6 }
def k7c7 : Code := { maxStack := 5, maxLocals := 5, code := jdk_42_method_150_code, exceptionTable := #[], attributes := #[] }
def k7m7 : Method := { name := "<init>", desc := "(Ljava/lang/AbstractStringBuilder;Ljava/lang/Void;)V", sig := { parameters := [(.object "java/lang/AbstractStringBuilder"), (.object "java/lang/Void")], returnType := none }, accessFlags := 0, code := some k7c7 }
def k7c8 : Code := { maxStack := 1, maxLocals := 1, code := jdk_42_method_152_code, exceptionTable := #[], attributes := #[] }
def k7m8 : Method := { name := "coder", desc := "()B", sig := { parameters := [], returnType := some .byte }, accessFlags := 0, code := some k7c8 }
def k7c9 : Code := { maxStack := 1, maxLocals := 1, code := jdk_42_method_154_code, exceptionTable := #[], attributes := #[] }
def k7m9 : Method := { name := "isLatin1", desc := "()Z", sig := { parameters := [], returnType := some .boolean }, accessFlags := 0, code := some k7c9 }
def k7c10 : Code := { maxStack := 3, maxLocals := 2, code := jdk_42_method_155_code, exceptionTable := #[], attributes := #[] }
def k7m10 : Method := { name := "checkIndex", desc := "(II)V", sig := { parameters := [.int, .int], returnType := none }, accessFlags := 8, code := some k7c10 }
/-- java/lang/String -/
def k7 : Class := { plain "java/lang/String" (some 0) with
  accessFlags := 49
  interfaces := #[2, 3, 4, 5, 6]
  cf := some (fileOf pool7 10 #[.nestMembers #[1103]] #[{ accessFlags := 1, nameIndex := 5, descriptorIndex := 6, attributes := #[] }, { accessFlags := 1, nameIndex := 5, descriptorIndex := 1010, attributes := #[] }, { accessFlags := 1, nameIndex := 5, descriptorIndex := 1233, attributes := #[] }, { accessFlags := 1, nameIndex := 507, descriptorIndex := 334, attributes := #[] }, { accessFlags := 1, nameIndex := 497, descriptorIndex := 427, attributes := #[] }, { accessFlags := 0, nameIndex := 532, descriptorIndex := 821, attributes := #[] }, { accessFlags := 2, nameIndex := 5, descriptorIndex := 29, attributes := #[] }, { accessFlags := 0, nameIndex := 5, descriptorIndex := 491, attributes := #[] }, { accessFlags := 0, nameIndex := 17, descriptorIndex := 337, attributes := #[] }, { accessFlags := 0, nameIndex := 494, descriptorIndex := 142, attributes := #[] }, { accessFlags := 8, nameIndex := 501, descriptorIndex := 391, attributes := #[] }] 49 2 #[1106, 1108, 575, 1110, 1112] #[{ accessFlags := 18, nameIndex := 13, descriptorIndex := 14, attributes := #[] }, { accessFlags := 18, nameIndex := 17, descriptorIndex := 18, attributes := #[] }, { accessFlags := 2, nameIndex := 21, descriptorIndex := 22, attributes := #[] }, { accessFlags := 2, nameIndex := 25, descriptorIndex := 26, attributes := #[] }, { accessFlags := 26, nameIndex := 1116, descriptorIndex := 1117, attributes := #[] }, { accessFlags := 24, nameIndex := 40, descriptorIndex := 26, attributes := #[] }, { accessFlags := 26, nameIndex := 1101, descriptorIndex := 1102, attributes := #[] }, { accessFlags := 26, nameIndex := 1121, descriptorIndex := 1122, attributes := #[] }, { accessFlags := 25, nameIndex := 599, descriptorIndex := 600, attributes := #[] }, { accessFlags := 24, nameIndex := 1125, descriptorIndex := 18, attributes := #[] }, { accessFlags := 24, nameIndex := 1127, descriptorIndex := 18, attributes := #[] }])
  fields := #[{ name := "value", type := (.array .byte), accessFlags := 18, slot := 0, constantValue := 0 }, { name := "coder", type := .byte, accessFlags := 18, slot := 1, constantValue := 0 }, { name := "hash", type := .int, accessFlags := 2, slot := 2, constantValue := 0 }, { name := "hashIsZero", type := .boolean, accessFlags := 2, slot := 3, constantValue := 0 }, { name := "serialVersionUID", type := .long, accessFlags := 26, slot := 0, constantValue := 0 }, { name := "COMPACT_STRINGS", type := .boolean, accessFlags := 24, slot := 1, constantValue := 0 }, { name := "serialPersistentFields", type := (.array (.object "java/io/ObjectStreamField")), accessFlags := 26, slot := 2, constantValue := 0 }, { name := "REPL", type := .char, accessFlags := 26, slot := 3, constantValue := 0 }, { name := "CASE_INSENSITIVE_ORDER", type := (.object "java/util/Comparator"), accessFlags := 25, slot := 4, constantValue := 0 }, { name := "LATIN1", type := .byte, accessFlags := 24, slot := 5, constantValue := 0 }, { name := "UTF16", type := .byte, accessFlags := 24, slot := 6, constantValue := 0 }]
  methods := #[k7m0, k7m1, k7m2, k7m3, k7m4, k7m5, k7m6, k7m7, k7m8, k7m9, k7m10]
  instanceTypes := #[(.array .byte), .byte, .int, .boolean]
  staticTypes := #[.long, .boolean, (.array (.object "java/io/ObjectStreamField")), .char, (.object "java/util/Comparator"), .byte, .byte]
  resolved := Array.replicate 1451 none
  statics := some 0 }

def pool8 : Array CpInfo := pool [(6, .class_ 8), (1, u "java/lang/Object"), (0, u "<init>"), (0, u "()V"), (1, .class_ 14), (1, u "java/lang/StringUTF16"), (31, u "$assertionsDisabled"), (0, u "Z"), (13, u "HI_BYTE_SHIFT"), (0, u "I"), (2, u "LO_BYTE_SHIFT"), (49, .methodref 12 116), (0, .nameAndType 117 118), (0, u "compress"), (0, u "([CI[BII)I"), (3, u "([CII)[B"), (138, u "coderFromArrayLen"), (0, u "([BI)B"), (106, .class_ 371), (1, u "java/lang/StringUTF16$LinesSpliterator"), (58, u "MAX_LENGTH"), (196, .class_ 628), (0, u "java/lang/StringUTF16$CodePointsSpliterator"), (0, .class_ 630), (0, u "java/lang/StringUTF16$CharsSpliterator")] 4

def k8m0 : Method := { name := "<init>", desc := "()V", sig := { parameters := [], returnType := none }, accessFlags := 0, code := none }
def k8c1 : Code := { maxStack := 2, maxLocals := 2, code := jdk_52_method_15_code, exceptionTable := #[], attributes := #[] }
def k8m1 : Method := { name := "coderFromArrayLen", desc := "([BI)B", sig := { parameters := [(.array .byte), .int], returnType := some .byte }, accessFlags := 8, code := some k8c1 }
def k8c2 : Code := { maxStack := 5, maxLocals := 6, code := jdk_52_method_16_code, exceptionTable := #[], attributes := #[] }
def k8m2 : Method := { name := "compress", desc := "([CII)[B", sig := { parameters := [(.array .char), .int, .int], returnType := some (.array .byte) }, accessFlags := 9, code := some k8c2 }
def k8c3 : Code := { maxStack := 3, maxLocals := 7, code := jdk_52_method_21_code, exceptionTable := #[], attributes := #[] }
def k8m3 : Method := { name := "compress", desc := "([CI[BII)I", sig := { parameters := [(.array .char), .int, (.array .byte), .int, .int], returnType := some .int }, accessFlags := 9, code := some k8c3 }
/-- java/lang/StringUTF16 -/
def k8 : Class := { plain "java/lang/StringUTF16" (some 0) with
  accessFlags := 48
  interfaces := #[]
  cf := some (fileOf pool8 12 #[.nestMembers #[627, 629, 369]] #[{ accessFlags := 0, nameIndex := 9, descriptorIndex := 10, attributes := #[] }, { accessFlags := 8, nameIndex := 261, descriptorIndex := 262, attributes := #[] }, { accessFlags := 9, nameIndex := 117, descriptorIndex := 122, attributes := #[] }, { accessFlags := 9, nameIndex := 117, descriptorIndex := 118, attributes := #[] }] 48 6 #[] #[{ accessFlags := 26, nameIndex := 61, descriptorIndex := 62, attributes := #[] }, { accessFlags := 26, nameIndex := 65, descriptorIndex := 62, attributes := #[] }, { accessFlags := 24, nameIndex := 430, descriptorIndex := 62, attributes := #[] }, { accessFlags := 4120, nameIndex := 46, descriptorIndex := 47, attributes := #[] }])
  fields := #[{ name := "HI_BYTE_SHIFT", type := .int, accessFlags := 26, slot := 0, constantValue := 0 }, { name := "LO_BYTE_SHIFT", type := .int, accessFlags := 26, slot := 1, constantValue := 0 }, { name := "MAX_LENGTH", type := .int, accessFlags := 24, slot := 2, constantValue := 0 }, { name := "$assertionsDisabled", type := .boolean, accessFlags := 4120, slot := 3, constantValue := 0 }]
  methods := #[k8m0, k8m1, k8m2, k8m3]
  instanceTypes := #[]
  staticTypes := #[.int, .int, .int, .boolean]
  resolved := Array.replicate 635 none
  statics := none }

def pool9 : Array CpInfo := pool [(1, .methodref 2 3), (0, .class_ 4), (0, .nameAndType 5 6), (0, u "java/lang/Object"), (0, u "<init>"), (0, u "()V"), (0, .class_ 8), (0, u "java/lang/Record")] 13

def k9c0 : Code := { maxStack := 1, maxLocals := 1, code := jdk_30_method_1_code, exceptionTable := #[], attributes := #[] }
def k9m0 : Method := { name := "<init>", desc := "()V", sig := { parameters := [], returnType := none }, accessFlags := 4, code := some k9c0 }
/-- java/lang/Record -/
def k9 : Class := { plain "java/lang/Record" (some 0) with
  accessFlags := 1057
  interfaces := #[]
  cf := some (fileOf pool9 7 #[] #[{ accessFlags := 4, nameIndex := 5, descriptorIndex := 6, attributes := #[] }] 1057 2 #[] #[])
  fields := #[]
  methods := #[k9m0]
  instanceTypes := #[]
  staticTypes := #[]
  resolved := Array.replicate 22 none
  statics := none }

def pool10 : Array CpInfo := pool [(1, .methodref 2 3), (0, .class_ 4), (0, .nameAndType 5 6), (0, u "java/lang/Record"), (0, u "<init>"), (0, u "()V"), (0, .fieldref 8 9), (0, .class_ 10), (0, .nameAndType 11 12), (0, u "com/example/apportion/apportion/jsonl/LedgerFiles$Place"), (0, u "file"), (0, u "Ljava/lang/String;"), (0, .fieldref 8 14), (0, .nameAndType 15 16), (0, u "line"), (0, u "I"), (0, .class_ 18), (0, u "java/lang/StringBuilder"), (0, .methodref 17 3), (0, .methodref 17 21), (0, .nameAndType 22 23), (0, u "append"), (0, u "(Ljava/lang/String;)Ljava/lang/StringBuilder;"), (0, .string 25), (0, u ":"), (0, .methodref 17 27), (0, .nameAndType 22 28), (0, u "(I)Ljava/lang/StringBuilder;"), (0, .methodref 17 30), (0, .nameAndType 31 32), (0, u "toString"), (0, u "()Ljava/lang/String;"), (8, u "(Ljava/lang/String;I)V"), (8, .class_ 51), (0, u "com/example/apportion/apportion/jsonl/LedgerFiles")] 20

def k10c0 : Code := { maxStack := 2, maxLocals := 3, code := prog_52_method_1_code, exceptionTable := #[], attributes := #[] }
def k10m0 : Method := { name := "<init>", desc := "(Ljava/lang/String;I)V", sig := { parameters := [(.object "java/lang/String"), .int], returnType := none }, accessFlags := 0, code := some k10c0 }
def k10c1 : Code := { maxStack := 2, maxLocals := 1, code := prog_52_method_2_code, exceptionTable := #[], attributes := #[] }
def k10m1 : Method := { name := "toString", desc := "()Ljava/lang/String;", sig := { parameters := [], returnType := some (.object "java/lang/String") }, accessFlags := 1, code := some k10c1 }
/-- com/example/apportion/apportion/jsonl/LedgerFiles$Place -/
def k10 : Class := { plain "com/example/apportion/apportion/jsonl/LedgerFiles$Place" (some 9) with
  accessFlags := 48
  interfaces := #[]
  cf := some (fileOf pool10 8 #[.nestHost 50] #[{ accessFlags := 0, nameIndex := 5, descriptorIndex := 41, attributes := #[] }, { accessFlags := 1, nameIndex := 31, descriptorIndex := 32, attributes := #[] }] 48 2 #[] #[{ accessFlags := 18, nameIndex := 11, descriptorIndex := 12, attributes := #[] }, { accessFlags := 18, nameIndex := 15, descriptorIndex := 16, attributes := #[] }])
  fields := #[{ name := "file", type := (.object "java/lang/String"), accessFlags := 18, slot := 0, constantValue := 0 }, { name := "line", type := .int, accessFlags := 18, slot := 1, constantValue := 0 }]
  methods := #[k10m0, k10m1]
  instanceTypes := #[(.object "java/lang/String"), .int]
  staticTypes := #[]
  resolved := Array.replicate 72 none
  statics := none }

def pool11 : Array CpInfo := pool [(1, .class_ 2), (0, u "java/lang/Appendable"), (0, .class_ 4), (0, u "java/lang/Object")] 9

/-- java/lang/Appendable -/
def k11 : Class := { plain "java/lang/Appendable" (some 0) with
  accessFlags := 1537
  interfaces := #[]
  cf := some (fileOf pool11 1 #[] #[] 1537 3 #[] #[])
  fields := #[]
  methods := #[]
  instanceTypes := #[]
  staticTypes := #[]
  resolved := Array.replicate 14 none
  statics := none }

def pool12 : Array CpInfo := pool [(1, .class_ 2), (0, u "java/lang/String"), (0, .methodref 4 5), (0, .class_ 6), (0, .nameAndType 7 8), (0, u "java/lang/Object"), (0, u "<init>"), (0, u "()V"), (1, .class_ 12), (1, u "java/lang/AbstractStringBuilder"), (0, u "EMPTYVALUE"), (0, u "[B"), (0, .fieldref 10 16), (0, .nameAndType 17 14), (0, u "value"), (0, .fieldref 1 19), (0, .nameAndType 20 21), (0, u "COMPACT_STRINGS"), (0, u "Z"), (0, .fieldref 10 23), (0, .nameAndType 24 25), (0, u "coder"), (0, u "B"), (6, .methodref 1 33), (0, .nameAndType 34 35), (0, u "length"), (0, u "()I"), (0, .class_ 37), (0, u "java/lang/Integer"), (2, .methodref 1 41), (0, .nameAndType 24 42), (0, u "()B"), (2, u "append"), (0, u "(Ljava/lang/String;)Ljava/lang/AbstractStringBuilder;"), (1, .class_ 49), (0, u "java/lang/CharSequence"), (19, u "(Ljava/lang/String;)V"), (5, u "maybeLatin1"), (3, .fieldref 10 80), (0, .nameAndType 81 82), (0, u "count"), (0, u "I"), (0, .methodref 10 84), (0, .nameAndType 85 86), (0, u "isLatin1"), (0, u "()Z"), (13, .methodref 10 101), (0, .nameAndType 102 103), (0, u "ensureCapacityInternal"), (0, u "(I)V"), (3, u "(I)I"), (80, u "getChars"), (19, .methodref 10 209), (0, .nameAndType 210 211), (0, u "putStringAt"), (0, u "(ILjava/lang/String;)V"), (5, u "inflateIfNeededFor"), (2, .nameAndType 221 222), (0, u "getBytes"), (0, u "([BIB)V"), (22, .methodref 36 246), (0, .nameAndType 247 107), (0, u "stringSize"), (0, .methodref 36 249), (0, .nameAndType 188 250), (0, u "(II[B)I"), (146, .methodref 10 398), (0, .nameAndType 217 69), (0, .methodref 1 220), (3, u "()[B"), (40, .class_ 445), (0, u "java/lang/Appendable"), (65, u "(I)Ljava/lang/AbstractStringBuilder;"), (40, u "getValue")] 56

def k12m0 : Method := { name := "<init>", desc := "()V", sig := { parameters := [], returnType := none }, accessFlags := 0, code := none }
def k12c1 : Code := { maxStack := 2, maxLocals := 2, code := jdk_68_method_2_code, exceptionTable := #[], attributes := #[] }
def k12m1 : Method := { name := "<init>", desc := "(I)V", sig := { parameters := [.int], returnType := none }, accessFlags := 0, code := some k12c1 }
def k12c2 : Code := { maxStack := 1, maxLocals := 1, code := jdk_68_method_6_code, exceptionTable := #[], attributes := #[] }
def k12m2 : Method := { name := "length", desc := "()I", sig := { parameters := [], returnType := some .int }, accessFlags := 1, code := some k12c2 }
def k12c3 : Code := { maxStack := 4, maxLocals := 3, code := jdk_68_method_9_code, exceptionTable := #[], attributes := #[] }
def k12m3 : Method := { name := "ensureCapacityInternal", desc := "(I)V", sig := { parameters := [.int], returnType := none }, accessFlags := 2, code := some k12c3 }
def k12c4 : Code := { maxStack := 3, maxLocals := 3, code := jdk_68_method_22_code, exceptionTable := #[], attributes := #[] }
def k12m4 : Method := { name := "append", desc := "(Ljava/lang/String;)Ljava/lang/AbstractStringBuilder;", sig := { parameters := [(.object "java/lang/String")], returnType := some (.object "java/lang/AbstractStringBuilder") }, accessFlags := 1, code := some k12c4 }
def k12c5 : Code := { maxStack := 4, maxLocals := 4, code := jdk_68_method_32_code, exceptionTable := #[], attributes := #[] }
def k12m5 : Method := { name := "append", desc := "(I)Ljava/lang/AbstractStringBuilder;", sig := { parameters := [.int], returnType := some (.object "java/lang/AbstractStringBuilder") }, accessFlags := 1, code := some k12c5 }
def k12c6 : Code := { maxStack := 1, maxLocals := 1, code := jdk_68_method_64_code, exceptionTable := #[], attributes := #[] }
def k12m6 : Method := { name := "getValue", desc := "()[B", sig := { parameters := [], returnType := some (.array .byte) }, accessFlags := 16, code := some k12c6 }
def k12c7 : Code := { maxStack := 1, maxLocals := 1, code := jdk_68_method_68_code, exceptionTable := #[], attributes := #[] }
def k12m7 : Method := { name := "isLatin1", desc := "()Z", sig := { parameters := [], returnType := some .boolean }, accessFlags := 16, code := some k12c7 }
def k12c8 : Code := { maxStack := 2, maxLocals := 2, code := jdk_68_method_71_code, exceptionTable := #[], attributes := #[] }
def k12m8 : Method := { name := "inflateIfNeededFor", desc := "(Ljava/lang/String;)V", sig := { parameters := [(.object "java/lang/String")], returnType := none }, accessFlags := 2, code := some k12c8 }
def k12c9 : Code := { maxStack := 4, maxLocals := 3, code := jdk_68_method_73_code, exceptionTable := #[], attributes := #[] }
def k12m9 : Method := { name := "putStringAt", desc := "(ILjava/lang/String;)V", sig := { parameters := [.int, (.object "java/lang/String")], returnType := none }, accessFlags := 2, code := some k12c9 }
/-- java/lang/AbstractStringBuilder -/
def k12 : Class := { plain "java/lang/AbstractStringBuilder" (some 0) with
  accessFlags := 1056
  interfaces := #[11, 4]
  cf := some (fileOf pool12 10 #[] #[{ accessFlags := 0, nameIndex := 7, descriptorIndex := 8, attributes := #[] }, { accessFlags := 0, nameIndex := 7, descriptorIndex := 103, attributes := #[] }, { accessFlags := 1, nameIndex := 34, descriptorIndex := 35, attributes := #[] }, { accessFlags := 2, nameIndex := 102, descriptorIndex := 103, attributes := #[] }, { accessFlags := 1, nameIndex := 45, descriptorIndex := 46, attributes := #[] }, { accessFlags := 1, nameIndex := 45, descriptorIndex := 511, attributes := #[] }, { accessFlags := 16, nameIndex := 552, descriptorIndex := 403, attributes := #[] }, { accessFlags := 16, nameIndex := 85, descriptorIndex := 86, attributes := #[] }, { accessFlags := 2, nameIndex := 217, descriptorIndex := 69, attributes := #[] }, { accessFlags := 2, nameIndex := 210, descriptorIndex := 211, attributes := #[] }] 1056 4 #[444, 48] #[{ accessFlags := 0, nameIndex := 17, descriptorIndex := 14, attributes := #[] }, { accessFlags := 0, nameIndex := 24, descriptorIndex := 25, attributes := #[] }, { accessFlags := 0, nameIndex := 75, descriptorIndex := 21, attributes := #[] }, { accessFlags := 0, nameIndex := 81, descriptorIndex := 82, attributes := #[] }, { accessFlags := 26, nameIndex := 13, descriptorIndex := 14, attributes := #[] }])
  fields := #[{ name := "value", type := (.array .byte), accessFlags := 0, slot := 0, constantValue := 0 }, { name := "coder", type := .byte, accessFlags := 0, slot := 1, constantValue := 0 }, { name := "maybeLatin1", type := .boolean, accessFlags := 0, slot := 2, constantValue := 0 }, { name := "count", type := .int, accessFlags := 0, slot := 3, constantValue := 0 }, { name := "EMPTYVALUE", type := (.array .byte), accessFlags := 26, slot := 0, constantValue := 0 }]
  methods := #[k12m0, k12m1, k12m2, k12m3, k12m4, k12m5, k12m6, k12m7, k12m8, k12m9]
  instanceTypes := #[(.array .byte), .byte, .boolean, .int]
  staticTypes := #[(.array .byte)]
  resolved := Array.replicate 609 none
  statics := none }

def pool13 : Array CpInfo := pool [(1, .methodref 2 3), (0, .class_ 4), (0, .nameAndType 5 6), (0, u "java/lang/AbstractStringBuilder"), (0, u "<init>"), (0, u "(I)V"), (11, .class_ 20), (1, u "java/lang/String"), (3, .class_ 26), (1, u "java/lang/StringBuilder"), (0, u "append"), (0, u "(Ljava/lang/String;)Ljava/lang/StringBuilder;"), (0, .methodref 2 30), (0, .nameAndType 27 31), (0, u "(Ljava/lang/String;)Ljava/lang/AbstractStringBuilder;"), (21, .methodref 2 54), (0, .nameAndType 27 55), (0, u "(I)Ljava/lang/AbstractStringBuilder;"), (81, .methodref 18 138), (0, .nameAndType 5 139), (0, u "(Ljava/lang/StringBuilder;)V"), (5, u "()V"), (10, u "()I"), (111, u "(I)Ljava/lang/StringBuilder;"), (74, .methodref 2 344), (0, .nameAndType 345 156), (0, u "length"), (3, .class_ 350), (0, u "java/lang/Appendable"), (0, .class_ 352), (0, u "java/io/Serializable"), (0, .class_ 354), (0, u "java/lang/Comparable"), (0, .class_ 356), (0, u "java/lang/CharSequence"), (0, u "serialVersionUID"), (0, u "J"), (40, u "toString"), (0, u "()Ljava/lang/String;")] 21

def k13c0 : Code := { maxStack := 2, maxLocals := 1, code := jdk_67_method_1_code, exceptionTable := #[], attributes := #[] }
def k13m0 : Method := { name := "<init>", desc := "()V", sig := { parameters := [], returnType := none }, accessFlags := 1, code := some k13c0 }
def k13c1 : Code := { maxStack := 2, maxLocals := 2, code := jdk_67_method_7_code, exceptionTable := #[], attributes := #[] }
def k13m1 : Method := { name := "append", desc := "(Ljava/lang/String;)Ljava/lang/StringBuilder;", sig := { parameters := [(.object "java/lang/String")], returnType := some (.object "java/lang/StringBuilder") }, accessFlags := 1, code := some k13c1 }
def k13c2 : Code := { maxStack := 2, maxLocals := 2, code := jdk_67_method_15_code, exceptionTable := #[], attributes := #[] }
def k13m2 : Method := { name := "append", desc := "(I)Ljava/lang/StringBuilder;", sig := { parameters := [.int], returnType := some (.object "java/lang/StringBuilder") }, accessFlags := 1, code := some k13c2 }
def k13c3 : Code := { maxStack := 3, maxLocals := 1, code := jdk_67_method_42_code, exceptionTable := #[], attributes := #[] }
def k13m3 : Method := { name := "toString", desc := "()Ljava/lang/String;", sig := { parameters := [], returnType := some (.object "java/lang/String") }, accessFlags := 1, code := some k13c3 }
def k13c4 : Code := { maxStack := 1, maxLocals := 1, code := jdk_67_method_93_code, exceptionTable := #[], attributes := #[] }
def k13m4 : Method := { name := "length", desc := "()I", sig := { parameters := [], returnType := some .int }, accessFlags := 4161, code := some k13c4 }
/-- java/lang/StringBuilder -/
def k13 : Class := { plain "java/lang/StringBuilder" (some 12) with
  accessFlags := 49
  interfaces := #[11, 2, 3, 4]
  cf := some (fileOf pool13 24 #[] #[{ accessFlags := 1, nameIndex := 5, descriptorIndex := 145, attributes := #[] }, { accessFlags := 1, nameIndex := 27, descriptorIndex := 28, attributes := #[] }, { accessFlags := 1, nameIndex := 27, descriptorIndex := 268, attributes := #[] }, { accessFlags := 1, nameIndex := 399, descriptorIndex := 400, attributes := #[] }, { accessFlags := 4161, nameIndex := 345, descriptorIndex := 156, attributes := #[] }] 49 2 #[349, 351, 353, 355] #[{ accessFlags := 24, nameIndex := 357, descriptorIndex := 358, attributes := #[] }])
  fields := #[{ name := "serialVersionUID", type := .long, accessFlags := 24, slot := 0, constantValue := 0 }]
  methods := #[k13m0, k13m1, k13m2, k13m3, k13m4]
  instanceTypes := #[(.array .byte), .byte, .boolean, .int]
  staticTypes := #[.long]
  resolved := Array.replicate 422 none
  statics := none }

def pool14 : Array CpInfo := pool [(2, .class_ 4), (1, u "java/lang/Object"), (0, u "<init>"), (0, u "()V"), (1, .class_ 10), (1, u "java/lang/System"), (0, u "allowSecurityManager"), (0, u "I"), (16, u "cons"), (0, u "Ljava/io/Console;"), (77, .class_ 110), (1, u "java/lang/System$CallersHolder"), (43, u "initialErrStream"), (0, u "Ljava/io/PrintStream;"), (19, u "security"), (0, u "Ljava/lang/SecurityManager;"), (31, .class_ 209), (0, u "java/lang/System$1"), (7, u "props"), (0, u "Ljava/util/Properties;"), (2, u "lineSeparator"), (0, u "Ljava/lang/String;"), (96, .class_ 321), (1, u "java/lang/System$LoggerFinder"), (5, .class_ 328), (0, u "java/lang/System$Logger"), (67, u "err"), (2, u "out"), (91, u "notSupportedJnuEncoding"), (15, u "in"), (17, u "initialIn"), (0, u "Ljava/io/InputStream;"), (35, u "bootLayer"), (0, u "Ljava/lang/ModuleLayer;"), (99, .class_ 664), (0, u "java/lang/System$2"), (9, u "NEVER"), (2, u "MAYBE"), (49, u "arraycopy"), (0, u "(Ljava/lang/Object;ILjava/lang/Object;II)V"), (72, .class_ 802), (0, u "java/lang/System$Logger$Level")] 31

def k14m0 : Method := { name := "<init>", desc := "()V", sig := { parameters := [], returnType := none }, accessFlags := 2, code := none }
def k14m1 : Method := { name := "arraycopy", desc := "(Ljava/lang/Object;ILjava/lang/Object;II)V", sig := { parameters := [(.object "java/lang/Object"), .int, (.object "java/lang/Object"), .int, .int], returnType := none }, accessFlags := 265, code := none }
/-- java/lang/System -/
def k14 : Class := { plain "java/lang/System" (some 0) with
  accessFlags := 49
  interfaces := #[]
  cf := some (fileOf pool14 8 #[.nestMembers #[319, 327, 801, 108, 663, 208]] #[{ accessFlags := 2, nameIndex := 5, descriptorIndex := 6, attributes := #[] }, { accessFlags := 265, nameIndex := 727, descriptorIndex := 728, attributes := #[] }] 49 2 #[] #[{ accessFlags := 25, nameIndex := 507, descriptorIndex := 526, attributes := #[] }, { accessFlags := 25, nameIndex := 399, descriptorIndex := 155, attributes := #[] }, { accessFlags := 25, nameIndex := 396, descriptorIndex := 155, attributes := #[] }, { accessFlags := 10, nameIndex := 525, descriptorIndex := 526, attributes := #[] }, { accessFlags := 26, nameIndex := 674, descriptorIndex := 12, attributes := #[] }, { accessFlags := 26, nameIndex := 677, descriptorIndex := 12, attributes := #[] }, { accessFlags := 10, nameIndex := 11, descriptorIndex := 12, attributes := #[] }, { accessFlags := 74, nameIndex := 175, descriptorIndex := 176, attributes := #[] }, { accessFlags := 10, nameIndex := 491, descriptorIndex := 222, attributes := #[] }, { accessFlags := 74, nameIndex := 29, descriptorIndex := 30, attributes := #[] }, { accessFlags := 74, nameIndex := 154, descriptorIndex := 155, attributes := #[] }, { accessFlags := 10, nameIndex := 217, descriptorIndex := 218, attributes := #[] }, { accessFlags := 10, nameIndex := 221, descriptorIndex := 222, attributes := #[] }, { accessFlags := 8, nameIndex := 562, descriptorIndex := 563, attributes := #[] }])
  fields := #[{ name := "in", type := (.object "java/io/InputStream"), accessFlags := 25, slot := 0, constantValue := 0 }, { name := "out", type := (.object "java/io/PrintStream"), accessFlags := 25, slot := 1, constantValue := 0 }, { name := "err", type := (.object "java/io/PrintStream"), accessFlags := 25, slot := 2, constantValue := 0 }, { name := "initialIn", type := (.object "java/io/InputStream"), accessFlags := 10, slot := 3, constantValue := 0 }, { name := "NEVER", type := .int, accessFlags := 26, slot := 4, constantValue := 0 }, { name := "MAYBE", type := .int, accessFlags := 26, slot := 5, constantValue := 0 }, { name := "allowSecurityManager", type := .int, accessFlags := 10, slot := 6, constantValue := 0 }, { name := "security", type := (.object "java/lang/SecurityManager"), accessFlags := 74, slot := 7, constantValue := 0 }, { name := "notSupportedJnuEncoding", type := (.object "java/lang/String"), accessFlags := 10, slot := 8, constantValue := 0 }, { name := "cons", type := (.object "java/io/Console"), accessFlags := 74, slot := 9, constantValue := 0 }, { name := "initialErrStream", type := (.object "java/io/PrintStream"), accessFlags := 74, slot := 10, constantValue := 0 }, { name := "props", type := (.object "java/util/Properties"), accessFlags := 10, slot := 11, constantValue := 0 }, { name := "lineSeparator", type := (.object "java/lang/String"), accessFlags := 10, slot := 12, constantValue := 0 }, { name := "bootLayer", type := (.object "java/lang/ModuleLayer"), accessFlags := 8, slot := 13, constantValue := 0 }]
  methods := #[k14m0, k14m1]
  instanceTypes := #[]
  staticTypes := #[(.object "java/io/InputStream"), (.object "java/io/PrintStream"), (.object "java/io/PrintStream"), (.object "java/io/InputStream"), .int, .int, .int, (.object "java/lang/SecurityManager"), (.object "java/lang/String"), (.object "java/io/Console"), (.object "java/io/PrintStream"), (.object "java/util/Properties"), (.object "java/lang/String"), (.object "java/lang/ModuleLayer")]
  resolved := Array.replicate 834 none
  statics := none }

def pool15 : Array CpInfo := pool [(2, .class_ 4), (1, u "java/lang/Object"), (0, u "<init>"), (0, u "()V"), (1, .class_ 10), (1, u "java/lang/Number"), (2, .class_ 14), (0, u "java/io/Serializable"), (0, u "serialVersionUID"), (0, u "J")] 20

def k15m0 : Method := { name := "<init>", desc := "()V", sig := { parameters := [], returnType := none }, accessFlags := 1, code := none }
/-- java/lang/Number -/
def k15 : Class := { plain "java/lang/Number" (some 0) with
  accessFlags := 1057
  interfaces := #[2]
  cf := some (fileOf pool15 8 #[] #[{ accessFlags := 1, nameIndex := 5, descriptorIndex := 6, attributes := #[] }] 1057 2 #[13] #[{ accessFlags := 26, nameIndex := 15, descriptorIndex := 16, attributes := #[] }])
  fields := #[{ name := "serialVersionUID", type := .long, accessFlags := 26, slot := 0, constantValue := 0 }]
  methods := #[k15m0]
  instanceTypes := #[]
  staticTypes := #[.long]
  resolved := Array.replicate 37 none
  statics := none }

def pool16 : Array CpInfo := pool [(1, .class_ 2), (0, u "java/lang/Integer"), (16, u "digits"), (0, u "[C"), (33, u "(I)I"), (19, u "stringSize"), (2, u "getChars"), (0, u "(II[B)I"), (4, .fieldref 1 84), (0, .nameAndType 85 86), (0, u "DigitOnes"), (0, u "[B"), (0, .fieldref 1 88), (0, .nameAndType 89 86), (0, u "DigitTens"), (99, .class_ 190), (0, u "java/lang/Integer$IntegerCache"), (3, u "I"), (8, .class_ 204), (0, u "java/lang/Number"), (2, u "value"), (94, u "TYPE"), (0, u "Ljava/lang/Class;"), (0, .class_ 305), (0, u "java/lang/Comparable"), (0, .class_ 307), (0, u "java/lang/constant/Constable"), (0, .class_ 309), (0, u "java/lang/constant/ConstantDesc"), (0, u "MIN_VALUE"), (1, u "MAX_VALUE"), (3, u "SIZE"), (1, u "BYTES"), (1, u "serialVersionUID"), (0, u "J")] 131

def k16c0 : Code := { maxStack := 4, maxLocals := 7, code := jdk_33_method_12_code, exceptionTable := #[], attributes := #[] }
def k16m0 : Method := { name := "getChars", desc := "(II[B)I", sig := { parameters := [.int, .int, (.array .byte)], returnType := some .int }, accessFlags := 8, code := some k16c0 }
def k16c1 : Code := { maxStack := 2, maxLocals := 4, code := jdk_33_method_13_code, exceptionTable := #[], attributes := #[] }
def k16m1 : Method := { name := "stringSize", desc := "(I)I", sig := { parameters := [.int], returnType := some .int }, accessFlags := 8, code := some k16c1 }
/-- java/lang/Integer -/
def k16 : Class := { plain "java/lang/Integer" (some 15) with
  accessFlags := 49
  interfaces := #[3, 5, 6]
  cf := some (fileOf pool16 1 #[.nestMembers #[189]] #[{ accessFlags := 8, nameIndex := 77, descriptorIndex := 78, attributes := #[] }, { accessFlags := 8, nameIndex := 74, descriptorIndex := 54, attributes := #[] }] 49 203 #[304, 306, 308] #[{ accessFlags := 25, nameIndex := 310, descriptorIndex := 194, attributes := #[] }, { accessFlags := 25, nameIndex := 312, descriptorIndex := 194, attributes := #[] }, { accessFlags := 25, nameIndex := 302, descriptorIndex := 303, attributes := #[] }, { accessFlags := 24, nameIndex := 19, descriptorIndex := 20, attributes := #[] }, { accessFlags := 24, nameIndex := 89, descriptorIndex := 86, attributes := #[] }, { accessFlags := 24, nameIndex := 85, descriptorIndex := 86, attributes := #[] }, { accessFlags := 18, nameIndex := 207, descriptorIndex := 194, attributes := #[] }, { accessFlags := 25, nameIndex := 316, descriptorIndex := 194, attributes := #[] }, { accessFlags := 25, nameIndex := 318, descriptorIndex := 194, attributes := #[] }, { accessFlags := 26, nameIndex := 320, descriptorIndex := 321, attributes := #[] }])
  fields := #[{ name := "MIN_VALUE", type := .int, accessFlags := 25, slot := 0, constantValue := 0 }, { name := "MAX_VALUE", type := .int, accessFlags := 25, slot := 1, constantValue := 0 }, { name := "TYPE", type := (.object "java/lang/Class"), accessFlags := 25, slot := 2, constantValue := 0 }, { name := "digits", type := (.array .char), accessFlags := 24, slot := 3, constantValue := 0 }, { name := "DigitTens", type := (.array .byte), accessFlags := 24, slot := 4, constantValue := 0 }, { name := "DigitOnes", type := (.array .byte), accessFlags := 24, slot := 5, constantValue := 0 }, { name := "value", type := .int, accessFlags := 18, slot := 0, constantValue := 0 }, { name := "SIZE", type := .int, accessFlags := 25, slot := 6, constantValue := 0 }, { name := "BYTES", type := .int, accessFlags := 25, slot := 7, constantValue := 0 }, { name := "serialVersionUID", type := .long, accessFlags := 26, slot := 8, constantValue := 0 }]
  methods := #[k16m0, k16m1]
  instanceTypes := #[.int]
  staticTypes := #[.int, .int, (.object "java/lang/Class"), (.array .char), (.array .byte), (.array .byte), .int, .int, .long]
  resolved := Array.replicate 453 none
  statics := some 1 }

def pool17 : Array CpInfo := pool [(2, .class_ 4), (1, u "java/lang/Object"), (0, u "<init>"), (0, u "()V"), (7, .class_ 16), (1, u "java/util/Arrays"), (57, .class_ 76), (1, u "java/util/Arrays$NaturalOrder"), (36, .class_ 115), (1, u "java/util/Arrays$LegacyMergeSort"), (1, u "Z"), (21, u "copyOfRange"), (10, .methodref 151 152), (0, .class_ 153), (0, .nameAndType 154 155), (0, u "java/lang/System"), (0, u "arraycopy"), (0, u "(Ljava/lang/Object;ILjava/lang/Object;II)V"), (148, .methodref 305 306), (0, .class_ 307), (0, .nameAndType 308 309), (0, u "java/lang/Math"), (0, u "min"), (0, u "(II)I"), (29, .methodref 14 340), (0, .nameAndType 341 342), (0, u "copyOfRangeByte"), (0, u "([BII)[B"), (0, .methodref 14 344), (0, .nameAndType 345 346), (0, u "checkLength"), (0, u "(II)V"), (28, .class_ 376), (0, u "java/util/Arrays$ArrayList"), (68, u "$assertionsDisabled"), (269, u "MIN_ARRAY_SORT_GRAN"), (0, u "I"), (2, u "INSERTIONSORT_THRESHOLD"), (255, .class_ 976), (0, u "java/util/Arrays$ArrayItr")] 52

def k17m0 : Method := { name := "<init>", desc := "()V", sig := { parameters := [], returnType := none }, accessFlags := 2, code := none }
def k17c1 : Code := { maxStack := 4, maxLocals := 2, code := jdk_65_method_131_code, exceptionTable := #[], attributes := #[] }
def k17m1 : Method := { name := "checkLength", desc := "(II)V", sig := { parameters := [.int, .int], returnType := none }, accessFlags := 10, code := some k17c1 }
def k17c2 : Code := { maxStack := 3, maxLocals := 3, code := jdk_65_method_132_code, exceptionTable := #[], attributes := #[] }
def k17m2 : Method := { name := "copyOfRange", desc := "([BII)[B", sig := { parameters := [(.array .byte), .int, .int], returnType := some (.array .byte) }, accessFlags := 9, code := some k17c2 }
def k17c3 : Code := { maxStack := 6, maxLocals := 5, code := jdk_65_method_133_code, exceptionTable := #[], attributes := #[] }
def k17m3 : Method := { name := "copyOfRangeByte", desc := "([BII)[B", sig := { parameters := [(.array .byte), .int, .int], returnType := some (.array .byte) }, accessFlags := 10, code := some k17c3 }
/-- java/util/Arrays -/
def k17 : Class := { plain "java/util/Arrays" (some 0) with
  accessFlags := 49
  interfaces := #[]
  cf := some (fileOf pool17 14 #[.nestMembers #[975, 375, 113, 74]] #[{ accessFlags := 2, nameIndex := 5, descriptorIndex := 6, attributes := #[] }, { accessFlags := 10, nameIndex := 345, descriptorIndex := 346, attributes := #[] }, { accessFlags := 9, nameIndex := 139, descriptorIndex := 342, attributes := #[] }, { accessFlags := 10, nameIndex := 341, descriptorIndex := 342, attributes := #[] }] 49 2 #[] #[{ accessFlags := 26, nameIndex := 715, descriptorIndex := 716, attributes := #[] }, { accessFlags := 26, nameIndex := 719, descriptorIndex := 716, attributes := #[] }, { accessFlags := 4120, nameIndex := 445, descriptorIndex := 117, attributes := #[] }])
  fields := #[{ name := "MIN_ARRAY_SORT_GRAN", type := .int, accessFlags := 26, slot := 0, constantValue := 0 }, { name := "INSERTIONSORT_THRESHOLD", type := .int, accessFlags := 26, slot := 1, constantValue := 0 }, { name := "$assertionsDisabled", type := .boolean, accessFlags := 4120, slot := 2, constantValue := 0 }]
  methods := #[k17m0, k17m1, k17m2, k17m3]
  instanceTypes := #[]
  staticTypes := #[.int, .int, .boolean]
  resolved := Array.replicate 1029 none
  statics := none }

def pool18 : Array CpInfo := pool [(1, .class_ 2), (0, u "java/lang/Math"), (1, .class_ 6), (1, u "java/lang/Object"), (0, u "<init>"), (0, u "()V"), (89, .class_ 100), (1, u "java/lang/Math$RandomNumberGeneratorHolder"), (23, u "abs"), (0, u "(J)J"), (46, u "negativeZeroFloatBits"), (0, u "J"), (2, u "negativeZeroDoubleBits"), (24, u "min"), (43, u "$assertionsDisabled"), (0, u "Z"), (88, u "(II)I"), (2, u "twoToTheDoubleScaleDown"), (0, u "D"), (4, u "twoToTheDoubleScaleUp"), (9, u "E"), (3, u "PI"), (2, u "TAU"), (2, u "DEGREES_TO_RADIANS"), (0, u "RADIANS_TO_DEGREES")] 94

def k18m0 : Method := { name := "<init>", desc := "()V", sig := { parameters := [], returnType := none }, accessFlags := 2, code := none }
def k18c1 : Code := { maxStack := 4, maxLocals := 2, code := jdk_29_method_61_code, exceptionTable := #[], attributes := #[] }
def k18m1 : Method := { name := "abs", desc := "(J)J", sig := { parameters := [.long], returnType := some .long }, accessFlags := 9, code := some k18c1 }
def k18c2 : Code := { maxStack := 2, maxLocals := 2, code := jdk_29_method_69_code, exceptionTable := #[], attributes := #[] }
def k18m2 : Method := { name := "min", desc := "(II)I", sig := { parameters := [.int, .int], returnType := some .int }, accessFlags := 9, code := some k18c2 }
/-- java/lang/Math -/
def k18 : Class := { plain "java/lang/Math" (some 0) with
  accessFlags := 49
  interfaces := #[]
  cf := some (fileOf pool18 1 #[.nestMembers #[98]] #[{ accessFlags := 2, nameIndex := 7, descriptorIndex := 8, attributes := #[] }, { accessFlags := 9, nameIndex := 124, descriptorIndex := 125, attributes := #[] }, { accessFlags := 9, nameIndex := 201, descriptorIndex := 335, attributes := #[] }] 49 4 #[] #[{ accessFlags := 25, nameIndex := 354, descriptorIndex := 339, attributes := #[] }, { accessFlags := 25, nameIndex := 358, descriptorIndex := 339, attributes := #[] }, { accessFlags := 25, nameIndex := 361, descriptorIndex := 339, attributes := #[] }, { accessFlags := 26, nameIndex := 364, descriptorIndex := 339, attributes := #[] }, { accessFlags := 26, nameIndex := 365, descriptorIndex := 339, attributes := #[] }, { accessFlags := 26, nameIndex := 172, descriptorIndex := 173, attributes := #[] }, { accessFlags := 26, nameIndex := 176, descriptorIndex := 173, attributes := #[] }, { accessFlags := 8, nameIndex := 344, descriptorIndex := 339, attributes := #[] }, { accessFlags := 8, nameIndex := 338, descriptorIndex := 339, attributes := #[] }, { accessFlags := 4120, nameIndex := 245, descriptorIndex := 246, attributes := #[] }])
  fields := #[{ name := "E", type := .double, accessFlags := 25, slot := 0, constantValue := 0 }, { name := "PI", type := .double, accessFlags := 25, slot := 1, constantValue := 0 }, { name := "TAU", type := .double, accessFlags := 25, slot := 2, constantValue := 0 }, { name := "DEGREES_TO_RADIANS", type := .double, accessFlags := 26, slot := 3, constantValue := 0 }, { name := "RADIANS_TO_DEGREES", type := .double, accessFlags := 26, slot := 4, constantValue := 0 }, { name := "negativeZeroFloatBits", type := .long, accessFlags := 26, slot := 5, constantValue := 0 }, { name := "negativeZeroDoubleBits", type := .long, accessFlags := 26, slot := 6, constantValue := 0 }, { name := "twoToTheDoubleScaleUp", type := .double, accessFlags := 8, slot := 7, constantValue := 0 }, { name := "twoToTheDoubleScaleDown", type := .double, accessFlags := 8, slot := 8, constantValue := 0 }, { name := "$assertionsDisabled", type := .boolean, accessFlags := 4120, slot := 9, constantValue := 0 }]
  methods := #[k18m0, k18m1, k18m2]
  instanceTypes := #[]
  staticTypes := #[.double, .double, .double, .double, .double, .long, .long, .double, .double, .boolean]
  resolved := Array.replicate 460 none
  statics := none }

def pool19 : Array CpInfo := pool [(1, .class_ 2), (0, u "java/lang/String"), (1, .class_ 6), (1, u "java/lang/Object"), (0, u "<init>"), (0, u "()V"), (0, .methodref 1 10), (0, .nameAndType 11 12), (0, u "checkIndex"), (0, u "(II)V"), (1, .class_ 16), (1, u "java/lang/StringLatin1"), (36, u "([BI)C"), (67, u "$assertionsDisabled"), (0, u "Z"), (98, .class_ 223), (1, u "java/lang/StringLatin1$LinesSpliterator"), (28, u "charAt"), (137, .class_ 391), (0, u "java/lang/StringLatin1$CharsSpliterator")] 3

def k19m0 : Method := { name := "<init>", desc := "()V", sig := { parameters := [], returnType := none }, accessFlags := 0, code := none }
def k19c1 : Code := { maxStack := 2, maxLocals := 2, code := jdk_43_method_2_code, exceptionTable := #[], attributes := #[] }
def k19m1 : Method := { name := "charAt", desc := "([BI)C", sig := { parameters := [(.array .byte), .int], returnType := some .char }, accessFlags := 9, code := some k19c1 }
/-- java/lang/StringLatin1 -/
def k19 : Class := { plain "java/lang/StringLatin1" (some 0) with
  accessFlags := 48
  interfaces := #[]
  cf := some (fileOf pool19 14 #[.nestMembers #[390, 221]] #[{ accessFlags := 0, nameIndex := 7, descriptorIndex := 8, attributes := #[] }, { accessFlags := 9, nameIndex := 252, descriptorIndex := 53, attributes := #[] }] 48 4 #[] #[{ accessFlags := 4120, nameIndex := 121, descriptorIndex := 122, attributes := #[] }])
  fields := #[{ name := "$assertionsDisabled", type := .boolean, accessFlags := 4120, slot := 0, constantValue := 0 }]
  methods := #[k19m0, k19m1]
  instanceTypes := #[]
  staticTypes := #[.boolean]
  resolved := Array.replicate 395 none
  statics := none }

def pool20 : Array CpInfo := pool [(2, .class_ 4), (1, u "java/lang/Object"), (0, u "<init>"), (0, u "()V"), (17, .class_ 26), (1, u "jdk/internal/util/Preconditions"), (6, u "checkIndex"), (21, .class_ 56), (0, u "jdk/internal/util/Preconditions$4"), (57, .class_ 115), (0, u "jdk/internal/util/Preconditions$1"), (7, u "SIOOBE_FORMATTER"), (0, u "Ljava/util/function/BiFunction;"), (0, .class_ 126), (0, u "jdk/internal/util/Preconditions$2"), (3, u "AIOOBE_FORMATTER"), (0, .class_ 132), (0, u "jdk/internal/util/Preconditions$3"), (3, u "IOOBE_FORMATTER"), (41, u "(IILjava/util/function/BiFunction;)I")] 15

def k20m0 : Method := { name := "<init>", desc := "()V", sig := { parameters := [], returnType := none }, accessFlags := 1, code := none }
def k20c1 : Code := { maxStack := 3, maxLocals := 3, code := jdk_41_method_11_code, exceptionTable := #[], attributes := #[] }
def k20m1 : Method := { name := "checkIndex", desc := "(IILjava/util/function/BiFunction;)I", sig := { parameters := [.int, .int, (.object "java/util/function/BiFunction")], returnType := some .int }, accessFlags := 9, code := some k20c1 }
/-- jdk/internal/util/Preconditions -/
def k20 : Class := { plain "jdk/internal/util/Preconditions" (some 0) with
  accessFlags := 33
  interfaces := #[]
  cf := some (fileOf pool20 24 #[.nestMembers #[55, 131, 125, 114]] #[{ accessFlags := 1, nameIndex := 5, descriptorIndex := 6, attributes := #[] }, { accessFlags := 9, nameIndex := 33, descriptorIndex := 178, attributes := #[] }] 33 2 #[] #[{ accessFlags := 25, nameIndex := 123, descriptorIndex := 124, attributes := #[] }, { accessFlags := 25, nameIndex := 130, descriptorIndex := 124, attributes := #[] }, { accessFlags := 25, nameIndex := 136, descriptorIndex := 124, attributes := #[] }])
  fields := #[{ name := "SIOOBE_FORMATTER", type := (.object "java/util/function/BiFunction"), accessFlags := 25, slot := 0, constantValue := 0 }, { name := "AIOOBE_FORMATTER", type := (.object "java/util/function/BiFunction"), accessFlags := 25, slot := 1, constantValue := 0 }, { name := "IOOBE_FORMATTER", type := (.object "java/util/function/BiFunction"), accessFlags := 25, slot := 2, constantValue := 0 }]
  methods := #[k20m0, k20m1]
  instanceTypes := #[]
  staticTypes := #[(.object "java/util/function/BiFunction"), (.object "java/util/function/BiFunction"), (.object "java/util/function/BiFunction")]
  resolved := Array.replicate 194 none
  statics := some 2 }

def pool21 : Array CpInfo := pool [(9, u "<init>"), (6, .class_ 18), (1, u "java/lang/Object"), (0, u "()V"), (1, .class_ 23), (1, u "jdk/internal/util/ArraysSupport"), (0, u "LOG2_ARRAY_LONG_INDEX_SCALE"), (0, u "I"), (2, u "U"), (0, u "Ljdk/internal/misc/Unsafe;"), (8, u "BIG_ENDIAN"), (0, u "Z"), (8, u "LOG2_BYTE_BIT_SIZE"), (4, u "LOG2_ARRAY_INT_INDEX_SCALE"), (54, u "JLA"), (0, u "Ljdk/internal/access/JavaLangAccess;"), (11, u "LOG2_ARRAY_BOOLEAN_INDEX_SCALE"), (9, u "LOG2_ARRAY_BYTE_INDEX_SCALE"), (5, u "LOG2_ARRAY_CHAR_INDEX_SCALE"), (5, u "LOG2_ARRAY_SHORT_INDEX_SCALE"), (18, u "LOG2_ARRAY_FLOAT_INDEX_SCALE"), (24, u "LOG2_ARRAY_DOUBLE_INDEX_SCALE"), (89, u "T_BOOLEAN"), (2, u "T_CHAR"), (1, u "T_FLOAT"), (1, u "T_DOUBLE"), (1, u "T_BYTE"), (1, u "T_SHORT"), (1, u "T_INT"), (1, u "T_LONG"), (1, u "SOFT_MAX_ARRAY_LENGTH")] 83

def k21m0 : Method := { name := "<init>", desc := "()V", sig := { parameters := [], returnType := none }, accessFlags := 2, code := none }
/-- jdk/internal/util/ArraysSupport -/
def k21 : Class := { plain "jdk/internal/util/ArraysSupport" (some 0) with
  accessFlags := 33
  interfaces := #[]
  cf := some (fileOf pool21 21 #[] #[{ accessFlags := 2, nameIndex := 9, descriptorIndex := 19, attributes := #[] }] 33 16 #[] #[{ accessFlags := 24, nameIndex := 28, descriptorIndex := 29, attributes := #[] }, { accessFlags := 26, nameIndex := 38, descriptorIndex := 39, attributes := #[] }, { accessFlags := 25, nameIndex := 121, descriptorIndex := 25, attributes := #[] }, { accessFlags := 25, nameIndex := 131, descriptorIndex := 25, attributes := #[] }, { accessFlags := 25, nameIndex := 137, descriptorIndex := 25, attributes := #[] }, { accessFlags := 25, nameIndex := 143, descriptorIndex := 25, attributes := #[] }, { accessFlags := 25, nameIndex := 53, descriptorIndex := 25, attributes := #[] }, { accessFlags := 25, nameIndex := 24, descriptorIndex := 25, attributes := #[] }, { accessFlags := 25, nameIndex := 162, descriptorIndex := 25, attributes := #[] }, { accessFlags := 25, nameIndex := 187, descriptorIndex := 25, attributes := #[] }, { accessFlags := 26, nameIndex := 48, descriptorIndex := 25, attributes := #[] }, { accessFlags := 25, nameIndex := 277, descriptorIndex := 25, attributes := #[] }, { accessFlags := 25, nameIndex := 280, descriptorIndex := 25, attributes := #[] }, { accessFlags := 25, nameIndex := 282, descriptorIndex := 25, attributes := #[] }, { accessFlags := 25, nameIndex := 284, descriptorIndex := 25, attributes := #[] }, { accessFlags := 25, nameIndex := 286, descriptorIndex := 25, attributes := #[] }, { accessFlags := 25, nameIndex := 288, descriptorIndex := 25, attributes := #[] }, { accessFlags := 25, nameIndex := 290, descriptorIndex := 25, attributes := #[] }, { accessFlags := 25, nameIndex := 292, descriptorIndex := 25, attributes := #[] }, { accessFlags := 26, nameIndex := 108, descriptorIndex := 109, attributes := #[] }, { accessFlags := 25, nameIndex := 294, descriptorIndex := 25, attributes := #[] }])
  fields := #[{ name := "U", type := (.object "jdk/internal/misc/Unsafe"), accessFlags := 24, slot := 0, constantValue := 0 }, { name := "BIG_ENDIAN", type := .boolean, accessFlags := 26, slot := 1, constantValue := 0 }, { name := "LOG2_ARRAY_BOOLEAN_INDEX_SCALE", type := .int, accessFlags := 25, slot := 2, constantValue := 0 }, { name := "LOG2_ARRAY_BYTE_INDEX_SCALE", type := .int, accessFlags := 25, slot := 3, constantValue := 0 }, { name := "LOG2_ARRAY_CHAR_INDEX_SCALE", type := .int, accessFlags := 25, slot := 4, constantValue := 0 }, { name := "LOG2_ARRAY_SHORT_INDEX_SCALE", type := .int, accessFlags := 25, slot := 5, constantValue := 0 }, { name := "LOG2_ARRAY_INT_INDEX_SCALE", type := .int, accessFlags := 25, slot := 6, constantValue := 0 }, { name := "LOG2_ARRAY_LONG_INDEX_SCALE", type := .int, accessFlags := 25, slot := 7, constantValue := 0 }, { name := "LOG2_ARRAY_FLOAT_INDEX_SCALE", type := .int, accessFlags := 25, slot := 8, constantValue := 0 }, { name := "LOG2_ARRAY_DOUBLE_INDEX_SCALE", type := .int, accessFlags := 25, slot := 9, constantValue := 0 }, { name := "LOG2_BYTE_BIT_SIZE", type := .int, accessFlags := 26, slot := 10, constantValue := 0 }, { name := "T_BOOLEAN", type := .int, accessFlags := 25, slot := 11, constantValue := 0 }, { name := "T_CHAR", type := .int, accessFlags := 25, slot := 12, constantValue := 0 }, { name := "T_FLOAT", type := .int, accessFlags := 25, slot := 13, constantValue := 0 }, { name := "T_DOUBLE", type := .int, accessFlags := 25, slot := 14, constantValue := 0 }, { name := "T_BYTE", type := .int, accessFlags := 25, slot := 15, constantValue := 0 }, { name := "T_SHORT", type := .int, accessFlags := 25, slot := 16, constantValue := 0 }, { name := "T_INT", type := .int, accessFlags := 25, slot := 17, constantValue := 0 }, { name := "T_LONG", type := .int, accessFlags := 25, slot := 18, constantValue := 0 }, { name := "JLA", type := (.object "jdk/internal/access/JavaLangAccess"), accessFlags := 26, slot := 19, constantValue := 0 }, { name := "SOFT_MAX_ARRAY_LENGTH", type := .int, accessFlags := 25, slot := 20, constantValue := 0 }]
  methods := #[k21m0]
  instanceTypes := #[]
  staticTypes := #[(.object "jdk/internal/misc/Unsafe"), .boolean, .int, .int, .int, .int, .int, .int, .int, .int, .int, .int, .int, .int, .int, .int, .int, .int, .int, (.object "jdk/internal/access/JavaLangAccess"), .int]
  resolved := Array.replicate 378 none
  statics := none }

def pool22 : Array CpInfo := pool [(1, u "java/lang/Cloneable"), (0, .class_ 1), (0, u "java/lang/Object"), (0, .class_ 3)] 3

/-- java/lang/Cloneable -/
def k22 : Class := { plain "java/lang/Cloneable" (some 0) with
  accessFlags := 1537
  interfaces := #[]
  cf := some (fileOf pool22 2 #[] #[] 1537 4 #[] #[])
  fields := #[]
  methods := #[]
  instanceTypes := #[]
  staticTypes := #[]
  resolved := Array.replicate 8 none
  statics := none }

/-- the primitive byte -/
def k23 : Class := { plain "byte" none with kind := .primitive 'B', accessFlags := 0x411 }
/-- [B -/
def k24 : Class := { plain "[B" (some 0) with kind := .array 23 .byte, interfaces := #[22, 2], accessFlags := 1041 }

/-- the primitive char -/
def k25 : Class := { plain "char" none with kind := .primitive 'C', accessFlags := 0x411 }
/-- [C -/
def k26 : Class := { plain "[C" (some 0) with kind := .array 25 .char, interfaces := #[22, 2], accessFlags := 1041 }

/-- the primitive int -/
def k27 : Class := { plain "int" none with kind := .primitive 'I', accessFlags := 0x411 }
/-- [I -/
def k28 : Class := { plain "[I" (some 0) with kind := .array 27 .int, interfaces := #[22, 2], accessFlags := 1041 }

/-- the primitive long -/
def k29 : Class := { plain "long" none with kind := .primitive 'J', accessFlags := 0x411 }
/-- [J -/
def k30 : Class := { plain "[J" (some 0) with kind := .array 29 .long, interfaces := #[22, 2], accessFlags := 1041 }

def heap : Heap := #[{ cls := 7, slots := #[.long 0, .int 1, .null, .int 0, .null, .int 0, .int 0], vm := .statics 7 },
  { cls := 16, slots := #[.int 0, .int 0, .null, .null, .ref 4, .ref 3, .int 0, .int 0, .long 0], vm := .statics 16 },
  { cls := 20, slots := #[.null, .null, .null], vm := .statics 20 },
  { cls := 24, slots := #[.int 48, .int 49, .int 50, .int 51, .int 52, .int 53, .int 54, .int 55, .int 56, .int 57, .int 48, .int 49, .int 50, .int 51, .int 52, .int 53, .int 54, .int 55, .int 56, .int 57, .int 48, .int 49, .int 50, .int 51, .int 52, .int 53, .int 54, .int 55, .int 56, .int 57, .int 48, .int 49, .int 50, .int 51, .int 52, .int 53, .int 54, .int 55, .int 56, .int 57, .int 48, .int 49, .int 50, .int 51, .int 52, .int 53, .int 54, .int 55, .int 56, .int 57, .int 48, .int 49, .int 50, .int 51, .int 52, .int 53, .int 54, .int 55, .int 56, .int 57, .int 48, .int 49, .int 50, .int 51, .int 52, .int 53, .int 54, .int 55, .int 56, .int 57, .int 48, .int 49, .int 50, .int 51, .int 52, .int 53, .int 54, .int 55, .int 56, .int 57, .int 48, .int 49, .int 50, .int 51, .int 52, .int 53, .int 54, .int 55, .int 56, .int 57, .int 48, .int 49, .int 50, .int 51, .int 52, .int 53, .int 54, .int 55, .int 56, .int 57], vm := .none },
  { cls := 24, slots := #[.int 48, .int 48, .int 48, .int 48, .int 48, .int 48, .int 48, .int 48, .int 48, .int 48, .int 49, .int 49, .int 49, .int 49, .int 49, .int 49, .int 49, .int 49, .int 49, .int 49, .int 50, .int 50, .int 50, .int 50, .int 50, .int 50, .int 50, .int 50, .int 50, .int 50, .int 51, .int 51, .int 51, .int 51, .int 51, .int 51, .int 51, .int 51, .int 51, .int 51, .int 52, .int 52, .int 52, .int 52, .int 52, .int 52, .int 52, .int 52, .int 52, .int 52, .int 53, .int 53, .int 53, .int 53, .int 53, .int 53, .int 53, .int 53, .int 53, .int 53, .int 54, .int 54, .int 54, .int 54, .int 54, .int 54, .int 54, .int 54, .int 54, .int 54, .int 55, .int 55, .int 55, .int 55, .int 55, .int 55, .int 55, .int 55, .int 55, .int 55, .int 56, .int 56, .int 56, .int 56, .int 56, .int 56, .int 56, .int 56, .int 56, .int 56, .int 57, .int 57, .int 57, .int 57, .int 57, .int 57, .int 57, .int 57, .int 57, .int 57], vm := .none }]
def classes : Array Class := #[k0, k1, k2, k3, k4, k5, k6, k7, k8, k9, k10, k11, k12, k13, k14, k15, k16, k17, k18, k19, k20, k21, k22, k23, k24, k25, k26, k27, k28, k29, k30]
def interned : List (Array UInt16 × Addr) := []
def slotsUsed : Nat := 219
def theMethod : MethodId := ⟨1, 1⟩
def args0 : Array Value := #[.int 5, .int 5, .int 5]
def aboutOver (below : List Frame) : State where
  vm := { classes := classes, interned := interned.toArray }
  heap := heap
  slotsUsed := slotsUsed
  threads := #[{ frames := .invoking theMethod args0 :: below }]
def below0 : List Frame := [.native { method := ⟨0, 0⟩, args := #[] }]
def about1 : State := aboutOver below0
def p0 : Program := .bare "" "" ""
def e0 : Env := launch0.env 0 0 0
theorem w_frames : about1.frames = Frame.invoking theMethod args0 :: below0 := rfl
set_option maxRecDepth 65536 in
theorem w_args : argsFit about1.vm theMethod args0 = true := by decide +kernel
set_option maxRecDepth 65536 in
theorem w_heap : heapFits about1 = true := by decide +kernel
set_option maxRecDepth 65536 in
theorem w_runnable : about1.curStatus? = some .runnable := by decide +kernel
set_option maxRecDepth 65536 in
theorem w_alone : about1.alone = true := by decide +kernel
set_option maxRecDepth 65536 in
theorem w_named : about1.methodNamed? x = some theMethod := by decide +kernel
set_option maxRecDepth 65536 in
theorem w_hears : about1.hears theMethod below0 = true := by decide +kernel
set_option maxRecDepth 65536 in
theorem w_ripe : about1.ripe theMethod args0 below0 = true := by decide +kernel
theorem w_running : about1.status = .running := rfl
set_option maxRecDepth 65536 in
theorem w_room : about1.hasRoom e0.platform room_1 = true :=
  launch0.hasRoom_least _ room_1 (by decide +kernel) (by decide +kernel) (by decide +kernel) (by decide +kernel) (by decide +kernel) (by decide +kernel)
theorem allAtoms_all (ts : List Jvm.Cond) (a : Array Jvm.Value) (st : Jvm.State) : (allAtoms ts).before a st = ts.all (fun c => c.before a st) := by
  induction ts with
  | nil => rfl
  | cons c t ih =>
    show (Jvm.Cond.and c (allAtoms t)).before a st = _
    rw [Jvm.Cond.before_and, ih, List.all_cons]
def words1 : List Jvm.Cond := Jvm.Cond.code x code maxLocals ret :: tables_1
/-- a 'code' word, met by the world's own term for the bytes: nothing is compared byte by byte -/
theorem code_word {y : MethodName} {bytes : ByteArray} {mx : Nat} {rt : Option FieldType} {a : Array Value} {s : State} {m : MethodId} {meth : Method} {c : Code} (h1 : s.methodNamed? y = some m) (h2 : s.vm.method? m = some meth) (h3 : meth.code = some c) (h4 : c.code = bytes)
    (h5 : (c.maxLocals == mx && c.exceptionTable.isEmpty && decide (c.maxStack ≤ mostOperands) && decide (meth.sig.returnType = rt) && !meth.locks && decide (parseMethodDescriptor y.desc = some meth.sig)) = true) : (Jvm.Cond.code y bytes mx rt).before a s = true := by
  simp only [Bool.and_eq_true, beq_iff_eq, Bool.not_eq_true', decide_eq_true_eq] at h5
  obtain ⟨⟨⟨⟨⟨g1, g2⟩, g3⟩, g4⟩, g5⟩, g6⟩ := h5
  simp [Cond.before, Cond.holds, Cond.value, h1, h2, h3, h4, g1, g2, g3, g4, g5, g6]
def isCode : Jvm.Cond → Bool
  | .code _ _ _ _ => true
  | _ => false
theorem all_split {L : List Jvm.Cond} {P : Jvm.Cond → Bool} (h1 : L.all (fun c => isCode c || P c) = true) (h2 : ∀ c ∈ L.filter isCode, P c = true) : L.all P = true := by
  refine List.all_eq_true.mpr fun c hc => ?_
  have h := List.all_eq_true.mp h1 c hc
  rcases Bool.eq_false_or_eq_true (isCode c) with hi | hi
  · exact h2 c (List.mem_filter.mpr ⟨hc, hi⟩)
  · simpa [hi] using h
set_option maxRecDepth 65536 in
theorem w_c0 : (Jvm.Cond.code x code maxLocals ret).before args0 about1 = true := code_word (m := ⟨1, 1⟩) (meth := k1m1) (c := k1c1) (by decide +kernel) rfl rfl rfl (by decide +kernel)
set_option maxRecDepth 65536 in
theorem w_c1 : (Jvm.Cond.code ({ cls := "java/lang/String", name := "<init>", desc := "([C)V" } : Jvm.MethodName) jdk_42_method_3_code (2 : Nat) (Option.none : Option Jvm.ClassFile.FieldType)).before args0 about1 = true := code_word (m := ⟨7, 1⟩) (meth := k7m1) (c := k7c1) (by decide +kernel) rfl rfl rfl (by decide +kernel)
set_option maxRecDepth 65536 in
theorem w_c2 : (Jvm.Cond.code ({ cls := "java/lang/String", name := "<init>", desc := "([CIILjava/lang/Void;)V" } : Jvm.MethodName) jdk_42_method_149_code (6 : Nat) (Option.none : Option Jvm.ClassFile.FieldType)).before args0 about1 = true := code_word (m := ⟨7, 6⟩) (meth := k7m6) (c := k7c6) (by decide +kernel) rfl rfl rfl (by decide +kernel)
set_option maxRecDepth 65536 in
theorem w_c3 : (Jvm.Cond.code ({ cls := "java/lang/Object", name := "<init>", desc := "()V" } : Jvm.MethodName) object_method_1_code (1 : Nat) (Option.none : Option Jvm.ClassFile.FieldType)).before args0 about1 = true := code_word (m := ⟨0, 0⟩) (meth := k0m0) (c := k0c0) (by decide +kernel) rfl rfl rfl (by decide +kernel)
set_option maxRecDepth 65536 in
theorem w_c4 : (Jvm.Cond.code ({ cls := "java/lang/StringUTF16", name := "compress", desc := "([CII)[B" } : Jvm.MethodName) jdk_52_method_16_code (6 : Nat) (Option.some (Jvm.ClassFile.FieldType.array Jvm.ClassFile.FieldType.byte))).before args0 about1 = true := code_word (m := ⟨8, 2⟩) (meth := k8m2) (c := k8c2) (by decide +kernel) rfl rfl rfl (by decide +kernel)
set_option maxRecDepth 65536 in
theorem w_c5 : (Jvm.Cond.code ({ cls := "java/lang/StringUTF16", name := "compress", desc := "([CI[BII)I" } : Jvm.MethodName) jdk_52_method_21_code (7 : Nat) (Option.some Jvm.ClassFile.FieldType.int)).before args0 about1 = true := code_word (m := ⟨8, 3⟩) (meth := k8m3) (c := k8c3) (by decide +kernel) rfl rfl rfl (by decide +kernel)
set_option maxRecDepth 65536 in
theorem w_c6 : (Jvm.Cond.code ({ cls := "java/lang/StringUTF16", name := "coderFromArrayLen", desc := "([BI)B" } : Jvm.MethodName) jdk_52_method_15_code (2 : Nat) (Option.some Jvm.ClassFile.FieldType.byte)).before args0 about1 = true := code_word (m := ⟨8, 1⟩) (meth := k8m1) (c := k8c1) (by decide +kernel) rfl rfl rfl (by decide +kernel)
set_option maxRecDepth 65536 in
theorem w_c7 : (Jvm.Cond.code ({ cls := "com/example/apportion/apportion/jsonl/LedgerFiles$Place", name := "<init>", desc := "(Ljava/lang/String;I)V" } : Jvm.MethodName) prog_52_method_1_code (3 : Nat) (Option.none : Option Jvm.ClassFile.FieldType)).before args0 about1 = true := code_word (m := ⟨10, 0⟩) (meth := k10m0) (c := k10c0) (by decide +kernel) rfl rfl rfl (by decide +kernel)
set_option maxRecDepth 65536 in
theorem w_c8 : (Jvm.Cond.code ({ cls := "java/lang/Record", name := "<init>", desc := "()V" } : Jvm.MethodName) jdk_30_method_1_code (1 : Nat) (Option.none : Option Jvm.ClassFile.FieldType)).before args0 about1 = true := code_word (m := ⟨9, 0⟩) (meth := k9m0) (c := k9c0) (by decide +kernel) rfl rfl rfl (by decide +kernel)
set_option maxRecDepth 65536 in
theorem w_c9 : (Jvm.Cond.code ({ cls := "com/example/apportion/apportion/jsonl/LedgerFiles$Place", name := "toString", desc := "()Ljava/lang/String;" } : Jvm.MethodName) prog_52_method_2_code (1 : Nat) (Option.some (Jvm.ClassFile.FieldType.object "java/lang/String"))).before args0 about1 = true := code_word (m := ⟨10, 1⟩) (meth := k10m1) (c := k10c1) (by decide +kernel) rfl rfl rfl (by decide +kernel)
set_option maxRecDepth 65536 in
theorem w_c10 : (Jvm.Cond.code ({ cls := "java/lang/StringBuilder", name := "<init>", desc := "()V" } : Jvm.MethodName) jdk_67_method_1_code (1 : Nat) (Option.none : Option Jvm.ClassFile.FieldType)).before args0 about1 = true := code_word (m := ⟨13, 0⟩) (meth := k13m0) (c := k13c0) (by decide +kernel) rfl rfl rfl (by decide +kernel)
set_option maxRecDepth 65536 in
theorem w_c11 : (Jvm.Cond.code ({ cls := "java/lang/AbstractStringBuilder", name := "<init>", desc := "(I)V" } : Jvm.MethodName) jdk_68_method_2_code (2 : Nat) (Option.none : Option Jvm.ClassFile.FieldType)).before args0 about1 = true := code_word (m := ⟨12, 1⟩) (meth := k12m1) (c := k12c1) (by decide +kernel) rfl rfl rfl (by decide +kernel)
set_option maxRecDepth 65536 in
theorem w_c12 : (Jvm.Cond.code ({ cls := "java/lang/StringBuilder", name := "append", desc := "(Ljava/lang/String;)Ljava/lang/StringBuilder;" } : Jvm.MethodName) jdk_67_method_7_code (2 : Nat) (Option.some (Jvm.ClassFile.FieldType.object "java/lang/StringBuilder"))).before args0 about1 = true := code_word (m := ⟨13, 1⟩) (meth := k13m1) (c := k13c1) (by decide +kernel) rfl rfl rfl (by decide +kernel)
set_option maxRecDepth 65536 in
theorem w_c13 : (Jvm.Cond.code ({ cls := "java/lang/AbstractStringBuilder", name := "append", desc := "(Ljava/lang/String;)Ljava/lang/AbstractStringBuilder;" } : Jvm.MethodName) jdk_68_method_22_code (3 : Nat) (Option.some (Jvm.ClassFile.FieldType.object "java/lang/AbstractStringBuilder"))).before args0 about1 = true := code_word (m := ⟨12, 4⟩) (meth := k12m4) (c := k12c4) (by decide +kernel) rfl rfl rfl (by decide +kernel)
set_option maxRecDepth 65536 in
theorem w_c14 : (Jvm.Cond.code ({ cls := "java/lang/String", name := "length", desc := "()I" } : Jvm.MethodName) jdk_42_method_54_code (1 : Nat) (Option.some Jvm.ClassFile.FieldType.int)).before args0 about1 = true := code_word (m := ⟨7, 3⟩) (meth := k7m3) (c := k7c3) (by decide +kernel) rfl rfl rfl (by decide +kernel)
set_option maxRecDepth 65536 in
theorem w_c15 : (Jvm.Cond.code ({ cls := "java/lang/String", name := "coder", desc := "()B" } : Jvm.MethodName) jdk_42_method_152_code (1 : Nat) (Option.some Jvm.ClassFile.FieldType.byte)).before args0 about1 = true := code_word (m := ⟨7, 8⟩) (meth := k7m8) (c := k7c8) (by decide +kernel) rfl rfl rfl (by decide +kernel)
set_option maxRecDepth 65536 in
theorem w_c16 : (Jvm.Cond.code ({ cls := "java/lang/AbstractStringBuilder", name := "ensureCapacityInternal", desc := "(I)V" } : Jvm.MethodName) jdk_68_method_9_code (3 : Nat) (Option.none : Option Jvm.ClassFile.FieldType)).before args0 about1 = true := code_word (m := ⟨12, 3⟩) (meth := k12m3) (c := k12c3) (by decide +kernel) rfl rfl rfl (by decide +kernel)
set_option maxRecDepth 65536 in
theorem w_c17 : (Jvm.Cond.code ({ cls := "java/lang/AbstractStringBuilder", name := "putStringAt", desc := "(ILjava/lang/String;)V" } : Jvm.MethodName) jdk_68_method_73_code (3 : Nat) (Option.none : Option Jvm.ClassFile.FieldType)).before args0 about1 = true := code_word (m := ⟨12, 9⟩) (meth := k12m9) (c := k12c9) (by decide +kernel) rfl rfl rfl (by decide +kernel)
set_option maxRecDepth 65536 in
theorem w_c18 : (Jvm.Cond.code ({ cls := "java/lang/AbstractStringBuilder", name := "inflateIfNeededFor", desc := "(Ljava/lang/String;)V" } : Jvm.MethodName) jdk_68_method_71_code (2 : Nat) (Option.none : Option Jvm.ClassFile.FieldType)).before args0 about1 = true := code_word (m := ⟨12, 8⟩) (meth := k12m8) (c := k12c8) (by decide +kernel) rfl rfl rfl (by decide +kernel)
set_option maxRecDepth 65536 in
theorem w_c19 : (Jvm.Cond.code ({ cls := "java/lang/String", name := "getBytes", desc := "([BIB)V" } : Jvm.MethodName) jdk_42_method_147_code (4 : Nat) (Option.none : Option Jvm.ClassFile.FieldType)).before args0 about1 = true := code_word (m := ⟨7, 5⟩) (meth := k7m5) (c := k7c5) (by decide +kernel) rfl rfl rfl (by decide +kernel)
set_option maxRecDepth 65536 in
theorem w_c20 : (Jvm.Cond.code ({ cls := "java/lang/StringBuilder", name := "append", desc := "(I)Ljava/lang/StringBuilder;" } : Jvm.MethodName) jdk_67_method_15_code (2 : Nat) (Option.some (Jvm.ClassFile.FieldType.object "java/lang/StringBuilder"))).before args0 about1 = true := code_word (m := ⟨13, 2⟩) (meth := k13m2) (c := k13c2) (by decide +kernel) rfl rfl rfl (by decide +kernel)
set_option maxRecDepth 65536 in
theorem w_c21 : (Jvm.Cond.code ({ cls := "java/lang/AbstractStringBuilder", name := "append", desc := "(I)Ljava/lang/AbstractStringBuilder;" } : Jvm.MethodName) jdk_68_method_32_code (4 : Nat) (Option.some (Jvm.ClassFile.FieldType.object "java/lang/AbstractStringBuilder"))).before args0 about1 = true := code_word (m := ⟨12, 5⟩) (meth := k12m5) (c := k12c5) (by decide +kernel) rfl rfl rfl (by decide +kernel)
set_option maxRecDepth 65536 in
theorem w_c22 : (Jvm.Cond.code ({ cls := "java/lang/Integer", name := "stringSize", desc := "(I)I" } : Jvm.MethodName) jdk_33_method_13_code (4 : Nat) (Option.some Jvm.ClassFile.FieldType.int)).before args0 about1 = true := code_word (m := ⟨16, 1⟩) (meth := k16m1) (c := k16c1) (by decide +kernel) rfl rfl rfl (by decide +kernel)
set_option maxRecDepth 65536 in
theorem w_c23 : (Jvm.Cond.code ({ cls := "java/lang/AbstractStringBuilder", name := "isLatin1", desc := "()Z" } : Jvm.MethodName) jdk_68_method_68_code (1 : Nat) (Option.some Jvm.ClassFile.FieldType.boolean)).before args0 about1 = true := code_word (m := ⟨12, 7⟩) (meth := k12m7) (c := k12c7) (by decide +kernel) rfl rfl rfl (by decide +kernel)
set_option maxRecDepth 65536 in
theorem w_c24 : (Jvm.Cond.code ({ cls := "java/lang/Integer", name := "getChars", desc := "(II[B)I" } : Jvm.MethodName) jdk_33_method_12_code (7 : Nat) (Option.some Jvm.ClassFile.FieldType.int)).before args0 about1 = true := code_word (m := ⟨16, 0⟩) (meth := k16m0) (c := k16c0) (by decide +kernel) rfl rfl rfl (by decide +kernel)
set_option maxRecDepth 65536 in
theorem w_c25 : (Jvm.Cond.code ({ cls := "java/lang/StringBuilder", name := "toString", desc := "()Ljava/lang/String;" } : Jvm.MethodName) jdk_67_method_42_code (1 : Nat) (Option.some (Jvm.ClassFile.FieldType.object "java/lang/String"))).before args0 about1 = true := code_word (m := ⟨13, 3⟩) (meth := k13m3) (c := k13c3) (by decide +kernel) rfl rfl rfl (by decide +kernel)
set_option maxRecDepth 65536 in
theorem w_c26 : (Jvm.Cond.code ({ cls := "java/lang/String", name := "<init>", desc := "(Ljava/lang/StringBuilder;)V" } : Jvm.MethodName) jdk_42_method_53_code (2 : Nat) (Option.none : Option Jvm.ClassFile.FieldType)).before args0 about1 = true := code_word (m := ⟨7, 2⟩) (meth := k7m2) (c := k7c2) (by decide +kernel) rfl rfl rfl (by decide +kernel)
set_option maxRecDepth 65536 in
theorem w_c27 : (Jvm.Cond.code ({ cls := "java/lang/String", name := "<init>", desc := "(Ljava/lang/AbstractStringBuilder;Ljava/lang/Void;)V" } : Jvm.MethodName) jdk_42_method_150_code (5 : Nat) (Option.none : Option Jvm.ClassFile.FieldType)).before args0 about1 = true := code_word (m := ⟨7, 7⟩) (meth := k7m7) (c := k7c7) (by decide +kernel) rfl rfl rfl (by decide +kernel)
set_option maxRecDepth 65536 in
theorem w_c28 : (Jvm.Cond.code ({ cls := "java/lang/AbstractStringBuilder", name := "getValue", desc := "()[B" } : Jvm.MethodName) jdk_68_method_64_code (1 : Nat) (Option.some (Jvm.ClassFile.FieldType.array Jvm.ClassFile.FieldType.byte))).before args0 about1 = true := code_word (m := ⟨12, 6⟩) (meth := k12m6) (c := k12c6) (by decide +kernel) rfl rfl rfl (by decide +kernel)
set_option maxRecDepth 65536 in
theorem w_c29 : (Jvm.Cond.code ({ cls := "java/lang/StringBuilder", name := "length", desc := "()I" } : Jvm.MethodName) jdk_67_method_93_code (1 : Nat) (Option.some Jvm.ClassFile.FieldType.int)).before args0 about1 = true := code_word (m := ⟨13, 4⟩) (meth := k13m4) (c := k13c4) (by decide +kernel) rfl rfl rfl (by decide +kernel)
set_option maxRecDepth 65536 in
theorem w_c30 : (Jvm.Cond.code ({ cls := "java/lang/AbstractStringBuilder", name := "length", desc := "()I" } : Jvm.MethodName) jdk_68_method_6_code (1 : Nat) (Option.some Jvm.ClassFile.FieldType.int)).before args0 about1 = true := code_word (m := ⟨12, 2⟩) (meth := k12m2) (c := k12c2) (by decide +kernel) rfl rfl rfl (by decide +kernel)
set_option maxRecDepth 65536 in
theorem w_c31 : (Jvm.Cond.code ({ cls := "java/util/Arrays", name := "copyOfRange", desc := "([BII)[B" } : Jvm.MethodName) jdk_65_method_132_code (3 : Nat) (Option.some (Jvm.ClassFile.FieldType.array Jvm.ClassFile.FieldType.byte))).before args0 about1 = true := code_word (m := ⟨17, 2⟩) (meth := k17m2) (c := k17c2) (by decide +kernel) rfl rfl rfl (by decide +kernel)
set_option maxRecDepth 65536 in
theorem w_c32 : (Jvm.Cond.code ({ cls := "java/util/Arrays", name := "copyOfRangeByte", desc := "([BII)[B" } : Jvm.MethodName) jdk_65_method_133_code (5 : Nat) (Option.some (Jvm.ClassFile.FieldType.array Jvm.ClassFile.FieldType.byte))).before args0 about1 = true := code_word (m := ⟨17, 3⟩) (meth := k17m3) (c := k17c3) (by decide +kernel) rfl rfl rfl (by decide +kernel)
set_option maxRecDepth 65536 in
theorem w_c33 : (Jvm.Cond.code ({ cls := "java/util/Arrays", name := "checkLength", desc := "(II)V" } : Jvm.MethodName) jdk_65_method_131_code (2 : Nat) (Option.none : Option Jvm.ClassFile.FieldType)).before args0 about1 = true := code_word (m := ⟨17, 1⟩) (meth := k17m1) (c := k17c1) (by decide +kernel) rfl rfl rfl (by decide +kernel)
set_option maxRecDepth 65536 in
theorem w_c34 : (Jvm.Cond.code ({ cls := "java/lang/Math", name := "min", desc := "(II)I" } : Jvm.MethodName) jdk_29_method_69_code (2 : Nat) (Option.some Jvm.ClassFile.FieldType.int)).before args0 about1 = true := code_word (m := ⟨18, 2⟩) (meth := k18m2) (c := k18c2) (by decide +kernel) rfl rfl rfl (by decide +kernel)
set_option maxRecDepth 65536 in
theorem w_c35 : (Jvm.Cond.code ({ cls := "java/lang/Math", name := "abs", desc := "(J)J" } : Jvm.MethodName) jdk_29_method_61_code (2 : Nat) (Option.some Jvm.ClassFile.FieldType.long)).before args0 about1 = true := code_word (m := ⟨18, 1⟩) (meth := k18m1) (c := k18c1) (by decide +kernel) rfl rfl rfl (by decide +kernel)
set_option maxRecDepth 65536 in
theorem w_c36 : (Jvm.Cond.code ({ cls := "com/example/apportion/apportion/jsonl/PlaceToStringPinLaw", name := "digits", desc := "(J)I" } : Jvm.MethodName) method_3_code (2 : Nat) (Option.some Jvm.ClassFile.FieldType.int)).before args0 about1 = true := code_word (m := ⟨1, 2⟩) (meth := k1m2) (c := k1c2) (by decide +kernel) rfl rfl rfl (by decide +kernel)
set_option maxRecDepth 65536 in
theorem w_c37 : (Jvm.Cond.code ({ cls := "java/lang/String", name := "charAt", desc := "(I)C" } : Jvm.MethodName) jdk_42_method_56_code (2 : Nat) (Option.some Jvm.ClassFile.FieldType.char)).before args0 about1 = true := code_word (m := ⟨7, 4⟩) (meth := k7m4) (c := k7c4) (by decide +kernel) rfl rfl rfl (by decide +kernel)
set_option maxRecDepth 65536 in
theorem w_c38 : (Jvm.Cond.code ({ cls := "java/lang/String", name := "isLatin1", desc := "()Z" } : Jvm.MethodName) jdk_42_method_154_code (1 : Nat) (Option.some Jvm.ClassFile.FieldType.boolean)).before args0 about1 = true := code_word (m := ⟨7, 9⟩) (meth := k7m9) (c := k7c9) (by decide +kernel) rfl rfl rfl (by decide +kernel)
set_option maxRecDepth 65536 in
theorem w_c39 : (Jvm.Cond.code ({ cls := "java/lang/StringLatin1", name := "charAt", desc := "([BI)C" } : Jvm.MethodName) jdk_43_method_2_code (2 : Nat) (Option.some Jvm.ClassFile.FieldType.char)).before args0 about1 = true := code_word (m := ⟨19, 1⟩) (meth := k19m1) (c := k19c1) (by decide +kernel) rfl rfl rfl (by decide +kernel)
set_option maxRecDepth 65536 in
theorem w_c40 : (Jvm.Cond.code ({ cls := "java/lang/String", name := "checkIndex", desc := "(II)V" } : Jvm.MethodName) jdk_42_method_155_code (2 : Nat) (Option.none : Option Jvm.ClassFile.FieldType)).before args0 about1 = true := code_word (m := ⟨7, 10⟩) (meth := k7m10) (c := k7c10) (by decide +kernel) rfl rfl rfl (by decide +kernel)
set_option maxRecDepth 65536 in
theorem w_c41 : (Jvm.Cond.code ({ cls := "jdk/internal/util/Preconditions", name := "checkIndex", desc := "(IILjava/util/function/BiFunction;)I" } : Jvm.MethodName) jdk_41_method_11_code (3 : Nat) (Option.some Jvm.ClassFile.FieldType.int)).before args0 about1 = true := code_word (m := ⟨20, 1⟩) (meth := k20m1) (c := k20c1) (by decide +kernel) rfl rfl rfl (by decide +kernel)
set_option maxRecDepth 65536 in
theorem w_c42 : (Jvm.Cond.code ({ cls := "com/example/apportion/apportion/jsonl/PlaceToStringPinLaw", name := "digitOk", desc := "(Ljava/lang/String;IIIJ[J)Z" } : Jvm.MethodName) method_4_code (9 : Nat) (Option.some Jvm.ClassFile.FieldType.boolean)).before args0 about1 = true := code_word (m := ⟨1, 3⟩) (meth := k1m3) (c := k1c3) (by decide +kernel) rfl rfl rfl (by decide +kernel)
def codes1 : List Jvm.Cond := [Jvm.Cond.code x code maxLocals ret, Jvm.Cond.code ({ cls := "java/lang/String", name := "<init>", desc := "([C)V" } : Jvm.MethodName) jdk_42_method_3_code (2 : Nat) (Option.none : Option Jvm.ClassFile.FieldType), Jvm.Cond.code ({ cls := "java/lang/String", name := "<init>", desc := "([CIILjava/lang/Void;)V" } : Jvm.MethodName) jdk_42_method_149_code (6 : Nat) (Option.none : Option Jvm.ClassFile.FieldType), Jvm.Cond.code ({ cls := "java/lang/Object", name := "<init>", desc := "()V" } : Jvm.MethodName) object_method_1_code (1 : Nat) (Option.none : Option Jvm.ClassFile.FieldType), Jvm.Cond.code ({ cls := "java/lang/StringUTF16", name := "compress", desc := "([CII)[B" } : Jvm.MethodName) jdk_52_method_16_code (6 : Nat) (Option.some (Jvm.ClassFile.FieldType.array Jvm.ClassFile.FieldType.byte)), Jvm.Cond.code ({ cls := "java/lang/StringUTF16", name := "compress", desc := "([CI[BII)I" } : Jvm.MethodName) jdk_52_method_21_code (7 : Nat) (Option.some Jvm.ClassFile.FieldType.int), Jvm.Cond.code ({ cls := "java/lang/StringUTF16", name := "coderFromArrayLen", desc := "([BI)B" } : Jvm.MethodName) jdk_52_method_15_code (2 : Nat) (Option.some Jvm.ClassFile.FieldType.byte), Jvm.Cond.code ({ cls := "com/example/apportion/apportion/jsonl/LedgerFiles$Place", name := "<init>", desc := "(Ljava/lang/String;I)V" } : Jvm.MethodName) prog_52_method_1_code (3 : Nat) (Option.none : Option Jvm.ClassFile.FieldType), Jvm.Cond.code ({ cls := "java/lang/Record", name := "<init>", desc := "()V" } : Jvm.MethodName) jdk_30_method_1_code (1 : Nat) (Option.none : Option Jvm.ClassFile.FieldType), Jvm.Cond.code ({ cls := "com/example/apportion/apportion/jsonl/LedgerFiles$Place", name := "toString", desc := "()Ljava/lang/String;" } : Jvm.MethodName) prog_52_method_2_code (1 : Nat) (Option.some (Jvm.ClassFile.FieldType.object "java/lang/String")), Jvm.Cond.code ({ cls := "java/lang/StringBuilder", name := "<init>", desc := "()V" } : Jvm.MethodName) jdk_67_method_1_code (1 : Nat) (Option.none : Option Jvm.ClassFile.FieldType), Jvm.Cond.code ({ cls := "java/lang/AbstractStringBuilder", name := "<init>", desc := "(I)V" } : Jvm.MethodName) jdk_68_method_2_code (2 : Nat) (Option.none : Option Jvm.ClassFile.FieldType), Jvm.Cond.code ({ cls := "java/lang/StringBuilder", name := "append", desc := "(Ljava/lang/String;)Ljava/lang/StringBuilder;" } : Jvm.MethodName) jdk_67_method_7_code (2 : Nat) (Option.some (Jvm.ClassFile.FieldType.object "java/lang/StringBuilder")), Jvm.Cond.code ({ cls := "java/lang/AbstractStringBuilder", name := "append", desc := "(Ljava/lang/String;)Ljava/lang/AbstractStringBuilder;" } : Jvm.MethodName) jdk_68_method_22_code (3 : Nat) (Option.some (Jvm.ClassFile.FieldType.object "java/lang/AbstractStringBuilder")), Jvm.Cond.code ({ cls := "java/lang/String", name := "length", desc := "()I" } : Jvm.MethodName) jdk_42_method_54_code (1 : Nat) (Option.some Jvm.ClassFile.FieldType.int), Jvm.Cond.code ({ cls := "java/lang/String", name := "coder", desc := "()B" } : Jvm.MethodName) jdk_42_method_152_code (1 : Nat) (Option.some Jvm.ClassFile.FieldType.byte), Jvm.Cond.code ({ cls := "java/lang/AbstractStringBuilder", name := "ensureCapacityInternal", desc := "(I)V" } : Jvm.MethodName) jdk_68_method_9_code (3 : Nat) (Option.none : Option Jvm.ClassFile.FieldType), Jvm.Cond.code ({ cls := "java/lang/AbstractStringBuilder", name := "putStringAt", desc := "(ILjava/lang/String;)V" } : Jvm.MethodName) jdk_68_method_73_code (3 : Nat) (Option.none : Option Jvm.ClassFile.FieldType), Jvm.Cond.code ({ cls := "java/lang/AbstractStringBuilder", name := "inflateIfNeededFor", desc := "(Ljava/lang/String;)V" } : Jvm.MethodName) jdk_68_method_71_code (2 : Nat) (Option.none : Option Jvm.ClassFile.FieldType), Jvm.Cond.code ({ cls := "java/lang/String", name := "getBytes", desc := "([BIB)V" } : Jvm.MethodName) jdk_42_method_147_code (4 : Nat) (Option.none : Option Jvm.ClassFile.FieldType), Jvm.Cond.code ({ cls := "java/lang/StringBuilder", name := "append", desc := "(I)Ljava/lang/StringBuilder;" } : Jvm.MethodName) jdk_67_method_15_code (2 : Nat) (Option.some (Jvm.ClassFile.FieldType.object "java/lang/StringBuilder")), Jvm.Cond.code ({ cls := "java/lang/AbstractStringBuilder", name := "append", desc := "(I)Ljava/lang/AbstractStringBuilder;" } : Jvm.MethodName) jdk_68_method_32_code (4 : Nat) (Option.some (Jvm.ClassFile.FieldType.object "java/lang/AbstractStringBuilder")), Jvm.Cond.code ({ cls := "java/lang/Integer", name := "stringSize", desc := "(I)I" } : Jvm.MethodName) jdk_33_method_13_code (4 : Nat) (Option.some Jvm.ClassFile.FieldType.int), Jvm.Cond.code ({ cls := "java/lang/AbstractStringBuilder", name := "isLatin1", desc := "()Z" } : Jvm.MethodName) jdk_68_method_68_code (1 : Nat) (Option.some Jvm.ClassFile.FieldType.boolean), Jvm.Cond.code ({ cls := "java/lang/Integer", name := "getChars", desc := "(II[B)I" } : Jvm.MethodName) jdk_33_method_12_code (7 : Nat) (Option.some Jvm.ClassFile.FieldType.int), Jvm.Cond.code ({ cls := "java/lang/StringBuilder", name := "toString", desc := "()Ljava/lang/String;" } : Jvm.MethodName) jdk_67_method_42_code (1 : Nat) (Option.some (Jvm.ClassFile.FieldType.object "java/lang/String")), Jvm.Cond.code ({ cls := "java/lang/String", name := "<init>", desc := "(Ljava/lang/StringBuilder;)V" } : Jvm.MethodName) jdk_42_method_53_code (2 : Nat) (Option.none : Option Jvm.ClassFile.FieldType), Jvm.Cond.code ({ cls := "java/lang/String", name := "<init>", desc := "(Ljava/lang/AbstractStringBuilder;Ljava/lang/Void;)V" } : Jvm.MethodName) jdk_42_method_150_code (5 : Nat) (Option.none : Option Jvm.ClassFile.FieldType), Jvm.Cond.code ({ cls := "java/lang/AbstractStringBuilder", name := "getValue", desc := "()[B" } : Jvm.MethodName) jdk_68_method_64_code (1 : Nat) (Option.some (Jvm.ClassFile.FieldType.array Jvm.ClassFile.FieldType.byte)), Jvm.Cond.code ({ cls := "java/lang/StringBuilder", name := "length", desc := "()I" } : Jvm.MethodName) jdk_67_method_93_code (1 : Nat) (Option.some Jvm.ClassFile.FieldType.int), Jvm.Cond.code ({ cls := "java/lang/AbstractStringBuilder", name := "length", desc := "()I" } : Jvm.MethodName) jdk_68_method_6_code (1 : Nat) (Option.some Jvm.ClassFile.FieldType.int), Jvm.Cond.code ({ cls := "java/util/Arrays", name := "copyOfRange", desc := "([BII)[B" } : Jvm.MethodName) jdk_65_method_132_code (3 : Nat) (Option.some (Jvm.ClassFile.FieldType.array Jvm.ClassFile.FieldType.byte)), Jvm.Cond.code ({ cls := "java/util/Arrays", name := "copyOfRangeByte", desc := "([BII)[B" } : Jvm.MethodName) jdk_65_method_133_code (5 : Nat) (Option.some (Jvm.ClassFile.FieldType.array Jvm.ClassFile.FieldType.byte)), Jvm.Cond.code ({ cls := "java/util/Arrays", name := "checkLength", desc := "(II)V" } : Jvm.MethodName) jdk_65_method_131_code (2 : Nat) (Option.none : Option Jvm.ClassFile.FieldType), Jvm.Cond.code ({ cls := "java/lang/Math", name := "min", desc := "(II)I" } : Jvm.MethodName) jdk_29_method_69_code (2 : Nat) (Option.some Jvm.ClassFile.FieldType.int), Jvm.Cond.code ({ cls := "java/lang/Math", name := "abs", desc := "(J)J" } : Jvm.MethodName) jdk_29_method_61_code (2 : Nat) (Option.some Jvm.ClassFile.FieldType.long), Jvm.Cond.code ({ cls := "com/example/apportion/apportion/jsonl/PlaceToStringPinLaw", name := "digits", desc := "(J)I" } : Jvm.MethodName) method_3_code (2 : Nat) (Option.some Jvm.ClassFile.FieldType.int), Jvm.Cond.code ({ cls := "java/lang/String", name := "charAt", desc := "(I)C" } : Jvm.MethodName) jdk_42_method_56_code (2 : Nat) (Option.some Jvm.ClassFile.FieldType.char), Jvm.Cond.code ({ cls := "java/lang/String", name := "isLatin1", desc := "()Z" } : Jvm.MethodName) jdk_42_method_154_code (1 : Nat) (Option.some Jvm.ClassFile.FieldType.boolean), Jvm.Cond.code ({ cls := "java/lang/StringLatin1", name := "charAt", desc := "([BI)C" } : Jvm.MethodName) jdk_43_method_2_code (2 : Nat) (Option.some Jvm.ClassFile.FieldType.char), Jvm.Cond.code ({ cls := "java/lang/String", name := "checkIndex", desc := "(II)V" } : Jvm.MethodName) jdk_42_method_155_code (2 : Nat) (Option.none : Option Jvm.ClassFile.FieldType), Jvm.Cond.code ({ cls := "jdk/internal/util/Preconditions", name := "checkIndex", desc := "(IILjava/util/function/BiFunction;)I" } : Jvm.MethodName) jdk_41_method_11_code (3 : Nat) (Option.some Jvm.ClassFile.FieldType.int), Jvm.Cond.code ({ cls := "com/example/apportion/apportion/jsonl/PlaceToStringPinLaw", name := "digitOk", desc := "(Ljava/lang/String;IIIJ[J)Z" } : Jvm.MethodName) method_4_code (9 : Nat) (Option.some Jvm.ClassFile.FieldType.boolean)]
set_option maxRecDepth 65536 in
theorem codes_eq : words1.filter isCode = codes1 := rfl
theorem w_codes : ∀ c ∈ words1.filter isCode, c.before args0 about1 = true := by
  rw [codes_eq]
  intro c hc
  simp only [codes1, List.mem_cons, List.not_mem_nil, or_false] at hc
  rcases hc with rfl | rfl | rfl | rfl | rfl | rfl | rfl | rfl | rfl | rfl | rfl | rfl | rfl | rfl | rfl | rfl | rfl | rfl | rfl | rfl | rfl | rfl | rfl | rfl | rfl | rfl | rfl | rfl | rfl | rfl | rfl | rfl | rfl | rfl | rfl | rfl | rfl | rfl | rfl | rfl | rfl | rfl | rfl
  · exact w_c0
  · exact w_c1
  · exact w_c2
  · exact w_c3
  · exact w_c4
  · exact w_c5
  · exact w_c6
  · exact w_c7
  · exact w_c8
  · exact w_c9
  · exact w_c10
  · exact w_c11
  · exact w_c12
  · exact w_c13
  · exact w_c14
  · exact w_c15
  · exact w_c16
  · exact w_c17
  · exact w_c18
  · exact w_c19
  · exact w_c20
  · exact w_c21
  · exact w_c22
  · exact w_c23
  · exact w_c24
  · exact w_c25
  · exact w_c26
  · exact w_c27
  · exact w_c28
  · exact w_c29
  · exact w_c30
  · exact w_c31
  · exact w_c32
  · exact w_c33
  · exact w_c34
  · exact w_c35
  · exact w_c36
  · exact w_c37
  · exact w_c38
  · exact w_c39
  · exact w_c40
  · exact w_c41
  · exact w_c42
set_option maxRecDepth 65536 in
theorem w_t1 : (words1.take 24).all (fun c => isCode c || c.before args0 about1) = true := by decide +kernel
set_option maxRecDepth 65536 in
theorem w_t2 : ((words1.drop 24).take 24).all (fun c => isCode c || c.before args0 about1) = true := by decide +kernel
set_option maxRecDepth 65536 in
theorem w_t3 : (((words1.drop 24).drop 24).take 24).all (fun c => isCode c || c.before args0 about1) = true := by decide +kernel
set_option maxRecDepth 65536 in
theorem w_t4 : ((((words1.drop 24).drop 24).drop 24).take 24).all (fun c => isCode c || c.before args0 about1) = true := by decide +kernel
set_option maxRecDepth 65536 in
theorem w_t5 : (((((words1.drop 24).drop 24).drop 24).drop 24).take 24).all (fun c => isCode c || c.before args0 about1) = true := by decide +kernel
set_option maxRecDepth 65536 in
theorem w_t6 : ((((((words1.drop 24).drop 24).drop 24).drop 24).drop 24).take 24).all (fun c => isCode c || c.before args0 about1) = true := by decide +kernel
set_option maxRecDepth 65536 in
theorem w_t7 : (((((((words1.drop 24).drop 24).drop 24).drop 24).drop 24).drop 24).take 24).all (fun c => isCode c || c.before args0 about1) = true := by decide +kernel
set_option maxRecDepth 65536 in
theorem w_t8 : ((((((((words1.drop 24).drop 24).drop 24).drop 24).drop 24).drop 24).drop 24).take 24).all (fun c => isCode c || c.before args0 about1) = true := by decide +kernel
set_option maxRecDepth 65536 in
theorem w_t9 : (((((((((words1.drop 24).drop 24).drop 24).drop 24).drop 24).drop 24).drop 24).drop 24).take 24).all (fun c => isCode c || c.before args0 about1) = true := by decide +kernel
set_option maxRecDepth 65536 in
theorem w_t10 : (((((((((words1.drop 24).drop 24).drop 24).drop 24).drop 24).drop 24).drop 24).drop 24).drop 24).all (fun c => isCode c || c.before args0 about1) = true := by decide +kernel
theorem w_tables : (allAtoms (Jvm.Cond.code x code maxLocals ret :: tables_1)).before args0 about1 = true := by
  rw [allAtoms_all]
  show words1.all (fun c => c.before args0 about1) = true
  refine all_split ?_ w_codes
  rw [← List.take_append_drop 24 words1, List.all_append, w_t1, ← List.take_append_drop 24 (words1.drop 24), List.all_append, w_t2, ← List.take_append_drop 24 ((words1.drop 24).drop 24), List.all_append, w_t3, ← List.take_append_drop 24 (((words1.drop 24).drop 24).drop 24), List.all_append, w_t4, ← List.take_append_drop 24 ((((words1.drop 24).drop 24).drop 24).drop 24), List.all_append, w_t5, ← List.take_append_drop 24 (((((words1.drop 24).drop 24).drop 24).drop 24).drop 24), List.all_append, w_t6, ← List.take_append_drop 24 ((((((words1.drop 24).drop 24).drop 24).drop 24).drop 24).drop 24), List.all_append, w_t7, ← List.take_append_drop 24 (((((((words1.drop 24).drop 24).drop 24).drop 24).drop 24).drop 24).drop 24), List.all_append, w_t8, ← List.take_append_drop 24 ((((((((words1.drop 24).drop 24).drop 24).drop 24).drop 24).drop 24).drop 24).drop 24), List.all_append, w_t9, w_t10]
  rfl
set_option maxRecDepth 65536 in
theorem w_rest : rest_1_c.before args0 about1 = true := by decide +kernel
set_option maxRecDepth 65536 in
theorem w_case : (Jvm.Cond.and given_1 narrow_1).before args0 about1 = true := by decide +kernel
set_option maxRecDepth 65536 in
theorem w_consts : constsHeld consts_1 about1 := Jvm.Lit.constsHeldB_iff.mp (by decide +kernel)
theorem w_applies : (headSpec (Jvm.Cond.code x code maxLocals ret :: tables_1) room_1).applies x e0.platform about1 = true :=
  (Spec.applies_iff w_frames).mpr ⟨w_running, w_runnable, w_alone, w_named, w_hears, w_ripe, w_room, w_tables⟩
theorem atStart : AtStart classFile x code maxLocals ret World_1 tables_1 room_1 Calls_1 rest_1 Pre_1 launch0 p0 e0 about1 theMethod args0 below0 :=
  ⟨lists_1, trivial, launch0.admits_env _ _ _, launch0.least_env, fairChoices_fair.cas, fairChoices_fair.clock, w_frames, w_args, w_heap, w_applies, ⟨w_consts, trivial⟩, w_rest, w_case⟩
end start1
theorem witness_1 : WitnessClaimed_1 := ⟨start1.p0, start1.e0, start1.about1, start1.theMethod, start1.args0, start1.below0, start1.atStart⟩
end Jvm.Pilot.@@N@@
