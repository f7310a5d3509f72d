import JvmDerived
import JvmDerived.Pilot.@@N@@Statement
import JvmDerived.Pilot.@@N@@Code
set_option linter.unusedVariables false
set_option linter.unusedSimpArgs false
@@BLOCK:NumsL.lean.txt@@
namespace Jvm.Pilot.@@N@@
open Jvm Jvm.ClassFile Sem Op Lib Jvm.Free Jvm.Stand Jvm.LawKit Jvm.RoadKit Bundle Jvm.Pilot.@@N@@.Jvm.D
/-! ## The walk goes forward from its goal: own_W says that the run from here ends as Q asks. -/
def own_Post (s : State) (Q : Option Value → Heap → List Loc → Prop) (kc ks : Nat) (o : Outcome) (s₂ : State) : Prop := ∃ v L, o = .returned v ∧ Q v s₂.heap L ∧ FrameEnd s o s₂ L kc ks
def own_Fin (p : Program) (e : Env) (below : List Frame) (P : Outcome → State → Prop) (A : State) : Prop :=
  ∃ s₂ o, Steps p.tables e below A s₂ ∧ s₂.status = .running ∧ Ended s₂ below o ∧ P o s₂
def own_W (p : Program) (e : Env) (below : List Frame) (P : Outcome → State → Prop) (T : State) (m : MethodId) (pc : Nat) (Ls : Array Slot) (S : List Value) : Prop :=
  own_Fin p e below P (T.setTop (mkF m pc Ls S))
theorem own_w {Z : State} {a0 : Array Value} (hw : ∀ d ∈ tables_1, d.before a0 Z = true) (i : Nat) {d : Jvm.Cond} (h : tables_1[i]? = some d) : d.before a0 Z = true := hw d (List.mem_of_getElem? h)
section OwnKit
variable {p : Program} {l : Launch} {e : Env} {R : Room} {s : State} {m : MethodId} {args : Array Value} {below : List Frame} {meth : Method} {c : Code} {T : State} {locs : List Loc} {cells slots : Nat} {Z : State} {a0 : Array Value} {h : Heap}
  {P : Outcome → State → Prop} {Q : Option Value → Heap → List Loc → Prop} {kc ks : Nat} {pc pc' : Nat} {Ls Ls' : Array Slot} {S : List Value}
theorem own_go {A B : State} (st : ∀ t, Steps p.tables e below B t → Steps p.tables e below A t) (K : own_Fin p e below P B) : own_Fin p e below P A :=
  let ⟨s₂, o, h1, r⟩ := K; ⟨s₂, o, st _ h1, r⟩
theorem own_enter {ml : Nat} (q : entryFrame m args ml = mkF m 0 Ls []) (K : own_W p e below (own_Post s Q kc ks) T m 0 Ls []) :
    ∃ s₂ o, Steps p.tables e below (T.setTop (entryFrame m args ml)) s₂ ∧ s₂.status = .running ∧ Ended s₂ below o ∧ ∃ v L, o = .returned v ∧ Q v s₂.heap L ∧ FrameEnd s o s₂ L kc ks := by
  rw [q]; exact K
theorem own_iloadN (X : Stand p l e R s m args below meth c T locs cells slots) (hx : p.tables.exec = Jvm.exec) {k : Fin 4} {v : Int32} (hd : decode c.code pc = .ok (.iload_n k, 1)) (hp : pc + 1 = pc') (hl : Ls[k.val]? = some (.val (.int v))) (K : own_W p e below P T m pc' Ls (.int v :: S)) : own_W p e below P T m pc Ls S := by
  subst hp; exact own_go (fun t => XS.iloadN (g := mkF m pc Ls S) X.here hx rfl hd hl) K
theorem own_iload (X : Stand p l e R s m args below meth c T locs cells slots) (hx : p.tables.exec = Jvm.exec) {k : Nat} {v : Int32} (hd : decode c.code pc = .ok (.iload k, 2)) (hp : pc + 2 = pc') (hl : Ls[k]? = some (.val (.int v))) (K : own_W p e below P T m pc' Ls (.int v :: S)) : own_W p e below P T m pc Ls S := by
  subst hp; exact own_go (fun t => XS.iload (g := mkF m pc Ls S) X.here hx rfl hd hl) K
theorem own_lloadN (X : Stand p l e R s m args below meth c T locs cells slots) (hx : p.tables.exec = Jvm.exec) {k : Fin 4} {v : Int64} (hd : decode c.code pc = .ok (.lload_n k, 1)) (hp : pc + 1 = pc') (hl : Ls[k.val]? = some (.val (.long v))) (K : own_W p e below P T m pc' Ls (.long v :: S)) : own_W p e below P T m pc Ls S := by
  subst hp; exact own_go (fun t => XT.lloadN (g := mkF m pc Ls S) X.here hx rfl hd hl) K
theorem own_lload (X : Stand p l e R s m args below meth c T locs cells slots) (hx : p.tables.exec = Jvm.exec) {k : Nat} {v : Int64} (hd : decode c.code pc = .ok (.lload k, 2)) (hp : pc + 2 = pc') (hl : Ls[k]? = some (.val (.long v))) (K : own_W p e below P T m pc' Ls (.long v :: S)) : own_W p e below P T m pc Ls S := by
  subst hp; exact own_go (fun t => XT.lload (g := mkF m pc Ls S) X.here hx rfl hd hl) K
theorem own_aloadN (X : Stand p l e R s m args below meth c T locs cells slots) (hx : p.tables.exec = Jvm.exec) {k : Fin 4} {v : Value} (hd : decode c.code pc = .ok (.aload_n k, 1)) (hp : pc + 1 = pc') (hl : Ls[k.val]? = some (.val v)) (hv : v.isRef = true) (K : own_W p e below P T m pc' Ls (v :: S)) : own_W p e below P T m pc Ls S := by
  subst hp; exact own_go (fun t => XS.aloadN (g := mkF m pc Ls S) X.here hx rfl hd hl hv) K
theorem own_aload (X : Stand p l e R s m args below meth c T locs cells slots) (hx : p.tables.exec = Jvm.exec) {k : Nat} {v : Value} (hd : decode c.code pc = .ok (.aload k, 2)) (hp : pc + 2 = pc') (hl : Ls[k]? = some (.val v)) (hv : v.isRef = true) (K : own_W p e below P T m pc' Ls (v :: S)) : own_W p e below P T m pc Ls S := by
  subst hp; exact own_go (fun t => XS.aload (g := mkF m pc Ls S) X.here hx rfl hd hl hv) K
theorem own_istoreN (X : Stand p l e R s m args below meth c T locs cells slots) (hx : p.tables.exec = Jvm.exec) {k : Fin 4} {v : Int32} (hd : decode c.code pc = .ok (.istore_n k, 1)) (hp : pc + 1 = pc') (hl : storeLocals Ls k.val (.int v) = some Ls') (K : own_W p e below P T m pc' Ls' S) : own_W p e below P T m pc Ls (.int v :: S) := by
  subst hp; exact own_go (fun t => XS.istoreN (g := mkF m pc Ls (.int v :: S)) X.here hx rfl hd rfl hl) K
theorem own_istore (X : Stand p l e R s m args below meth c T locs cells slots) (hx : p.tables.exec = Jvm.exec) {k : Nat} {v : Int32} (hd : decode c.code pc = .ok (.istore k, 2)) (hp : pc + 2 = pc') (hl : storeLocals Ls k (.int v) = some Ls') (K : own_W p e below P T m pc' Ls' S) : own_W p e below P T m pc Ls (.int v :: S) := by
  subst hp; exact own_go (fun t => XS.istore (g := mkF m pc Ls (.int v :: S)) X.here hx rfl hd rfl hl) K
theorem own_lstoreN (X : Stand p l e R s m args below meth c T locs cells slots) (hx : p.tables.exec = Jvm.exec) {k : Fin 4} {v : Int64} (hd : decode c.code pc = .ok (.lstore_n k, 1)) (hp : pc + 1 = pc') (hl : storeLocals Ls k.val (.long v) = some Ls') (K : own_W p e below P T m pc' Ls' S) : own_W p e below P T m pc Ls (.long v :: S) := by
  subst hp; exact own_go (fun t => XT.lstoreN (g := mkF m pc Ls (.long v :: S)) X.here hx rfl hd rfl hl) K
theorem own_lstore (X : Stand p l e R s m args below meth c T locs cells slots) (hx : p.tables.exec = Jvm.exec) {k : Nat} {v : Int64} (hd : decode c.code pc = .ok (.lstore k, 2)) (hp : pc + 2 = pc') (hl : storeLocals Ls k (.long v) = some Ls') (K : own_W p e below P T m pc' Ls' S) : own_W p e below P T m pc Ls (.long v :: S) := by
  subst hp; exact own_go (fun t => XT.lstore (g := mkF m pc Ls (.long v :: S)) X.here hx rfl hd rfl hl) K
theorem own_astoreN (X : Stand p l e R s m args below meth c T locs cells slots) (hx : p.tables.exec = Jvm.exec) {k : Fin 4} {v : Value} (hd : decode c.code pc = .ok (.astore_n k, 1)) (hp : pc + 1 = pc') (hv : v.isRef = true) (hl : storeLocals Ls k.val v = some Ls') (K : own_W p e below P T m pc' Ls' S) : own_W p e below P T m pc Ls (v :: S) := by
  subst hp; exact own_go (fun t => XS.astoreN (g := mkF m pc Ls (v :: S)) X.here hx rfl hd rfl hv hl) K
theorem own_astore (X : Stand p l e R s m args below meth c T locs cells slots) (hx : p.tables.exec = Jvm.exec) {k : Nat} {v : Value} (hd : decode c.code pc = .ok (.astore k, 2)) (hp : pc + 2 = pc') (hv : v.isRef = true) (hl : storeLocals Ls k v = some Ls') (K : own_W p e below P T m pc' Ls' S) : own_W p e below P T m pc Ls (v :: S) := by
  subst hp; exact own_go (fun t => XS.astore (g := mkF m pc Ls (v :: S)) X.here hx rfl hd rfl hv hl) K
theorem own_iconst (X : Stand p l e R s m args below meth c T locs cells slots) (hx : p.tables.exec = Jvm.exec) {i : Int} (v : Int32) (hd : decode c.code pc = .ok (.iconst i, 1)) (hp : pc + 1 = pc') (hv : Int32.ofInt i = v) (K : own_W p e below P T m pc' Ls (.int v :: S)) : own_W p e below P T m pc Ls S := by
  subst hp hv; exact own_go (fun t => XS.iconst (g := mkF m pc Ls S) X.here hx rfl hd) K
theorem own_bipush (X : Stand p l e R s m args below meth c T locs cells slots) (hx : p.tables.exec = Jvm.exec) {i : Int} (v : Int32) (hd : decode c.code pc = .ok (.bipush i, 2)) (hp : pc + 2 = pc') (hv : (Int8.ofInt i).toInt32 = v) (K : own_W p e below P T m pc' Ls (.int v :: S)) : own_W p e below P T m pc Ls S := by
  subst hp; exact own_go (fun t => XT.bipushV (g := mkF m pc Ls S) X.here hx rfl v hd hv) K
theorem own_sipush (X : Stand p l e R s m args below meth c T locs cells slots) (hx : p.tables.exec = Jvm.exec) {i : Int} (v : Int32) (hd : decode c.code pc = .ok (.sipush i, 3)) (hp : pc + 3 = pc') (hv : (Int16.ofInt i).toInt32 = v) (K : own_W p e below P T m pc' Ls (.int v :: S)) : own_W p e below P T m pc Ls S := by
  subst hp; exact own_go (fun t => XT.sipushV (g := mkF m pc Ls S) X.here hx rfl v hd hv) K
theorem own_lconst (X : Stand p l e R s m args below meth c T locs cells slots) (hx : p.tables.exec = Jvm.exec) {k : Fin 2} (v : Int64) (hd : decode c.code pc = .ok (.lconst k, 1)) (hp : pc + 1 = pc') (hv : Int64.ofNat k = v) (K : own_W p e below P T m pc' Ls (.long v :: S)) : own_W p e below P T m pc Ls S := by
  subst hp; exact own_go (fun t => XT.lconstV (g := mkF m pc Ls S) X.here hx rfl v hd hv) K
theorem own_aconst_null (X : Stand p l e R s m args below meth c T locs cells slots) (hx : p.tables.exec = Jvm.exec) (hd : decode c.code pc = .ok (.aconst_null, 1)) (hp : pc + 1 = pc') (K : own_W p e below P T m pc' Ls (.null :: S)) : own_W p e below P T m pc Ls S := by
  subst hp; exact own_go (fun t => XS.aconstNull (g := mkF m pc Ls S) X.here hx rfl hd) K
theorem own_ldc (X : Stand p l e R s m args below meth c T locs cells slots) (hx : p.tables.exec = Jvm.exec) (hZ : Z.Warmed39 s.vm) {own : String} {index : Nat} {v : Int32} (hown : s.vm.findClass own = some m.cls) (w : (Cond.constant own index v).before a0 Z = true) (hd : decode c.code pc = .ok (.ldc index, 2)) (hp : pc + 2 = pc') (K : own_W p e below P T m pc' Ls (.int v :: S)) : own_W p e below P T m pc Ls S := by
  subst hp; exact own_go (fun t => X.ldcI (g := mkF m pc Ls S) hx hown (mvT hZ w) rfl hd) K
theorem own_ldc2 (X : Stand p l e R s m args below meth c T locs cells slots) (hx : p.tables.exec = Jvm.exec) (hZ : Z.Warmed39 s.vm) {own : String} {index : Nat} {v : Int64} (hown : s.vm.findClass own = some m.cls) (w : (Cond.constantLong own index v).before a0 Z = true) (hd : decode c.code pc = .ok (.ldc2_w index, 3)) (hp : pc + 3 = pc') (K : own_W p e below P T m pc' Ls (.long v :: S)) : own_W p e below P T m pc Ls S := by
  subst hp; exact own_go (fun t => X.ldc2J (g := mkF m pc Ls S) hx hown (mvT hZ w) rfl hd) K
theorem own_iadd (X : Stand p l e R s m args below meth c T locs cells slots) (hx : p.tables.exec = Jvm.exec) {x y : Int32} (hd : decode c.code pc = .ok (.iadd, 1)) (hp : pc + 1 = pc') (K : own_W p e below P T m pc' Ls (.int (x + y) :: S)) : own_W p e below P T m pc Ls (.int y :: .int x :: S) := by
  subst hp; exact own_go (fun t => XS.iadd (g := mkF m pc Ls (.int y :: .int x :: S)) X.here hx rfl hd rfl) K
theorem own_isub (X : Stand p l e R s m args below meth c T locs cells slots) (hx : p.tables.exec = Jvm.exec) {x y : Int32} (hd : decode c.code pc = .ok (.isub, 1)) (hp : pc + 1 = pc') (K : own_W p e below P T m pc' Ls (.int (x - y) :: S)) : own_W p e below P T m pc Ls (.int y :: .int x :: S) := by
  subst hp; exact own_go (fun t => XS.isub (g := mkF m pc Ls (.int y :: .int x :: S)) X.here hx rfl hd rfl) K
theorem own_imul (X : Stand p l e R s m args below meth c T locs cells slots) (hx : p.tables.exec = Jvm.exec) {x y : Int32} (hd : decode c.code pc = .ok (.imul, 1)) (hp : pc + 1 = pc') (K : own_W p e below P T m pc' Ls (.int (x * y) :: S)) : own_W p e below P T m pc Ls (.int y :: .int x :: S) := by
  subst hp; exact own_go (fun t => XS.imul (g := mkF m pc Ls (.int y :: .int x :: S)) X.here hx rfl hd rfl) K
theorem own_iand (X : Stand p l e R s m args below meth c T locs cells slots) (hx : p.tables.exec = Jvm.exec) {x y : Int32} (hd : decode c.code pc = .ok (.iand, 1)) (hp : pc + 1 = pc') (K : own_W p e below P T m pc' Ls (.int (x &&& y) :: S)) : own_W p e below P T m pc Ls (.int y :: .int x :: S) := by
  subst hp; exact own_go (fun t => XS.iand (g := mkF m pc Ls (.int y :: .int x :: S)) X.here hx rfl hd rfl) K
theorem own_ior (X : Stand p l e R s m args below meth c T locs cells slots) (hx : p.tables.exec = Jvm.exec) {x y : Int32} (hd : decode c.code pc = .ok (.ior, 1)) (hp : pc + 1 = pc') (K : own_W p e below P T m pc' Ls (.int (x ||| y) :: S)) : own_W p e below P T m pc Ls (.int y :: .int x :: S) := by
  subst hp; exact own_go (fun t => XT.ior (g := mkF m pc Ls (.int y :: .int x :: S)) X.here hx rfl hd rfl) K
theorem own_ixor (X : Stand p l e R s m args below meth c T locs cells slots) (hx : p.tables.exec = Jvm.exec) {x y : Int32} (hd : decode c.code pc = .ok (.ixor, 1)) (hp : pc + 1 = pc') (K : own_W p e below P T m pc' Ls (.int (x ^^^ y) :: S)) : own_W p e below P T m pc Ls (.int y :: .int x :: S) := by
  subst hp; exact own_go (fun t => XT.ixor (g := mkF m pc Ls (.int y :: .int x :: S)) X.here hx rfl hd rfl) K
theorem own_ishl (X : Stand p l e R s m args below meth c T locs cells slots) (hx : p.tables.exec = Jvm.exec) {x y : Int32} (hd : decode c.code pc = .ok (.ishl, 1)) (hp : pc + 1 = pc') (K : own_W p e below P T m pc' Ls (.int (x <<< (y &&& 31)) :: S)) : own_W p e below P T m pc Ls (.int y :: .int x :: S) := by
  subst hp; exact own_go (fun t => XT.ishl (g := mkF m pc Ls (.int y :: .int x :: S)) X.here hx rfl hd rfl) K
theorem own_ishr (X : Stand p l e R s m args below meth c T locs cells slots) (hx : p.tables.exec = Jvm.exec) {x y : Int32} (hd : decode c.code pc = .ok (.ishr, 1)) (hp : pc + 1 = pc') (K : own_W p e below P T m pc' Ls (.int (x >>> (y &&& 31)) :: S)) : own_W p e below P T m pc Ls (.int y :: .int x :: S) := by
  subst hp; exact own_go (fun t => XT.ishr (g := mkF m pc Ls (.int y :: .int x :: S)) X.here hx rfl hd rfl) K
theorem own_iushr (X : Stand p l e R s m args below meth c T locs cells slots) (hx : p.tables.exec = Jvm.exec) {x y : Int32} (hd : decode c.code pc = .ok (.iushr, 1)) (hp : pc + 1 = pc') (K : own_W p e below P T m pc' Ls (.int (XT.ushr x y) :: S)) : own_W p e below P T m pc Ls (.int y :: .int x :: S) := by
  subst hp; exact own_go (fun t => XT.iushr (g := mkF m pc Ls (.int y :: .int x :: S)) X.here hx rfl hd rfl) K
theorem own_ladd (X : Stand p l e R s m args below meth c T locs cells slots) (hx : p.tables.exec = Jvm.exec) {x y : Int64} (hd : decode c.code pc = .ok (.ladd, 1)) (hp : pc + 1 = pc') (K : own_W p e below P T m pc' Ls (.long (x + y) :: S)) : own_W p e below P T m pc Ls (.long y :: .long x :: S) := by
  subst hp; exact own_go (fun t => XT.ladd (g := mkF m pc Ls (.long y :: .long x :: S)) X.here hx rfl hd rfl) K
theorem own_lsub (X : Stand p l e R s m args below meth c T locs cells slots) (hx : p.tables.exec = Jvm.exec) {x y : Int64} (hd : decode c.code pc = .ok (.lsub, 1)) (hp : pc + 1 = pc') (K : own_W p e below P T m pc' Ls (.long (x - y) :: S)) : own_W p e below P T m pc Ls (.long y :: .long x :: S) := by
  subst hp; exact own_go (fun t => XT.lsub (g := mkF m pc Ls (.long y :: .long x :: S)) X.here hx rfl hd rfl) K
theorem own_lmul (X : Stand p l e R s m args below meth c T locs cells slots) (hx : p.tables.exec = Jvm.exec) {x y : Int64} (hd : decode c.code pc = .ok (.lmul, 1)) (hp : pc + 1 = pc') (K : own_W p e below P T m pc' Ls (.long (x * y) :: S)) : own_W p e below P T m pc Ls (.long y :: .long x :: S) := by
  subst hp; exact own_go (fun t => XT.lmul (g := mkF m pc Ls (.long y :: .long x :: S)) X.here hx rfl hd rfl) K
theorem own_land (X : Stand p l e R s m args below meth c T locs cells slots) (hx : p.tables.exec = Jvm.exec) {x y : Int64} (hd : decode c.code pc = .ok (.land, 1)) (hp : pc + 1 = pc') (K : own_W p e below P T m pc' Ls (.long (x &&& y) :: S)) : own_W p e below P T m pc Ls (.long y :: .long x :: S) := by
  subst hp; exact own_go (fun t => XT.land (g := mkF m pc Ls (.long y :: .long x :: S)) X.here hx rfl hd rfl) K
theorem own_lor (X : Stand p l e R s m args below meth c T locs cells slots) (hx : p.tables.exec = Jvm.exec) {x y : Int64} (hd : decode c.code pc = .ok (.lor, 1)) (hp : pc + 1 = pc') (K : own_W p e below P T m pc' Ls (.long (x ||| y) :: S)) : own_W p e below P T m pc Ls (.long y :: .long x :: S) := by
  subst hp; exact own_go (fun t => XT.lor (g := mkF m pc Ls (.long y :: .long x :: S)) X.here hx rfl hd rfl) K
theorem own_lxor (X : Stand p l e R s m args below meth c T locs cells slots) (hx : p.tables.exec = Jvm.exec) {x y : Int64} (hd : decode c.code pc = .ok (.lxor, 1)) (hp : pc + 1 = pc') (K : own_W p e below P T m pc' Ls (.long (x ^^^ y) :: S)) : own_W p e below P T m pc Ls (.long y :: .long x :: S) := by
  subst hp; exact own_go (fun t => XT.lxor (g := mkF m pc Ls (.long y :: .long x :: S)) X.here hx rfl hd rfl) K
theorem own_lshl (X : Stand p l e R s m args below meth c T locs cells slots) (hx : p.tables.exec = Jvm.exec) {x : Int64} {y : Int32} (hd : decode c.code pc = .ok (.lshl, 1)) (hp : pc + 1 = pc') (K : own_W p e below P T m pc' Ls (.long (x <<< (y.toInt64 &&& 63)) :: S)) : own_W p e below P T m pc Ls (.int y :: .long x :: S) := by
  subst hp; exact own_go (fun t => XT.lshl (g := mkF m pc Ls (.int y :: .long x :: S)) X.here hx rfl hd rfl) K
theorem own_lshr (X : Stand p l e R s m args below meth c T locs cells slots) (hx : p.tables.exec = Jvm.exec) {x : Int64} {y : Int32} (hd : decode c.code pc = .ok (.lshr, 1)) (hp : pc + 1 = pc') (K : own_W p e below P T m pc' Ls (.long (x >>> (y.toInt64 &&& 63)) :: S)) : own_W p e below P T m pc Ls (.int y :: .long x :: S) := by
  subst hp; exact own_go (fun t => XT.lshr (g := mkF m pc Ls (.int y :: .long x :: S)) X.here hx rfl hd rfl) K
theorem own_lushr (X : Stand p l e R s m args below meth c T locs cells slots) (hx : p.tables.exec = Jvm.exec) {x : Int64} {y : Int32} (hd : decode c.code pc = .ok (.lushr, 1)) (hp : pc + 1 = pc') (K : own_W p e below P T m pc' Ls (.long (XT.ushrL x y) :: S)) : own_W p e below P T m pc Ls (.int y :: .long x :: S) := by
  subst hp; exact own_go (fun t => XT.lushr (g := mkF m pc Ls (.int y :: .long x :: S)) X.here hx rfl hd rfl) K
theorem own_idiv (X : Stand p l e R s m args below meth c T locs cells slots) (hx : p.tables.exec = Jvm.exec) {x y : Int32} (hd : decode c.code pc = .ok (.idiv, 1)) (hp : pc + 1 = pc') (hy : y ≠ 0) (K : own_W p e below P T m pc' Ls (.int (x / y) :: S)) : own_W p e below P T m pc Ls (.int y :: .int x :: S) := by
  subst hp; exact own_go (fun t => XS.idiv (g := mkF m pc Ls (.int y :: .int x :: S)) X.here hx rfl hd rfl hy) K
theorem own_irem (X : Stand p l e R s m args below meth c T locs cells slots) (hx : p.tables.exec = Jvm.exec) {x y : Int32} (hd : decode c.code pc = .ok (.irem, 1)) (hp : pc + 1 = pc') (hy : y ≠ 0) (K : own_W p e below P T m pc' Ls (.int (x % y) :: S)) : own_W p e below P T m pc Ls (.int y :: .int x :: S) := by
  subst hp; exact own_go (fun t => iremM (g := mkF m pc Ls (.int y :: .int x :: S)) X hx rfl hd rfl hy) K
theorem own_ldiv (X : Stand p l e R s m args below meth c T locs cells slots) (hx : p.tables.exec = Jvm.exec) {x y : Int64} (hd : decode c.code pc = .ok (.ldiv, 1)) (hp : pc + 1 = pc') (hy : y ≠ 0) (K : own_W p e below P T m pc' Ls (.long (x / y) :: S)) : own_W p e below P T m pc Ls (.long y :: .long x :: S) := by
  subst hp; exact own_go (fun t => XT.ldiv (g := mkF m pc Ls (.long y :: .long x :: S)) X.here hx rfl hd rfl hy) K
theorem own_lrem (X : Stand p l e R s m args below meth c T locs cells slots) (hx : p.tables.exec = Jvm.exec) {x y : Int64} (hd : decode c.code pc = .ok (.lrem, 1)) (hp : pc + 1 = pc') (hy : y ≠ 0) (K : own_W p e below P T m pc' Ls (.long (x % y) :: S)) : own_W p e below P T m pc Ls (.long y :: .long x :: S) := by
  subst hp; rw [← lrem_mod] at K; exact own_go (fun t => XT.lrem (g := mkF m pc Ls (.long y :: .long x :: S)) X.here hx rfl hd rfl hy) K
theorem own_ineg (X : Stand p l e R s m args below meth c T locs cells slots) (hx : p.tables.exec = Jvm.exec) {x : Int32} (hd : decode c.code pc = .ok (.ineg, 1)) (hp : pc + 1 = pc') (K : own_W p e below P T m pc' Ls (.int (-x) :: S)) : own_W p e below P T m pc Ls (.int x :: S) := by
  subst hp; exact own_go (fun t => XS.ineg (g := mkF m pc Ls (.int x :: S)) X.here hx rfl hd rfl) K
theorem own_lneg (X : Stand p l e R s m args below meth c T locs cells slots) (hx : p.tables.exec = Jvm.exec) {x : Int64} (hd : decode c.code pc = .ok (.lneg, 1)) (hp : pc + 1 = pc') (K : own_W p e below P T m pc' Ls (.long (-x) :: S)) : own_W p e below P T m pc Ls (.long x :: S) := by
  subst hp; exact own_go (fun t => XT.lneg (g := mkF m pc Ls (.long x :: S)) X.here hx rfl hd rfl) K
theorem own_i2l (X : Stand p l e R s m args below meth c T locs cells slots) (hx : p.tables.exec = Jvm.exec) {x : Int32} (hd : decode c.code pc = .ok (.i2l, 1)) (hp : pc + 1 = pc') (K : own_W p e below P T m pc' Ls (.long (x.toInt64) :: S)) : own_W p e below P T m pc Ls (.int x :: S) := by
  subst hp; exact own_go (fun t => XT.i2l (g := mkF m pc Ls (.int x :: S)) X.here hx rfl hd rfl) K
theorem own_l2i (X : Stand p l e R s m args below meth c T locs cells slots) (hx : p.tables.exec = Jvm.exec) {x : Int64} (hd : decode c.code pc = .ok (.l2i, 1)) (hp : pc + 1 = pc') (K : own_W p e below P T m pc' Ls (.int (x.toInt32) :: S)) : own_W p e below P T m pc Ls (.long x :: S) := by
  subst hp; exact own_go (fun t => XT.l2i (g := mkF m pc Ls (.long x :: S)) X.here hx rfl hd rfl) K
theorem own_i2b (X : Stand p l e R s m args below meth c T locs cells slots) (hx : p.tables.exec = Jvm.exec) {x : Int32} (hd : decode c.code pc = .ok (.i2b, 1)) (hp : pc + 1 = pc') (K : own_W p e below P T m pc' Ls (.int (x.toInt8.toInt32) :: S)) : own_W p e below P T m pc Ls (.int x :: S) := by
  subst hp; exact own_go (fun t => XT.i2b (g := mkF m pc Ls (.int x :: S)) X.here hx rfl hd rfl) K
theorem own_i2c (X : Stand p l e R s m args below meth c T locs cells slots) (hx : p.tables.exec = Jvm.exec) {x : Int32} (hd : decode c.code pc = .ok (.i2c, 1)) (hp : pc + 1 = pc') (K : own_W p e below P T m pc' Ls (.int (x.toUInt32.toUInt16.toUInt32.toInt32) :: S)) : own_W p e below P T m pc Ls (.int x :: S) := by
  subst hp; exact own_go (fun t => XT.i2c (g := mkF m pc Ls (.int x :: S)) X.here hx rfl hd rfl) K
theorem own_i2s (X : Stand p l e R s m args below meth c T locs cells slots) (hx : p.tables.exec = Jvm.exec) {x : Int32} (hd : decode c.code pc = .ok (.i2s, 1)) (hp : pc + 1 = pc') (K : own_W p e below P T m pc' Ls (.int (x.toInt16.toInt32) :: S)) : own_W p e below P T m pc Ls (.int x :: S) := by
  subst hp; exact own_go (fun t => XT.i2s (g := mkF m pc Ls (.int x :: S)) X.here hx rfl hd rfl) K
theorem own_iinc (X : Stand p l e R s m args below meth c T locs cells slots) (hx : p.tables.exec = Jvm.exec) {k : Nat} {cst : Int} {x : Int32} (v : Int32) (hd : decode c.code pc = .ok (.iinc k cst, 3)) (hp : pc + 3 = pc') (hv : Int32.ofInt cst = v) (hl : Ls[k]? = some (.val (.int x))) (hl' : storeLocals Ls k (.int (x + v)) = some Ls') (K : own_W p e below P T m pc' Ls' S) : own_W p e below P T m pc Ls S := by
  subst hp; exact own_go (fun t => XT.iincV (g := mkF m pc Ls S) X.here hx rfl v hd hv hl hl') K
theorem own_dup (X : Stand p l e R s m args below meth c T locs cells slots) (hx : p.tables.exec = Jvm.exec) {x : Value} (hd : decode c.code pc = .ok (.dup, 1)) (hp : pc + 1 = pc') (hc : x.category = 1) (K : own_W p e below P T m pc' Ls (x :: x :: S)) : own_W p e below P T m pc Ls (x :: S) := by
  subst hp; exact own_go (fun t => XS.dup (g := mkF m pc Ls (x :: S)) X.here hx rfl hd rfl hc) K
theorem own_pop (X : Stand p l e R s m args below meth c T locs cells slots) (hx : p.tables.exec = Jvm.exec) {x : Value} (hd : decode c.code pc = .ok (.pop, 1)) (hp : pc + 1 = pc') (hc : x.category = 1) (K : own_W p e below P T m pc' Ls S) : own_W p e below P T m pc Ls (x :: S) := by
  subst hp; exact own_go (fun t => XT.pop (g := mkF m pc Ls (x :: S)) X.here hx rfl hd rfl hc) K
theorem own_dup2 (X : Stand p l e R s m args below meth c T locs cells slots) (hx : p.tables.exec = Jvm.exec) {x y : Value} (hd : decode c.code pc = .ok (.dup2, 1)) (hp : pc + 1 = pc') (hc : x.category = 1) (hc' : y.category = 1) (K : own_W p e below P T m pc' Ls (x :: y :: x :: y :: S)) : own_W p e below P T m pc Ls (x :: y :: S) := by
  subst hp; exact own_go (fun t => XT.dup2 (g := mkF m pc Ls (x :: y :: S)) X.here hx rfl hd rfl hc hc') K
theorem own_goto (X : Stand p l e R s m args below meth c T locs cells slots) (hx : p.tables.exec = Jvm.exec) {o : Int} (hd : decode c.code pc = .ok (.goto o, 3)) (ho : 0 ≤ (pc : Int) + o) (hp : ((pc : Int) + o).toNat = pc') (K : own_W p e below P T m pc' Ls S) : own_W p e below P T m pc Ls S :=
  own_go (fun t => XS.goto (g := mkF m pc Ls S) X.here hx rfl (pc0 := pc) (pc' := pc') rfl hd ho hp) K
/-- what a taken branch tells (own_P), what one that isn't taken tells (own_N) -/
def own_P : ClassFile.Cond → Int32 → Int32 → Prop
  | .eq, x, y => x = y
  | .ne, x, y => ¬ x = y
  | .lt, x, y => x < y
  | .ge, x, y => ¬ x < y
  | .gt, x, y => y < x
  | .le, x, y => ¬ y < x
def own_N : ClassFile.Cond → Int32 → Int32 → Prop
  | .eq, x, y => ¬ x = y
  | .ne, x, y => x = y
  | .lt, x, y => ¬ x < y
  | .ge, x, y => x < y
  | .gt, x, y => ¬ y < x
  | .le, x, y => y < x
theorem own_holdsT {cd : ClassFile.Cond} {x y : Int32} (q : own_P cd x y) : if_icmp.holds cd x y = true := by
  cases cd <;> first | exact (teq q).1 | exact (feq q).2 | exact (tlt q).1 | exact (flt q).2.1 | exact (tlt q).2.2.1 | exact (flt q).2.2.2
theorem own_holdsF {cd : ClassFile.Cond} {x y : Int32} (q : own_N cd x y) : if_icmp.holds cd x y = false := by
  cases cd <;> first | exact (feq q).1 | exact (teq q).2 | exact (flt q).1 | exact (tlt q).2.1 | exact (flt q).2.2.1 | exact (tlt q).2.2.2
theorem own_or (cd : ClassFile.Cond) (x y : Int32) : own_P cd x y ∨ own_N cd x y := by
  cases cd
  · exact Classical.em (x = y)
  · exact (Classical.em (x = y)).symm
  · exact Classical.em (x < y)
  · exact (Classical.em (x < y)).symm
  · exact Classical.em (y < x)
  · exact (Classical.em (y < x)).symm
theorem own_icmpY (X : Stand p l e R s m args below meth c T locs cells slots) (hx : p.tables.exec = Jvm.exec) {cd : ClassFile.Cond} {x y : Int32} {o : Int} (hd : decode c.code pc = .ok (.if_icmp cd o, 3)) (ho : 0 ≤ (pc : Int) + o) (hp : ((pc : Int) + o).toNat = pc') (q : own_P cd x y) (K : own_W p e below P T m pc' Ls S) : own_W p e below P T m pc Ls (.int y :: .int x :: S) :=
  own_go (fun t => XS.icmpYes (g := mkF m pc Ls (.int y :: .int x :: S)) X.here hx rfl (pc0 := pc) (pc' := pc') rfl hd rfl (own_holdsT q) ho hp) K
theorem own_icmpN (X : Stand p l e R s m args below meth c T locs cells slots) (hx : p.tables.exec = Jvm.exec) {cd : ClassFile.Cond} {x y : Int32} {o : Int} (hd : decode c.code pc = .ok (.if_icmp cd o, 3)) (hp : pc + 3 = pc') (q : own_N cd x y) (K : own_W p e below P T m pc' Ls S) : own_W p e below P T m pc Ls (.int y :: .int x :: S) := by
  subst hp; exact own_go (fun t => XS.icmpNo (g := mkF m pc Ls (.int y :: .int x :: S)) X.here hx rfl hd rfl (own_holdsF q)) K
theorem own_icmp (X : Stand p l e R s m args below meth c T locs cells slots) (hx : p.tables.exec = Jvm.exec) {cd : ClassFile.Cond} {x y : Int32} {o : Int} {pcY pcN : Nat} (hd : decode c.code pc = .ok (.if_icmp cd o, 3)) (ho : 0 ≤ (pc : Int) + o) (hY : ((pc : Int) + o).toNat = pcY) (hN : pc + 3 = pcN) (KY : own_P cd x y → own_W p e below P T m pcY Ls S) (KN : own_N cd x y → own_W p e below P T m pcN Ls S) : own_W p e below P T m pc Ls (.int y :: .int x :: S) :=
  (own_or cd x y).elim (fun q => own_icmpY X hx hd ho hY q (KY q)) (fun q => own_icmpN X hx hd hN q (KN q))
theorem own_ifY (X : Stand p l e R s m args below meth c T locs cells slots) (hx : p.tables.exec = Jvm.exec) {cd : ClassFile.Cond} {x : Int32} {o : Int} (hd : decode c.code pc = .ok (.ifCond cd o, 3)) (ho : 0 ≤ (pc : Int) + o) (hp : ((pc : Int) + o).toNat = pc') (q : own_P cd x 0) (K : own_W p e below P T m pc' Ls S) : own_W p e below P T m pc Ls (.int x :: S) :=
  own_go (fun t => XS.ifYes (g := mkF m pc Ls (.int x :: S)) X.here hx rfl (pc0 := pc) (pc' := pc') rfl hd rfl ((if0 _ _).trans (own_holdsT q)) ho hp) K
theorem own_ifN (X : Stand p l e R s m args below meth c T locs cells slots) (hx : p.tables.exec = Jvm.exec) {cd : ClassFile.Cond} {x : Int32} {o : Int} (hd : decode c.code pc = .ok (.ifCond cd o, 3)) (hp : pc + 3 = pc') (q : own_N cd x 0) (K : own_W p e below P T m pc' Ls S) : own_W p e below P T m pc Ls (.int x :: S) := by
  subst hp; exact own_go (fun t => XS.ifNo (g := mkF m pc Ls (.int x :: S)) X.here hx rfl hd rfl ((if0 _ _).trans (own_holdsF q))) K
theorem own_if (X : Stand p l e R s m args below meth c T locs cells slots) (hx : p.tables.exec = Jvm.exec) {cd : ClassFile.Cond} {x : Int32} {o : Int} {pcY pcN : Nat} (hd : decode c.code pc = .ok (.ifCond cd o, 3)) (ho : 0 ≤ (pc : Int) + o) (hY : ((pc : Int) + o).toNat = pcY) (hN : pc + 3 = pcN) (KY : own_P cd x 0 → own_W p e below P T m pcY Ls S) (KN : own_N cd x 0 → own_W p e below P T m pcN Ls S) : own_W p e below P T m pc Ls (.int x :: S) :=
  (own_or cd x 0).elim (fun q => own_ifY X hx hd ho hY q (KY q)) (fun q => own_ifN X hx hd hN q (KN q))
/-- the same of two longs: lcmp and the branch behind it, in one -/
def own_PL : ClassFile.Cond → Int64 → Int64 → Prop
  | .eq, x, y => x = y
  | .ne, x, y => ¬ x = y
  | .lt, x, y => x < y
  | .ge, x, y => ¬ x < y
  | .gt, x, y => y < x
  | .le, x, y => ¬ y < x
def own_NL : ClassFile.Cond → Int64 → Int64 → Prop
  | .eq, x, y => ¬ x = y
  | .ne, x, y => x = y
  | .lt, x, y => ¬ x < y
  | .ge, x, y => x < y
  | .gt, x, y => ¬ y < x
  | .le, x, y => y < x
theorem own_holdsLT {cd : ClassFile.Cond} {x y : Int64} (q : own_PL cd x y) : ifCond.holds cd (XT.cmpL x y) = true := by
  cases cd
  · exact XT.ll_eq_t q
  · exact XT.ll_ne_t q
  · exact XT.ll_lt_t q
  · exact XT.ll_ge_t q
  · exact XT.ll_gt_t q
  · exact XT.ll_le_t q
theorem own_holdsLF {cd : ClassFile.Cond} {x y : Int64} (q : own_NL cd x y) : ifCond.holds cd (XT.cmpL x y) = false := by
  cases cd
  · exact XT.ll_eq_f q
  · exact XT.ll_ne_f q
  · exact XT.ll_lt_f q
  · exact XT.ll_ge_f q
  · exact XT.ll_gt_f q
  · exact XT.ll_le_f q
theorem own_orL (cd : ClassFile.Cond) (x y : Int64) : own_PL cd x y ∨ own_NL cd x y := by
  cases cd
  · exact Classical.em (x = y)
  · exact (Classical.em (x = y)).symm
  · exact Classical.em (x < y)
  · exact (Classical.em (x < y)).symm
  · exact Classical.em (y < x)
  · exact (Classical.em (y < x)).symm
theorem own_lcY (X : Stand p l e R s m args below meth c T locs cells slots) (hx : p.tables.exec = Jvm.exec) {cd : ClassFile.Cond} {x y : Int64} {o : Int} (hd1 : decode c.code pc = .ok (.lcmp, 1)) (hd : decode c.code (pc + 1) = .ok (.ifCond cd o, 3)) (ho : 0 ≤ ((pc + 1 : Nat) : Int) + o) (hp : (((pc + 1 : Nat) : Int) + o).toNat = pc') (q : own_PL cd x y) (K : own_W p e below P T m pc' Ls S) : own_W p e below P T m pc Ls (.long y :: .long x :: S) :=
  own_go (fun t => XT.lcmp (g := mkF m pc Ls (.long y :: .long x :: S)) X.here hx rfl hd1 rfl) (own_go (fun t => XS.ifYes (g := mkF m (pc + 1) Ls (.int (XT.cmpL x y) :: S)) X.here hx rfl (pc0 := pc + 1) (pc' := pc') rfl hd rfl (own_holdsLT q) ho hp) K)
theorem own_lcN (X : Stand p l e R s m args below meth c T locs cells slots) (hx : p.tables.exec = Jvm.exec) {cd : ClassFile.Cond} {x y : Int64} {o : Int} (hd1 : decode c.code pc = .ok (.lcmp, 1)) (hd : decode c.code (pc + 1) = .ok (.ifCond cd o, 3)) (hp : pc + 4 = pc') (q : own_NL cd x y) (K : own_W p e below P T m pc' Ls S) : own_W p e below P T m pc Ls (.long y :: .long x :: S) := by
  subst hp; exact own_go (fun t => XT.lcmp (g := mkF m pc Ls (.long y :: .long x :: S)) X.here hx rfl hd1 rfl) (own_go (fun t => XS.ifNo (g := mkF m (pc + 1) Ls (.int (XT.cmpL x y) :: S)) X.here hx rfl hd rfl (own_holdsLF q)) K)
theorem own_lc (X : Stand p l e R s m args below meth c T locs cells slots) (hx : p.tables.exec = Jvm.exec) {cd : ClassFile.Cond} {x y : Int64} {o : Int} {pcY pcN : Nat} (hd1 : decode c.code pc = .ok (.lcmp, 1)) (hd : decode c.code (pc + 1) = .ok (.ifCond cd o, 3)) (ho : 0 ≤ ((pc + 1 : Nat) : Int) + o) (hY : (((pc + 1 : Nat) : Int) + o).toNat = pcY) (hN : pc + 4 = pcN) (KY : own_PL cd x y → own_W p e below P T m pcY Ls S) (KN : own_NL cd x y → own_W p e below P T m pcN Ls S) : own_W p e below P T m pc Ls (.long y :: .long x :: S) :=
  (own_orL cd x y).elim (fun q => own_lcY X hx hd1 hd ho hY q (KY q)) (fun q => own_lcN X hx hd1 hd hN q (KN q))
theorem own_ifnullY (X : Stand p l e R s m args below meth c T locs cells slots) (hx : p.tables.exec = Jvm.exec) {o : Int} (hd : decode c.code pc = .ok (.ifnull o, 3)) (ho : 0 ≤ (pc : Int) + o) (hp : ((pc : Int) + o).toNat = pc') (K : own_W p e below P T m pc' Ls S) : own_W p e below P T m pc Ls (.null :: S) :=
  own_go (fun t => XS.ifnullYes (g := mkF m pc Ls (.null :: S)) X.here hx rfl (pc0 := pc) (pc' := pc') rfl hd rfl ho hp) K
theorem own_ifnullN (X : Stand p l e R s m args below meth c T locs cells slots) (hx : p.tables.exec = Jvm.exec) {o : Int} {a : Addr} (hd : decode c.code pc = .ok (.ifnull o, 3)) (hp : pc + 3 = pc') (K : own_W p e below P T m pc' Ls S) : own_W p e below P T m pc Ls (.ref a :: S) := by
  subst hp; exact own_go (fun t => XS.ifnullNo (g := mkF m pc Ls (.ref a :: S)) X.here hx rfl hd rfl) K
theorem own_ifnonnullY (X : Stand p l e R s m args below meth c T locs cells slots) (hx : p.tables.exec = Jvm.exec) {o : Int} {a : Addr} (hd : decode c.code pc = .ok (.ifnonnull o, 3)) (ho : 0 ≤ (pc : Int) + o) (hp : ((pc : Int) + o).toNat = pc') (K : own_W p e below P T m pc' Ls S) : own_W p e below P T m pc Ls (.ref a :: S) :=
  own_go (fun t => XT.ifnonnullYes (g := mkF m pc Ls (.ref a :: S)) X.here hx rfl (pc0 := pc) (pc' := pc') rfl hd rfl ho hp) K
theorem own_ifnonnullN (X : Stand p l e R s m args below meth c T locs cells slots) (hx : p.tables.exec = Jvm.exec) {o : Int} (hd : decode c.code pc = .ok (.ifnonnull o, 3)) (hp : pc + 3 = pc') (K : own_W p e below P T m pc' Ls S) : own_W p e below P T m pc Ls (.null :: S) := by
  subst hp; exact own_go (fun t => XT.ifnonnullNo (g := mkF m pc Ls (.null :: S)) X.here hx rfl hd rfl) K
theorem own_acmpY (X : Stand p l e R s m args below meth c T locs cells slots) (hx : p.tables.exec = Jvm.exec) {cd : ClassFile.ACond} {x y : Value} {o : Int} (hd : decode c.code pc = .ok (.if_acmp cd o, 3)) (ho : 0 ≤ (pc : Int) + o) (hp : ((pc : Int) + o).toNat = pc') (hx' : x.isRef = true) (hy' : y.isRef = true) (q : XT.acmp cd x y = true) (K : own_W p e below P T m pc' Ls S) : own_W p e below P T m pc Ls (y :: x :: S) :=
  own_go (fun t => XT.acmpYes (g := mkF m pc Ls (y :: x :: S)) X.here hx rfl (pc0 := pc) (pc' := pc') rfl hd rfl hx' hy' q ho hp) K
theorem own_acmpN (X : Stand p l e R s m args below meth c T locs cells slots) (hx : p.tables.exec = Jvm.exec) {cd : ClassFile.ACond} {x y : Value} {o : Int} (hd : decode c.code pc = .ok (.if_acmp cd o, 3)) (hp : pc + 3 = pc') (hx' : x.isRef = true) (hy' : y.isRef = true) (q : XT.acmp cd x y = false) (K : own_W p e below P T m pc' Ls S) : own_W p e below P T m pc Ls (y :: x :: S) := by
  subst hp; exact own_go (fun t => XT.acmpNo (g := mkF m pc Ls (y :: x :: S)) X.here hx rfl hd rfl hx' hy' q) K
/-! heap -/
theorem own_getF (X : Stand p l e R s m args below meth c T locs cells slots) (hx : p.tables.exec = Jvm.exec) (hZ : Z.Warmed39 s.vm) {own R0 O n d host : String} {index : Nat} (hown : s.vm.findClass own = some m.cls) (w : (Cond.fieldLink own index R0 n d).before a0 Z = true ∨ (Cond.fieldLinkNest own index R0 n d host).before a0 Z = true) (via : Via Z R0 O n d)
    (eT : T.heap = h) {a : Addr} {v : Value} (F : Fld Z h a O n d v) (hd : decode c.code pc = .ok (.getfield index, 3)) (hp : pc + 3 = pc')
    (K : ∀ T', Stand p l e R s m args below meth c T' locs cells slots → T'.heap = h → own_W p e below P T' m pc' Ls (v :: S)) : own_W p e below P T m pc Ls (.ref a :: S) := by
  subst hp
  obtain ⟨T', X', e', st⟩ := getF X hx hZ hown w via eT F (g := mkF m pc Ls (.ref a :: S)) rfl rfl hd
  exact own_go st (K T' X' e')
theorem own_getS (X : Stand p l e R s m args below meth c T locs cells slots) (hx : p.tables.exec = Jvm.exec) (hZ : Z.Warmed39 s.vm) {own R0 O n d host : String} {index : Nat} (hown : s.vm.findClass own = some m.cls) (w : (Cond.fieldLink own index R0 n d).before a0 Z = true ∨ (Cond.fieldLinkNest own index R0 n d host).before a0 Z = true) (via : Via Z R0 O n d)
    (eT : T.heap = h) {v : Value} (F : Sta Z h O n d v) (hd : decode c.code pc = .ok (.getstatic index, 3)) (hp : pc + 3 = pc')
    (K : ∀ T', Stand p l e R s m args below meth c T' locs cells slots → T'.heap = h → own_W p e below P T' m pc' Ls (v :: S)) : own_W p e below P T m pc Ls S := by
  subst hp
  obtain ⟨T', X', e', st⟩ := getS2 X hx hZ hown w via eT F (g := mkF m pc Ls S) rfl hd
  exact own_go st (K T' X' e')
theorem own_putF (X : Stand p l e R s m args below meth c T locs cells slots) (hx : p.tables.exec = Jvm.exec) (hZ : Z.Warmed39 s.vm) {own R0 O n d C : String} {index kk : Nat} {ty : FieldType} (hown : s.vm.findClass own = some m.cls) (w : (Cond.fieldLink own index R0 n d).before a0 Z = true) (via : Via Z R0 O n d)
    (eT : T.heap = h) {a : Addr} {v v' old : Value} (F : Fld Z h a O n d old) (E : Exa Z h a C) (L : (Cond.lays C O n d).before a0 Z = true ∨ ((Cond.laysFinal C O n d).before a0 Z = true ∧ own = O ∧ meth.name = "<init>")) (wi : (Cond.instantiable C kk).before a0 Z = true)
    (hty : parseFieldDescriptor d = some ty) (hn : narrow ty v = v') (hf : fits ty v' = true) (hd : decode c.code pc = .ok (.putfield index, 3)) (hp : pc + 3 = pc')
    (K : ∀ T' h' lc, Stand p l e R s m args below meth c T' lc cells slots → T'.heap = h' → Wr h h' a (Jvm.RoadKit.slotOf Z O n d) v' → (∀ n0, n0 ≤ a → Fr n0 locs → Fr n0 lc) → own_W p e below P T' m pc' Ls S) : own_W p e below P T m pc Ls (v :: .ref a :: S) := by
  subst hp
  obtain ⟨T', h', X', e', W', st⟩ := putFN X hx hZ hown w via eT F E L wi hty hn hf (g := mkF m pc Ls (v :: .ref a :: S)) rfl rfl hd
  exact own_go st (K T' h' _ X' e' W' fun _ q N => Fr.snoc X' N q)
theorem own_new (X : Stand p l e R s m args below meth c T locs cells slots) (hx : p.tables.exec = Jvm.exec) (hZ : Z.Warmed39 s.vm) {own C : String} {index n : Nat} (hown : s.vm.findClass own = some m.cls) (w : (Cond.classLink own index C).before a0 Z = true) (wi : (Cond.instantiable C n).before a0 Z = true) (wz : (Cond.initialized C).before a0 Z = true) (eT : T.heap = h)
    (hd : decode c.code pc = .ok (.new index, 3)) (hp : pc + 3 = pc') {cells' slots' : Nat} (hc' : cells + 1 = cells') (hs' : slots + n = slots') (hc : cells' ≤ R.cells) (hl : slots' ≤ R.slots)
    (K : ∀ T' h' a, Stand p l e R s m args below meth c T' locs cells' slots' → T'.heap = h' → Ext h h' → a = h.size → Exa Z h' a C → (∀ {O nm d : String} {ty : FieldType}, Laid Z a0 C O nm d → parseFieldDescriptor d = some ty → Fld Z h' a O nm d (defaultValue ty)) → own_W p e below P T' m pc' Ls (.ref a :: S)) : own_W p e below P T m pc Ls S := by
  subst hp hc' hs'
  obtain ⟨T', h', X', e', E', A', D', -, st⟩ := newO X hx hZ hown w wi wz eT (g := mkF m pc Ls S) rfl hd hc hl
  exact own_go st (K T' h' _ X' e' E' rfl A' D')
theorem own_newarr (X : Stand p l e R s m args below meth c T locs cells slots) (hx : p.tables.exec = Jvm.exec) (hZ : Z.Warmed39 s.vm) {aty : ArrayType} (w : (Cond.arrayClass (newarray.typeOf aty)).before a0 Z = true) (eT : T.heap = h) (hd : decode c.code pc = .ok (.newarray aty, 2)) (hp : pc + 2 = pc') {n : Int32}
    (hn : ¬ n < 0) (cap : Nat) (hcap : n.toNatClampNeg ≤ cap) (hb : cap * 8 ≤ 536870912) {cells' slots' : Nat} (hc' : cells + 1 = cells') (hs' : slots + cap = slots') (hc : cells' ≤ R.cells) (hl : slots' ≤ R.slots)
    (K : ∀ T' h' cA a, Stand p l e R s m args below meth c T' locs cells' slots' → T'.heap = h' → Ext h h' → a = h.size → Arv Z h' a cA (newarray.typeOf aty) n [] (defaultValue (newarray.typeOf aty)) → own_W p e below P T' m pc' Ls (.ref a :: S)) : own_W p e below P T m pc Ls (.int n :: S) := by
  subst hp hc' hs'
  obtain ⟨T', h', cA, X', e', E', A', st⟩ := newP X hx hZ w eT (g := mkF m pc Ls (.int n :: S)) rfl hd rfl hn hcap hb hc hl
  exact own_go st (K T' h' cA _ X' e' E' rfl (Arv.new A' hn))
theorem own_arrlen (X : Stand p l e R s m args below meth c T locs cells slots) (hx : p.tables.exec = Jvm.exec) (hZ : Z.Warmed39 s.vm) (eT : T.heap = h) {a : Addr} {k : ClassId} {ty : FieldType} {n : Int32} {vs : List Value} {dv : Value} (A : Arv Z h a k ty n vs dv) (hd : decode c.code pc = .ok (.arraylength, 1)) (hp : pc + 1 = pc')
    (K : own_W p e below P T m pc' Ls (.int n :: S)) : own_W p e below P T m pc Ls (.ref a :: S) := by
  subst hp
  obtain ⟨cl, Ar, -, Sz, M, -⟩ := A
  have q := len_of Sz M
  rw [← q] at K
  exact own_go (fun t => X.arraylength hx (cell := cl) (by rw [eT]; exact Ar.1) (State.isArrayOf_alike hZ.alike Ar.2.1) (g := mkF m pc Ls (.ref a :: S)) rfl rfl hd t) K
theorem own_iaload (X : Stand p l e R s m args below meth c T locs cells slots) (hx : p.tables.exec = Jvm.exec) (hZ : Z.Warmed39 s.vm) (eT : T.heap = h) {a : Addr} {k : ClassId} {n : Int32} {vs : List Value} {dv : Value} (A : Arv Z h a k .int n vs dv) {j : Int32} {v : Value} (hj : ¬ j < 0 ∧ j < n) (hv : vs.getD j.toNatClampNeg dv = v) (hd : decode c.code pc = .ok (.iaload, 1)) (hp : pc + 1 = pc')
    (K : own_W p e below P T m pc' Ls (v :: S)) : own_W p e below P T m pc Ls (.int j :: .ref a :: S) := by
  subst hp
  obtain ⟨cl, Ar, -, Sz, M, H, -⟩ := A
  have hin := inb_of Sz hj
  exact own_go (fun t => X.iaload hx (cell := cl) (j := j) (v := v) (by rw [eT]; exact Ar.1) (State.isArrayOf_alike hZ.alike Ar.2.1) Ar.2.2 hin (H.at hin hv) (g := mkF m pc Ls (.int j :: .ref a :: S)) rfl rfl hd t) K
theorem own_laload (X : Stand p l e R s m args below meth c T locs cells slots) (hx : p.tables.exec = Jvm.exec) (hZ : Z.Warmed39 s.vm) (eT : T.heap = h) {a : Addr} {k : ClassId} {n : Int32} {vs : List Value} {dv : Value} (A : Arv Z h a k .long n vs dv) {j : Int32} {v : Value} (hj : ¬ j < 0 ∧ j < n) (hv : vs.getD j.toNatClampNeg dv = v) (hd : decode c.code pc = .ok (.laload, 1)) (hp : pc + 1 = pc')
    (K : own_W p e below P T m pc' Ls (v :: S)) : own_W p e below P T m pc Ls (.int j :: .ref a :: S) := by
  subst hp
  obtain ⟨cl, Ar, -, Sz, M, H, -⟩ := A
  have hin := inb_of Sz hj
  exact own_go (fun t => X.laload hx (cell := cl) (j := j) (v := v) (by rw [eT]; exact Ar.1) (State.isArrayOf_alike hZ.alike Ar.2.1) Ar.2.2 hin (H.at hin hv) (g := mkF m pc Ls (.int j :: .ref a :: S)) rfl rfl hd t) K
theorem own_caload (X : Stand p l e R s m args below meth c T locs cells slots) (hx : p.tables.exec = Jvm.exec) (hZ : Z.Warmed39 s.vm) (eT : T.heap = h) {a : Addr} {k : ClassId} {n : Int32} {vs : List Value} {dv : Value} (A : Arv Z h a k .char n vs dv) {j : Int32} {v : Value} (hj : ¬ j < 0 ∧ j < n) (hv : vs.getD j.toNatClampNeg dv = v) (hd : decode c.code pc = .ok (.caload, 1)) (hp : pc + 1 = pc')
    (K : own_W p e below P T m pc' Ls (v :: S)) : own_W p e below P T m pc Ls (.int j :: .ref a :: S) := by
  subst hp
  obtain ⟨cl, Ar, -, Sz, M, H, -⟩ := A
  have hin := inb_of Sz hj
  exact own_go (fun t => X.caload hx (cell := cl) (j := j) (v := v) (by rw [eT]; exact Ar.1) (State.isArrayOf_alike hZ.alike Ar.2.1) Ar.2.2 hin (H.at hin hv) (g := mkF m pc Ls (.int j :: .ref a :: S)) rfl rfl hd t) K
theorem own_baloadB (X : Stand p l e R s m args below meth c T locs cells slots) (hx : p.tables.exec = Jvm.exec) (hZ : Z.Warmed39 s.vm) (eT : T.heap = h) {a : Addr} {k : ClassId} {n : Int32} {vs : List Value} {dv : Value} (A : Arv Z h a k .byte n vs dv) {j : Int32} {v : Value} (hj : ¬ j < 0 ∧ j < n) (hv : vs.getD j.toNatClampNeg dv = v) (hd : decode c.code pc = .ok (.baload, 1)) (hp : pc + 1 = pc')
    (K : own_W p e below P T m pc' Ls (v :: S)) : own_W p e below P T m pc Ls (.int j :: .ref a :: S) := by
  subst hp
  obtain ⟨cl, Ar, -, Sz, M, H, -⟩ := A
  have hin := inb_of Sz hj
  exact own_go (fun t => X.baloadBytes hx (cell := cl) (j := j) (v := v) (by rw [eT]; exact Ar.1) (State.isArrayOf_alike hZ.alike Ar.2.1) Ar.2.2 hin (H.at hin hv) (g := mkF m pc Ls (.int j :: .ref a :: S)) rfl rfl hd t) K
theorem own_baloadZ (X : Stand p l e R s m args below meth c T locs cells slots) (hx : p.tables.exec = Jvm.exec) (hZ : Z.Warmed39 s.vm) (eT : T.heap = h) {a : Addr} {k : ClassId} {n : Int32} {vs : List Value} {dv : Value} (A : Arv Z h a k .boolean n vs dv) {j : Int32} {v : Value} (hj : ¬ j < 0 ∧ j < n) (hv : vs.getD j.toNatClampNeg dv = v) (hd : decode c.code pc = .ok (.baload, 1)) (hp : pc + 1 = pc')
    (K : own_W p e below P T m pc' Ls (v :: S)) : own_W p e below P T m pc Ls (.int j :: .ref a :: S) := by
  subst hp
  obtain ⟨cl, Ar, -, Sz, M, H, -⟩ := A
  have hin := inb_of Sz hj
  exact own_go (fun t => X.baloadBooleans hx (cell := cl) (j := j) (v := v) (by rw [eT]; exact Ar.1) (State.isArrayOf_alike hZ.alike Ar.2.1) Ar.2.2 hin (H.at hin hv) (g := mkF m pc Ls (.int j :: .ref a :: S)) rfl rfl hd t) K
theorem own_aaload (X : Stand p l e R s m args below meth c T locs cells slots) (hx : p.tables.exec = Jvm.exec) (hZ : Z.Warmed39 s.vm) (eT : T.heap = h) {a : Addr} {k : ClassId} {ty : FieldType} (hty : ty.isReference = true) {n : Int32} {vs : List Value} {dv : Value} (A : Arv Z h a k ty n vs dv) {j : Int32} {v : Value} (hj : ¬ j < 0 ∧ j < n) (hv : vs.getD j.toNatClampNeg dv = v) (hd : decode c.code pc = .ok (.aaload, 1)) (hp : pc + 1 = pc')
    (K : own_W p e below P T m pc' Ls (v :: S)) : own_W p e below P T m pc Ls (.int j :: .ref a :: S) := by
  subst hp
  obtain ⟨cl, Ar, -, Sz, M, H, -⟩ := A
  have hin := inb_of Sz hj
  exact own_go (fun t => X.aaload hx (cell := cl) (j := j) (v := v) (by rw [eT]; exact Ar.1) (State.isArrayOf_alike hZ.alike Ar.2.1) hty Ar.2.2 hin (H.at hin hv) (g := mkF m pc Ls (.int j :: .ref a :: S)) rfl rfl hd t) K
theorem own_iastore (X : Stand p l e R s m args below meth c T locs cells slots) (hx : p.tables.exec = Jvm.exec) (hZ : Z.Warmed39 s.vm) (eT : T.heap = h) {a : Addr} {k : ClassId} {n : Int32} {vs : List Value} {dv : Value} (A : Arv Z h a k .int n vs dv) {j : Int32} {x : Int32} (hj : ¬ j < 0 ∧ j < n) (i : Nat) (hi : j.toNatClampNeg = i) (hlen : i < vs.length) (hd : decode c.code pc = .ok (.iastore, 1)) (hp : pc + 1 = pc')
    (K : ∀ T' h' lc, Stand p l e R s m args below meth c T' lc cells slots → T'.heap = h' → Keep h h' [a] → Arv Z h' a k .int n (vs.set i (.int x)) dv → (∀ n0, n0 ≤ a → Fr n0 locs → Fr n0 lc) → own_W p e below P T' m pc' Ls S) : own_W p e below P T m pc Ls (.int x :: .int j :: .ref a :: S) := by
  subst hp
  obtain ⟨cl, Ar, q1, Sz, M, H, G⟩ := A
  obtain ⟨T', h', X', e', W', st⟩ := stI X hx hZ eT Ar (inb_of Sz hj) (g := mkF m pc Ls (.int x :: .int j :: .ref a :: S)) rfl rfl hd
  exact own_go st (K T' h' _ X' e' (Keep.of_wr W') (Arv.set Ar q1 Sz M H G rfl W' i hi hlen) fun _ q N => Fr.snoc X' N q)
theorem own_lastore (X : Stand p l e R s m args below meth c T locs cells slots) (hx : p.tables.exec = Jvm.exec) (hZ : Z.Warmed39 s.vm) (eT : T.heap = h) {a : Addr} {k : ClassId} {n : Int32} {vs : List Value} {dv : Value} (A : Arv Z h a k .long n vs dv) {j : Int32} {x : Int64} (hj : ¬ j < 0 ∧ j < n) (i : Nat) (hi : j.toNatClampNeg = i) (hlen : i < vs.length) (hd : decode c.code pc = .ok (.lastore, 1)) (hp : pc + 1 = pc')
    (K : ∀ T' h' lc, Stand p l e R s m args below meth c T' lc cells slots → T'.heap = h' → Keep h h' [a] → Arv Z h' a k .long n (vs.set i (.long x)) dv → (∀ n0, n0 ≤ a → Fr n0 locs → Fr n0 lc) → own_W p e below P T' m pc' Ls S) : own_W p e below P T m pc Ls (.long x :: .int j :: .ref a :: S) := by
  subst hp
  obtain ⟨cl, Ar, q1, Sz, M, H, G⟩ := A
  obtain ⟨T', h', X', e', W', st⟩ := stJ X hx hZ eT Ar (inb_of Sz hj) (g := mkF m pc Ls (.long x :: .int j :: .ref a :: S)) rfl rfl hd
  exact own_go st (K T' h' _ X' e' (Keep.of_wr W') (Arv.set Ar q1 Sz M H G rfl W' i hi hlen) fun _ q N => Fr.snoc X' N q)
theorem own_castore (X : Stand p l e R s m args below meth c T locs cells slots) (hx : p.tables.exec = Jvm.exec) (hZ : Z.Warmed39 s.vm) (eT : T.heap = h) {a : Addr} {k : ClassId} {n : Int32} {vs : List Value} {dv : Value} (A : Arv Z h a k .char n vs dv) {j : Int32} {x : Int32} (hj : ¬ j < 0 ∧ j < n) (i : Nat) (hi : j.toNatClampNeg = i) (hlen : i < vs.length) (hd : decode c.code pc = .ok (.castore, 1)) (hp : pc + 1 = pc')
    (K : ∀ T' h' lc, Stand p l e R s m args below meth c T' lc cells slots → T'.heap = h' → Keep h h' [a] → Arv Z h' a k .char n (vs.set i (.int (nar .char x))) dv → (∀ n0, n0 ≤ a → Fr n0 locs → Fr n0 lc) → own_W p e below P T' m pc' Ls S) : own_W p e below P T m pc Ls (.int x :: .int j :: .ref a :: S) := by
  subst hp
  obtain ⟨cl, Ar, q1, Sz, M, H, G⟩ := A
  obtain ⟨T', h', X', e', W', st⟩ := stC X hx hZ eT Ar (inb_of Sz hj) (g := mkF m pc Ls (.int x :: .int j :: .ref a :: S)) rfl rfl hd
  exact own_go st (K T' h' _ X' e' (Keep.of_wr W') (Arv.set Ar q1 Sz M H G (fits_nar_char x) W' i hi hlen) fun _ q N => Fr.snoc X' N q)
theorem own_bastoreZ (X : Stand p l e R s m args below meth c T locs cells slots) (hx : p.tables.exec = Jvm.exec) (hZ : Z.Warmed39 s.vm) (eT : T.heap = h) {a : Addr} {k : ClassId} {n : Int32} {vs : List Value} {dv : Value} (A : Arv Z h a k .boolean n vs dv) {j : Int32} {x : Int32} (hj : ¬ j < 0 ∧ j < n) (i : Nat) (hi : j.toNatClampNeg = i) (hlen : i < vs.length) (hd : decode c.code pc = .ok (.bastore, 1)) (hp : pc + 1 = pc')
    (K : ∀ T' h' lc, Stand p l e R s m args below meth c T' lc cells slots → T'.heap = h' → Keep h h' [a] → Arv Z h' a k .boolean n (vs.set i (.int (nar .boolean x))) dv → (∀ n0, n0 ≤ a → Fr n0 locs → Fr n0 lc) → own_W p e below P T' m pc' Ls S) : own_W p e below P T m pc Ls (.int x :: .int j :: .ref a :: S) := by
  subst hp
  obtain ⟨cl, Ar, q1, Sz, M, H, G⟩ := A
  obtain ⟨T', h', X', e', W', st⟩ := stZ X hx hZ eT Ar (inb_of Sz hj) (g := mkF m pc Ls (.int x :: .int j :: .ref a :: S)) rfl rfl hd
  exact own_go st (K T' h' _ X' e' (Keep.of_wr W') (Arv.set Ar q1 Sz M H G (fits_nar_bool x) W' i hi hlen) fun _ q N => Fr.snoc X' N q)
theorem own_bastoreB (X : Stand p l e R s m args below meth c T locs cells slots) (hx : p.tables.exec = Jvm.exec) (hZ : Z.Warmed39 s.vm) (eT : T.heap = h) {a : Addr} {k : ClassId} {n : Int32} {vs : List Value} {dv : Value} (A : Arv Z h a k .byte n vs dv) {j : Int32} {x : Int32} (hj : ¬ j < 0 ∧ j < n) (i : Nat) (hi : j.toNatClampNeg = i) (hlen : i < vs.length) (hd : decode c.code pc = .ok (.bastore, 1)) (hp : pc + 1 = pc')
    (K : ∀ T' h' lc, Stand p l e R s m args below meth c T' lc cells slots → T'.heap = h' → Keep h h' [a] → Arv Z h' a k .byte n (vs.set i (.int (nar .byte x))) dv → (∀ n0, n0 ≤ a → Fr n0 locs → Fr n0 lc) → own_W p e below P T' m pc' Ls S) : own_W p e below P T m pc Ls (.int x :: .int j :: .ref a :: S) := by
  subst hp
  obtain ⟨cl, Ar, q1, Sz, M, H, G⟩ := A
  obtain ⟨T', h', X', e', W', st⟩ := stB X hx hZ eT Ar (inb_of Sz hj) (g := mkF m pc Ls (.int x :: .int j :: .ref a :: S)) rfl rfl hd
  exact own_go st (K T' h' _ X' e' (Keep.of_wr W') (Arv.set Ar q1 Sz M H G (fits_nar_byte x) W' i hi hlen) fun _ q N => Fr.snoc X' N q)
theorem own_cast (X : Stand p l e R s m args below meth c T locs cells slots) (hx : p.tables.exec = Jvm.exec) (hZ : Z.Warmed39 s.vm) {own C : String} {index : Nat} (hown : s.vm.findClass own = some m.cls) (w : (Cond.classLink own index C).before a0 Z = true) (eT : T.heap = h) {a : Addr} (E : Exa Z h a C) (hd : decode c.code pc = .ok (.checkcast index, 3)) (hp : pc + 3 = pc')
    (K : ∀ T', Stand p l e R s m args below meth c T' locs cells slots → T'.heap = h → own_W p e below P T' m pc' Ls (.ref a :: S)) : own_W p e below P T m pc Ls (.ref a :: S) := by
  subst hp
  obtain ⟨T', X', e', st⟩ := castY X hx hZ hown w eT (Ins.self E) (g := mkF m pc Ls (.ref a :: S)) rfl rfl hd
  exact own_go st (K T' X' e')
theorem own_inst (X : Stand p l e R s m args below meth c T locs cells slots) (hx : p.tables.exec = Jvm.exec) (hZ : Z.Warmed39 s.vm) {own C : String} {index : Nat} (hown : s.vm.findClass own = some m.cls) (w : (Cond.classLink own index C).before a0 Z = true) (eT : T.heap = h) {a : Addr} (E : Exa Z h a C) (hd : decode c.code pc = .ok (.instanceof index, 3)) (hp : pc + 3 = pc')
    (K : ∀ T', Stand p l e R s m args below meth c T' locs cells slots → T'.heap = h → own_W p e below P T' m pc' Ls (.int 1 :: S)) : own_W p e below P T m pc Ls (.ref a :: S) := by
  subst hp
  obtain ⟨T', X', e', st⟩ := instY X hx hZ hown w eT (Ins.self E) (g := mkF m pc Ls (.ref a :: S)) rfl rfl hd
  exact own_go st (K T' X' e')
theorem own_acmpne (X : Stand p l e R s m args below meth c T locs cells slots) (hx : p.tables.exec = Jvm.exec) {x y : Addr} {o : Int} {pcY pcN : Nat} (hd : decode c.code pc = .ok (.if_acmp .ne o, 3)) (ho : 0 ≤ (pc : Int) + o) (hY : ((pc : Int) + o).toNat = pcY) (hN : pc + 3 = pcN) (KY : ¬ x = y → own_W p e below P T m pcY Ls S) (KN : x = y → own_W p e below P T m pcN Ls S) : own_W p e below P T m pc Ls (.ref y :: .ref x :: S) :=
  (Classical.em (x = y)).elim (fun q => own_acmpN X hx hd hN rfl rfl (XT.aa_ne_f (congrArg Value.ref q)) (KN q)) (fun q => own_acmpY X hx hd ho hY rfl rfl (XT.aa_ne_t fun z => q (Value.ref.inj z)) (KY q))
theorem own_sta_keep {h' : Heap} {ws : List Addr} {C n d : String} {v : Value} (F : Sta Z h C n d v) (K : Keep h h' ws) (hn : ∀ x ∈ ws, ∀ cell : Cell, h[x]? = some cell → cell.vm.isStatics = false) : Sta Z h' C n d v := by
  obtain ⟨cf, i, k, f, st, cell, h1, h2, h3, h4, h5, h6, h7⟩ := F
  exact ⟨cf, i, k, f, st, cell, h1, h2, h3, h4, K.2.1 _ _ h5 (fun q => by rw [hn _ q _ h5] at h6; cases h6), h6, h7⟩
theorem own_ns_exa {a : Addr} {C : String} (E : Exa Z h a C) : ∀ cell : Cell, h[a]? = some cell → cell.vm.isStatics = false := fun cell hc => by
  obtain ⟨c', k, h1, h2, h3, h4, h5⟩ := E
  cases h1.symm.trans hc; exact h4
theorem own_ns_arv {a : Addr} {k : ClassId} {ty : FieldType} {z : Int32} {vs : List Value} {dv : Value} (A : Arv Z h a k ty z vs dv) : ∀ cell : Cell, h[a]? = some cell → cell.vm.isStatics = false := fun cell hc => by
  obtain ⟨c', Ar, -⟩ := A
  cases Ar.1.symm.trans hc; exact Ar.plain
theorem own_callS (X : Stand p l e R s m args below meth c T locs cells slots) (hx : p.tables.exec = Jvm.exec) (hZ : Z.Warmed39 s.vm) {own : String} {index : Nat} {y : MethodName} {bytes : ByteArray} {maxL : Nat} {ret : Option FieldType} {rm : Room} {Qc : Option Value → Heap → List Loc → Prop} {as' : Array Value} {S' : List Value} (argsL : List Value)
    (hown : s.vm.findClass own = some m.cls) (w1 : (Cond.methodLink own index y).before a0 Z = true) (w2 : (Cond.static y).before a0 Z = true) (w3 : (Cond.initialized y.cls).before a0 Z = true) (w4 : (Cond.code y bytes maxL ret).before a0 Z = true) (hy : y.cls ≠ "java/lang/invoke/MethodHandle" ∧ y.cls ≠ "java/lang/invoke/VarHandle")
    (hM : MetFree l y (head1 [Cond.code y bytes maxL ret] rm) (fun a U => a = as' ∧ Z.Warmed39 U.vm ∧ U.heap = h) (fun _ _ _ _ _ => True) (fun _ U o U' => ∃ v L, o = .returned v ∧ Qc v U'.heap L ∧ FrameEnd U o U' L rm.cells rm.slots))
    (eT : T.heap = h) {W cells' slots' : Nat} (hf : rm.frames + 1 ≤ R.frames) (hl : W + (maxL + 11) + rm.locals ≤ R.locals) (hc' : cells + rm.cells = cells') (hs' : slots + rm.slots = slots') (hc : cells' ≤ R.cells) (hs : slots' ≤ R.slots) (hsize : Ls.size = c.maxLocals) (hlen : ∀ sig, parseMethodDescriptor y.desc = some sig → argsL.length = sig.parameters.length) (has : argsL.toArray = as') (hstk : S' = argsL.reverse ++ S) (hW : 2 * 0 + (S.map fun v => v.category).sum ≤ W) (hd : decode c.code pc = .ok (.invokestatic index, 3)) (hp : pc + 3 = pc')
    (K : ∀ v T' h' L lc, Stand p l e R s m args below meth c T' lc cells' slots' → T'.heap = h' → Qc v h' L → (∀ n0, Fr n0 locs → Fr n0 L → Fr n0 lc) → own_W p e below P T' m pc' Ls (v.toList ++ S)) : own_W p e below P T m pc Ls S' := by
  subst hp hc' hs'
  obtain ⟨v, vm₁, ⟨T1, L1, k1, n1⟩, -, X1, ⟨Lc1, hQ1, l1, y1, z1⟩, st1⟩ := Jvm.LawKit.callS X hx hown (mvT hZ w1) (mvT hZ w2) (mvT hZ w3) (mvT hZ w4) hy (backOf hM hZ w4 w3 hf hl) (g := mkF m pc Ls S') rfl hsize (argsL := argsL) (rest := S) hlen hstk hW hd (fun _ _ => ⟨has, eT, hc, hs⟩)
  dsimp only [Pt.U, Pt.locs, Pt.cells, Pt.slots] at X1 l1 y1 z1 st1 hQ1
  subst l1 y1 z1
  exact own_go st1 (K v T1 _ Lc1 _ X1 rfl hQ1 fun _ a b => Fr.app a b)
theorem own_callN (X : Stand p l e R s m args below meth c T locs cells slots) (hx : p.tables.exec = Jvm.exec) (hZ : Z.Warmed39 s.vm) {own : String} {index : Nat} {y : MethodName} {bytes : ByteArray} {maxL : Nat} {rm : Room} {Qc : Option Value → Heap → List Loc → Prop} {as' : Array Value} {S' : List Value} (a : Addr) (argsL : List Value) (hy1 : y.name = "<init>")
    (hown : s.vm.findClass own = some m.cls) (w1 : (Cond.methodLink own index y).before a0 Z = true) (w2 : (Cond.instanceMethod y).before a0 Z = true) (w3 : (Cond.initialized y.cls).before a0 Z = true) (w4 : (Cond.code y bytes maxL none).before a0 Z = true) (hy : y.cls ≠ "java/lang/invoke/MethodHandle" ∧ y.cls ≠ "java/lang/invoke/VarHandle")
    (hM : MetFree l y (head1 [Cond.code y bytes maxL none] rm) (fun a U => a = as' ∧ Z.Warmed39 U.vm ∧ U.heap = h) (fun _ _ _ _ _ => True) (fun _ U o U' => ∃ v L, o = .returned v ∧ Qc v U'.heap L ∧ FrameEnd U o U' L rm.cells rm.slots))
    (eT : T.heap = h) {W cells' slots' : Nat} (hf : rm.frames + 1 ≤ R.frames) (hl : W + (maxL + 11) + rm.locals ≤ R.locals) (hc' : cells + rm.cells = cells') (hs' : slots + rm.slots = slots') (hc : cells' ≤ R.cells) (hs : slots' ≤ R.slots) (hsize : Ls.size = c.maxLocals) (hlen : ∀ sig, parseMethodDescriptor y.desc = some sig → argsL.length = sig.parameters.length) (has : (.ref a :: argsL).toArray = as') (hstk : S' = argsL.reverse ++ .ref a :: S) (hW : 2 * 0 + (S.map fun v => v.category).sum ≤ W) (hd : decode c.code pc = .ok (.invokespecial index, 3)) (hp : pc + 3 = pc')
    (K : ∀ v T' h' L lc, Stand p l e R s m args below meth c T' lc cells' slots' → T'.heap = h' → Qc v h' L → (∀ n0, Fr n0 locs → Fr n0 L → Fr n0 lc) → own_W p e below P T' m pc' Ls (v.toList ++ S)) : own_W p e below P T m pc Ls S' := by
  subst hp hc' hs'
  obtain ⟨v, vm₁, ⟨T1, L1, k1, n1⟩, -, X1, ⟨Lc1, hQ1, l1, y1, z1⟩, st1⟩ := X.specialBack hx hy1 hown (mvT hZ w1) (mvT hZ w2) (mvT hZ w4) hy (backOf hM hZ w4 w3 hf hl) (g := mkF m pc Ls S') rfl hsize (Steps.refl _) (a := a) (argsL := argsL) (rest := S) hlen hstk hW hd (fun _ _ => ⟨has, eT, hc, hs⟩)
  dsimp only [Pt.U, Pt.locs, Pt.cells, Pt.slots] at X1 l1 y1 z1 st1 hQ1
  subst l1 y1 z1
  exact own_go (fun t k => st1.trans k) (K v T1 _ Lc1 _ X1 rfl hQ1 fun _ a b => Fr.app a b)
theorem own_callV (X : Stand p l e R s m args below meth c T locs cells slots) (hx : p.tables.exec = Jvm.exec) (hZ : Z.Warmed39 s.vm) {own C : String} {index : Nat} {y : MethodName} {bytes : ByteArray} {maxL : Nat} {ret : Option FieldType} {rm : Room} {Qc : Option Value → Heap → List Loc → Prop} {as' : Array Value} {S' : List Value} (a : Addr) (argsL : List Value)
    (hown : s.vm.findClass own = some m.cls) (w1 : (Cond.methodLink own index y).before a0 Z = true) (w2 : (Cond.declares y).before a0 Z = true) (w5 : (Cond.selects C y y).before a0 Z = true) (w6 : (Cond.instanceMethod y).before a0 Z = true) (w3 : (Cond.initialized y.cls).before a0 Z = true) (w4 : (Cond.code y bytes maxL ret).before a0 Z = true) (hy : y.cls ≠ "java/lang/invoke/MethodHandle" ∧ y.cls ≠ "java/lang/invoke/VarHandle")
    (hM : MetFree l y (head1 [Cond.code y bytes maxL ret] rm) (fun a U => a = as' ∧ Z.Warmed39 U.vm ∧ U.heap = h) (fun _ _ _ _ _ => True) (fun _ U o U' => ∃ v L, o = .returned v ∧ Qc v U'.heap L ∧ FrameEnd U o U' L rm.cells rm.slots))
    (E : Exa Z h a C) (eT : T.heap = h) {W cells' slots' : Nat} (hf : rm.frames + 1 ≤ R.frames) (hl : W + (maxL + 11) + rm.locals ≤ R.locals) (hc' : cells + rm.cells = cells') (hs' : slots + rm.slots = slots') (hc : cells' ≤ R.cells) (hs : slots' ≤ R.slots) (hsize : Ls.size = c.maxLocals) (hlen : ∀ sig, parseMethodDescriptor y.desc = some sig → argsL.length = sig.parameters.length) (has : (.ref a :: argsL).toArray = as') (hstk : S' = argsL.reverse ++ .ref a :: S) (hW : 2 * 0 + (S.map fun v => v.category).sum ≤ W) (hd : decode c.code pc = .ok (.invokevirtual index, 3)) (hp : pc + 3 = pc')
    (K : ∀ v T' h' L lc, Stand p l e R s m args below meth c T' lc cells' slots' → T'.heap = h' → Qc v h' L → (∀ n0, Fr n0 locs → Fr n0 L → Fr n0 lc) → own_W p e below P T' m pc' Ls (v.toList ++ S)) : own_W p e below P T m pc Ls S' := by
  subst hp hc' hs'
  obtain ⟨cq, kq, qa, qb, qc⟩ := isOf hZ eT E
  obtain ⟨v, vm₁, ⟨T1, L1, k1, n1⟩, -, X1, ⟨Lc1, hQ1, l1, y1, z1⟩, st1⟩ := X.virtualBack hx hown (mvT hZ w1) (mvT hZ w2) (notFace_of_selects (args := #[]) (mvT hZ w5)) (mvT hZ w5) (mvT hZ w6) hy (backOf hM hZ w4 w3 hf hl) qa qc (g := mkF m pc Ls S') rfl hsize (Steps.refl _) (argsL := argsL) (rest := S) hlen hstk hW hd (fun _ _ => ⟨has, eT, hc, hs⟩)
  dsimp only [Pt.U, Pt.locs, Pt.cells, Pt.slots] at X1 l1 y1 z1 st1 hQ1
  subst l1 y1 z1
  exact own_go (fun t k => st1.trans k) (K v T1 _ Lc1 _ X1 rfl hQ1 fun _ a b => Fr.app a b)
theorem own_initO (X : Stand p l e R s m args below meth c T locs cells slots) (hx : p.tables.exec = Jvm.exec) (hZ : Z.Warmed39 s.vm) {own : String} {idx : Nat} (hown : s.vm.findClass own = some m.cls) (w1 : (Cond.methodLink own idx Lib.objectInit).before a0 Z = true) (w2 : (Cond.instanceMethod Lib.objectInit).before a0 Z = true) (w3 : (Cond.code Lib.objectInit ⟨#[0xb1]⟩ 1 none).before a0 Z = true) (eT : T.heap = h)
    (hsize : Ls.size = c.maxLocals) {a : Addr} (hd : decode c.code pc = .ok (.invokespecial idx, 3)) (hp : pc + 3 = pc') (hf : 1 ≤ R.frames) {W : Nat} (hW : 2 * 0 + (S.map fun v => v.category).sum ≤ W) (hl : W + 12 ≤ R.locals)
    (K : ∀ T', Stand p l e R s m args below meth c T' locs cells slots → T'.heap = h → own_W p e below P T' m pc' Ls S) : own_W p e below P T m pc Ls (.ref a :: S) := by
  subst hp
  obtain ⟨T', X', e', st⟩ := initO X hx hZ hown w1 w2 w3 eT (g := mkF m pc Ls (.ref a :: S)) rfl hsize rfl hd hf (W := W) hW hl
  exact own_go st (K T' X' e')
/-! returns -/
theorem own_retI (X : Stand p l e R s m args below meth c T locs cells slots) (hx : p.tables.exec = Jvm.exec) (hlk : meth.locks = false) {t : FieldType} {w w' : Value} (hret : meth.sig.returnType = some t) (hd : decode c.code pc = .ok (.ireturn, 1)) {z : Int32} (hw : w = .int z) (hn : narrow t w = w') (ht : t = .int ∨ t = .boolean ∨ t = .byte ∨ t = .char ∨ t = .short) (hc : cells ≤ kc) (hs : slots ≤ ks) (hq : Q (some w') T.heap locs) : own_W p e below (own_Post s Q kc ks) T m pc Ls (w :: S) := by
  subst hw
  obtain ⟨fs, hr, hrun, hended, hW, hsame⟩ := X.leave (v := some w') (fun h => by rw [hret] at h; cases h) hlk
  refine ⟨_, _, ?_, hrun, hended, _, _, rfl, hq, ⟨_, rfl⟩, hW, hsame.mono hc hs⟩
  have hm' : T.vm.method? m = some meth := X.method'
  show Steps p.tables e below (T.setTop { method := m, pc := pc, locals := Ls, stack := _ :: S, locked := none }) _
  rcases ht with rfl | rfl | rfl | rfl | rfl
  all_goals
    jvm_step X.here [X.here.top, hx, hd, hm', hret, hn]
    first | (intro acts; rw [hr _ acts rfl rfl rfl]) | rw [hr _ _ rfl rfl rfl]
    exact Steps.refl _
theorem own_retJ (X : Stand p l e R s m args below meth c T locs cells slots) (hx : p.tables.exec = Jvm.exec) (hlk : meth.locks = false) {z : Int64} (hret : meth.sig.returnType = some .long) (hd : decode c.code pc = .ok (.lreturn, 1)) (hc : cells ≤ kc) (hs : slots ≤ ks) (hq : Q (some (.long z)) T.heap locs) : own_W p e below (own_Post s Q kc ks) T m pc Ls (.long z :: S) := by
  obtain ⟨fs, hr, hrun, hended, hW, hsame⟩ := X.leave (v := some (.long z)) (fun h => by rw [hret] at h; cases h) hlk
  exact ⟨_, _, retOut X hx hret rfl (Or.inr (Or.inl ⟨rfl, rfl, z, rfl⟩)) hd hr, hrun, hended, _, _, rfl, hq, ⟨_, rfl⟩, hW, hsame.mono hc hs⟩
theorem own_retA (X : Stand p l e R s m args below meth c T locs cells slots) (hx : p.tables.exec = Jvm.exec) (hlk : meth.locks = false) {t : FieldType} {w : Value} (hret : meth.sig.returnType = some t) (hd : decode c.code pc = .ok (.areturn, 1)) (ht : t.isReference = true) (hw : w.isRef = true) (hn : narrow t w = w) (hc : cells ≤ kc) (hs : slots ≤ ks) (hq : Q (some w) T.heap locs) : own_W p e below (own_Post s Q kc ks) T m pc Ls (w :: S) := by
  obtain ⟨fs, hr, hrun, hended, hW, hsame⟩ := X.leave (v := some w) (fun h => by rw [hret] at h; cases h) hlk
  exact ⟨_, _, retOut X hx hret hn (Or.inr (Or.inr (Or.inr (Or.inr ⟨rfl, ht, hw⟩)))) hd hr, hrun, hended, _, _, rfl, hq, ⟨_, rfl⟩, hW, hsame.mono hc hs⟩
theorem own_ret0 (X : Stand p l e R s m args below meth c T locs cells slots) (hx : p.tables.exec = Jvm.exec) (hlk : meth.locks = false) (hret : meth.sig.returnType = none) (hd : decode c.code pc = .ok (.return_, 1)) (hc : cells ≤ kc) (hs : slots ≤ ks) (hq : Q none T.heap locs) : own_W p e below (own_Post s Q kc ks) T m pc Ls [] := by
  obtain ⟨fs, hr, hrun, hended, hW, hsame⟩ := X.leave (v := none) (fun _ => rfl) hlk
  exact ⟨_, _, X.returnOut hx hret hd hr, hrun, hended, _, _, rfl, hq, ⟨_, rfl⟩, hW, hsame.mono hc hs⟩
end OwnKit
/-! ## A contract's usual head, in one -/
abbrev own_Met (l : Launch) (Z : State) (y : MethodName) (b : ByteArray) (ml : Nat) (rt : Option FieldType) (ws : List Jvm.Cond) (R : Room) (as : Array Value) (h0 : Heap) (Q : Option Value → Heap → List Loc → Prop) : Prop :=
  MetFree l y (head1 (Jvm.Cond.code y b ml rt :: ws) R) (fun a U => a = as ∧ Z.Warmed39 U.vm ∧ U.heap = h0) (fun _ _ _ _ _ => True) (fun _ U o U' => ∃ v L, o = .returned v ∧ Q v U'.heap L ∧ FrameEnd U o U' L R.cells R.slots)
theorem own_met {l : Launch} {Z : State} {y : MethodName} {b : ByteArray} {ml : Nat} {rt : Option FieldType} {ws : List Jvm.Cond} {R : Room} {as : Array Value} {h0 : Heap} {Q : Option Value → Heap → List Loc → Prop} {Ls : Array Slot} (n0 : Nat) {own : String} (hpl : plainName own = true) (hef : ∀ m, entryFrame m as ml = mkF m 0 Ls [])
    (K : ∀ p e s m below meth c T lc, meth.sig.returnType = rt → p.tables.exec = Jvm.exec → Z.Warmed39 s.vm → c.code = b → c.maxLocals = ml → s.vm.findClass own = some m.cls → meth.name = y.name → meth.locks = false → Stand p l e R s m as below meth c T lc 0 0 → T.heap = h0 → Fr n0 lc → own_W p e below (own_Post s Q R.cells R.slots) T m 0 Ls []) (ho : y.cls = own := by rfl) : own_Met l Z y b ml rt ws R as h0 Q := by
  subst ho
  refine MetFree.of_bodySF (plainFor_of_name hpl) hisR ?_
  intro p e s m args below meth c s₁ Bd hml0 hP hK
  obtain ⟨rfl, hZ, hh⟩ := hP
  refine own_enter (hef m) ?_
  exact K p e s m below meth c s₁ [] Bd.returns Bd.exec hZ Bd.bytes hml0 (findClass_of_methodNamed Bd.named) (name_of_methodNamed Bd.named Bd.method).1 Bd.notSynchronized (Stand.of_body Bd) (by rw [← hh, Bd.state]; rfl) (Fr.nil n0)
section OwnKit2
variable {p : Program} {l : Launch} {e : Env} {R : Room} {s : State} {m : MethodId} {args : Array Value} {below : List Frame} {meth : Method} {c : Code} {T : State} {locs : List Loc} {cells slots : Nat} {Z : State} {a0 : Array Value} {h : Heap}
  {P : Outcome → State → Prop} {Q : Option Value → Heap → List Loc → Prop} {kc ks : Nat} {pc pc' : Nat} {Ls Ls' : Array Slot} {S : List Value}
theorem own_newarrE (X : Stand p l e R s m args below meth c T locs cells slots) (hx : p.tables.exec = Jvm.exec) (hZ : Z.Warmed39 s.vm) {aty : ArrayType} (w : (Cond.arrayClass (newarray.typeOf aty)).before a0 Z = true) (eT : T.heap = h) (hd : decode c.code pc = .ok (.newarray aty, 2)) (hp : pc + 2 = pc') {n : Int32}
    (hn : ¬ n < 0) (cap : Nat) (hcap : n.toNatClampNeg ≤ cap) (hb : cap * 8 ≤ 536870912) {cells' slots' : Nat} (hc' : cells + 1 = cells') (hs' : slots + cap = slots') (hc : cells' ≤ R.cells) (hl : slots' ≤ R.slots) {ad : String} (had : "[" ++ (newarray.typeOf aty).toString = ad)
    (K : ∀ T' h' cA a, Stand p l e R s m args below meth c T' locs cells' slots' → T'.heap = h' → Ext h h' → a = h.size → Exa Z h' a ad → Arv Z h' a cA (newarray.typeOf aty) n [] (defaultValue (newarray.typeOf aty)) → own_W p e below P T' m pc' Ls (.ref a :: S)) : own_W p e below P T m pc Ls (.int n :: S) := by
  subst hp hc' hs'
  obtain ⟨T', h', cA, X', e', E', A', Ea, st⟩ := newPE X hx hZ w eT (g := mkF m pc Ls (.int n :: S)) rfl hd rfl hn hcap hb hc hl had
  exact own_go st (K T' h' cA _ X' e' E' rfl Ea (Arv.new A' hn))
theorem own_clone (X : Stand p l e R s m args below meth c T locs cells slots) (hx : p.tables.exec = Jvm.exec) (hZ : Z.Warmed39 s.vm) {own ad : String} {index : Nat} (hown : s.vm.findClass own = some m.cls)
    (w1 : (Cond.methodLink own index ⟨ad, "clone", "()Ljava/lang/Object;"⟩).before a0 Z = true) (w2 : (Cond.sameMethod ad "java/lang/Object" "clone" "()Ljava/lang/Object;").before a0 Z = true) (w3 : (Cond.native ⟨"java/lang/Object", "clone", "()Ljava/lang/Object;"⟩).before a0 Z = true)
    (w4 : (Cond.instanceMethod ⟨"java/lang/Object", "clone", "()Ljava/lang/Object;"⟩).before a0 Z = true) (w5 : (Cond.selects ad ⟨ad, "clone", "()Ljava/lang/Object;"⟩ ⟨"java/lang/Object", "clone", "()Ljava/lang/Object;"⟩).before a0 Z = true) (w6 : (Cond.castable ad "java/lang/Cloneable").before a0 Z = true)
    (eT : T.heap = h) {a : Addr} {k : ClassId} {ty : FieldType} {z : Int32} {vs : List Value} {dv : Value} (F : Arv Z h a k ty z vs dv) (E : Exa Z h a ad) (hsize : Ls.size = c.maxLocals) (hd : decode c.code pc = .ok (.invokevirtual index, 3)) (hp : pc + 3 = pc')
    (hf : 1 ≤ R.frames) {W : Nat} (cap : Nat) (hW : 2 * 0 + (S.map fun v => v.category).sum ≤ W) (hlo : W + 14 ≤ R.locals) (hcap : z.toNatClampNeg ≤ cap) {cells' slots' : Nat} (hc' : cells + 1 = cells') (hs' : slots + cap = slots') (hc : cells' ≤ R.cells) (hl : slots' ≤ R.slots)
    (K : ∀ T' h' b, Stand p l e R s m args below meth c T' locs cells' slots' → T'.heap = h' → Ext h h' → b = h.size → Arv Z h' b k ty z vs dv → Exa Z h' b ad → own_W p e below P T' m pc' Ls (.ref b :: S)) : own_W p e below P T m pc Ls (.ref a :: S) := by
  subst hp hc' hs'
  obtain ⟨T', h', X', e', E', A', Ea, st⟩ := cloneH X hx hZ hown w1 w2 w3 w4 w5 w6 eT F.arh E (g := mkF m pc Ls (.ref a :: S)) rfl hsize rfl hd hf (W := W) hW hlo hcap hc hl
  exact own_go st (K T' h' _ X' e' E' rfl A' Ea)
theorem own_grid (X : Stand p l e R s m args below meth c T locs cells slots) (hx : p.tables.exec = Jvm.exec) (hZ : Z.Warmed39 s.vm) {own C ad : String} {ty : FieldType} {index : Nat} (hown : s.vm.findClass own = some m.cls) (hC : (FieldType.array ty).toString = C) (had : "[" ++ C = ad)
    (w1 : (Cond.classLink own index ad).before a0 Z = true) (w2 : (Cond.arrayOver (.array ty)).before a0 Z = true) (w3 : (Cond.arrayClass ty).before a0 Z = true) (eT : T.heap = h) (hd : decode c.code pc = .ok (.multianewarray index 2, 4)) (hp : pc + 4 = pc') {n k : Int32}
    (hn : ¬ n < 0) (hk : ¬ k < 0) (N cap : Nat) (hN : n.toNatClampNeg = N) (hcap : k.toNatClampNeg ≤ cap) (hb : cap * 8 ≤ 536870912) (hb1 : N ≤ 1000) (hdf : fits ty (defaultValue ty) = true) (hdd : (defaultValue ty).isDefault = true) {cells' slots' : Nat} (hc' : cells + (1 + N) = cells') (hs' : slots + (N + N * cap) = slots') (hc : cells' ≤ R.cells) (hl : slots' ≤ R.slots)
    (K : ∀ T' h' cA comp a xs, Stand p l e R s m args below meth c T' locs cells' slots' → T'.heap = h' → Ext h h' → a = h.size → xs = (List.range N).map (fun j => h.size + 1 + j) → Arv Z h' a cA (.array ty) n (xs.map .ref) .null → Exa Z h' a ad → (∀ (j : Nat) (x : Addr), xs[j]? = some x → Arv Z h' x comp ty k [] (defaultValue ty) ∧ Exa Z h' x C) → own_W p e below P T' m pc' Ls (.ref a :: S)) : own_W p e below P T m pc Ls (.int k :: .int n :: S) := by
  subst hp hc' hs'
  obtain ⟨T', h', cA, comp, X', e', E', A', -, Ea, Hx, st⟩ := gridM X hx hZ hown hC had w1 w2 w3 eT (g := mkF m pc Ls (.int k :: .int n :: S)) rfl hd rfl hn hk hN rfl hcap hb hb1 hdf hdd hc hl
  exact own_go st (K T' h' cA comp _ _ X' e' E' rfl rfl A' Ea fun j x q => ⟨Arv.new (Hx j x q).1 hk, (Hx j x q).2⟩)
theorem own_gridW (X : Stand p l e R s m args below meth c T locs cells slots) (hx : p.tables.exec = Jvm.exec) (hZ : Z.Warmed39 s.vm) {own C ad : String} {ty : FieldType} {index : Nat} (hown : s.vm.findClass own = some m.cls) (hC : (FieldType.array ty).toString = C) (had : "[" ++ C = ad)
    (w1 : (Cond.classLink own index ad).before a0 Z = true) (w2 : (Cond.arrayOver (.array ty)).before a0 Z = true) (w3 : (Cond.arrayClass ty).before a0 Z = true) (eT : T.heap = h) (hd : decode c.code pc = .ok (.multianewarray index 2, 4)) (hp : pc + 4 = pc') {n k : Int32}
    (hn : ¬ n < 0) (hk : ¬ k < 0) (N cap : Nat) (hN : n.toNatClampNeg ≤ N) (hcap : k.toNatClampNeg ≤ cap) (hb : cap * 8 ≤ 536870912) (hb1 : N ≤ 1000) (hdf : fits ty (defaultValue ty) = true) (hdd : (defaultValue ty).isDefault = true) {cells' slots' : Nat} (hc' : cells + (1 + N) = cells') (hs' : slots + (N + N * cap) = slots') (hc : cells' ≤ R.cells) (hl : slots' ≤ R.slots)
    (K : ∀ T' h' a, Stand p l e R s m args below meth c T' locs cells' slots' → T'.heap = h' → Ext h h' → a = h.size → own_W p e below P T' m pc' Ls (.ref a :: S)) : own_W p e below P T m pc Ls (.int k :: .int n :: S) := by
  subst hp hc' hs'
  have hm : n.toNatClampNeg * cap ≤ N * cap := Nat.mul_le_mul hN (Nat.le_refl _)
  obtain ⟨T', h', cA, comp, X', e', E', A', -, Ea, Hx, st⟩ := gridM X hx hZ hown hC had w1 w2 w3 eT (g := mkF m pc Ls (.int k :: .int n :: S)) rfl hd rfl hn hk rfl rfl hcap hb (by omega) hdf hdd (by omega) (by omega)
  exact own_go st (K T' h' _ (X'.more (by omega) (by omega)) e' E' rfl)
end OwnKit2
/-! ## an ArrayList of Longs: the library's laws at a site, said of the heap -/
section OwnKit11
open Jvm.Free.ALB Jvm.Free.AList
variable {p : Program} {l : Launch} {e : Env} {R : Room} {s : State} {m : MethodId} {args : Array Value} {below : List Frame} {meth : Method} {c : Code} {T : State} {locs : List Loc} {cells slots : Nat} {Z : State} {a0 : Array Value} {h h' : Heap}
  {P : Outcome → State → Prop} {pc pc' : Nat} {Ls : Array Slot} {S : List Value}
def own_mvB (d : Jvm.Cond) : Bool := (d.onTables && d.keepsFace) || (match d with
  | .arrayOver (.object _) => true
  | _ => false)
theorem own_mvC {U : State} {as : Array Value} {d : Jvm.Cond} (hb : own_mvB d = true) (hZ : Z.Warmed39 U.vm) (w : d.before a0 Z = true) : d.before as U = true := by
  unfold own_mvB at hb
  rw [Bool.or_eq_true] at hb
  rcases hb with q | q
  · exact mv hZ w q
  · split at q
    · exact Cond.arrayOver_alike hZ.alike w
    · cases q
theorem own_lift {U : State} {as : Array Value} (L : List Jvm.Cond) (hZ : Z.Warmed39 U.vm) (hw : ∀ d ∈ tables_1, d.before a0 Z = true) (h1 : (atomsOf L).all (fun w => tables_1.contains w) = true) (h2 : (atomsOf L).all own_mvB = true) : ∀ c ∈ L, c.before as U = true := fun c hc =>
  Cond.before_of_atoms c fun w hw' => own_mvC (List.all_eq_true.mp h2 w (List.mem_flatMap.mpr ⟨c, hc, hw'⟩)) hZ (hw w (by
    have q := List.all_eq_true.mp h1 w (List.mem_flatMap.mpr ⟨c, hc, hw'⟩)
    simpa using q))
/-- a plain cell of just this class (how many slots it has isn't said) -/
def own_Is (Z : State) (h : Heap) (a : Addr) (C : String) : Prop := ∃ cell : Cell, h[a]? = some cell ∧ Z.vm.findClass C = some cell.cls ∧ cell.vm.isStatics = false
theorem own_Is.of {a : Addr} {C : String} (E : Exa Z h a C) : own_Is Z h a C := by
  obtain ⟨cell, k, h1, h2, h3, h4, -⟩ := E; exact ⟨cell, h1, h2, h4⟩
theorem own_Is.ext {a : Addr} {C : String} (I : own_Is Z h a C) (E : Ext h h') : own_Is Z h' a C := by
  obtain ⟨cell, h1, r⟩ := I; exact ⟨cell, E.2 _ _ h1, r⟩
theorem own_Is.keep {a : Addr} {C : String} {ws : List Addr} (I : own_Is Z h a C) (K : Keep h h' ws) : own_Is Z h' a C := by
  obtain ⟨cell, h1, h2, h3⟩ := I
  obtain ⟨c', g1, g2, g3, -⟩ := K.2.2 _ _ h1
  exact ⟨c', g1, by rw [g2]; exact h2, by rw [g3]; exact h3⟩
theorem own_Is.lt {a : Addr} {C : String} (I : own_Is Z h a C) : a < h.size := by
  obtain ⟨cell, h1, -⟩ := I; exact (Array.getElem?_eq_some_iff.mp h1).1
theorem own_Is.ne {a b : Addr} {C D : String} (I : own_Is Z h a C) (J : own_Is Z h b D) (hne : C ≠ D) : a ≠ b := fun q => by
  subst q
  obtain ⟨c1, a1, a2, -⟩ := I
  obtain ⟨c2, b1, b2, -⟩ := J
  cases a1.symm.trans b1
  obtain ⟨k1, d1, d2⟩ := Vm.findClass_spec a2
  obtain ⟨k2, e1, e2⟩ := Vm.findClass_spec b2
  cases d1.symm.trans e1
  exact hne (d2.symm.trans e2)
theorem own_Is.ins {a : Addr} {C : String} (I : own_Is Z h a C) : Ins Z h a C true := by
  obtain ⟨cell, h1, h2, h4⟩ := I
  exact ⟨cell, _, h1, h2, by simp [h4, Vm.assignable_self]⟩
/-- the list at xa, her array at ea of sz places, her elements vs -/
def own_Lst (Z : State) (h : Heap) (xa ea : Addr) (sz : Nat) (vs : List Value) : Prop :=
  ∃ (x : ALB.Fix) (U : State) (C E : Cell) (mc : Int32), x.a = xa ∧ Z.vm.Alike U.vm ∧ U.heap = h ∧ Al x C ea E vs.length mc U ∧ EltsN x E vs.length U ∧ E.slots.size = sz ∧ (∀ (i : Nat) (v : Value), vs[i]? = some v → E.slots[i]? = some v) ∧ (sz = 0 → Dflt ea U) ∧ (0 < sz → xa < ea) ∧ Z.vm.findClass "java/lang/Object" = some x.comp
theorem own_Lst.mv {xa ea : Addr} {sz : Nat} {vs : List Value} (L : own_Lst Z h xa ea sz vs) (hC : ∀ c : Cell, h[xa]? = some c → h'[xa]? = some c) (hE : ∀ c : Cell, h[ea]? = some c → h'[ea]? = some c)
    (hk : ∀ (r : Addr) (cv : Cell), h[r]? = some cv → ∃ cv' : Cell, h'[r]? = some cv' ∧ cv'.cls = cv.cls ∧ cv'.vm = cv.vm) (hD : sz = 0 → ∀ (y : Addr) (cy : Cell), h[y]? = some cy → cy.vm.isStatics = true → h'[y]? = some cy) : own_Lst Z h' xa ea sz vs := by
  obtain ⟨x, U, C, E, mc, rfl, a1, rfl, a3, a4, a5, a6, a7, a8, a9⟩ := L
  exact ⟨x, { U with heap := h' }, C, E, mc, rfl, a1, rfl, a3.carry (Vm.Alike.refl _) (hC _ a3.hC) (hE _ a3.hE), a4.carry (Vm.Alike.refl _) hk, a5, a6, fun z => (a7 z).move (Vm.Alike.refl _) (hD z), a8, a9⟩
theorem own_Lst.ext {xa ea : Addr} {sz : Nat} {vs : List Value} (L : own_Lst Z h xa ea sz vs) (E : Ext h h') : own_Lst Z h' xa ea sz vs :=
  L.mv (fun c q => E.2 _ _ q) (fun c q => E.2 _ _ q) (fun r cv q => ⟨cv, E.2 _ _ q, rfl, rfl⟩) (fun _ y cy q _ => E.2 _ _ q)
theorem own_Lst.at {xa ea : Addr} {sz : Nat} {vs : List Value} (L : own_Lst Z h xa ea sz vs) {U' : State} (hal : Z.vm.Alike U'.vm) (eU : U'.heap = h) :
    ∃ (x : ALB.Fix) (C E : Cell) (mc : Int32), x.a = xa ∧ Al x C ea E vs.length mc U' ∧ EltsN x E vs.length U' ∧ E.slots.size = sz ∧ (∀ (i : Nat) (v : Value), vs[i]? = some v → E.slots[i]? = some v) ∧ (sz = 0 → Dflt ea U') ∧ (0 < sz → xa < ea) ∧ Z.vm.findClass "java/lang/Object" = some x.comp := by
  obtain ⟨x, U, C, E, mc, rfl, a1, rfl, a3, a4, a5, a6, a7, a8, a9⟩ := L
  have hal' : U.vm.Alike U'.vm := a1.symm.trans hal
  exact ⟨x, C, E, mc, rfl, a3.carry hal' (by rw [eU]; exact a3.hC) (by rw [eU]; exact a3.hE), a4.carry hal' (fun r cv q => ⟨cv, by rw [eU]; exact q, rfl, rfl⟩), a5, a6, fun z => (a7 z).move hal' (fun y cy q _ => by rw [eU]; exact q), a8, a9⟩
theorem own_al_is {x : ALB.Fix} {C : Cell} {ea : Addr} {E : Cell} {n : Nat} {mc : Int32} {U : State} (hA : Al x C ea E n mc U) (hal : Z.vm.Alike U.vm) : own_Is Z U.heap x.a AL ∧ own_Is Z U.heap ea OAD := by
  refine ⟨⟨C, hA.hC, ?_, ?_⟩, ⟨E, hA.hE, ?_, ?_⟩⟩
  · rw [← hal.findClass, hA.cl]; exact hA.fc
  · cases hv : C.vm <;> first | rfl | exact absurd hv (hA.ob _)
  · rw [← hal.findClass, hA.clE]; exact hA.fcO
  · cases hv : E.vm <;> first | rfl | exact absurd hv (hA.obE _)
theorem own_Lst.is {xa ea : Addr} {sz : Nat} {vs : List Value} (L : own_Lst Z h xa ea sz vs) : own_Is Z h xa AL ∧ own_Is Z h ea OAD := by
  obtain ⟨x, U, C, E, mc, rfl, a1, rfl, a3, -⟩ := L
  exact own_al_is a3 a1
/-- the same, where no more is added -/
def own_Lsf (Z : State) (h : Heap) (xa ea : Addr) (vs : List Value) : Prop :=
  ∃ (x : ALB.Fix) (U : State) (C E : Cell) (mc : Int32), x.a = xa ∧ Z.vm.Alike U.vm ∧ U.heap = h ∧ Al x C ea E vs.length mc U ∧ (∀ (i : Nat) (v : Value), vs[i]? = some v → E.slots[i]? = some v)
theorem own_Lsf.of {xa ea : Addr} {sz : Nat} {vs : List Value} (L : own_Lst Z h xa ea sz vs) : own_Lsf Z h xa ea vs := by
  obtain ⟨x, U, C, E, mc, a0, a1, a2, a3, a4, a5, a6, a7, a8, a9⟩ := L
  exact ⟨x, U, C, E, mc, a0, a1, a2, a3, a6⟩
theorem own_Lsf.mv {xa ea : Addr} {vs : List Value} (L : own_Lsf Z h xa ea vs) (hC : ∀ c : Cell, h[xa]? = some c → h'[xa]? = some c) (hE : ∀ c : Cell, h[ea]? = some c → h'[ea]? = some c) : own_Lsf Z h' xa ea vs := by
  obtain ⟨x, U, C, E, mc, rfl, a1, rfl, a3, a6⟩ := L
  exact ⟨x, { U with heap := h' }, C, E, mc, rfl, a1, rfl, a3.carry (Vm.Alike.refl _) (hC _ a3.hC) (hE _ a3.hE), a6⟩
theorem own_Lsf.ext {xa ea : Addr} {vs : List Value} (L : own_Lsf Z h xa ea vs) (E : Ext h h') : own_Lsf Z h' xa ea vs := L.mv (fun c q => E.2 _ _ q) (fun c q => E.2 _ _ q)
theorem own_Lsf.keep {xa ea : Addr} {vs : List Value} {ws : List Addr} (L : own_Lsf Z h xa ea vs) (K : Keep h h' ws) (q1 : xa ∉ ws) (q2 : ea ∉ ws) : own_Lsf Z h' xa ea vs := L.mv (fun c q => K.2.1 _ _ q q1) (fun c q => K.2.1 _ _ q q2)
theorem own_Lsf.at {xa ea : Addr} {vs : List Value} (L : own_Lsf Z h xa ea vs) {U' : State} (hal : Z.vm.Alike U'.vm) (eU : U'.heap = h) :
    ∃ (x : ALB.Fix) (C E : Cell) (mc : Int32), x.a = xa ∧ Al x C ea E vs.length mc U' ∧ (∀ (i : Nat) (v : Value), vs[i]? = some v → E.slots[i]? = some v) := by
  obtain ⟨x, U, C, E, mc, rfl, a1, rfl, a3, a6⟩ := L
  exact ⟨x, C, E, mc, rfl, a3.carry (a1.symm.trans hal) (by rw [eU]; exact a3.hC) (by rw [eU]; exact a3.hE), a6⟩
/-- her i-th element is a box of f i -/
def own_Bx (Z : State) (h : Heap) (vs : List Value) (f : Nat → Int64) : Prop := ∀ i, i < vs.length → ∃ r : Addr, vs[i]? = some (.ref r) ∧ own_Is Z h r "java/lang/Long" ∧ Fld Z h r "java/lang/Long" "value" "J" (.long (f i))
theorem own_Bx.ext {vs : List Value} {f : Nat → Int64} (B : own_Bx Z h vs f) (E : Ext h h') : own_Bx Z h' vs f := fun i hi => by
  obtain ⟨r, h1, h2, h3⟩ := B i hi; exact ⟨r, h1, h2.ext E, h3.ext E⟩
theorem own_Bx.keep {vs : List Value} {f : Nat → Int64} {ws : List Addr} (B : own_Bx Z h vs f) (K : Keep h h' ws) (q : ∀ r : Addr, own_Is Z h r "java/lang/Long" → r ∉ ws) : own_Bx Z h' vs f := fun i hi => by
  obtain ⟨r, h1, h2, h3⟩ := B i hi; exact ⟨r, h1, h2.keep K, h3.keep K (q r h2)⟩
theorem own_Bx.snoc {vs : List Value} {f : Nat → Int64} (B : own_Bx Z h vs f) {r : Addr} (I : own_Is Z h r "java/lang/Long") (F : Fld Z h r "java/lang/Long" "value" "J" (.long (f vs.length))) : own_Bx Z h (vs ++ [.ref r]) f := fun i hi => by
  rw [List.length_append] at hi
  by_cases q : i < vs.length
  · obtain ⟨r', h1, h2, h3⟩ := B i q; exact ⟨r', by rw [List.getElem?_append_left q]; exact h1, h2, h3⟩
  · have e : i = vs.length := by simp at hi; omega
    subst e; exact ⟨r, by simp, I, F⟩
/-- Object[]'s mirror is made, Arrays is there: what the growing road asks -/
def own_Gz (Z : State) (z : GX) : Prop := Z.vm.findClass "java/util/Arrays" = some z.cAR ∧ ∃ (c : ClassId) (k : Class), Z.vm.findClass OAD = some c ∧ Z.vm.classes[c]? = some k ∧ k.mirror = some z.mir
theorem own_Gz.gen {z : GX} (H : own_Gz Z z) {U : State} {g : G} (hal : Z.vm.Alike U.vm) (hA : Al g.x g.C g.ea g.E g.n g.mc U) (hO : Z.vm.findClass "java/lang/Object" = some g.x.comp) : Gen g z U := by
  obtain ⟨h1, c, k, h2, h3, h4⟩ := H
  have q : Z.vm.findClass OAD = some g.x.cOA := by rw [← hal.findClass]; exact hA.fcO
  have e : c = g.x.cOA := Option.some.inj (h2.symm.trans q)
  obtain ⟨k', h5, e5⟩ := hal.2.2 _ _ h3
  exact ⟨by rw [hal.findClass]; exact hO, by rw [hal.findClass]; exact h1, k', by rw [← e]; exact h5, by rw [e5]; exact h4⟩
theorem own_elt {x : ALB.Fix} {r : Addr} {U : State} {C : String} (hal : Z.vm.Alike U.vm) (eU : U.heap = h) (I : own_Is Z h r C) (wc : (Cond.castable C "java/lang/Object").before a0 Z = true) (hO : Z.vm.findClass "java/lang/Object" = some x.comp) : Elt x (.ref r) U := by
  obtain ⟨cell, e1, e2, e4⟩ := I
  obtain ⟨c1, c2, g1, g2, g3⟩ := Cond.castable_spec wc
  cases e2.symm.trans g1
  cases hO.symm.trans g2
  obtain ⟨k, hk⟩ := Vm.classAt_of_findClass e2
  obtain ⟨k', hk', -⟩ := hal.2.2 _ _ hk
  exact Or.inr ⟨r, cell, k', rfl, by rw [eU]; exact e1, VmData.noStatics_of e4, hk', by rw [hal.assignable]; exact g3⟩
theorem own_size_le (q : ∀ (y : Addr) (cy : Cell), h[y]? = some cy → ∃ cy' : Cell, h'[y]? = some cy') : h.size ≤ h'.size := by
  by_cases z : h.size = 0
  · omega
  · have hl : h.size - 1 < h.size := by omega
    obtain ⟨cy, hc⟩ := q (h.size - 1) h[h.size - 1] (Array.getElem?_eq_getElem hl)
    have := (Array.getElem?_eq_some_iff.mp hc).1
    omega
theorem own_Ext.keep {ws : List Addr} (E : Ext Z.heap h) (K : Keep h h' ws) (q : ∀ x ∈ ws, Z.heap.size ≤ x) : Ext Z.heap h' := ⟨Nat.le_trans E.1 K.1, fun a c hc => K.2.1 a c (E.2 a c hc) (fun hm => by
  have := q a hm
  have := (Array.getElem?_eq_some_iff.mp hc).1
  omega)⟩
/-- how many places her array has behind k adds -/
def own_cap (k : Nat) : Nat := if k = 0 then 0 else if k ≤ 10 then 10 else 15
theorem own_cap_step {k : Nat} (h1 : k ≠ 0) (h2 : k ≠ 10) : own_cap k = own_cap (k + 1) := by
  unfold own_cap
  rw [if_neg h1, if_neg (Nat.succ_ne_zero k)]
  by_cases q : k ≤ 10
  · rw [if_pos q, if_pos (by omega)]
  · rw [if_neg q, if_neg (by omega)]
/-- what the library's laws of List.add have in common -/
theorem own_added {xa ea ea' : Addr} {sz sz' n : Nat} {vs : List Value} {v : Value} {T' : State} {x : ALB.Fix} {C E C' E' : Cell} {mc : Int32} {L : List Loc} (hal : Z.vm.Alike T.vm) (hal' : Z.vm.Alike T'.vm) (hxa : x.a = xa) (hO : Z.vm.findClass "java/lang/Object" = some x.comp) (hvs : ∀ (i : Nat) (v : Value), vs[i]? = some v → E.slots[i]? = some v) (hlt : 0 < sz → xa < ea) (hEN : EltsN x E vs.length T)
    (hA0 : Al x C ea E vs.length mc T) (hsz : E.slots.size = sz) (hEl : Elt x v T) (hL : ∀ w ∈ L, w.base = x.a ∨ w.base = ea) (hA : Al x C' ea' E' (vs.length + 1) (mc + 1) T') (hzC : C'.slots.size = C.slots.size) (hs1 : E'.slots[vs.length]? = some v) (hs2 : ∀ i, i < vs.length → E'.slots[i]? = E.slots[i]?) (h0 : 0 < sz')
    (hea : (ea' = ea ∧ E'.slots.size = E.slots.size ∧ sz = sz' ∧ 0 < sz) ∨ (ea' = T.heap.size ∧ E'.slots.size = sz' ∧ (∀ w ∈ L, w.base = x.a) ∧ T'.heap[ea]? = some E)) (hk : ∀ (y : Addr) (cy : Cell), y ≠ x.a → y ≠ ea → T.heap[y]? = some cy → T'.heap[y]? = some cy)
    (hst : ∀ (y : Addr) (cy : Cell), T.heap[y]? = some cy → ∃ cy' : Cell, T'.heap[y]? = some cy' ∧ cy'.cls = cy.cls ∧ cy'.vm = cy.vm) :
    own_Lst Z T'.heap xa ea' sz' (vs ++ [v]) ∧ ∃ ea2, Keep T.heap T'.heap [xa, ea2] ∧ xa ≤ ea2 ∧ (∀ r : Addr, own_Is Z T.heap r "java/lang/Long" → r ∉ [xa, ea2]) ∧ (∀ n0, n0 ≤ xa → Fr n0 locs → Fr n0 (locs ++ L)) := by
  subst hxa
  obtain ⟨i1, i2⟩ := own_al_is (Z := Z) hA0 hal
  have halT : T.vm.Alike T'.vm := hal.symm.trans hal'
  have hle := own_size_le (h := T.heap) (h' := T'.heap) (fun y cy q => by obtain ⟨c', q', -⟩ := hst y cy q; exact ⟨c', q'⟩)
  have hxl : x.a < T.heap.size := i1.lt
  refine ⟨⟨x, T', C', E', mc + 1, rfl, hal', rfl, by rw [List.length_append]; exact hA, ?_, ?_, ?_, fun z => absurd h0 (by omega), fun _ => ?_, hO⟩, ?_⟩
  · intro i hi
    rw [List.length_append] at hi
    by_cases q : i < vs.length
    · obtain ⟨w, hw1, hw2⟩ := hEN i q
      exact ⟨w, by rw [hs2 i q]; exact hw1, hw2.carry halT hst⟩
    · have e : i = vs.length := by simp at hi; omega
      subst e; exact ⟨v, hs1, hEl.carry halT hst⟩
  · rcases hea with ⟨-, q, r, -⟩ | ⟨-, q, -⟩
    · rw [q, hsz, r]
    · exact q
  · intro i w hi
    by_cases q : i < vs.length
    · rw [List.getElem?_append_left q] at hi; rw [hs2 i q]; exact hvs i w hi
    · have e : i = vs.length := by
        have := (List.getElem?_eq_some_iff.mp hi).1
        simp at this; omega
      subst e
      simp at hi
      rw [← hi]; exact hs1
  · rcases hea with ⟨q, -, r, r'⟩ | ⟨q, -⟩
    · rw [q]; exact hlt r'
    · rw [q]; exact hxl
  · rcases hea with ⟨q, q2, r, r'⟩ | ⟨q, q2, q3, q4⟩
    · subst q
      refine ⟨ea', ⟨hle, fun y cy hy hn => ?_, fun y cy hy => ?_⟩, Nat.le_of_lt (hlt r'), fun r I => ?_, fun n0 hn N y hy => ?_⟩
      · simp only [List.mem_cons, List.not_mem_nil, or_false, not_or] at hn
        exact hk y cy hn.1 hn.2 hy
      · obtain ⟨c', g1, g2, g3⟩ := hst y cy hy
        refine ⟨c', g1, g2, g3, ?_⟩
        by_cases e1 : y = x.a
        · subst e1; cases hA0.hC.symm.trans hy; cases hA.hC.symm.trans g1; exact hzC
        · by_cases e2 : y = ea'
          · subst e2; cases hA0.hE.symm.trans hy; cases hA.hE.symm.trans g1; exact q2
          · cases (hk y cy e1 e2 hy).symm.trans g1; rfl
      · simp only [List.mem_cons, List.not_mem_nil, or_false, not_or]
        exact ⟨I.ne i1 (by decide), I.ne i2 (by decide)⟩
      · rcases List.mem_append.mp hy with q | q
        · exact N y q
        · rcases hL y q with e | e
          · rw [e]; exact hn
          · rw [e]; exact Nat.le_trans hn (Nat.le_of_lt (hlt r'))
    · refine ⟨x.a, ⟨hle, fun y cy hy hn => ?_, fun y cy hy => ?_⟩, Nat.le_refl _, fun r I => ?_, fun n0 hn N y hy => ?_⟩
      · simp only [List.mem_cons, List.not_mem_nil, or_false, not_or] at hn
        by_cases e2 : y = ea
        · subst e2; cases hA0.hE.symm.trans hy; exact q4
        · exact hk y cy hn.1 e2 hy
      · obtain ⟨c', g1, g2, g3⟩ := hst y cy hy
        refine ⟨c', g1, g2, g3, ?_⟩
        by_cases e1 : y = x.a
        · subst e1; cases hA0.hC.symm.trans hy; cases hA.hC.symm.trans g1; exact hzC
        · by_cases e2 : y = ea
          · subst e2; cases hA0.hE.symm.trans hy; cases q4.symm.trans g1; rfl
          · cases (hk y cy e1 e2 hy).symm.trans g1; rfl
      · simp only [List.mem_cons, List.not_mem_nil, or_false, not_or]
        exact ⟨I.ne i1 (by decide), I.ne i1 (by decide)⟩
      · rcases List.mem_append.mp hy with q | q
        · exact N y q
        · rw [q3 y q]; exact hn
theorem own_addAt : (atomsOf alAddAnyAtoms).all (fun w => tables_1.contains w) = true := by decide +kernel
theorem own_addOn : (atomsOf alAddAnyAtoms).all own_mvB = true := by decide +kernel
theorem own_newAt : (atomsOf alNewAtoms).all (fun w => tables_1.contains w) = true := by decide +kernel
theorem own_newOn : (atomsOf alNewAtoms).all own_mvB = true := by decide +kernel
def own_sgL : List Jvm.Cond := rest1 (sizeIW "" 0) ++ rest1 (getIW "" 0) ++ [Size.tab, Get.tab AL, .initialized AL]
theorem own_sgAt : (atomsOf own_sgL).all (fun w => tables_1.contains w) = true := by decide +kernel
theorem own_sgOn : (atomsOf own_sgL).all own_mvB = true := by decide +kernel
/-- new ArrayList(), whole: new, dup, its constructor -/
theorem own_alNew (X : Stand p l e R s m args below meth c T locs cells slots) (hx : p.tables.exec = Jvm.exec) (hZ : Z.Warmed39 s.vm) (hw : ∀ d ∈ tables_1, d.before a0 Z = true) {own : String} {i1 i2 : Nat} (hown : s.vm.findClass own = some m.cls) (w1 : (Cond.classLink own i1 AL).before a0 Z = true) (w2 : (Cond.methodLink own i2 Init0.initN).before a0 Z = true) (eT : T.heap = h) {dc : Addr} {Edc : Cell} (hD : DfArr dc Edc Z) (EZ : Ext Z.heap h)
    (hd1 : decode c.code pc = .ok (.new i1, 3)) (hd2 : decode c.code (pc + 3) = .ok (.dup, 1)) (hd3 : decode c.code (pc + 4) = .ok (.invokespecial i2, 3)) (hp : pc + 7 = pc') (hsize : Ls.size = c.maxLocals) {W : Nat} (hW : (S.map fun v => v.category).sum + 1 ≤ W) (hfr : 4 ≤ R.frames) (hlo : W + 62 ≤ R.locals) {cells' slots' : Nat} (hc' : cells + 1 = cells') (hs' : slots + 3 = slots') (hc : cells' ≤ R.cells) (hl : slots' ≤ R.slots)
    (K : ∀ T' h' lc xa, Stand p l e R s m args below meth c T' lc cells' slots' → T'.heap = h' → Ext h h' → xa = h.size → own_Lst Z h' xa dc 0 [] → (∀ n0, n0 ≤ xa → Fr n0 locs → Fr n0 lc) → own_W p e below P T' m pc' Ls (.ref xa :: S)) : own_W p e below P T m pc Ls S := by
  subst hp hc' hs' eT
  have hN := own_lift (as := args) alNewAtoms hZ hw own_newAt own_newOn
  obtain ⟨n1, n2, n3, n4⟩ := alNewWords (mvT hZ w2) hN
  obtain ⟨vm', cC, kC, q1, q2, q3, q4, X1, st1⟩ := X.newCold hx hown (mvT hZ w1) n1 n2 (g := mkF m pc Ls S) rfl hd1 hc hl
  refine own_go st1 ?_
  obtain ⟨T1, hT1⟩ : ∃ T1 : State, T1 = (T.setVm vm').pushCell { cls := cC, slots := kC.instanceTypes.map defaultValue, vm := .none } := ⟨_, rfl⟩
  have hh1 : T1.heap = T.heap.push { cls := cC, slots := kC.instanceTypes.map defaultValue, vm := .none } := by rw [hT1]; rfl
  rw [← hT1] at X1 ⊢
  have E1 : Ext T.heap T1.heap := by
    rw [hh1]
    refine ⟨by rw [Array.size_push]; omega, fun a c' q => ?_⟩
    rw [Array.getElem?_push_lt (Array.getElem?_eq_some_iff.mp q).1]; exact (Array.getElem?_eq_getElem _).symm.trans q
  have hcell : T1.heap[T.heap.size]? = some { cls := cC, slots := kC.instanceTypes.map defaultValue, vm := .none } := by rw [hh1]; exact Array.getElem?_push_size
  have hal1 : Z.vm.Alike T1.vm := hZ.alike.trans X1.warmed.alike
  have EZ1 : Ext Z.heap T1.heap := ⟨Nat.le_trans EZ.1 E1.1, fun a c' q => E1.2 a c' (EZ.2 a c' q)⟩
  have hD1 : DfArr dc Edc T1 := hD.move hal1 (fun y cy q _ => EZ1.2 y cy q) (EZ1.2 _ _ hD.2.1)
  refine own_go (fun t => XS.dup (g := mkF m (pc + 3) Ls (.ref T.heap.size :: S)) X1.here hx rfl hd2 rfl rfl) ?_
  obtain ⟨T2, L, x, C', e1, X2, hL, hAl, hR, hO, hvC, hk, come⟩ := X1.alInit hx hown n3 n4 hD1 (b := T.heap.size) q1 q2 q3 hcell (W := W) (g := mkF m (pc + 4) Ls (.ref T.heap.size :: .ref T.heap.size :: S)) rfl hsize (Steps.refl _) (rest := .ref T.heap.size :: S) rfl (by show 2 * 0 + (1 + (S.map fun v => v.category).sum) ≤ W; omega) hd3 hfr hlo hc hl
  have hal2 : Z.vm.Alike T2.vm := hZ.alike.trans X2.warmed.alike
  have hst2 : ∀ (y : Addr) (cy : Cell), T1.heap[y]? = some cy → ∃ cy' : Cell, T2.heap[y]? = some cy' := fun y cy q => by
    by_cases z : y = T.heap.size
    · rw [z, ← e1]; exact ⟨_, hAl.hC⟩
    · exact ⟨cy, hk y cy z q⟩
  have E2 : Ext T.heap T2.heap := ⟨Nat.le_trans E1.1 (own_size_le hst2), fun a c' q => hk a c' (fun z => absurd z (Nat.ne_of_lt (Array.getElem?_eq_some_iff.mp q).1)) (E1.2 a c' q)⟩
  have hDf : Edc.slots.size = 0 ∧ Dflt dc T2 := by
    rcases hR with z | z
    · have z' : 0 < Edc.slots.size := z
      have := hD.2.2.2.2.2
      omega
    · exact z
  refine own_go (fun t k => come.trans k) (K T2 _ _ T.heap.size X2 rfl E2 rfl ?_ fun n0 hn N y hy => ?_)
  · refine ⟨x, T2, C', Edc, 0, e1, hal2, rfl, hAl, fun i hi => absurd hi (Nat.not_lt_zero _), hDf.1, fun i v q => by simp at q, fun _ => hDf.2, fun z => absurd z (Nat.lt_irrefl _), by rw [← hZ.alike.findClass]; exact hO⟩
  · rcases List.mem_append.mp hy with q | q
    · exact N y q
    · rw [hL y q]; exact hn
/-- List.add of an object on the list, k elements long, k at most 14 -/
theorem own_alAdd (X : Stand p l e R s m args below meth c T locs cells slots) (hx : p.tables.exec = Jvm.exec) (hZ : Z.Warmed39 s.vm) (hw : ∀ d ∈ tables_1, d.before a0 Z = true) {own : String} {index count : Nat} (hown : s.vm.findClass own = some m.cls) (w1 : (Cond.methodLink own index lAddX).before a0 Z = true) {z : GX} (GZ : own_Gz Z z) (eT : T.heap = h) {xa ea r : Addr} {vs : List Value} {C0 : String} (k : Nat) (hvk : vs.length = k) (hk14 : k ≤ 14) (L0 : own_Lst Z h xa ea (own_cap k) vs)
    (I : own_Is Z h r C0) (wc : (Cond.castable C0 "java/lang/Object").before a0 Z = true) (hd : decode c.code pc = .ok (.invokeinterface index count, 5)) (hp : pc + 5 = pc') (hsize : Ls.size = c.maxLocals) {W : Nat} (hW : (S.map fun v => v.category).sum ≤ W) (hfr : 8 ≤ R.frames) (hlo : W + 173 ≤ R.locals) {cells' slots' : Nat} (hc' : cells + 1 = cells') (hs' : slots + (if k = 10 then 15 else 10) = slots') (hc : cells' ≤ R.cells) (hl : slots' ≤ R.slots)
    (K : ∀ T' h' lc ea' ea2, Stand p l e R s m args below meth c T' lc cells' slots' → T'.heap = h' → own_Lst Z h' xa ea' (own_cap (k + 1)) (vs ++ [.ref r]) → Keep h h' [xa, ea2] → xa ≤ ea2 → (∀ r : Addr, own_Is Z h r "java/lang/Long" → r ∉ [xa, ea2]) → (∀ n0, n0 ≤ xa → Fr n0 locs → Fr n0 lc) → own_W p e below P T' m pc' Ls (.int 1 :: S)) : own_W p e below P T m pc Ls (.ref r :: .ref xa :: S) := by
  subst hp hc' hs' eT
  have hal : Z.vm.Alike T.vm := hZ.alike.trans X.warmed.alike
  have hN := own_lift (as := args) alAddAnyAtoms hZ hw own_addAt own_addOn
  obtain ⟨n1, n2⟩ := alAddAnyWords (mvT hZ w1) hN
  obtain ⟨x, C, E, mc, e1, hA, hEN, hsz, hvs, hDf, hlt, hO⟩ := L0.at hal rfl
  have hEl : Elt x (.ref r) T := own_elt hal rfl I wc hO
  have hW' : 2 * (mkF m pc Ls (.ref r :: .ref xa :: S)).monitorRoom + (S.map fun v => v.category).sum ≤ W := by show 2 * 0 + _ ≤ W; omega
  have h0 : 0 < own_cap (k + 1) := by unfold own_cap; split <;> (try split) <;> omega
  by_cases k10 : k = 10
  · -- the array is full: it grows to 15
    have hfull : E.slots.size = vs.length := by rw [hsz, hvk, k10]; rfl
    have hcB : s.vm.findClass AL = some x.cAL := by rw [← X.warmed.alike.findClass]; exact hA.fc
    obtain ⟨kB, hkB⟩ : ∃ kB, s.vm.classes[x.cAL]? = some kB := by
      obtain ⟨kk, g1, -⟩ := kAL_move X.warmed.alike.symm hA.kAL
      exact ⟨kk, g1⟩
    have hG : Gen (⟨x, C, ea, E, vs.length, mc⟩ : G) z T := GZ.gen (g := ⟨x, C, ea, E, vs.length, mc⟩) hal hA hO
    have hcap : newCap vs.length = 15 := by rw [hvk, k10]; decide
    have hr3 : Ready3 15 (⟨x, C, ea, E, vs.length, mc⟩ : G) z T := Or.inr ⟨hfull, Or.inl (by show 0 < vs.length; omega), hG, hEN, Nat.le_of_eq hcap, by show newCap vs.length * 4 ≤ _; rw [hcap]; decide⟩
    rw [if_pos k10] at hl K
    have hpre : ∀ vm₁, s.WarmedH vm₁ → AddF.Pre R (AddGen.S0 15).room (⟨x, C, ea, E, vs.length, mc⟩ : G) (.ref r) (AddGen.Ps 15 (⟨x, C, ea, E, vs.length, mc⟩ : G) z) ⟨T.setVm vm₁, locs, cells, slots⟩ (.ref x.a :: [.ref r]).toArray := fun vm₁ hW₁ => by
      have hal1 : T.vm.Alike vm₁ := X.warmed.alike.symm.trans hW₁.alike
      have hA' : Al x C ea E vs.length mc (T.setVm vm₁) := hA.carry (U' := T.setVm vm₁) hal1 hA.hC hA.hE
      have hEl' : Elt x (.ref r) (T.setVm vm₁) := hEl.carry (U' := T.setVm vm₁) hal1 (fun r cv hr => ⟨cv, hr, rfl, rfl⟩)
      exact ⟨rfl, hc, hl, rfl, hA', hfull.symm, hEl', hA', hfull, Or.inl (by show 0 < vs.length; omega), hG.move (U' := T.setVm vm₁) rfl hal1, hEN.carry (U' := T.setVm vm₁) hal1 (fun r cv hr => ⟨cv, hr, rfl, rfl⟩), Nat.le_of_eq hcap, by show newCap vs.length * 4 ≤ _; rw [hcap]; decide⟩
    obtain ⟨rv, vm₁, ⟨T', L', c', n'⟩, hW₁, X', hpost, come⟩ := X.interfaceBack hx (own := own) (C := AL) (index := index) (count := count) (xi := lAddX) (y := AddRoom.addN) hown (n1 (.methodLink own index lAddX) (by simp [addIW])) (n1 (.declares lAddX) (by simp [addIW]))
      (n1 (.interfaceMethod "java/util/List" "java/util/List" "add" "(Ljava/lang/Object;)Z") (by simp [addIW])) (n1 (.selects AL lAddX AddRoom.addN) (by simp [addIW])) (n1 (.instanceMethod AddRoom.addN) (by simp [addIW])) (n1 (.publicMethod AddRoom.addN) (by simp [addIW])) (n1 (.unhidden AL "add" "(Ljava/lang/Object;)Z") (by simp [addIW])) (n1 (.castable AL "java/util/List") (by simp [addIW])) (by decide)
      (AddF.pays (S0 := AddGen.S0 15) (.ref r) W (AddGen.gets l 15 (⟨x, C, ea, E, vs.length, mc⟩ : G) z (.ref r)) (Grow0.tab_rides tabG_rides) AddGen.Ps.move (n2 _ (by simp [addW3])) (by show 4 + 1 + 2 + 1 ≤ R.frames; omega) (by show W + (2 + 11) + (80 + 20 + 60) ≤ R.locals; omega)) hcB hkB (alIsOf hA) (g := mkF m pc Ls (.ref r :: .ref xa :: S)) rfl hsize (Steps.refl _) (argsL := [.ref r]) (rest := S)
      (fun sig hs => by rw [show parseMethodDescriptor lAddX.desc = some ⟨[.object "java/lang/Object"], some .boolean⟩ from by decide +kernel] at hs; rw [← Option.some.inj hs]; rfl) (by rw [e1]; rfl) hW' hd hpre
    obtain ⟨C', ea', E', L, hr, hAl, hvC, hzC, hvE, hs1, hs2, hea, hkk, hst, hcc, hss, hL, hLL⟩ := Added.of_full (hpre vm₁ hW₁) hpost
    dsimp only [Pt.U, Pt.locs, Pt.cells, Pt.slots] at X' hr hAl hvC hzC hvE hs1 hs2 hea hkk hst hcc hss hL come
    subst hr hL
    have hal' : Z.vm.Alike T'.vm := hZ.alike.trans X'.warmed.alike
    have hcs : own_cap (k + 1) = 15 := by rw [k10]; rfl
    obtain ⟨g1, ea2, g2, g3, g4, g5⟩ := own_added (locs := locs) (sz' := own_cap (k + 1)) (n := 0) hal hal' e1 hO hvs hlt hEN hA hsz hEl hLL hAl hzC hs1 hs2 h0 (by
      rcases hea with ⟨q1, q2, -⟩ | ⟨q1, q2, q3, q4, -⟩
      · exfalso
        have q3 := (Array.getElem?_eq_some_iff.mp hs1).1
        have q2' : E'.slots.size = E.slots.size := q2
        have q3' : vs.length < E'.slots.size := q3
        omega
      · exact Or.inr ⟨q1, by rw [hcs, ← hcap]; exact q2, q3, q4⟩) hkk hst
    exact own_go (fun t k => come.trans k) (K T' _ _ ea' ea2 (X'.more hcc (by have : newCap vs.length = 15 := hcap; omega)) rfl g1 g2 g3 g4 g5)
  · rw [if_neg k10] at hl K
    have hr : Ready (⟨x, C, ea, E, vs.length, mc⟩ : G) T := by
      by_cases k0 : k = 0
      · exact Or.inr ⟨by show E.slots.size = 0; rw [hsz, k0]; rfl, hDf (by rw [k0]; rfl)⟩
      · refine Or.inl (show vs.length < E.slots.size from ?_)
        rw [hsz, hvk]; unfold own_cap; split <;> (try split) <;> omega
    obtain ⟨T', L, C', ea', E', X', hLL, hAl, hvC, hzC, hvE, hs1, hs2, hea, hkk, hst, come⟩ := X.alAddI hx hown n1 (fun w q => n2 w (List.mem_append.mpr (Or.inl q))) hA hr hEl (W := W) (g := mkF m pc Ls (.ref r :: .ref xa :: S)) rfl hsize (Steps.refl _) (rest := S) (by rw [e1]) hW' hd (by omega) (by omega) hc hl
    have hal' : Z.vm.Alike T'.vm := hZ.alike.trans X'.warmed.alike
    have q3 := (Array.getElem?_eq_some_iff.mp hs1).1
    obtain ⟨g1, ea2, g2, g3, g4, g5⟩ := own_added (locs := locs) (sz' := own_cap (k + 1)) (n := 0) hal hal' e1 hO hvs hlt hEN hA hsz hEl hLL hAl hzC hs1 hs2 h0 (by
      rcases hea with ⟨q1, q2, -⟩ | ⟨q1, q2, q3, q4, -⟩
      · refine Or.inl ⟨q1, q2, ?_, ?_⟩
        · exact own_cap_step (fun z => by rw [z] at hsz; have : E.slots.size = 0 := hsz; omega) k10
        · rw [← hsz]; omega
      · refine Or.inr ⟨q1, ?_, q3, q4⟩
        have : vs.length < 10 := by omega
        rw [q2, show own_cap (k + 1) = 10 from by unfold own_cap; rw [if_neg (by omega), if_pos (by omega)]]) hkk hst
    exact own_go (fun t k => come.trans k) (K T' _ _ ea' ea2 X' rfl g1 g2 g3 g4 g5)
theorem own_alSize (X : Stand p l e R s m args below meth c T locs cells slots) (hx : p.tables.exec = Jvm.exec) (hZ : Z.Warmed39 s.vm) (hw : ∀ d ∈ tables_1, d.before a0 Z = true) {own : String} {index count : Nat} (hown : s.vm.findClass own = some m.cls) (w1 : (Cond.methodLink own index lSizeX).before a0 Z = true) (eT : T.heap = h) {xa ea : Addr} {vs : List Value} (L0 : own_Lsf Z h xa ea vs)
    (hd : decode c.code pc = .ok (.invokeinterface index count, 5)) (hp : pc + 5 = pc') (hsize : Ls.size = c.maxLocals) {W : Nat} (hW : (S.map fun v => v.category).sum ≤ W) (hfr : 2 ≤ R.frames) (hlo : W + 52 ≤ R.locals) (hc : cells ≤ R.cells) (hl : slots ≤ R.slots)
    (K : ∀ T', Stand p l e R s m args below meth c T' locs cells slots → T'.heap = h → own_W p e below P T' m pc' Ls (.int (Int32.ofNat vs.length) :: S)) : own_W p e below P T m pc Ls (.ref xa :: S) := by
  subst hp eT
  have hN := own_lift (as := args) own_sgL hZ hw own_sgAt own_sgOn
  obtain ⟨x, C, E, mc, e1, hA, hvs⟩ := L0.at (hZ.alike.trans X.warmed.alike) rfl
  obtain ⟨T', X', hh, -, -, come⟩ := X.alSizeI hx hown (show ∀ w ∈ Cond.methodLink own index lSizeX :: rest1 (sizeIW "" 0), w.before args s = true from of_cons (mvT hZ w1) (fun w q => hN w (List.mem_append_left _ (List.mem_append_left _ q)))) (hN _ (List.mem_append_right _ (by simp))) (hN _ (List.mem_append_right _ (by simp))) hA (W := W) (g := mkF m pc Ls (.ref xa :: S)) rfl hsize (Steps.refl _) (rest := S) (by rw [e1]) (by show 2 * 0 + _ ≤ W; omega) hd hfr (by show W + (1 + 11) + 40 ≤ R.locals; omega) hc hl
  exact own_go (fun t k => come.trans k) (K T' X' hh)
theorem own_alGet (X : Stand p l e R s m args below meth c T locs cells slots) (hx : p.tables.exec = Jvm.exec) (hZ : Z.Warmed39 s.vm) (hw : ∀ d ∈ tables_1, d.before a0 Z = true) {own : String} {index count : Nat} (hown : s.vm.findClass own = some m.cls) (w1 : (Cond.methodLink own index lGetX).before a0 Z = true) (eT : T.heap = h) {xa ea r : Addr} {vs : List Value} (L0 : own_Lsf Z h xa ea vs) (i : Nat) (hv : vs[i]? = some (.ref r))
    (hd : decode c.code pc = .ok (.invokeinterface index count, 5)) (hp : pc + 5 = pc') (hsize : Ls.size = c.maxLocals) {W : Nat} (hW : (S.map fun v => v.category).sum ≤ W) (hfr : (Get.spec AL).room.frames + 1 ≤ R.frames) (hlo : W + (2 + 11) + (Get.spec AL).room.locals ≤ R.locals) (hc : cells ≤ R.cells) (hl : slots ≤ R.slots)
    (K : ∀ T', Stand p l e R s m args below meth c T' locs cells slots → T'.heap = h → own_W p e below P T' m pc' Ls (.ref r :: S)) : own_W p e below P T m pc Ls (.int (Int32.ofNat i) :: .ref xa :: S) := by
  subst hp eT
  have hN := own_lift (as := args) own_sgL hZ hw own_sgAt own_sgOn
  obtain ⟨x, C, E, mc, e1, hA, hvs⟩ := L0.at (hZ.alike.trans X.warmed.alike) rfl
  obtain ⟨T', X', hh, -, -, come⟩ := X.alGetI hx hown (show ∀ w ∈ Cond.methodLink own index lGetX :: rest1 (getIW "" 0), w.before args s = true from of_cons (mvT hZ w1) (fun w q => hN w (List.mem_append_left _ (List.mem_append_right _ q)))) (hN _ (List.mem_append_right _ (by simp))) (hN _ (List.mem_append_right _ (by simp))) hA (List.getElem?_eq_some_iff.mp hv).1 (hvs i _ hv) rfl (W := W) (g := mkF m pc Ls (.int (Int32.ofNat i) :: .ref xa :: S)) rfl hsize (Steps.refl _) (rest := S) (by rw [e1]) (by show 2 * 0 + _ ≤ W; omega) hd hfr hlo hc hl
  exact own_go (fun t k => come.trans k) (K T' X' hh)
theorem own_castI (X : Stand p l e R s m args below meth c T locs cells slots) (hx : p.tables.exec = Jvm.exec) (hZ : Z.Warmed39 s.vm) {own C : String} {index : Nat} (hown : s.vm.findClass own = some m.cls) (w : (Cond.classLink own index C).before a0 Z = true) (eT : T.heap = h) {a : Addr} (E : own_Is Z h a C) (hd : decode c.code pc = .ok (.checkcast index, 3)) (hp : pc + 3 = pc')
    (K : ∀ T', Stand p l e R s m args below meth c T' locs cells slots → T'.heap = h → own_W p e below P T' m pc' Ls (.ref a :: S)) : own_W p e below P T m pc Ls (.ref a :: S) := by
  subst hp
  obtain ⟨T', X', e', st⟩ := castY X hx hZ hown w eT E.ins (g := mkF m pc Ls (.ref a :: S)) rfl rfl hd
  exact own_go st (K T' X' e')
theorem own_isOf {a : Addr} {C : String} (hZ : Z.Warmed39 s.vm) (eT : T.heap = h) (E : own_Is Z h a C) : ∃ cB, s.vm.findClass C = some cB ∧ IsOf cB T a := by
  obtain ⟨cell, h1, h2, h4⟩ := E
  exact ⟨cell.cls, by rw [hZ.alike.findClass]; exact h2, cell, by rw [eT]; exact h1, rfl, h4⟩
theorem own_callVI (X : Stand p l e R s m args below meth c T locs cells slots) (hx : p.tables.exec = Jvm.exec) (hZ : Z.Warmed39 s.vm) {own C : String} {index : Nat} {y : MethodName} {bytes : ByteArray} {maxL : Nat} {ret : Option FieldType} {rm : Room} {Qc : Option Value → Heap → List Loc → Prop} {as' : Array Value} {S' : List Value} (a : Addr) (argsL : List Value)
    (hown : s.vm.findClass own = some m.cls) (w1 : (Cond.methodLink own index y).before a0 Z = true) (w2 : (Cond.declares y).before a0 Z = true) (w5 : (Cond.selects C y y).before a0 Z = true) (w6 : (Cond.instanceMethod y).before a0 Z = true) (w3 : (Cond.initialized y.cls).before a0 Z = true) (w4 : (Cond.code y bytes maxL ret).before a0 Z = true) (hy : y.cls ≠ "java/lang/invoke/MethodHandle" ∧ y.cls ≠ "java/lang/invoke/VarHandle")
    (hM : MetFree l y (head1 [Cond.code y bytes maxL ret] rm) (fun a U => a = as' ∧ Z.Warmed39 U.vm ∧ U.heap = h) (fun _ _ _ _ _ => True) (fun _ U o U' => ∃ v L, o = .returned v ∧ Qc v U'.heap L ∧ FrameEnd U o U' L rm.cells rm.slots))
    (E : own_Is Z h a C) (eT : T.heap = h) {W cells' slots' : Nat} (hf : rm.frames + 1 ≤ R.frames) (hl : W + (maxL + 11) + rm.locals ≤ R.locals) (hc' : cells + rm.cells = cells') (hs' : slots + rm.slots = slots') (hc : cells' ≤ R.cells) (hs : slots' ≤ R.slots) (hsize : Ls.size = c.maxLocals) (hlen : ∀ sig, parseMethodDescriptor y.desc = some sig → argsL.length = sig.parameters.length) (has : (.ref a :: argsL).toArray = as') (hstk : S' = argsL.reverse ++ .ref a :: S) (hW : 2 * 0 + (S.map fun v => v.category).sum ≤ W) (hd : decode c.code pc = .ok (.invokevirtual index, 3)) (hp : pc + 3 = pc')
    (K : ∀ v T' h' L lc, Stand p l e R s m args below meth c T' lc cells' slots' → T'.heap = h' → Qc v h' L → (∀ n0, Fr n0 locs → Fr n0 L → Fr n0 lc) → own_W p e below P T' m pc' Ls (v.toList ++ S)) : own_W p e below P T m pc Ls S' := by
  subst hp hc' hs'
  obtain ⟨cq, qa, qc⟩ := own_isOf hZ eT E
  obtain ⟨v, vm₁, ⟨T1, L1, k1, n1⟩, -, X1, ⟨Lc1, hQ1, l1, y1, z1⟩, st1⟩ := X.virtualBack hx hown (mvT hZ w1) (mvT hZ w2) (notFace_of_selects (args := #[]) (mvT hZ w5)) (mvT hZ w5) (mvT hZ w6) hy (backOf hM hZ w4 w3 hf hl) qa qc (g := mkF m pc Ls S') rfl hsize (Steps.refl _) (argsL := argsL) (rest := S) hlen hstk hW hd (fun _ _ => ⟨has, eT, hc, hs⟩)
  dsimp only [Pt.U, Pt.locs, Pt.cells, Pt.slots] at X1 l1 y1 z1 st1 hQ1
  subst l1 y1 z1
  exact own_go (fun t k => st1.trans k) (K v T1 _ Lc1 _ X1 rfl hQ1 fun _ a b => Fr.app a b)
/-- a library's contract in my contracts' shape -/
theorem own_metOf {y : MethodName} {Sp : Spec} {P0 : Array Value → State → Prop} {Q0 : Array Value → State → Outcome → State → Prop} {b : ByteArray} {ml : Nat} {rt : Option FieldType} {rm : Room} {as : Array Value} {Q : Option Value → Heap → List Loc → Prop} (hM : MetFree l y Sp P0 (fun _ _ _ _ _ => True) Q0) (hroom : Sp.room = rm) (hpre : ∀ U : State, Z.Warmed39 U.vm → U.heap = h → Sp.pre.before as U = true ∧ P0 as U)
    (hq : ∀ (U : State) (o : Outcome) (U' : State), Z.Warmed39 U.vm → U.heap = h → Q0 as U o U' → ∃ v L, o = .returned v ∧ Q v U'.heap L ∧ FrameEnd U o U' L rm.cells rm.slots) : own_Met l Z y b ml rt [] rm as h Q := by
  intro p e ha hc hk s m args below hf happ hP hK
  obtain ⟨rfl, hZ, hh⟩ := hP
  obtain ⟨g1, g2, g3, g4, g5, g6, g7, -⟩ := (Spec.appliesLoose_iff hf).mp happ
  obtain ⟨pr, pP⟩ := hpre s hZ hh
  obtain ⟨n, o, r1, r2, r3, r4⟩ := hM p e ha hc hk s m _ below hf ((Spec.appliesLoose_iff hf).mpr ⟨g1, g2, g3, g4, g5, g6, by rw [hroom]; exact g7, pr⟩) pP trivial
  exact ⟨n, o, r1, r2, r3, hq _ _ _ hZ hh r4⟩
section OwnBox
open Jvm.Free.LongBox
theorem own_vp {q : Int64} {cL : ClassId} {fV : Field} {g : ValueOf.G} {U : State} (H : ValueOf.P q cL fV g #[.long q] Z) (hal : Z.vm.Alike U.vm) (E : Ext Z.heap U.heap) : ValueOf.P q cL fV g #[.long q] U := by
  obtain ⟨h1, h2, ⟨k3, i3, h3⟩, h4, ⟨c7, k7, i7, h7, h7a, h7b⟩, h8, h9, h10, h12, h13, h14, h15, h16⟩ := H
  obtain ⟨k3', h3', -⟩ := State.fieldFound?_setVm (vm' := U.vm) hal h3
  obtain ⟨k7', h7', e7⟩ := State.fieldFound?_setVm (vm' := U.vm) hal h7
  refine ⟨h1, by rw [hal.findClass]; exact h2, ⟨k3', i3, h3'⟩, h4, ⟨c7, k7', i7, h7', by rw [e7]; exact h7a, by rw [e7]; exact h7b⟩, h8, E.2 _ _ h9, h10, h12, E.2 _ _ h13, h14, State.isArrayOf_alike hal h15, fun w w1 w2 => ?_⟩
  obtain ⟨box, cellB, q1, q2, q3, q4⟩ := h16 w w1 w2
  exact ⟨box, cellB, q1, q2, E.2 _ _ q3, q4⟩
theorem own_voAt : (atomsOf [ValueOf.tab]).all (fun w => tables_1.contains w) = true := by decide +kernel
theorem own_voOn : (atomsOf [ValueOf.tab]).all own_mvB = true := by decide +kernel
/-- what is known of Long's cache at the start -/
def own_VZ (Z : State) : Prop := ∃ (cL : ClassId) (fV : Field), ∀ q : Int64, ∃ g : ValueOf.G, ValueOf.P q cL fV g #[.long q] Z
def Q_vo (Z : State) (q : Int64) (h0 : Heap) (n0 : Nat) (v : Option Value) (h : Heap) (L : List Loc) : Prop := ∃ r : Addr, v = some (.ref r) ∧ Fr n0 L ∧ own_Is Z h r "java/lang/Long" ∧ Fld Z h r "java/lang/Long" "value" "J" (.long q) ∧ Ext h0 h
theorem rm_vo (l : Launch) (Z : State) (a0 : Array Value) (hw : ∀ d ∈ tables_1, d.before a0 Z = true) {b : ByteArray} {ml : Nat} {rt : Option FieldType} (VZ : own_VZ Z) (q : Int64) (h0 : Heap) (n0 : Nat) (EZ : Ext Z.heap h0) : own_Met l Z ⟨"java/lang/Long", "valueOf", "(J)Ljava/lang/Long;"⟩ b ml rt [] ⟨3, 1, 1, 80⟩ #[.long q] h0 (Q_vo Z q h0 n0) := by
  obtain ⟨cL, fV, hP⟩ := VZ
  obtain ⟨g, hP⟩ := hP q
  refine own_metOf (Sp := ValueOf.spec) (ValueOf.gets l q cL fV g) rfl (fun U hZ hh => ⟨?_, own_vp hP hZ.alike (by rw [hh]; exact EZ)⟩) ?_
  · simp only [ValueOf.spec, Cond.before_and, Bool.and_eq_true]
    exact ⟨rfl, own_lift [ValueOf.tab] hZ hw own_voAt own_voOn _ (List.mem_singleton.mpr rfl)⟩
  · rintro U o U' hZ hh ⟨r, cell, ho, hx, hcls, hkn, hns, hsl, hkept, hF, -, -⟩
    obtain ⟨-, p2, ⟨k, i, p3⟩, p4, -⟩ := hP
    refine ⟨_, [], ho, ⟨r, rfl, Fr.nil n0, ⟨cell, hx, by rw [hcls]; exact p2, hns⟩, ⟨cell, cL, k, i, fV, hx, p3, p4, hkn, hns, by rw [hcls]; exact Vm.assignable_self .., hsl⟩, ?_⟩, hF⟩
    rw [← hh]
    exact ⟨own_size_le fun y cy z => ⟨cy, hkept y cy z⟩, hkept⟩
end OwnBox
end OwnKit11
def own_s (q : Int64) : Nat → Int64
  | 0 => (q + 256 - 1) / 256
  | k + 1 => (own_s q k + 16 - 1) / 16
def own_sum (q : Int64) : Nat → Int64
  | 0 => 0
  | k + 1 => own_sum q k + own_s q k
/-- the tree has k levels -/
def own_Lv (q : Int64) (k : Nat) : Prop := (k = 0 ∧ ¬ (0 < q)) ∨ ∃ j, k = j + 1 ∧ 0 < q ∧ (∀ i, i < j → 1 < own_s q i) ∧ ¬ (1 < own_s q j)
def own_cp (q : Int64) (e : Int32) : Int64 := if e < 63 then (if q &&& (((1 : Int64) <<< (e.toInt64 &&& 63)) - 1) = 0 then XT.ushrL q e + (0 : Int32).toInt64 else XT.ushrL q e + (1 : Int32).toInt64) else if 0 < q then 1 else 0
def own_lv (q : Int64) (k : Int32) : Int64 := if k = 0 then (if 0 < q then own_cp q (8 + 4 * k) else 0) else (if ((1 : Int64) <<< ((4 + 4 * k).toInt64 &&& 63)) < q then own_cp q (8 + 4 * k) else 0)
def own_nodes (q : Int64) : Int64 := own_lv q 0 + own_lv q 1 + own_lv q 2 + own_lv q 3 + own_lv q 4 + own_lv q 5 + own_lv q 6 + own_lv q 7 + own_lv q 8 + own_lv q 9 + own_lv q 10 + own_lv q 11 + own_lv q 12 + own_lv q 13 + own_lv q 14
theorem own_divc {x : Int64} (hx : 0 ≤ x.toInt) (hb : x.toInt < 9223372036854775000) {c : Int64} {n : Int} (hc : c.toInt = n) (hn : 0 < n) (hn2 : n ≤ 256) : ((x + c - 1) / c).toInt = (x.toInt + (n - 1)) / n := by
  have e1 : (x + c).toInt = x.toInt + n := by rw [Jvm.Kit.i64_add (by omega) (by omega), hc]
  have e0 : (1 : Int64).toInt = 1 := by decide
  have e2 : (x + c - 1).toInt = x.toInt + (n - 1) := by rw [Jvm.Kit.i64_sub (by omega) (by omega), e1, e0]; omega
  rw [Jvm.Kit.i64_div (by omega), e2, hc, Int.tdiv_eq_ediv_of_nonneg (by omega)]
theorem own_c0 {q : Int64} (hq : 0 ≤ q.toInt ∧ q.toInt < 4611686018427387904) : (own_s q 0).toInt = (q.toInt + 255) / 256 := by
  have := own_divc (c := 256) (n := 256) hq.1 (by omega) (by decide) (by decide) (by decide)
  exact this
theorem own_c1 {q : Int64} (hq : 0 ≤ q.toInt ∧ q.toInt < 4611686018427387904) : (own_s q 1).toInt = (q.toInt + 4095) / 4096 := by
  have e := own_c0 hq
  have h := own_divc (x := own_s q 0) (c := 16) (n := 16) (by omega) (by omega) (by decide) (by decide) (by decide)
  have h' : (own_s q 1).toInt = ((own_s q 0).toInt + (16 - 1)) / 16 := h
  rw [h', e]; omega
theorem own_c2 {q : Int64} (hq : 0 ≤ q.toInt ∧ q.toInt < 4611686018427387904) : (own_s q 2).toInt = (q.toInt + 65535) / 65536 := by
  have e := own_c1 hq
  have h := own_divc (x := own_s q 1) (c := 16) (n := 16) (by omega) (by omega) (by decide) (by decide) (by decide)
  have h' : (own_s q 2).toInt = ((own_s q 1).toInt + (16 - 1)) / 16 := h
  rw [h', e]; omega
theorem own_c3 {q : Int64} (hq : 0 ≤ q.toInt ∧ q.toInt < 4611686018427387904) : (own_s q 3).toInt = (q.toInt + 1048575) / 1048576 := by
  have e := own_c2 hq
  have h := own_divc (x := own_s q 2) (c := 16) (n := 16) (by omega) (by omega) (by decide) (by decide) (by decide)
  have h' : (own_s q 3).toInt = ((own_s q 2).toInt + (16 - 1)) / 16 := h
  rw [h', e]; omega
theorem own_c4 {q : Int64} (hq : 0 ≤ q.toInt ∧ q.toInt < 4611686018427387904) : (own_s q 4).toInt = (q.toInt + 16777215) / 16777216 := by
  have e := own_c3 hq
  have h := own_divc (x := own_s q 3) (c := 16) (n := 16) (by omega) (by omega) (by decide) (by decide) (by decide)
  have h' : (own_s q 4).toInt = ((own_s q 3).toInt + (16 - 1)) / 16 := h
  rw [h', e]; omega
theorem own_c5 {q : Int64} (hq : 0 ≤ q.toInt ∧ q.toInt < 4611686018427387904) : (own_s q 5).toInt = (q.toInt + 268435455) / 268435456 := by
  have e := own_c4 hq
  have h := own_divc (x := own_s q 4) (c := 16) (n := 16) (by omega) (by omega) (by decide) (by decide) (by decide)
  have h' : (own_s q 5).toInt = ((own_s q 4).toInt + (16 - 1)) / 16 := h
  rw [h', e]; omega
theorem own_c6 {q : Int64} (hq : 0 ≤ q.toInt ∧ q.toInt < 4611686018427387904) : (own_s q 6).toInt = (q.toInt + 4294967295) / 4294967296 := by
  have e := own_c5 hq
  have h := own_divc (x := own_s q 5) (c := 16) (n := 16) (by omega) (by omega) (by decide) (by decide) (by decide)
  have h' : (own_s q 6).toInt = ((own_s q 5).toInt + (16 - 1)) / 16 := h
  rw [h', e]; omega
theorem own_c7 {q : Int64} (hq : 0 ≤ q.toInt ∧ q.toInt < 4611686018427387904) : (own_s q 7).toInt = (q.toInt + 68719476735) / 68719476736 := by
  have e := own_c6 hq
  have h := own_divc (x := own_s q 6) (c := 16) (n := 16) (by omega) (by omega) (by decide) (by decide) (by decide)
  have h' : (own_s q 7).toInt = ((own_s q 6).toInt + (16 - 1)) / 16 := h
  rw [h', e]; omega
theorem own_c8 {q : Int64} (hq : 0 ≤ q.toInt ∧ q.toInt < 4611686018427387904) : (own_s q 8).toInt = (q.toInt + 1099511627775) / 1099511627776 := by
  have e := own_c7 hq
  have h := own_divc (x := own_s q 7) (c := 16) (n := 16) (by omega) (by omega) (by decide) (by decide) (by decide)
  have h' : (own_s q 8).toInt = ((own_s q 7).toInt + (16 - 1)) / 16 := h
  rw [h', e]; omega
theorem own_c9 {q : Int64} (hq : 0 ≤ q.toInt ∧ q.toInt < 4611686018427387904) : (own_s q 9).toInt = (q.toInt + 17592186044415) / 17592186044416 := by
  have e := own_c8 hq
  have h := own_divc (x := own_s q 8) (c := 16) (n := 16) (by omega) (by omega) (by decide) (by decide) (by decide)
  have h' : (own_s q 9).toInt = ((own_s q 8).toInt + (16 - 1)) / 16 := h
  rw [h', e]; omega
theorem own_c10 {q : Int64} (hq : 0 ≤ q.toInt ∧ q.toInt < 4611686018427387904) : (own_s q 10).toInt = (q.toInt + 281474976710655) / 281474976710656 := by
  have e := own_c9 hq
  have h := own_divc (x := own_s q 9) (c := 16) (n := 16) (by omega) (by omega) (by decide) (by decide) (by decide)
  have h' : (own_s q 10).toInt = ((own_s q 9).toInt + (16 - 1)) / 16 := h
  rw [h', e]; omega
theorem own_c11 {q : Int64} (hq : 0 ≤ q.toInt ∧ q.toInt < 4611686018427387904) : (own_s q 11).toInt = (q.toInt + 4503599627370495) / 4503599627370496 := by
  have e := own_c10 hq
  have h := own_divc (x := own_s q 10) (c := 16) (n := 16) (by omega) (by omega) (by decide) (by decide) (by decide)
  have h' : (own_s q 11).toInt = ((own_s q 10).toInt + (16 - 1)) / 16 := h
  rw [h', e]; omega
theorem own_c12 {q : Int64} (hq : 0 ≤ q.toInt ∧ q.toInt < 4611686018427387904) : (own_s q 12).toInt = (q.toInt + 72057594037927935) / 72057594037927936 := by
  have e := own_c11 hq
  have h := own_divc (x := own_s q 11) (c := 16) (n := 16) (by omega) (by omega) (by decide) (by decide) (by decide)
  have h' : (own_s q 12).toInt = ((own_s q 11).toInt + (16 - 1)) / 16 := h
  rw [h', e]; omega
theorem own_c13 {q : Int64} (hq : 0 ≤ q.toInt ∧ q.toInt < 4611686018427387904) : (own_s q 13).toInt = (q.toInt + 1152921504606846975) / 1152921504606846976 := by
  have e := own_c12 hq
  have h := own_divc (x := own_s q 12) (c := 16) (n := 16) (by omega) (by omega) (by decide) (by decide) (by decide)
  have h' : (own_s q 13).toInt = ((own_s q 12).toInt + (16 - 1)) / 16 := h
  rw [h', e]; omega
theorem own_c14 {q : Int64} (hq : 0 ≤ q.toInt ∧ q.toInt < 4611686018427387904) : (own_s q 14).toInt = (q.toInt + 18446744073709551615) / 18446744073709551616 := by
  have e := own_c13 hq
  have h := own_divc (x := own_s q 13) (c := 16) (n := 16) (by omega) (by omega) (by decide) (by decide) (by decide)
  have h' : (own_s q 14).toInt = ((own_s q 13).toInt + (16 - 1)) / 16 := h
  rw [h', e]; omega
theorem own_s14 {q : Int64} (hq : 0 ≤ q.toInt ∧ q.toInt < 4611686018427387904) : ¬ (1 < own_s q 14) := by
  have e := own_c14 hq
  rw [Int64.lt_iff_toInt_lt, e, show (1 : Int64).toInt = 1 from by decide]; omega
theorem own_cp0 {q : Int64} (hq : 0 ≤ q.toInt ∧ q.toInt < 4611686018427387904) : own_cp q (8 + 4 * 0) = own_s q 0 := by
  have e0 := own_c0 hq
  have e1 : (XT.ushrL q (8 + 4 * 0)).toInt = q.toInt / 2 ^ 8 := Jvm.Kit.i64_lushr (Jvm.Kit.i64_nonneg.mpr hq.1) (n := ((8 + 4 * 0 : Int32).toInt64.toUInt64 &&& Int64.toUInt64 63)) (k := 8) (by decide) (by decide)
  have e2 : (q &&& (((1 : Int64) <<< ((8 + 4 * 0 : Int32).toInt64 &&& 63)) - 1)).toInt = q.toInt % (2 ^ 8 : Nat) := c_maskL q _ 8 (by decide) (by decide +kernel)
  have e3 : ((2 ^ 8 : Nat) : Int) = 256 := by decide +kernel
  rw [e3] at e2
  have z0 : (0 : Int32).toInt64.toInt = 0 := by decide
  have z1 : (1 : Int32).toInt64.toInt = 1 := by decide
  have y0 : (0 : Int64).toInt = 0 := by decide
  unfold own_cp
  rw [if_pos (by decide)]
  apply Int64.toInt_inj.mp
  split
  · next hz =>
    have e4 : q.toInt % 256 = 0 := by rw [← e2, hz]; exact y0
    rw [Jvm.Kit.i64_add (by rw [e1, z0]; omega) (by rw [e1, z0]; omega), e1, z0, e0]; omega
  · next hz =>
    have e4 : ¬ q.toInt % 256 = 0 := fun z => hz (Int64.toInt_inj.mp (by rw [e2, y0]; exact z))
    rw [Jvm.Kit.i64_add (by rw [e1, z1]; omega) (by rw [e1, z1]; omega), e1, z1, e0]; omega
theorem own_cp1 {q : Int64} (hq : 0 ≤ q.toInt ∧ q.toInt < 4611686018427387904) : own_cp q (8 + 4 * 1) = own_s q 1 := by
  have e0 := own_c1 hq
  have e1 : (XT.ushrL q (8 + 4 * 1)).toInt = q.toInt / 2 ^ 12 := Jvm.Kit.i64_lushr (Jvm.Kit.i64_nonneg.mpr hq.1) (n := ((8 + 4 * 1 : Int32).toInt64.toUInt64 &&& Int64.toUInt64 63)) (k := 12) (by decide) (by decide)
  have e2 : (q &&& (((1 : Int64) <<< ((8 + 4 * 1 : Int32).toInt64 &&& 63)) - 1)).toInt = q.toInt % (2 ^ 12 : Nat) := c_maskL q _ 12 (by decide) (by decide +kernel)
  have e3 : ((2 ^ 12 : Nat) : Int) = 4096 := by decide +kernel
  rw [e3] at e2
  have z0 : (0 : Int32).toInt64.toInt = 0 := by decide
  have z1 : (1 : Int32).toInt64.toInt = 1 := by decide
  have y0 : (0 : Int64).toInt = 0 := by decide
  unfold own_cp
  rw [if_pos (by decide)]
  apply Int64.toInt_inj.mp
  split
  · next hz =>
    have e4 : q.toInt % 4096 = 0 := by rw [← e2, hz]; exact y0
    rw [Jvm.Kit.i64_add (by rw [e1, z0]; omega) (by rw [e1, z0]; omega), e1, z0, e0]; omega
  · next hz =>
    have e4 : ¬ q.toInt % 4096 = 0 := fun z => hz (Int64.toInt_inj.mp (by rw [e2, y0]; exact z))
    rw [Jvm.Kit.i64_add (by rw [e1, z1]; omega) (by rw [e1, z1]; omega), e1, z1, e0]; omega
theorem own_cp2 {q : Int64} (hq : 0 ≤ q.toInt ∧ q.toInt < 4611686018427387904) : own_cp q (8 + 4 * 2) = own_s q 2 := by
  have e0 := own_c2 hq
  have e1 : (XT.ushrL q (8 + 4 * 2)).toInt = q.toInt / 2 ^ 16 := Jvm.Kit.i64_lushr (Jvm.Kit.i64_nonneg.mpr hq.1) (n := ((8 + 4 * 2 : Int32).toInt64.toUInt64 &&& Int64.toUInt64 63)) (k := 16) (by decide) (by decide)
  have e2 : (q &&& (((1 : Int64) <<< ((8 + 4 * 2 : Int32).toInt64 &&& 63)) - 1)).toInt = q.toInt % (2 ^ 16 : Nat) := c_maskL q _ 16 (by decide) (by decide +kernel)
  have e3 : ((2 ^ 16 : Nat) : Int) = 65536 := by decide +kernel
  rw [e3] at e2
  have z0 : (0 : Int32).toInt64.toInt = 0 := by decide
  have z1 : (1 : Int32).toInt64.toInt = 1 := by decide
  have y0 : (0 : Int64).toInt = 0 := by decide
  unfold own_cp
  rw [if_pos (by decide)]
  apply Int64.toInt_inj.mp
  split
  · next hz =>
    have e4 : q.toInt % 65536 = 0 := by rw [← e2, hz]; exact y0
    rw [Jvm.Kit.i64_add (by rw [e1, z0]; omega) (by rw [e1, z0]; omega), e1, z0, e0]; omega
  · next hz =>
    have e4 : ¬ q.toInt % 65536 = 0 := fun z => hz (Int64.toInt_inj.mp (by rw [e2, y0]; exact z))
    rw [Jvm.Kit.i64_add (by rw [e1, z1]; omega) (by rw [e1, z1]; omega), e1, z1, e0]; omega
theorem own_cp3 {q : Int64} (hq : 0 ≤ q.toInt ∧ q.toInt < 4611686018427387904) : own_cp q (8 + 4 * 3) = own_s q 3 := by
  have e0 := own_c3 hq
  have e1 : (XT.ushrL q (8 + 4 * 3)).toInt = q.toInt / 2 ^ 20 := Jvm.Kit.i64_lushr (Jvm.Kit.i64_nonneg.mpr hq.1) (n := ((8 + 4 * 3 : Int32).toInt64.toUInt64 &&& Int64.toUInt64 63)) (k := 20) (by decide) (by decide)
  have e2 : (q &&& (((1 : Int64) <<< ((8 + 4 * 3 : Int32).toInt64 &&& 63)) - 1)).toInt = q.toInt % (2 ^ 20 : Nat) := c_maskL q _ 20 (by decide) (by decide +kernel)
  have e3 : ((2 ^ 20 : Nat) : Int) = 1048576 := by decide +kernel
  rw [e3] at e2
  have z0 : (0 : Int32).toInt64.toInt = 0 := by decide
  have z1 : (1 : Int32).toInt64.toInt = 1 := by decide
  have y0 : (0 : Int64).toInt = 0 := by decide
  unfold own_cp
  rw [if_pos (by decide)]
  apply Int64.toInt_inj.mp
  split
  · next hz =>
    have e4 : q.toInt % 1048576 = 0 := by rw [← e2, hz]; exact y0
    rw [Jvm.Kit.i64_add (by rw [e1, z0]; omega) (by rw [e1, z0]; omega), e1, z0, e0]; omega
  · next hz =>
    have e4 : ¬ q.toInt % 1048576 = 0 := fun z => hz (Int64.toInt_inj.mp (by rw [e2, y0]; exact z))
    rw [Jvm.Kit.i64_add (by rw [e1, z1]; omega) (by rw [e1, z1]; omega), e1, z1, e0]; omega
theorem own_cp4 {q : Int64} (hq : 0 ≤ q.toInt ∧ q.toInt < 4611686018427387904) : own_cp q (8 + 4 * 4) = own_s q 4 := by
  have e0 := own_c4 hq
  have e1 : (XT.ushrL q (8 + 4 * 4)).toInt = q.toInt / 2 ^ 24 := Jvm.Kit.i64_lushr (Jvm.Kit.i64_nonneg.mpr hq.1) (n := ((8 + 4 * 4 : Int32).toInt64.toUInt64 &&& Int64.toUInt64 63)) (k := 24) (by decide) (by decide)
  have e2 : (q &&& (((1 : Int64) <<< ((8 + 4 * 4 : Int32).toInt64 &&& 63)) - 1)).toInt = q.toInt % (2 ^ 24 : Nat) := c_maskL q _ 24 (by decide) (by decide +kernel)
  have e3 : ((2 ^ 24 : Nat) : Int) = 16777216 := by decide +kernel
  rw [e3] at e2
  have z0 : (0 : Int32).toInt64.toInt = 0 := by decide
  have z1 : (1 : Int32).toInt64.toInt = 1 := by decide
  have y0 : (0 : Int64).toInt = 0 := by decide
  unfold own_cp
  rw [if_pos (by decide)]
  apply Int64.toInt_inj.mp
  split
  · next hz =>
    have e4 : q.toInt % 16777216 = 0 := by rw [← e2, hz]; exact y0
    rw [Jvm.Kit.i64_add (by rw [e1, z0]; omega) (by rw [e1, z0]; omega), e1, z0, e0]; omega
  · next hz =>
    have e4 : ¬ q.toInt % 16777216 = 0 := fun z => hz (Int64.toInt_inj.mp (by rw [e2, y0]; exact z))
    rw [Jvm.Kit.i64_add (by rw [e1, z1]; omega) (by rw [e1, z1]; omega), e1, z1, e0]; omega
theorem own_cp5 {q : Int64} (hq : 0 ≤ q.toInt ∧ q.toInt < 4611686018427387904) : own_cp q (8 + 4 * 5) = own_s q 5 := by
  have e0 := own_c5 hq
  have e1 : (XT.ushrL q (8 + 4 * 5)).toInt = q.toInt / 2 ^ 28 := Jvm.Kit.i64_lushr (Jvm.Kit.i64_nonneg.mpr hq.1) (n := ((8 + 4 * 5 : Int32).toInt64.toUInt64 &&& Int64.toUInt64 63)) (k := 28) (by decide) (by decide)
  have e2 : (q &&& (((1 : Int64) <<< ((8 + 4 * 5 : Int32).toInt64 &&& 63)) - 1)).toInt = q.toInt % (2 ^ 28 : Nat) := c_maskL q _ 28 (by decide) (by decide +kernel)
  have e3 : ((2 ^ 28 : Nat) : Int) = 268435456 := by decide +kernel
  rw [e3] at e2
  have z0 : (0 : Int32).toInt64.toInt = 0 := by decide
  have z1 : (1 : Int32).toInt64.toInt = 1 := by decide
  have y0 : (0 : Int64).toInt = 0 := by decide
  unfold own_cp
  rw [if_pos (by decide)]
  apply Int64.toInt_inj.mp
  split
  · next hz =>
    have e4 : q.toInt % 268435456 = 0 := by rw [← e2, hz]; exact y0
    rw [Jvm.Kit.i64_add (by rw [e1, z0]; omega) (by rw [e1, z0]; omega), e1, z0, e0]; omega
  · next hz =>
    have e4 : ¬ q.toInt % 268435456 = 0 := fun z => hz (Int64.toInt_inj.mp (by rw [e2, y0]; exact z))
    rw [Jvm.Kit.i64_add (by rw [e1, z1]; omega) (by rw [e1, z1]; omega), e1, z1, e0]; omega
theorem own_cp6 {q : Int64} (hq : 0 ≤ q.toInt ∧ q.toInt < 4611686018427387904) : own_cp q (8 + 4 * 6) = own_s q 6 := by
  have e0 := own_c6 hq
  have e1 : (XT.ushrL q (8 + 4 * 6)).toInt = q.toInt / 2 ^ 32 := Jvm.Kit.i64_lushr (Jvm.Kit.i64_nonneg.mpr hq.1) (n := ((8 + 4 * 6 : Int32).toInt64.toUInt64 &&& Int64.toUInt64 63)) (k := 32) (by decide) (by decide)
  have e2 : (q &&& (((1 : Int64) <<< ((8 + 4 * 6 : Int32).toInt64 &&& 63)) - 1)).toInt = q.toInt % (2 ^ 32 : Nat) := c_maskL q _ 32 (by decide) (by decide +kernel)
  have e3 : ((2 ^ 32 : Nat) : Int) = 4294967296 := by decide +kernel
  rw [e3] at e2
  have z0 : (0 : Int32).toInt64.toInt = 0 := by decide
  have z1 : (1 : Int32).toInt64.toInt = 1 := by decide
  have y0 : (0 : Int64).toInt = 0 := by decide
  unfold own_cp
  rw [if_pos (by decide)]
  apply Int64.toInt_inj.mp
  split
  · next hz =>
    have e4 : q.toInt % 4294967296 = 0 := by rw [← e2, hz]; exact y0
    rw [Jvm.Kit.i64_add (by rw [e1, z0]; omega) (by rw [e1, z0]; omega), e1, z0, e0]; omega
  · next hz =>
    have e4 : ¬ q.toInt % 4294967296 = 0 := fun z => hz (Int64.toInt_inj.mp (by rw [e2, y0]; exact z))
    rw [Jvm.Kit.i64_add (by rw [e1, z1]; omega) (by rw [e1, z1]; omega), e1, z1, e0]; omega
theorem own_cp7 {q : Int64} (hq : 0 ≤ q.toInt ∧ q.toInt < 4611686018427387904) : own_cp q (8 + 4 * 7) = own_s q 7 := by
  have e0 := own_c7 hq
  have e1 : (XT.ushrL q (8 + 4 * 7)).toInt = q.toInt / 2 ^ 36 := Jvm.Kit.i64_lushr (Jvm.Kit.i64_nonneg.mpr hq.1) (n := ((8 + 4 * 7 : Int32).toInt64.toUInt64 &&& Int64.toUInt64 63)) (k := 36) (by decide) (by decide)
  have e2 : (q &&& (((1 : Int64) <<< ((8 + 4 * 7 : Int32).toInt64 &&& 63)) - 1)).toInt = q.toInt % (2 ^ 36 : Nat) := c_maskL q _ 36 (by decide) (by decide +kernel)
  have e3 : ((2 ^ 36 : Nat) : Int) = 68719476736 := by decide +kernel
  rw [e3] at e2
  have z0 : (0 : Int32).toInt64.toInt = 0 := by decide
  have z1 : (1 : Int32).toInt64.toInt = 1 := by decide
  have y0 : (0 : Int64).toInt = 0 := by decide
  unfold own_cp
  rw [if_pos (by decide)]
  apply Int64.toInt_inj.mp
  split
  · next hz =>
    have e4 : q.toInt % 68719476736 = 0 := by rw [← e2, hz]; exact y0
    rw [Jvm.Kit.i64_add (by rw [e1, z0]; omega) (by rw [e1, z0]; omega), e1, z0, e0]; omega
  · next hz =>
    have e4 : ¬ q.toInt % 68719476736 = 0 := fun z => hz (Int64.toInt_inj.mp (by rw [e2, y0]; exact z))
    rw [Jvm.Kit.i64_add (by rw [e1, z1]; omega) (by rw [e1, z1]; omega), e1, z1, e0]; omega
theorem own_cp8 {q : Int64} (hq : 0 ≤ q.toInt ∧ q.toInt < 4611686018427387904) : own_cp q (8 + 4 * 8) = own_s q 8 := by
  have e0 := own_c8 hq
  have e1 : (XT.ushrL q (8 + 4 * 8)).toInt = q.toInt / 2 ^ 40 := Jvm.Kit.i64_lushr (Jvm.Kit.i64_nonneg.mpr hq.1) (n := ((8 + 4 * 8 : Int32).toInt64.toUInt64 &&& Int64.toUInt64 63)) (k := 40) (by decide) (by decide)
  have e2 : (q &&& (((1 : Int64) <<< ((8 + 4 * 8 : Int32).toInt64 &&& 63)) - 1)).toInt = q.toInt % (2 ^ 40 : Nat) := c_maskL q _ 40 (by decide) (by decide +kernel)
  have e3 : ((2 ^ 40 : Nat) : Int) = 1099511627776 := by decide +kernel
  rw [e3] at e2
  have z0 : (0 : Int32).toInt64.toInt = 0 := by decide
  have z1 : (1 : Int32).toInt64.toInt = 1 := by decide
  have y0 : (0 : Int64).toInt = 0 := by decide
  unfold own_cp
  rw [if_pos (by decide)]
  apply Int64.toInt_inj.mp
  split
  · next hz =>
    have e4 : q.toInt % 1099511627776 = 0 := by rw [← e2, hz]; exact y0
    rw [Jvm.Kit.i64_add (by rw [e1, z0]; omega) (by rw [e1, z0]; omega), e1, z0, e0]; omega
  · next hz =>
    have e4 : ¬ q.toInt % 1099511627776 = 0 := fun z => hz (Int64.toInt_inj.mp (by rw [e2, y0]; exact z))
    rw [Jvm.Kit.i64_add (by rw [e1, z1]; omega) (by rw [e1, z1]; omega), e1, z1, e0]; omega
theorem own_cp9 {q : Int64} (hq : 0 ≤ q.toInt ∧ q.toInt < 4611686018427387904) : own_cp q (8 + 4 * 9) = own_s q 9 := by
  have e0 := own_c9 hq
  have e1 : (XT.ushrL q (8 + 4 * 9)).toInt = q.toInt / 2 ^ 44 := Jvm.Kit.i64_lushr (Jvm.Kit.i64_nonneg.mpr hq.1) (n := ((8 + 4 * 9 : Int32).toInt64.toUInt64 &&& Int64.toUInt64 63)) (k := 44) (by decide) (by decide)
  have e2 : (q &&& (((1 : Int64) <<< ((8 + 4 * 9 : Int32).toInt64 &&& 63)) - 1)).toInt = q.toInt % (2 ^ 44 : Nat) := c_maskL q _ 44 (by decide) (by decide +kernel)
  have e3 : ((2 ^ 44 : Nat) : Int) = 17592186044416 := by decide +kernel
  rw [e3] at e2
  have z0 : (0 : Int32).toInt64.toInt = 0 := by decide
  have z1 : (1 : Int32).toInt64.toInt = 1 := by decide
  have y0 : (0 : Int64).toInt = 0 := by decide
  unfold own_cp
  rw [if_pos (by decide)]
  apply Int64.toInt_inj.mp
  split
  · next hz =>
    have e4 : q.toInt % 17592186044416 = 0 := by rw [← e2, hz]; exact y0
    rw [Jvm.Kit.i64_add (by rw [e1, z0]; omega) (by rw [e1, z0]; omega), e1, z0, e0]; omega
  · next hz =>
    have e4 : ¬ q.toInt % 17592186044416 = 0 := fun z => hz (Int64.toInt_inj.mp (by rw [e2, y0]; exact z))
    rw [Jvm.Kit.i64_add (by rw [e1, z1]; omega) (by rw [e1, z1]; omega), e1, z1, e0]; omega
theorem own_cp10 {q : Int64} (hq : 0 ≤ q.toInt ∧ q.toInt < 4611686018427387904) : own_cp q (8 + 4 * 10) = own_s q 10 := by
  have e0 := own_c10 hq
  have e1 : (XT.ushrL q (8 + 4 * 10)).toInt = q.toInt / 2 ^ 48 := Jvm.Kit.i64_lushr (Jvm.Kit.i64_nonneg.mpr hq.1) (n := ((8 + 4 * 10 : Int32).toInt64.toUInt64 &&& Int64.toUInt64 63)) (k := 48) (by decide) (by decide)
  have e2 : (q &&& (((1 : Int64) <<< ((8 + 4 * 10 : Int32).toInt64 &&& 63)) - 1)).toInt = q.toInt % (2 ^ 48 : Nat) := c_maskL q _ 48 (by decide) (by decide +kernel)
  have e3 : ((2 ^ 48 : Nat) : Int) = 281474976710656 := by decide +kernel
  rw [e3] at e2
  have z0 : (0 : Int32).toInt64.toInt = 0 := by decide
  have z1 : (1 : Int32).toInt64.toInt = 1 := by decide
  have y0 : (0 : Int64).toInt = 0 := by decide
  unfold own_cp
  rw [if_pos (by decide)]
  apply Int64.toInt_inj.mp
  split
  · next hz =>
    have e4 : q.toInt % 281474976710656 = 0 := by rw [← e2, hz]; exact y0
    rw [Jvm.Kit.i64_add (by rw [e1, z0]; omega) (by rw [e1, z0]; omega), e1, z0, e0]; omega
  · next hz =>
    have e4 : ¬ q.toInt % 281474976710656 = 0 := fun z => hz (Int64.toInt_inj.mp (by rw [e2, y0]; exact z))
    rw [Jvm.Kit.i64_add (by rw [e1, z1]; omega) (by rw [e1, z1]; omega), e1, z1, e0]; omega
theorem own_cp11 {q : Int64} (hq : 0 ≤ q.toInt ∧ q.toInt < 4611686018427387904) : own_cp q (8 + 4 * 11) = own_s q 11 := by
  have e0 := own_c11 hq
  have e1 : (XT.ushrL q (8 + 4 * 11)).toInt = q.toInt / 2 ^ 52 := Jvm.Kit.i64_lushr (Jvm.Kit.i64_nonneg.mpr hq.1) (n := ((8 + 4 * 11 : Int32).toInt64.toUInt64 &&& Int64.toUInt64 63)) (k := 52) (by decide) (by decide)
  have e2 : (q &&& (((1 : Int64) <<< ((8 + 4 * 11 : Int32).toInt64 &&& 63)) - 1)).toInt = q.toInt % (2 ^ 52 : Nat) := c_maskL q _ 52 (by decide) (by decide +kernel)
  have e3 : ((2 ^ 52 : Nat) : Int) = 4503599627370496 := by decide +kernel
  rw [e3] at e2
  have z0 : (0 : Int32).toInt64.toInt = 0 := by decide
  have z1 : (1 : Int32).toInt64.toInt = 1 := by decide
  have y0 : (0 : Int64).toInt = 0 := by decide
  unfold own_cp
  rw [if_pos (by decide)]
  apply Int64.toInt_inj.mp
  split
  · next hz =>
    have e4 : q.toInt % 4503599627370496 = 0 := by rw [← e2, hz]; exact y0
    rw [Jvm.Kit.i64_add (by rw [e1, z0]; omega) (by rw [e1, z0]; omega), e1, z0, e0]; omega
  · next hz =>
    have e4 : ¬ q.toInt % 4503599627370496 = 0 := fun z => hz (Int64.toInt_inj.mp (by rw [e2, y0]; exact z))
    rw [Jvm.Kit.i64_add (by rw [e1, z1]; omega) (by rw [e1, z1]; omega), e1, z1, e0]; omega
theorem own_cp12 {q : Int64} (hq : 0 ≤ q.toInt ∧ q.toInt < 4611686018427387904) : own_cp q (8 + 4 * 12) = own_s q 12 := by
  have e0 := own_c12 hq
  have e1 : (XT.ushrL q (8 + 4 * 12)).toInt = q.toInt / 2 ^ 56 := Jvm.Kit.i64_lushr (Jvm.Kit.i64_nonneg.mpr hq.1) (n := ((8 + 4 * 12 : Int32).toInt64.toUInt64 &&& Int64.toUInt64 63)) (k := 56) (by decide) (by decide)
  have e2 : (q &&& (((1 : Int64) <<< ((8 + 4 * 12 : Int32).toInt64 &&& 63)) - 1)).toInt = q.toInt % (2 ^ 56 : Nat) := c_maskL q _ 56 (by decide) (by decide +kernel)
  have e3 : ((2 ^ 56 : Nat) : Int) = 72057594037927936 := by decide +kernel
  rw [e3] at e2
  have z0 : (0 : Int32).toInt64.toInt = 0 := by decide
  have z1 : (1 : Int32).toInt64.toInt = 1 := by decide
  have y0 : (0 : Int64).toInt = 0 := by decide
  unfold own_cp
  rw [if_pos (by decide)]
  apply Int64.toInt_inj.mp
  split
  · next hz =>
    have e4 : q.toInt % 72057594037927936 = 0 := by rw [← e2, hz]; exact y0
    rw [Jvm.Kit.i64_add (by rw [e1, z0]; omega) (by rw [e1, z0]; omega), e1, z0, e0]; omega
  · next hz =>
    have e4 : ¬ q.toInt % 72057594037927936 = 0 := fun z => hz (Int64.toInt_inj.mp (by rw [e2, y0]; exact z))
    rw [Jvm.Kit.i64_add (by rw [e1, z1]; omega) (by rw [e1, z1]; omega), e1, z1, e0]; omega
theorem own_cp13 {q : Int64} (hq : 0 ≤ q.toInt ∧ q.toInt < 4611686018427387904) : own_cp q (8 + 4 * 13) = own_s q 13 := by
  have e0 := own_c13 hq
  have e1 : (XT.ushrL q (8 + 4 * 13)).toInt = q.toInt / 2 ^ 60 := Jvm.Kit.i64_lushr (Jvm.Kit.i64_nonneg.mpr hq.1) (n := ((8 + 4 * 13 : Int32).toInt64.toUInt64 &&& Int64.toUInt64 63)) (k := 60) (by decide) (by decide)
  have e2 : (q &&& (((1 : Int64) <<< ((8 + 4 * 13 : Int32).toInt64 &&& 63)) - 1)).toInt = q.toInt % (2 ^ 60 : Nat) := c_maskL q _ 60 (by decide) (by decide +kernel)
  have e3 : ((2 ^ 60 : Nat) : Int) = 1152921504606846976 := by decide +kernel
  rw [e3] at e2
  have z0 : (0 : Int32).toInt64.toInt = 0 := by decide
  have z1 : (1 : Int32).toInt64.toInt = 1 := by decide
  have y0 : (0 : Int64).toInt = 0 := by decide
  unfold own_cp
  rw [if_pos (by decide)]
  apply Int64.toInt_inj.mp
  split
  · next hz =>
    have e4 : q.toInt % 1152921504606846976 = 0 := by rw [← e2, hz]; exact y0
    rw [Jvm.Kit.i64_add (by rw [e1, z0]; omega) (by rw [e1, z0]; omega), e1, z0, e0]; omega
  · next hz =>
    have e4 : ¬ q.toInt % 1152921504606846976 = 0 := fun z => hz (Int64.toInt_inj.mp (by rw [e2, y0]; exact z))
    rw [Jvm.Kit.i64_add (by rw [e1, z1]; omega) (by rw [e1, z1]; omega), e1, z1, e0]; omega
theorem own_cp14 {q : Int64} (hq : 0 ≤ q.toInt ∧ q.toInt < 4611686018427387904) (hp : 0 < q) : own_cp q (8 + 4 * 14) = own_s q 14 := by
  have e0 := own_c14 hq
  unfold own_cp
  rw [if_neg (by decide), if_pos hp]
  apply Int64.toInt_inj.mp
  have h1 : 0 < q.toInt := by have h := Int64.lt_iff_toInt_lt.mp hp; rw [show (0 : Int64).toInt = 0 from by decide] at h; exact h
  rw [e0, show (1 : Int64).toInt = 1 from by decide]; omega
theorem own_lvY0 {q : Int64} (hq : 0 ≤ q.toInt ∧ q.toInt < 4611686018427387904) (h : 0 < q.toInt) : own_lv q 0 = own_s q 0 := by
  have hp : (0 : Int64) < q := by rw [Int64.lt_iff_toInt_lt]; exact Int.lt_of_le_of_lt (by decide) h
  unfold own_lv
  rw [if_pos rfl, if_pos hp]
  exact own_cp0 hq
theorem own_lvN0 {q : Int64} (h : q.toInt ≤ 0) : own_lv q 0 = 0 := by
  have hp : ¬ ((0 : Int64) < q) := by
    rw [Int64.lt_iff_toInt_lt, show (0 : Int64).toInt = 0 from by decide]; omega
  unfold own_lv
  rw [if_pos rfl, if_neg hp]
theorem own_lvY1 {q : Int64} (hq : 0 ≤ q.toInt ∧ q.toInt < 4611686018427387904) (h : 256 < q.toInt) : own_lv q 1 = own_s q 1 := by
  have es : (1 : Int64) <<< ((4 + 4 * 1 : Int32).toInt64 &&& 63) = 256 := by decide +kernel
  have hp : (256 : Int64) < q := by rw [Int64.lt_iff_toInt_lt]; exact Int.lt_of_le_of_lt (by decide) h
  unfold own_lv
  rw [if_neg (by decide), es, if_pos hp]
  exact own_cp1 hq
theorem own_lvN1 {q : Int64} (h : q.toInt ≤ 256) : own_lv q 1 = 0 := by
  have es : (1 : Int64) <<< ((4 + 4 * 1 : Int32).toInt64 &&& 63) = 256 := by decide +kernel
  have hp : ¬ ((256 : Int64) < q) := by
    rw [Int64.lt_iff_toInt_lt, show (256 : Int64).toInt = 256 from by decide]; omega
  unfold own_lv
  rw [if_neg (by decide), es, if_neg hp]
theorem own_lvY2 {q : Int64} (hq : 0 ≤ q.toInt ∧ q.toInt < 4611686018427387904) (h : 4096 < q.toInt) : own_lv q 2 = own_s q 2 := by
  have es : (1 : Int64) <<< ((4 + 4 * 2 : Int32).toInt64 &&& 63) = 4096 := by decide +kernel
  have hp : (4096 : Int64) < q := by rw [Int64.lt_iff_toInt_lt]; exact Int.lt_of_le_of_lt (by decide) h
  unfold own_lv
  rw [if_neg (by decide), es, if_pos hp]
  exact own_cp2 hq
theorem own_lvN2 {q : Int64} (h : q.toInt ≤ 4096) : own_lv q 2 = 0 := by
  have es : (1 : Int64) <<< ((4 + 4 * 2 : Int32).toInt64 &&& 63) = 4096 := by decide +kernel
  have hp : ¬ ((4096 : Int64) < q) := by
    rw [Int64.lt_iff_toInt_lt, show (4096 : Int64).toInt = 4096 from by decide]; omega
  unfold own_lv
  rw [if_neg (by decide), es, if_neg hp]
theorem own_lvY3 {q : Int64} (hq : 0 ≤ q.toInt ∧ q.toInt < 4611686018427387904) (h : 65536 < q.toInt) : own_lv q 3 = own_s q 3 := by
  have es : (1 : Int64) <<< ((4 + 4 * 3 : Int32).toInt64 &&& 63) = 65536 := by decide +kernel
  have hp : (65536 : Int64) < q := by rw [Int64.lt_iff_toInt_lt]; exact Int.lt_of_le_of_lt (by decide) h
  unfold own_lv
  rw [if_neg (by decide), es, if_pos hp]
  exact own_cp3 hq
theorem own_lvN3 {q : Int64} (h : q.toInt ≤ 65536) : own_lv q 3 = 0 := by
  have es : (1 : Int64) <<< ((4 + 4 * 3 : Int32).toInt64 &&& 63) = 65536 := by decide +kernel
  have hp : ¬ ((65536 : Int64) < q) := by
    rw [Int64.lt_iff_toInt_lt, show (65536 : Int64).toInt = 65536 from by decide]; omega
  unfold own_lv
  rw [if_neg (by decide), es, if_neg hp]
theorem own_lvY4 {q : Int64} (hq : 0 ≤ q.toInt ∧ q.toInt < 4611686018427387904) (h : 1048576 < q.toInt) : own_lv q 4 = own_s q 4 := by
  have es : (1 : Int64) <<< ((4 + 4 * 4 : Int32).toInt64 &&& 63) = 1048576 := by decide +kernel
  have hp : (1048576 : Int64) < q := by rw [Int64.lt_iff_toInt_lt]; exact Int.lt_of_le_of_lt (by decide) h
  unfold own_lv
  rw [if_neg (by decide), es, if_pos hp]
  exact own_cp4 hq
theorem own_lvN4 {q : Int64} (h : q.toInt ≤ 1048576) : own_lv q 4 = 0 := by
  have es : (1 : Int64) <<< ((4 + 4 * 4 : Int32).toInt64 &&& 63) = 1048576 := by decide +kernel
  have hp : ¬ ((1048576 : Int64) < q) := by
    rw [Int64.lt_iff_toInt_lt, show (1048576 : Int64).toInt = 1048576 from by decide]; omega
  unfold own_lv
  rw [if_neg (by decide), es, if_neg hp]
theorem own_lvY5 {q : Int64} (hq : 0 ≤ q.toInt ∧ q.toInt < 4611686018427387904) (h : 16777216 < q.toInt) : own_lv q 5 = own_s q 5 := by
  have es : (1 : Int64) <<< ((4 + 4 * 5 : Int32).toInt64 &&& 63) = 16777216 := by decide +kernel
  have hp : (16777216 : Int64) < q := by rw [Int64.lt_iff_toInt_lt]; exact Int.lt_of_le_of_lt (by decide) h
  unfold own_lv
  rw [if_neg (by decide), es, if_pos hp]
  exact own_cp5 hq
theorem own_lvN5 {q : Int64} (h : q.toInt ≤ 16777216) : own_lv q 5 = 0 := by
  have es : (1 : Int64) <<< ((4 + 4 * 5 : Int32).toInt64 &&& 63) = 16777216 := by decide +kernel
  have hp : ¬ ((16777216 : Int64) < q) := by
    rw [Int64.lt_iff_toInt_lt, show (16777216 : Int64).toInt = 16777216 from by decide]; omega
  unfold own_lv
  rw [if_neg (by decide), es, if_neg hp]
theorem own_lvY6 {q : Int64} (hq : 0 ≤ q.toInt ∧ q.toInt < 4611686018427387904) (h : 268435456 < q.toInt) : own_lv q 6 = own_s q 6 := by
  have es : (1 : Int64) <<< ((4 + 4 * 6 : Int32).toInt64 &&& 63) = 268435456 := by decide +kernel
  have hp : (268435456 : Int64) < q := by rw [Int64.lt_iff_toInt_lt]; exact Int.lt_of_le_of_lt (by decide) h
  unfold own_lv
  rw [if_neg (by decide), es, if_pos hp]
  exact own_cp6 hq
theorem own_lvN6 {q : Int64} (h : q.toInt ≤ 268435456) : own_lv q 6 = 0 := by
  have es : (1 : Int64) <<< ((4 + 4 * 6 : Int32).toInt64 &&& 63) = 268435456 := by decide +kernel
  have hp : ¬ ((268435456 : Int64) < q) := by
    rw [Int64.lt_iff_toInt_lt, show (268435456 : Int64).toInt = 268435456 from by decide]; omega
  unfold own_lv
  rw [if_neg (by decide), es, if_neg hp]
theorem own_lvY7 {q : Int64} (hq : 0 ≤ q.toInt ∧ q.toInt < 4611686018427387904) (h : 4294967296 < q.toInt) : own_lv q 7 = own_s q 7 := by
  have es : (1 : Int64) <<< ((4 + 4 * 7 : Int32).toInt64 &&& 63) = 4294967296 := by decide +kernel
  have hp : (4294967296 : Int64) < q := by rw [Int64.lt_iff_toInt_lt]; exact Int.lt_of_le_of_lt (by decide) h
  unfold own_lv
  rw [if_neg (by decide), es, if_pos hp]
  exact own_cp7 hq
theorem own_lvN7 {q : Int64} (h : q.toInt ≤ 4294967296) : own_lv q 7 = 0 := by
  have es : (1 : Int64) <<< ((4 + 4 * 7 : Int32).toInt64 &&& 63) = 4294967296 := by decide +kernel
  have hp : ¬ ((4294967296 : Int64) < q) := by
    rw [Int64.lt_iff_toInt_lt, show (4294967296 : Int64).toInt = 4294967296 from by decide]; omega
  unfold own_lv
  rw [if_neg (by decide), es, if_neg hp]
theorem own_lvY8 {q : Int64} (hq : 0 ≤ q.toInt ∧ q.toInt < 4611686018427387904) (h : 68719476736 < q.toInt) : own_lv q 8 = own_s q 8 := by
  have es : (1 : Int64) <<< ((4 + 4 * 8 : Int32).toInt64 &&& 63) = 68719476736 := by decide +kernel
  have hp : (68719476736 : Int64) < q := by rw [Int64.lt_iff_toInt_lt]; exact Int.lt_of_le_of_lt (by decide) h
  unfold own_lv
  rw [if_neg (by decide), es, if_pos hp]
  exact own_cp8 hq
theorem own_lvN8 {q : Int64} (h : q.toInt ≤ 68719476736) : own_lv q 8 = 0 := by
  have es : (1 : Int64) <<< ((4 + 4 * 8 : Int32).toInt64 &&& 63) = 68719476736 := by decide +kernel
  have hp : ¬ ((68719476736 : Int64) < q) := by
    rw [Int64.lt_iff_toInt_lt, show (68719476736 : Int64).toInt = 68719476736 from by decide]; omega
  unfold own_lv
  rw [if_neg (by decide), es, if_neg hp]
theorem own_lvY9 {q : Int64} (hq : 0 ≤ q.toInt ∧ q.toInt < 4611686018427387904) (h : 1099511627776 < q.toInt) : own_lv q 9 = own_s q 9 := by
  have es : (1 : Int64) <<< ((4 + 4 * 9 : Int32).toInt64 &&& 63) = 1099511627776 := by decide +kernel
  have hp : (1099511627776 : Int64) < q := by rw [Int64.lt_iff_toInt_lt]; exact Int.lt_of_le_of_lt (by decide) h
  unfold own_lv
  rw [if_neg (by decide), es, if_pos hp]
  exact own_cp9 hq
theorem own_lvN9 {q : Int64} (h : q.toInt ≤ 1099511627776) : own_lv q 9 = 0 := by
  have es : (1 : Int64) <<< ((4 + 4 * 9 : Int32).toInt64 &&& 63) = 1099511627776 := by decide +kernel
  have hp : ¬ ((1099511627776 : Int64) < q) := by
    rw [Int64.lt_iff_toInt_lt, show (1099511627776 : Int64).toInt = 1099511627776 from by decide]; omega
  unfold own_lv
  rw [if_neg (by decide), es, if_neg hp]
theorem own_lvY10 {q : Int64} (hq : 0 ≤ q.toInt ∧ q.toInt < 4611686018427387904) (h : 17592186044416 < q.toInt) : own_lv q 10 = own_s q 10 := by
  have es : (1 : Int64) <<< ((4 + 4 * 10 : Int32).toInt64 &&& 63) = 17592186044416 := by decide +kernel
  have hp : (17592186044416 : Int64) < q := by rw [Int64.lt_iff_toInt_lt]; exact Int.lt_of_le_of_lt (by decide) h
  unfold own_lv
  rw [if_neg (by decide), es, if_pos hp]
  exact own_cp10 hq
theorem own_lvN10 {q : Int64} (h : q.toInt ≤ 17592186044416) : own_lv q 10 = 0 := by
  have es : (1 : Int64) <<< ((4 + 4 * 10 : Int32).toInt64 &&& 63) = 17592186044416 := by decide +kernel
  have hp : ¬ ((17592186044416 : Int64) < q) := by
    rw [Int64.lt_iff_toInt_lt, show (17592186044416 : Int64).toInt = 17592186044416 from by decide]; omega
  unfold own_lv
  rw [if_neg (by decide), es, if_neg hp]
theorem own_lvY11 {q : Int64} (hq : 0 ≤ q.toInt ∧ q.toInt < 4611686018427387904) (h : 281474976710656 < q.toInt) : own_lv q 11 = own_s q 11 := by
  have es : (1 : Int64) <<< ((4 + 4 * 11 : Int32).toInt64 &&& 63) = 281474976710656 := by decide +kernel
  have hp : (281474976710656 : Int64) < q := by rw [Int64.lt_iff_toInt_lt]; exact Int.lt_of_le_of_lt (by decide) h
  unfold own_lv
  rw [if_neg (by decide), es, if_pos hp]
  exact own_cp11 hq
theorem own_lvN11 {q : Int64} (h : q.toInt ≤ 281474976710656) : own_lv q 11 = 0 := by
  have es : (1 : Int64) <<< ((4 + 4 * 11 : Int32).toInt64 &&& 63) = 281474976710656 := by decide +kernel
  have hp : ¬ ((281474976710656 : Int64) < q) := by
    rw [Int64.lt_iff_toInt_lt, show (281474976710656 : Int64).toInt = 281474976710656 from by decide]; omega
  unfold own_lv
  rw [if_neg (by decide), es, if_neg hp]
theorem own_lvY12 {q : Int64} (hq : 0 ≤ q.toInt ∧ q.toInt < 4611686018427387904) (h : 4503599627370496 < q.toInt) : own_lv q 12 = own_s q 12 := by
  have es : (1 : Int64) <<< ((4 + 4 * 12 : Int32).toInt64 &&& 63) = 4503599627370496 := by decide +kernel
  have hp : (4503599627370496 : Int64) < q := by rw [Int64.lt_iff_toInt_lt]; exact Int.lt_of_le_of_lt (by decide) h
  unfold own_lv
  rw [if_neg (by decide), es, if_pos hp]
  exact own_cp12 hq
theorem own_lvN12 {q : Int64} (h : q.toInt ≤ 4503599627370496) : own_lv q 12 = 0 := by
  have es : (1 : Int64) <<< ((4 + 4 * 12 : Int32).toInt64 &&& 63) = 4503599627370496 := by decide +kernel
  have hp : ¬ ((4503599627370496 : Int64) < q) := by
    rw [Int64.lt_iff_toInt_lt, show (4503599627370496 : Int64).toInt = 4503599627370496 from by decide]; omega
  unfold own_lv
  rw [if_neg (by decide), es, if_neg hp]
theorem own_lvY13 {q : Int64} (hq : 0 ≤ q.toInt ∧ q.toInt < 4611686018427387904) (h : 72057594037927936 < q.toInt) : own_lv q 13 = own_s q 13 := by
  have es : (1 : Int64) <<< ((4 + 4 * 13 : Int32).toInt64 &&& 63) = 72057594037927936 := by decide +kernel
  have hp : (72057594037927936 : Int64) < q := by rw [Int64.lt_iff_toInt_lt]; exact Int.lt_of_le_of_lt (by decide) h
  unfold own_lv
  rw [if_neg (by decide), es, if_pos hp]
  exact own_cp13 hq
theorem own_lvN13 {q : Int64} (h : q.toInt ≤ 72057594037927936) : own_lv q 13 = 0 := by
  have es : (1 : Int64) <<< ((4 + 4 * 13 : Int32).toInt64 &&& 63) = 72057594037927936 := by decide +kernel
  have hp : ¬ ((72057594037927936 : Int64) < q) := by
    rw [Int64.lt_iff_toInt_lt, show (72057594037927936 : Int64).toInt = 72057594037927936 from by decide]; omega
  unfold own_lv
  rw [if_neg (by decide), es, if_neg hp]
theorem own_lvY14 {q : Int64} (hq : 0 ≤ q.toInt ∧ q.toInt < 4611686018427387904) (h : 1152921504606846976 < q.toInt) : own_lv q 14 = own_s q 14 := by
  have es : (1 : Int64) <<< ((4 + 4 * 14 : Int32).toInt64 &&& 63) = 1152921504606846976 := by decide +kernel
  have hp : (1152921504606846976 : Int64) < q := by rw [Int64.lt_iff_toInt_lt]; exact Int.lt_of_le_of_lt (by decide) h
  unfold own_lv
  rw [if_neg (by decide), es, if_pos hp]
  exact own_cp14 hq (by rw [Int64.lt_iff_toInt_lt]; exact Int.lt_of_le_of_lt (by decide) h)
theorem own_lvN14 {q : Int64} (h : q.toInt ≤ 1152921504606846976) : own_lv q 14 = 0 := by
  have es : (1 : Int64) <<< ((4 + 4 * 14 : Int32).toInt64 &&& 63) = 1152921504606846976 := by decide +kernel
  have hp : ¬ ((1152921504606846976 : Int64) < q) := by
    rw [Int64.lt_iff_toInt_lt, show (1152921504606846976 : Int64).toInt = 1152921504606846976 from by decide]; omega
  unfold own_lv
  rw [if_neg (by decide), es, if_neg hp]
theorem own_law0 {q : Int64} (h : q.toInt ≤ 0) : own_sum q 0 = own_nodes q := by
  unfold own_nodes
  rw [own_lvN0 (by omega), own_lvN1 (by omega), own_lvN2 (by omega), own_lvN3 (by omega), own_lvN4 (by omega), own_lvN5 (by omega), own_lvN6 (by omega), own_lvN7 (by omega), own_lvN8 (by omega), own_lvN9 (by omega), own_lvN10 (by omega), own_lvN11 (by omega), own_lvN12 (by omega), own_lvN13 (by omega), own_lvN14 (by omega)]
  rfl
theorem own_law1 {q : Int64} (hq : 0 ≤ q.toInt ∧ q.toInt < 4611686018427387904) (hp : 0 < q) (hall : ∀ i, i < 0 → 1 < own_s q i) (hl : ¬ (1 < own_s q 0)) : own_sum q 1 = own_nodes q := by
  have lo : 0 < q.toInt := by have h := Int64.lt_iff_toInt_lt.mp hp; rw [show (0 : Int64).toInt = 0 from by decide] at h; exact h
  have hi : q.toInt ≤ 256 := by
    rw [Int64.lt_iff_toInt_lt, own_c0 hq, show (1 : Int64).toInt = 1 from by decide] at hl; omega
  unfold own_nodes
  rw [own_lvY0 hq (by omega), own_lvN1 (by omega), own_lvN2 (by omega), own_lvN3 (by omega), own_lvN4 (by omega), own_lvN5 (by omega), own_lvN6 (by omega), own_lvN7 (by omega), own_lvN8 (by omega), own_lvN9 (by omega), own_lvN10 (by omega), own_lvN11 (by omega), own_lvN12 (by omega), own_lvN13 (by omega), own_lvN14 (by omega)]
  first | (simp only [own_sum, Int64.zero_add, Int64.add_zero]; done) | simp [own_sum]
theorem own_law2 {q : Int64} (hq : 0 ≤ q.toInt ∧ q.toInt < 4611686018427387904) (hp : 0 < q) (hall : ∀ i, i < 1 → 1 < own_s q i) (hl : ¬ (1 < own_s q 1)) : own_sum q 2 = own_nodes q := by
  have lo : 256 < q.toInt := by
    have h := Int64.lt_iff_toInt_lt.mp (hall 0 (by decide))
    rw [own_c0 hq, show (1 : Int64).toInt = 1 from by decide] at h; omega
  have hi : q.toInt ≤ 4096 := by
    rw [Int64.lt_iff_toInt_lt, own_c1 hq, show (1 : Int64).toInt = 1 from by decide] at hl; omega
  unfold own_nodes
  rw [own_lvY0 hq (by omega), own_lvY1 hq (by omega), own_lvN2 (by omega), own_lvN3 (by omega), own_lvN4 (by omega), own_lvN5 (by omega), own_lvN6 (by omega), own_lvN7 (by omega), own_lvN8 (by omega), own_lvN9 (by omega), own_lvN10 (by omega), own_lvN11 (by omega), own_lvN12 (by omega), own_lvN13 (by omega), own_lvN14 (by omega)]
  first | (simp only [own_sum, Int64.zero_add, Int64.add_zero]; done) | simp [own_sum]
theorem own_law3 {q : Int64} (hq : 0 ≤ q.toInt ∧ q.toInt < 4611686018427387904) (hp : 0 < q) (hall : ∀ i, i < 2 → 1 < own_s q i) (hl : ¬ (1 < own_s q 2)) : own_sum q 3 = own_nodes q := by
  have lo : 4096 < q.toInt := by
    have h := Int64.lt_iff_toInt_lt.mp (hall 1 (by decide))
    rw [own_c1 hq, show (1 : Int64).toInt = 1 from by decide] at h; omega
  have hi : q.toInt ≤ 65536 := by
    rw [Int64.lt_iff_toInt_lt, own_c2 hq, show (1 : Int64).toInt = 1 from by decide] at hl; omega
  unfold own_nodes
  rw [own_lvY0 hq (by omega), own_lvY1 hq (by omega), own_lvY2 hq (by omega), own_lvN3 (by omega), own_lvN4 (by omega), own_lvN5 (by omega), own_lvN6 (by omega), own_lvN7 (by omega), own_lvN8 (by omega), own_lvN9 (by omega), own_lvN10 (by omega), own_lvN11 (by omega), own_lvN12 (by omega), own_lvN13 (by omega), own_lvN14 (by omega)]
  first | (simp only [own_sum, Int64.zero_add, Int64.add_zero]; done) | simp [own_sum]
theorem own_law4 {q : Int64} (hq : 0 ≤ q.toInt ∧ q.toInt < 4611686018427387904) (hp : 0 < q) (hall : ∀ i, i < 3 → 1 < own_s q i) (hl : ¬ (1 < own_s q 3)) : own_sum q 4 = own_nodes q := by
  have lo : 65536 < q.toInt := by
    have h := Int64.lt_iff_toInt_lt.mp (hall 2 (by decide))
    rw [own_c2 hq, show (1 : Int64).toInt = 1 from by decide] at h; omega
  have hi : q.toInt ≤ 1048576 := by
    rw [Int64.lt_iff_toInt_lt, own_c3 hq, show (1 : Int64).toInt = 1 from by decide] at hl; omega
  unfold own_nodes
  rw [own_lvY0 hq (by omega), own_lvY1 hq (by omega), own_lvY2 hq (by omega), own_lvY3 hq (by omega), own_lvN4 (by omega), own_lvN5 (by omega), own_lvN6 (by omega), own_lvN7 (by omega), own_lvN8 (by omega), own_lvN9 (by omega), own_lvN10 (by omega), own_lvN11 (by omega), own_lvN12 (by omega), own_lvN13 (by omega), own_lvN14 (by omega)]
  first | (simp only [own_sum, Int64.zero_add, Int64.add_zero]; done) | simp [own_sum]
theorem own_law5 {q : Int64} (hq : 0 ≤ q.toInt ∧ q.toInt < 4611686018427387904) (hp : 0 < q) (hall : ∀ i, i < 4 → 1 < own_s q i) (hl : ¬ (1 < own_s q 4)) : own_sum q 5 = own_nodes q := by
  have lo : 1048576 < q.toInt := by
    have h := Int64.lt_iff_toInt_lt.mp (hall 3 (by decide))
    rw [own_c3 hq, show (1 : Int64).toInt = 1 from by decide] at h; omega
  have hi : q.toInt ≤ 16777216 := by
    rw [Int64.lt_iff_toInt_lt, own_c4 hq, show (1 : Int64).toInt = 1 from by decide] at hl; omega
  unfold own_nodes
  rw [own_lvY0 hq (by omega), own_lvY1 hq (by omega), own_lvY2 hq (by omega), own_lvY3 hq (by omega), own_lvY4 hq (by omega), own_lvN5 (by omega), own_lvN6 (by omega), own_lvN7 (by omega), own_lvN8 (by omega), own_lvN9 (by omega), own_lvN10 (by omega), own_lvN11 (by omega), own_lvN12 (by omega), own_lvN13 (by omega), own_lvN14 (by omega)]
  first | (simp only [own_sum, Int64.zero_add, Int64.add_zero]; done) | simp [own_sum]
theorem own_law6 {q : Int64} (hq : 0 ≤ q.toInt ∧ q.toInt < 4611686018427387904) (hp : 0 < q) (hall : ∀ i, i < 5 → 1 < own_s q i) (hl : ¬ (1 < own_s q 5)) : own_sum q 6 = own_nodes q := by
  have lo : 16777216 < q.toInt := by
    have h := Int64.lt_iff_toInt_lt.mp (hall 4 (by decide))
    rw [own_c4 hq, show (1 : Int64).toInt = 1 from by decide] at h; omega
  have hi : q.toInt ≤ 268435456 := by
    rw [Int64.lt_iff_toInt_lt, own_c5 hq, show (1 : Int64).toInt = 1 from by decide] at hl; omega
  unfold own_nodes
  rw [own_lvY0 hq (by omega), own_lvY1 hq (by omega), own_lvY2 hq (by omega), own_lvY3 hq (by omega), own_lvY4 hq (by omega), own_lvY5 hq (by omega), own_lvN6 (by omega), own_lvN7 (by omega), own_lvN8 (by omega), own_lvN9 (by omega), own_lvN10 (by omega), own_lvN11 (by omega), own_lvN12 (by omega), own_lvN13 (by omega), own_lvN14 (by omega)]
  first | (simp only [own_sum, Int64.zero_add, Int64.add_zero]; done) | simp [own_sum]
theorem own_law7 {q : Int64} (hq : 0 ≤ q.toInt ∧ q.toInt < 4611686018427387904) (hp : 0 < q) (hall : ∀ i, i < 6 → 1 < own_s q i) (hl : ¬ (1 < own_s q 6)) : own_sum q 7 = own_nodes q := by
  have lo : 268435456 < q.toInt := by
    have h := Int64.lt_iff_toInt_lt.mp (hall 5 (by decide))
    rw [own_c5 hq, show (1 : Int64).toInt = 1 from by decide] at h; omega
  have hi : q.toInt ≤ 4294967296 := by
    rw [Int64.lt_iff_toInt_lt, own_c6 hq, show (1 : Int64).toInt = 1 from by decide] at hl; omega
  unfold own_nodes
  rw [own_lvY0 hq (by omega), own_lvY1 hq (by omega), own_lvY2 hq (by omega), own_lvY3 hq (by omega), own_lvY4 hq (by omega), own_lvY5 hq (by omega), own_lvY6 hq (by omega), own_lvN7 (by omega), own_lvN8 (by omega), own_lvN9 (by omega), own_lvN10 (by omega), own_lvN11 (by omega), own_lvN12 (by omega), own_lvN13 (by omega), own_lvN14 (by omega)]
  first | (simp only [own_sum, Int64.zero_add, Int64.add_zero]; done) | simp [own_sum]
theorem own_law8 {q : Int64} (hq : 0 ≤ q.toInt ∧ q.toInt < 4611686018427387904) (hp : 0 < q) (hall : ∀ i, i < 7 → 1 < own_s q i) (hl : ¬ (1 < own_s q 7)) : own_sum q 8 = own_nodes q := by
  have lo : 4294967296 < q.toInt := by
    have h := Int64.lt_iff_toInt_lt.mp (hall 6 (by decide))
    rw [own_c6 hq, show (1 : Int64).toInt = 1 from by decide] at h; omega
  have hi : q.toInt ≤ 68719476736 := by
    rw [Int64.lt_iff_toInt_lt, own_c7 hq, show (1 : Int64).toInt = 1 from by decide] at hl; omega
  unfold own_nodes
  rw [own_lvY0 hq (by omega), own_lvY1 hq (by omega), own_lvY2 hq (by omega), own_lvY3 hq (by omega), own_lvY4 hq (by omega), own_lvY5 hq (by omega), own_lvY6 hq (by omega), own_lvY7 hq (by omega), own_lvN8 (by omega), own_lvN9 (by omega), own_lvN10 (by omega), own_lvN11 (by omega), own_lvN12 (by omega), own_lvN13 (by omega), own_lvN14 (by omega)]
  first | (simp only [own_sum, Int64.zero_add, Int64.add_zero]; done) | simp [own_sum]
theorem own_law9 {q : Int64} (hq : 0 ≤ q.toInt ∧ q.toInt < 4611686018427387904) (hp : 0 < q) (hall : ∀ i, i < 8 → 1 < own_s q i) (hl : ¬ (1 < own_s q 8)) : own_sum q 9 = own_nodes q := by
  have lo : 68719476736 < q.toInt := by
    have h := Int64.lt_iff_toInt_lt.mp (hall 7 (by decide))
    rw [own_c7 hq, show (1 : Int64).toInt = 1 from by decide] at h; omega
  have hi : q.toInt ≤ 1099511627776 := by
    rw [Int64.lt_iff_toInt_lt, own_c8 hq, show (1 : Int64).toInt = 1 from by decide] at hl; omega
  unfold own_nodes
  rw [own_lvY0 hq (by omega), own_lvY1 hq (by omega), own_lvY2 hq (by omega), own_lvY3 hq (by omega), own_lvY4 hq (by omega), own_lvY5 hq (by omega), own_lvY6 hq (by omega), own_lvY7 hq (by omega), own_lvY8 hq (by omega), own_lvN9 (by omega), own_lvN10 (by omega), own_lvN11 (by omega), own_lvN12 (by omega), own_lvN13 (by omega), own_lvN14 (by omega)]
  first | (simp only [own_sum, Int64.zero_add, Int64.add_zero]; done) | simp [own_sum]
theorem own_law10 {q : Int64} (hq : 0 ≤ q.toInt ∧ q.toInt < 4611686018427387904) (hp : 0 < q) (hall : ∀ i, i < 9 → 1 < own_s q i) (hl : ¬ (1 < own_s q 9)) : own_sum q 10 = own_nodes q := by
  have lo : 1099511627776 < q.toInt := by
    have h := Int64.lt_iff_toInt_lt.mp (hall 8 (by decide))
    rw [own_c8 hq, show (1 : Int64).toInt = 1 from by decide] at h; omega
  have hi : q.toInt ≤ 17592186044416 := by
    rw [Int64.lt_iff_toInt_lt, own_c9 hq, show (1 : Int64).toInt = 1 from by decide] at hl; omega
  unfold own_nodes
  rw [own_lvY0 hq (by omega), own_lvY1 hq (by omega), own_lvY2 hq (by omega), own_lvY3 hq (by omega), own_lvY4 hq (by omega), own_lvY5 hq (by omega), own_lvY6 hq (by omega), own_lvY7 hq (by omega), own_lvY8 hq (by omega), own_lvY9 hq (by omega), own_lvN10 (by omega), own_lvN11 (by omega), own_lvN12 (by omega), own_lvN13 (by omega), own_lvN14 (by omega)]
  first | (simp only [own_sum, Int64.zero_add, Int64.add_zero]; done) | simp [own_sum]
theorem own_law11 {q : Int64} (hq : 0 ≤ q.toInt ∧ q.toInt < 4611686018427387904) (hp : 0 < q) (hall : ∀ i, i < 10 → 1 < own_s q i) (hl : ¬ (1 < own_s q 10)) : own_sum q 11 = own_nodes q := by
  have lo : 17592186044416 < q.toInt := by
    have h := Int64.lt_iff_toInt_lt.mp (hall 9 (by decide))
    rw [own_c9 hq, show (1 : Int64).toInt = 1 from by decide] at h; omega
  have hi : q.toInt ≤ 281474976710656 := by
    rw [Int64.lt_iff_toInt_lt, own_c10 hq, show (1 : Int64).toInt = 1 from by decide] at hl; omega
  unfold own_nodes
  rw [own_lvY0 hq (by omega), own_lvY1 hq (by omega), own_lvY2 hq (by omega), own_lvY3 hq (by omega), own_lvY4 hq (by omega), own_lvY5 hq (by omega), own_lvY6 hq (by omega), own_lvY7 hq (by omega), own_lvY8 hq (by omega), own_lvY9 hq (by omega), own_lvY10 hq (by omega), own_lvN11 (by omega), own_lvN12 (by omega), own_lvN13 (by omega), own_lvN14 (by omega)]
  first | (simp only [own_sum, Int64.zero_add, Int64.add_zero]; done) | simp [own_sum]
theorem own_law12 {q : Int64} (hq : 0 ≤ q.toInt ∧ q.toInt < 4611686018427387904) (hp : 0 < q) (hall : ∀ i, i < 11 → 1 < own_s q i) (hl : ¬ (1 < own_s q 11)) : own_sum q 12 = own_nodes q := by
  have lo : 281474976710656 < q.toInt := by
    have h := Int64.lt_iff_toInt_lt.mp (hall 10 (by decide))
    rw [own_c10 hq, show (1 : Int64).toInt = 1 from by decide] at h; omega
  have hi : q.toInt ≤ 4503599627370496 := by
    rw [Int64.lt_iff_toInt_lt, own_c11 hq, show (1 : Int64).toInt = 1 from by decide] at hl; omega
  unfold own_nodes
  rw [own_lvY0 hq (by omega), own_lvY1 hq (by omega), own_lvY2 hq (by omega), own_lvY3 hq (by omega), own_lvY4 hq (by omega), own_lvY5 hq (by omega), own_lvY6 hq (by omega), own_lvY7 hq (by omega), own_lvY8 hq (by omega), own_lvY9 hq (by omega), own_lvY10 hq (by omega), own_lvY11 hq (by omega), own_lvN12 (by omega), own_lvN13 (by omega), own_lvN14 (by omega)]
  first | (simp only [own_sum, Int64.zero_add, Int64.add_zero]; done) | simp [own_sum]
theorem own_law13 {q : Int64} (hq : 0 ≤ q.toInt ∧ q.toInt < 4611686018427387904) (hp : 0 < q) (hall : ∀ i, i < 12 → 1 < own_s q i) (hl : ¬ (1 < own_s q 12)) : own_sum q 13 = own_nodes q := by
  have lo : 4503599627370496 < q.toInt := by
    have h := Int64.lt_iff_toInt_lt.mp (hall 11 (by decide))
    rw [own_c11 hq, show (1 : Int64).toInt = 1 from by decide] at h; omega
  have hi : q.toInt ≤ 72057594037927936 := by
    rw [Int64.lt_iff_toInt_lt, own_c12 hq, show (1 : Int64).toInt = 1 from by decide] at hl; omega
  unfold own_nodes
  rw [own_lvY0 hq (by omega), own_lvY1 hq (by omega), own_lvY2 hq (by omega), own_lvY3 hq (by omega), own_lvY4 hq (by omega), own_lvY5 hq (by omega), own_lvY6 hq (by omega), own_lvY7 hq (by omega), own_lvY8 hq (by omega), own_lvY9 hq (by omega), own_lvY10 hq (by omega), own_lvY11 hq (by omega), own_lvY12 hq (by omega), own_lvN13 (by omega), own_lvN14 (by omega)]
  first | (simp only [own_sum, Int64.zero_add, Int64.add_zero]; done) | simp [own_sum]
theorem own_law14 {q : Int64} (hq : 0 ≤ q.toInt ∧ q.toInt < 4611686018427387904) (hp : 0 < q) (hall : ∀ i, i < 13 → 1 < own_s q i) (hl : ¬ (1 < own_s q 13)) : own_sum q 14 = own_nodes q := by
  have lo : 72057594037927936 < q.toInt := by
    have h := Int64.lt_iff_toInt_lt.mp (hall 12 (by decide))
    rw [own_c12 hq, show (1 : Int64).toInt = 1 from by decide] at h; omega
  have hi : q.toInt ≤ 1152921504606846976 := by
    rw [Int64.lt_iff_toInt_lt, own_c13 hq, show (1 : Int64).toInt = 1 from by decide] at hl; omega
  unfold own_nodes
  rw [own_lvY0 hq (by omega), own_lvY1 hq (by omega), own_lvY2 hq (by omega), own_lvY3 hq (by omega), own_lvY4 hq (by omega), own_lvY5 hq (by omega), own_lvY6 hq (by omega), own_lvY7 hq (by omega), own_lvY8 hq (by omega), own_lvY9 hq (by omega), own_lvY10 hq (by omega), own_lvY11 hq (by omega), own_lvY12 hq (by omega), own_lvY13 hq (by omega), own_lvN14 (by omega)]
  first | (simp only [own_sum, Int64.zero_add, Int64.add_zero]; done) | simp [own_sum]
theorem own_law15 {q : Int64} (hq : 0 ≤ q.toInt ∧ q.toInt < 4611686018427387904) (hp : 0 < q) (hall : ∀ i, i < 14 → 1 < own_s q i) (hl : ¬ (1 < own_s q 14)) : own_sum q 15 = own_nodes q := by
  have lo : 1152921504606846976 < q.toInt := by
    have h := Int64.lt_iff_toInt_lt.mp (hall 13 (by decide))
    rw [own_c13 hq, show (1 : Int64).toInt = 1 from by decide] at h; omega
  have hi : q.toInt ≤ 18446744073709551616 := by
    rw [Int64.lt_iff_toInt_lt, own_c14 hq, show (1 : Int64).toInt = 1 from by decide] at hl; omega
  unfold own_nodes
  rw [own_lvY0 hq (by omega), own_lvY1 hq (by omega), own_lvY2 hq (by omega), own_lvY3 hq (by omega), own_lvY4 hq (by omega), own_lvY5 hq (by omega), own_lvY6 hq (by omega), own_lvY7 hq (by omega), own_lvY8 hq (by omega), own_lvY9 hq (by omega), own_lvY10 hq (by omega), own_lvY11 hq (by omega), own_lvY12 hq (by omega), own_lvY13 hq (by omega), own_lvY14 hq (by omega)]
  first | (simp only [own_sum, Int64.zero_add, Int64.add_zero]; done) | simp [own_sum]
theorem own_law {q : Int64} (hq : 0 ≤ q.toInt ∧ q.toInt < 4611686018427387904) {k : Nat} (L : own_Lv q k) (hk : k ≤ 15) : own_sum q k = own_nodes q := by
  rcases L with ⟨rfl, h0⟩ | ⟨j, rfl, hp, hall, hl⟩
  · refine own_law0 ?_
    rw [Int64.lt_iff_toInt_lt, show (0 : Int64).toInt = 0 from by decide] at h0; omega
  · match j, hk, hall, hl with
    | 0, _, hall, hl => exact own_law1 hq hp hall hl
    | 1, _, hall, hl => exact own_law2 hq hp hall hl
    | 2, _, hall, hl => exact own_law3 hq hp hall hl
    | 3, _, hall, hl => exact own_law4 hq hp hall hl
    | 4, _, hall, hl => exact own_law5 hq hp hall hl
    | 5, _, hall, hl => exact own_law6 hq hp hall hl
    | 6, _, hall, hl => exact own_law7 hq hp hall hl
    | 7, _, hall, hl => exact own_law8 hq hp hall hl
    | 8, _, hall, hl => exact own_law9 hq hp hall hl
    | 9, _, hall, hl => exact own_law10 hq hp hall hl
    | 10, _, hall, hl => exact own_law11 hq hp hall hl
    | 11, _, hall, hl => exact own_law12 hq hp hall hl
    | 12, _, hall, hl => exact own_law13 hq hp hall hl
    | 13, _, hall, hl => exact own_law14 hq hp hall hl
    | 14, _, hall, hl => exact own_law15 hq hp hall hl
    | j + 15, hk, _, _ => exact absurd hk (by omega)
theorem own_mul40 {q : Int64} (hq : 0 ≤ q.toInt ∧ q.toInt < 4611686018427387904) {k : Nat} (L : own_Lv q k) (hk : k ≤ 15) : 40 * own_sum q k = 40 * own_nodes q := by rw [own_law hq L hk]
/-- the two ways in which the law makes its n -/
theorem own_n1 (x : Int64) (y : Int32) : 0 ≤ (XT.ushrL (x &&& 4611686018427387903) y).toInt ∧ (XT.ushrL (x &&& 4611686018427387903) y).toInt < 4611686018427387904 := by
  have q : (x &&& 4611686018427387903).toInt = x.toInt % (2 ^ 62 : Nat) := c_maskL x 4611686018427387903 62 (by decide) (by decide)
  have b : 0 ≤ (x &&& 4611686018427387903).toInt ∧ (x &&& 4611686018427387903).toInt < 4611686018427387904 := by rw [q]; omega
  obtain ⟨n, hn⟩ : ∃ n : UInt64, n = (y.toInt64.toUInt64 &&& Int64.toUInt64 63) := ⟨_, rfl⟩
  have hk : n.toNat < 64 := by
    rw [hn, UInt64.toNat_and]
    exact Nat.lt_of_le_of_lt Nat.and_le_right (by decide)
  have e : (XT.ushrL (x &&& 4611686018427387903) y).toInt = (x &&& 4611686018427387903).toInt / 2 ^ n.toNat := by
    unfold XT.ushrL
    rw [← hn]; exact Jvm.Kit.i64_lushr (Jvm.Kit.i64_nonneg.mpr b.1) rfl hk
  rw [e]
  have hp : (0 : Int) < 2 ^ n.toNat := Int.pow_pos (by decide)
  exact ⟨Int.ediv_nonneg b.1 (Int.le_of_lt hp), Int.lt_of_le_of_lt (Int.ediv_le_self _ b.1) b.2⟩
theorem own_shl : ∀ n : Fin 62, 1 ≤ ((1 : Int64) <<< ((Int32.ofNat n.val).toInt64 &&& 63)).toInt ∧ ((1 : Int64) <<< ((Int32.ofNat n.val).toInt64 &&& 63)).toInt ≤ 2305843009213693952 := by decide +kernel
theorem own_rem (x : Int32) (m : Int32) (n : Int) (hm : m.toInt = n) (hn : 0 < n) : 0 ≤ ((x &&& 2147483647) % m).toInt ∧ ((x &&& 2147483647) % m).toInt < n := by
  have q : (x &&& 2147483647).toInt = x.toInt % (2 ^ 31 : Nat) := c_mask x 2147483647 31 (by decide) (by decide)
  have b : 0 ≤ (x &&& 2147483647).toInt := by rw [q]; omega
  have e : ((x &&& 2147483647) % m).toInt = (x &&& 2147483647).toInt.tmod n := by rw [Int32.toInt_mod, hm]
  rw [e, Int.tmod_eq_emod_of_nonneg b]
  exact ⟨Int.emod_nonneg _ (by omega), Int.emod_lt_of_pos _ hn⟩
theorem own_n2 (x y : Int32) : 0 ≤ ((1 : Int64) <<< (((x &&& 2147483647) % 62).toInt64 &&& 63) + (((y &&& 2147483647) % 3).toInt64 - 1)).toInt ∧ ((1 : Int64) <<< (((x &&& 2147483647) % 62).toInt64 &&& 63) + (((y &&& 2147483647) % 3).toInt64 - 1)).toInt < 4611686018427387904 := by
  obtain ⟨a, ha⟩ : ∃ a, a = (x &&& 2147483647) % 62 := ⟨_, rfl⟩
  obtain ⟨b, hb⟩ : ∃ b, b = (y &&& 2147483647) % 3 := ⟨_, rfl⟩
  have ra := own_rem x 62 62 (by decide) (by decide)
  have rb := own_rem y 3 3 (by decide) (by decide)
  rw [← ha] at ra ⊢
  rw [← hb] at rb ⊢
  have ea : a = Int32.ofNat a.toInt.toNat := by
    apply Int32.toInt_inj.mp
    rw [Int32.toInt_ofNat_small (by omega)]; omega
  have s := own_shl ⟨a.toInt.toNat, by omega⟩
  dsimp only at s
  rw [← ea] at s
  have e1 : (b.toInt64 - 1).toInt = b.toInt - 1 := by
    have e0 : (1 : Int64).toInt = 1 := by decide
    rw [Jvm.Kit.i64_sub (by rw [Jvm.Kit.i64_of_i32, e0]; omega) (by rw [Jvm.Kit.i64_of_i32, e0]; omega), Jvm.Kit.i64_of_i32, e0]
  rw [Jvm.Kit.i64_add (by rw [e1]; omega) (by rw [e1]; omega), e1]
  omega
theorem own_nn {i : Nat} (h : i < 2 ^ 31) : ¬ (Int32.ofNat i < 0) := Int32.ofNat_not_neg h
theorem own_lt {i n : Nat} (h : i < n) (hn : n < 2 ^ 31) : Int32.ofNat i < Int32.ofNat n := (Int32.ofNat_lt_ofNat (by omega) hn).mpr h
theorem own_nlt {n : Nat} : ¬ (Int32.ofNat n < Int32.ofNat n) := fun z => by rw [Int32.lt_iff_toInt_lt] at z; omega
theorem own_clm {i : Nat} (h : i < 2 ^ 31) : (Int32.ofNat i).toNatClampNeg = i := Example.SumArray.toNatClampNeg_ofNat h
theorem own_inc (i : Nat) : Int32.ofNat i + 1 = Int32.ofNat (i + 1) := by rw [Int32.ofNat_add]; rfl
theorem own_dec {i : Nat} (h : 0 < i) : Int32.ofNat i - 1 = Int32.ofNat (i - 1) := by
  obtain ⟨j, rfl⟩ : ∃ j, i = j + 1 := ⟨i - 1, by omega⟩
  rw [← own_inc]; exact Int32.add_sub_cancel _ _
theorem own_pos {i : Nat} (h : ¬ (Int32.ofNat i = 0)) : 0 < i := by
  rcases Nat.eq_zero_or_pos i with q | q
  · subst q; exact absurd rfl h
  · exact q
theorem own_setget {vs : List Value} {i : Nat} {v d : Value} (h : i < vs.length) : (vs.set i v).getD i d = v := by simp [List.getD_eq_getElem?_getD, h]
theorem own_lng {Z : State} {h : Heap} {a : Addr} {k : ClassId} {z : Int32} {vs : List Value} {d : Value} (A : Arv Z h a k .long z vs d) {i : Nat} (hi : i < z.toNatClampNeg) : ∃ w : Int64, vs.getD i d = .long w := by
  obtain ⟨c, Ar, -, Sz, M, H, G⟩ := A
  have q := G i (by rw [Sz]; exact hi)
  cases hv : vs.getD i d <;> rw [hv] at q <;> first | exact ⟨_, rfl⟩ | (simp [fits] at q)
def own_sl2 (u v : Slot) : Prop := (u = .unset ∧ v = .unset) ∨ ∃ w : Int64, u = .val (.long w) ∧ v = .second
theorem own_st4 {x0 x1 x2 x3 u4 u5 : Slot} {z : Int32} (U : own_sl2 u4 u5) : storeLocals #[x0, x1, x2, x3, u4, u5, .unset] 4 (.int z) = some #[x0, x1, x2, x3, .val (.int z), .unset, .unset] := by
  rcases U with ⟨rfl, rfl⟩ | ⟨w, rfl, rfl⟩ <;> rfl
theorem own_st5 {x0 x1 x2 x3 x4 u5 u6 : Slot} {z : Int64} (U : own_sl2 u5 u6) : storeLocals #[x0, x1, x2, x3, x4, u5, u6] 5 (.long z) = some #[x0, x1, x2, x3, x4, .val (.long z), .second] := by
  rcases U with ⟨rfl, rfl⟩ | ⟨w, rfl, rfl⟩ <;> rfl
def own_slo (k : Nat) : Nat := 3 + 11 * k + (if k ≤ 10 then 0 else 5)
theorem own_slo_step (k : Nat) : own_slo k + (1 + if k = 10 then 15 else 10) = own_slo (k + 1) := by
  unfold own_slo
  by_cases a : k = 10
  · subst a; rfl
  · rw [if_neg a]
    by_cases b : k ≤ 10
    · rw [if_pos b, if_pos (by omega)]; omega
    · rw [if_neg b, if_neg (by omega)]; omega
theorem own0_0 : decode prog_65_method_6_code 0 = .ok (.lload_n 0, 1) := by decide +kernel
theorem own0_1 : decode prog_65_method_6_code 1 = .ok (.lload_n 2, 1) := by decide +kernel
theorem own0_2 : decode prog_65_method_6_code 2 = .ok (.ladd, 1) := by decide +kernel
theorem own0_3 : decode prog_65_method_6_code 3 = .ok (.lconst 1, 1) := by decide +kernel
theorem own0_4 : decode prog_65_method_6_code 4 = .ok (.lsub, 1) := by decide +kernel
theorem own0_5 : decode prog_65_method_6_code 5 = .ok (.lload_n 2, 1) := by decide +kernel
theorem own0_6 : decode prog_65_method_6_code 6 = .ok (.ldiv, 1) := by decide +kernel
theorem own0_7 : decode prog_65_method_6_code 7 = .ok (.lreturn, 1) := by decide +kernel
theorem own_pn_com_example_wingrow_wingrow_store_SummaryTree : plainName "com/example/wingrow/wingrow/store/SummaryTree" = true := by first | (simp [plainName, overriddenIn]; done) | decide +kernel
theorem ef4JJ (m : MethodId) (x0 : Int64) (x1 : Int64) : entryFrame m #[(.long x0), (.long x1)] 4 = mkF m 0 #[.val (.long x0), .second, .val (.long x1), .second] [] := by first | (simp [entryFrame, mkF, argsToLocals, Value.category]; done) | rfl
def Q_cd (Z : State) (q1 q2 : Int64) (h0 : Heap) (n0 : Nat) (v : Option Value) (h : Heap) (L : List Loc) : Prop := v = some (.long ((q1 + q2 - 1) / q2)) ∧ Fr n0 L ∧ h = h0
set_option maxRecDepth 65536 in
set_option maxHeartbeats 40000000 in
theorem rm_cd (l : Launch) (Z : State) (a0 : Array Value) (hw : ∀ d ∈ tables_1, d.before a0 Z = true) (ws : List Jvm.Cond) (q1 q2 : Int64) (h0 : Heap) (n0 : Nat) (Z0 : n0 ≤ h0.size) (hn : q2 ≠ 0) : own_Met l Z ⟨"com/example/wingrow/wingrow/store/SummaryTree", "ceilDiv", "(JJ)J"⟩ prog_65_method_6_code 4 (some .long) ws ⟨0, 0, 0, 0⟩ #[(.long q1), (.long q2)] h0 (Q_cd Z q1 q2 h0 n0) := by
  refine own_met n0 own_pn_com_example_wingrow_wingrow_store_SummaryTree (fun m => ef4JJ m q1 q2) ?_
  intro p e s m below meth c T lc hret hx hZ hby hml hown hnm hlk X eT N
  refine own_lloadN X hx (hb hby own0_0) (pc' := 1) rfl rfl ?_
  refine own_lloadN X hx (hb hby own0_1) (pc' := 2) rfl rfl ?_
  refine own_ladd X hx (hb hby own0_2) (pc' := 3) rfl ?_
  refine own_lconst X hx (1 : Int64) (hb hby own0_3) (pc' := 4) rfl rfl ?_
  refine own_lsub X hx (hb hby own0_4) (pc' := 5) rfl ?_
  refine own_lloadN X hx (hb hby own0_5) (pc' := 6) rfl rfl ?_
  refine own_ldiv X hx (hb hby own0_6) (pc' := 7) rfl hn ?_
  refine own_retJ X hx hlk hret (hb hby own0_7) (by decide) (by decide) ?_
  rw [eT]
  exact ⟨rfl, N, rfl⟩
theorem own1_0 : decode method_5_code 0 = .ok (.iload_n 2, 1) := by decide +kernel
theorem own1_1 : decode method_5_code 1 = .ok (.bipush 63, 2) := by decide +kernel
theorem own1_3 : decode method_5_code 3 = .ok (.if_icmp .lt 15, 3) := by decide +kernel
theorem own1_18 : decode method_5_code 18 = .ok (.lload_n 0, 1) := by decide +kernel
theorem own1_19 : decode method_5_code 19 = .ok (.lconst 1, 1) := by decide +kernel
theorem own1_20 : decode method_5_code 20 = .ok (.iload_n 2, 1) := by decide +kernel
theorem own1_21 : decode method_5_code 21 = .ok (.lshl, 1) := by decide +kernel
theorem own1_22 : decode method_5_code 22 = .ok (.lconst 1, 1) := by decide +kernel
theorem own1_23 : decode method_5_code 23 = .ok (.lsub, 1) := by decide +kernel
theorem own1_24 : decode method_5_code 24 = .ok (.land, 1) := by decide +kernel
theorem own1_25 : decode method_5_code 25 = .ok (.lstore_n 3, 1) := by decide +kernel
theorem own1_26 : decode method_5_code 26 = .ok (.lload_n 0, 1) := by decide +kernel
theorem own1_27 : decode method_5_code 27 = .ok (.iload_n 2, 1) := by decide +kernel
theorem own1_28 : decode method_5_code 28 = .ok (.lushr, 1) := by decide +kernel
theorem own1_29 : decode method_5_code 29 = .ok (.lload_n 3, 1) := by decide +kernel
theorem own1_30 : decode method_5_code 30 = .ok (.lconst 0, 1) := by decide +kernel
theorem own1_31 : decode method_5_code 31 = .ok (.lcmp, 1) := by decide +kernel
theorem own1_32 : decode method_5_code 32 = .ok (.ifCond .eq 7, 3) := by decide +kernel
theorem own1_39 : decode method_5_code 39 = .ok (.iconst 0, 1) := by decide +kernel
theorem own1_40 : decode method_5_code 40 = .ok (.i2l, 1) := by decide +kernel
theorem own1_41 : decode method_5_code 41 = .ok (.ladd, 1) := by decide +kernel
theorem own1_42 : decode method_5_code 42 = .ok (.lreturn, 1) := by decide +kernel
theorem own1_35 : decode method_5_code 35 = .ok (.iconst 1, 1) := by decide +kernel
theorem own1_36 : decode method_5_code 36 = .ok (.goto 4, 3) := by decide +kernel
theorem own1_6 : decode method_5_code 6 = .ok (.lload_n 0, 1) := by decide +kernel
theorem own1_7 : decode method_5_code 7 = .ok (.lconst 0, 1) := by decide +kernel
theorem own1_8 : decode method_5_code 8 = .ok (.lcmp, 1) := by decide +kernel
theorem own1_9 : decode method_5_code 9 = .ok (.ifCond .le 7, 3) := by decide +kernel
theorem own1_16 : decode method_5_code 16 = .ok (.lconst 0, 1) := by decide +kernel
theorem own1_17 : decode method_5_code 17 = .ok (.lreturn, 1) := by decide +kernel
theorem own1_12 : decode method_5_code 12 = .ok (.lconst 1, 1) := by decide +kernel
theorem own1_13 : decode method_5_code 13 = .ok (.goto 4, 3) := by decide +kernel
theorem own_pn_com_example_wingrow_wingrow_store_SummaryTreeBytesPinLaw : plainName "com/example/wingrow/wingrow/store/SummaryTreeBytesPinLaw" = true := by first | (simp [plainName, overriddenIn]; done) | decide +kernel
theorem ef5JI (m : MethodId) (x0 : Int64) (x1 : Int32) : entryFrame m #[(.long x0), (.int x1)] 5 = mkF m 0 #[.val (.long x0), .second, .val (.int x1), .unset, .unset] [] := by first | (simp [entryFrame, mkF, argsToLocals, Value.category]; done) | rfl
def Q_cp (Z : State) (q1 : Int64) (e1 : Int32) (h0 : Heap) (n0 : Nat) (v : Option Value) (h : Heap) (L : List Loc) : Prop := v = some (.long (own_cp q1 e1)) ∧ Fr n0 L ∧ h = h0
set_option maxRecDepth 65536 in
set_option maxHeartbeats 40000000 in
theorem rm_cp (l : Launch) (Z : State) (a0 : Array Value) (hw : ∀ d ∈ tables_1, d.before a0 Z = true) (ws : List Jvm.Cond) (q1 : Int64) (e1 : Int32) (h0 : Heap) (n0 : Nat) (Z0 : n0 ≤ h0.size)  : own_Met l Z ⟨"com/example/wingrow/wingrow/store/SummaryTreeBytesPinLaw", "ceilPow2", "(JI)J"⟩ method_5_code 5 (some .long) ws ⟨0, 0, 0, 0⟩ #[(.long q1), (.int e1)] h0 (Q_cp Z q1 e1 h0 n0) := by
  refine own_met n0 own_pn_com_example_wingrow_wingrow_store_SummaryTreeBytesPinLaw (fun m => ef5JI m q1 e1) ?_
  intro p e s m below meth c T lc hret hx hZ hby hml hown hnm hlk X eT N
  refine own_iloadN X hx (hb hby own1_0) (pc' := 1) rfl rfl ?_
  refine own_bipush X hx (63 : Int32) (hb hby own1_1) (pc' := 3) rfl rfl ?_
  refine own_icmp X hx (hb hby own1_3) (by decide) (pcY := 18) (pcN := 6) rfl rfl (fun (hc3 : e1 < (63 : Int32)) => ?_) (fun (hc3 : ¬ (e1 < (63 : Int32))) => ?_)
  · refine own_lloadN X hx (hb hby own1_18) (pc' := 19) rfl rfl ?_
    refine own_lconst X hx (1 : Int64) (hb hby own1_19) (pc' := 20) rfl rfl ?_
    refine own_iloadN X hx (hb hby own1_20) (pc' := 21) rfl rfl ?_
    refine own_lshl X hx (hb hby own1_21) (pc' := 22) rfl ?_
    refine own_lconst X hx (1 : Int64) (hb hby own1_22) (pc' := 23) rfl rfl ?_
    refine own_lsub X hx (hb hby own1_23) (pc' := 24) rfl ?_
    refine own_land X hx (hb hby own1_24) (pc' := 25) rfl ?_
    refine own_lstoreN X hx (hb hby own1_25) (pc' := 26) rfl (Ls' := #[.val (.long q1), .second, .val (.int e1), .val (.long (q1 &&& (((1 : Int64) <<< (e1.toInt64 &&& 63)) - (1 : Int64)))), .second]) rfl ?_
    refine own_lloadN X hx (hb hby own1_26) (pc' := 27) rfl rfl ?_
    refine own_iloadN X hx (hb hby own1_27) (pc' := 28) rfl rfl ?_
    refine own_lushr X hx (hb hby own1_28) (pc' := 29) rfl ?_
    refine own_lloadN X hx (hb hby own1_29) (pc' := 30) rfl rfl ?_
    refine own_lconst X hx (0 : Int64) (hb hby own1_30) (pc' := 31) rfl rfl ?_
    refine own_lc X hx (hb hby own1_31) (hb hby own1_32) (by decide) (pcY := 39) (pcN := 35) rfl rfl (fun (hc31 : (q1 &&& (((1 : Int64) <<< (e1.toInt64 &&& 63)) - (1 : Int64))) = (0 : Int64)) => ?_) (fun (hc31 : ¬ ((q1 &&& (((1 : Int64) <<< (e1.toInt64 &&& 63)) - (1 : Int64))) = (0 : Int64))) => ?_)
    · refine own_iconst X hx (0 : Int32) (hb hby own1_39) (pc' := 40) rfl rfl ?_
      refine own_i2l X hx (hb hby own1_40) (pc' := 41) rfl ?_
      refine own_ladd X hx (hb hby own1_41) (pc' := 42) rfl ?_
      refine own_retJ X hx hlk hret (hb hby own1_42) (by decide) (by decide) ?_
      rw [eT]
      exact ⟨by unfold own_cp; rw [if_pos hc3, if_pos hc31], N, rfl⟩
    · refine own_iconst X hx (1 : Int32) (hb hby own1_35) (pc' := 36) rfl rfl ?_
      refine own_goto X hx (hb hby own1_36) (by decide) (pc' := 40) rfl ?_
      refine own_i2l X hx (hb hby own1_40) (pc' := 41) rfl ?_
      refine own_ladd X hx (hb hby own1_41) (pc' := 42) rfl ?_
      refine own_retJ X hx hlk hret (hb hby own1_42) (by decide) (by decide) ?_
      rw [eT]
      exact ⟨by unfold own_cp; rw [if_pos hc3, if_neg hc31], N, rfl⟩
  · refine own_lloadN X hx (hb hby own1_6) (pc' := 7) rfl rfl ?_
    refine own_lconst X hx (0 : Int64) (hb hby own1_7) (pc' := 8) rfl rfl ?_
    refine own_lc X hx (hb hby own1_8) (hb hby own1_9) (by decide) (pcY := 16) (pcN := 12) rfl rfl (fun (hc8 : ¬ ((0 : Int64) < q1)) => ?_) (fun (hc8 : (0 : Int64) < q1) => ?_)
    · refine own_lconst X hx (0 : Int64) (hb hby own1_16) (pc' := 17) rfl rfl ?_
      refine own_retJ X hx hlk hret (hb hby own1_17) (by decide) (by decide) ?_
      rw [eT]
      exact ⟨by unfold own_cp; rw [if_neg hc3, if_neg hc8], N, rfl⟩
    · refine own_lconst X hx (1 : Int64) (hb hby own1_12) (pc' := 13) rfl rfl ?_
      refine own_goto X hx (hb hby own1_13) (by decide) (pc' := 17) rfl ?_
      refine own_retJ X hx hlk hret (hb hby own1_17) (by decide) (by decide) ?_
      rw [eT]
      exact ⟨by unfold own_cp; rw [if_neg hc3, if_pos hc8], N, rfl⟩
theorem own2_0 : decode method_4_code 0 = .ok (.iload_n 2, 1) := by decide +kernel
theorem own2_1 : decode method_4_code 1 = .ok (.ifCond .ne 17, 3) := by decide +kernel
theorem own2_18 : decode method_4_code 18 = .ok (.lload_n 0, 1) := by decide +kernel
theorem own2_19 : decode method_4_code 19 = .ok (.lconst 1, 1) := by decide +kernel
theorem own2_20 : decode method_4_code 20 = .ok (.iconst 4, 1) := by decide +kernel
theorem own2_21 : decode method_4_code 21 = .ok (.iconst 4, 1) := by decide +kernel
theorem own2_22 : decode method_4_code 22 = .ok (.iload_n 2, 1) := by decide +kernel
theorem own2_23 : decode method_4_code 23 = .ok (.imul, 1) := by decide +kernel
theorem own2_24 : decode method_4_code 24 = .ok (.iadd, 1) := by decide +kernel
theorem own2_25 : decode method_4_code 25 = .ok (.lshl, 1) := by decide +kernel
theorem own2_26 : decode method_4_code 26 = .ok (.lcmp, 1) := by decide +kernel
theorem own2_27 : decode method_4_code 27 = .ok (.ifCond .le 7, 3) := by decide +kernel
theorem own2_34 : decode method_4_code 34 = .ok (.iconst 0, 1) := by decide +kernel
theorem own2_35 : decode method_4_code 35 = .ok (.istore_n 3, 1) := by decide +kernel
theorem own2_36 : decode method_4_code 36 = .ok (.iload_n 3, 1) := by decide +kernel
theorem own2_37 : decode method_4_code 37 = .ok (.ifCond .ne 5, 3) := by decide +kernel
theorem own2_40 : decode method_4_code 40 = .ok (.lconst 0, 1) := by decide +kernel
theorem own2_41 : decode method_4_code 41 = .ok (.lreturn, 1) := by decide +kernel
theorem own2_30 : decode method_4_code 30 = .ok (.iconst 1, 1) := by decide +kernel
theorem own2_31 : decode method_4_code 31 = .ok (.goto 4, 3) := by decide +kernel
theorem own2_42 : decode method_4_code 42 = .ok (.lload_n 0, 1) := by decide +kernel
theorem own2_43 : decode method_4_code 43 = .ok (.bipush 8, 2) := by decide +kernel
theorem own2_45 : decode method_4_code 45 = .ok (.iconst 4, 1) := by decide +kernel
theorem own2_46 : decode method_4_code 46 = .ok (.iload_n 2, 1) := by decide +kernel
theorem own2_47 : decode method_4_code 47 = .ok (.imul, 1) := by decide +kernel
theorem own2_48 : decode method_4_code 48 = .ok (.iadd, 1) := by decide +kernel
theorem own2_49 : decode method_4_code 49 = .ok (.invokestatic 31, 3) := by decide +kernel
theorem own_pd_28JI29J : parseMethodDescriptor "(JI)J" = some ⟨[.long, .int], some .long⟩ := by decide +kernel
theorem own2_52 : decode method_4_code 52 = .ok (.lreturn, 1) := by decide +kernel
theorem own2_4 : decode method_4_code 4 = .ok (.lload_n 0, 1) := by decide +kernel
theorem own2_5 : decode method_4_code 5 = .ok (.lconst 0, 1) := by decide +kernel
theorem own2_6 : decode method_4_code 6 = .ok (.lcmp, 1) := by decide +kernel
theorem own2_7 : decode method_4_code 7 = .ok (.ifCond .le 7, 3) := by decide +kernel
theorem own2_14 : decode method_4_code 14 = .ok (.iconst 0, 1) := by decide +kernel
theorem own2_15 : decode method_4_code 15 = .ok (.goto 20, 3) := by decide +kernel
theorem own2_10 : decode method_4_code 10 = .ok (.iconst 1, 1) := by decide +kernel
theorem own2_11 : decode method_4_code 11 = .ok (.goto 24, 3) := by decide +kernel
theorem ef4JI (m : MethodId) (x0 : Int64) (x1 : Int32) : entryFrame m #[(.long x0), (.int x1)] 4 = mkF m 0 #[.val (.long x0), .second, .val (.int x1), .unset] [] := by first | (simp [entryFrame, mkF, argsToLocals, Value.category]; done) | rfl
def Q_lvl (Z : State) (q1 : Int64) (k1 : Int32) (h0 : Heap) (n0 : Nat) (v : Option Value) (h : Heap) (L : List Loc) : Prop := v = some (.long (own_lv q1 k1)) ∧ Fr n0 L ∧ h = h0
set_option maxRecDepth 65536 in
set_option maxHeartbeats 40000000 in
theorem rm_lvl (l : Launch) (Z : State) (a0 : Array Value) (hw : ∀ d ∈ tables_1, d.before a0 Z = true) (ws : List Jvm.Cond) (q1 : Int64) (k1 : Int32) (h0 : Heap) (n0 : Nat) (Z0 : n0 ≤ h0.size)  : own_Met l Z ⟨"com/example/wingrow/wingrow/store/SummaryTreeBytesPinLaw", "level", "(JI)J"⟩ method_4_code 4 (some .long) ws ⟨1, 0, 0, 16⟩ #[(.long q1), (.int k1)] h0 (Q_lvl Z q1 k1 h0 n0) := by
  refine own_met n0 own_pn_com_example_wingrow_wingrow_store_SummaryTreeBytesPinLaw (fun m => ef4JI m q1 k1) ?_
  intro p e s m below meth c T lc hret hx hZ hby hml hown hnm hlk X eT N
  refine own_iloadN X hx (hb hby own2_0) (pc' := 1) rfl rfl ?_
  refine own_if X hx (hb hby own2_1) (by decide) (pcY := 18) (pcN := 4) rfl rfl (fun (hc1 : ¬ (k1 = (0 : Int32))) => ?_) (fun (hc1 : k1 = (0 : Int32)) => ?_)
  · refine own_lloadN X hx (hb hby own2_18) (pc' := 19) rfl rfl ?_
    refine own_lconst X hx (1 : Int64) (hb hby own2_19) (pc' := 20) rfl rfl ?_
    refine own_iconst X hx (4 : Int32) (hb hby own2_20) (pc' := 21) rfl rfl ?_
    refine own_iconst X hx (4 : Int32) (hb hby own2_21) (pc' := 22) rfl rfl ?_
    refine own_iloadN X hx (hb hby own2_22) (pc' := 23) rfl rfl ?_
    refine own_imul X hx (hb hby own2_23) (pc' := 24) rfl ?_
    refine own_iadd X hx (hb hby own2_24) (pc' := 25) rfl ?_
    refine own_lshl X hx (hb hby own2_25) (pc' := 26) rfl ?_
    refine own_lc X hx (hb hby own2_26) (hb hby own2_27) (by decide) (pcY := 34) (pcN := 30) rfl rfl (fun (hc26 : ¬ (((1 : Int64) <<< (((4 : Int32) + ((4 : Int32) * k1)).toInt64 &&& 63)) < q1)) => ?_) (fun (hc26 : ((1 : Int64) <<< (((4 : Int32) + ((4 : Int32) * k1)).toInt64 &&& 63)) < q1) => ?_)
    · refine own_iconst X hx (0 : Int32) (hb hby own2_34) (pc' := 35) rfl rfl ?_
      refine own_istoreN X hx (hb hby own2_35) (pc' := 36) rfl (Ls' := #[.val (.long q1), .second, .val (.int k1), .val (.int (0 : Int32))]) rfl ?_
      refine own_iloadN X hx (hb hby own2_36) (pc' := 37) rfl rfl ?_
      refine own_ifN X hx (hb hby own2_37) (pc' := 40) rfl (show (0 : Int32) = (0 : Int32) from (by decide)) ?_
      refine own_lconst X hx (0 : Int64) (hb hby own2_40) (pc' := 41) rfl rfl ?_
      refine own_retJ X hx hlk hret (hb hby own2_41) (by decide) (by decide) ?_
      rw [eT]
      exact ⟨by unfold own_lv; rw [if_neg hc1, if_neg hc26], N, rfl⟩
    · refine own_iconst X hx (1 : Int32) (hb hby own2_30) (pc' := 31) rfl rfl ?_
      refine own_goto X hx (hb hby own2_31) (by decide) (pc' := 35) rfl ?_
      refine own_istoreN X hx (hb hby own2_35) (pc' := 36) rfl (Ls' := #[.val (.long q1), .second, .val (.int k1), .val (.int (1 : Int32))]) rfl ?_
      refine own_iloadN X hx (hb hby own2_36) (pc' := 37) rfl rfl ?_
      refine own_ifY X hx (hb hby own2_37) (by decide) (pc' := 42) rfl (show ¬ ((1 : Int32) = (0 : Int32)) from (by decide)) ?_
      refine own_lloadN X hx (hb hby own2_42) (pc' := 43) rfl rfl ?_
      refine own_bipush X hx (8 : Int32) (hb hby own2_43) (pc' := 45) rfl rfl ?_
      refine own_iconst X hx (4 : Int32) (hb hby own2_45) (pc' := 46) rfl rfl ?_
      refine own_iloadN X hx (hb hby own2_46) (pc' := 47) rfl rfl ?_
      refine own_imul X hx (hb hby own2_47) (pc' := 48) rfl ?_
      refine own_iadd X hx (hb hby own2_48) (pc' := 49) rfl ?_
      refine own_callS X hx hZ [(.long q1), (.int ((8 : Int32) + ((4 : Int32) * k1)))] hown (own_w hw 68 rfl) (own_w hw 69 rfl) (own_w hw 4 rfl) (own_w hw 70 rfl) (by decide) (rm_cp l Z a0 hw [] q1 ((8 : Int32) + ((4 : Int32) * k1)) h0 n0 Z0) eT (W := 0) (by decide) (by decide) (cells' := 0) (slots' := 0) rfl rfl (by decide) (by decide) (by rw [hml]; rfl) (lenOf own_pd_28JI29J rfl) rfl (S := []) rfl (Nat.le_of_eq rfl) (hb hby own2_49) (pc' := 52) rfl ?_
      intro v T h1 L lc X eT hq fN
      obtain ⟨rfl, Nq, hqe⟩ := hq
      have N := fN _ N Nq
      rw [hqe] at eT
      show own_W _ _ _ _ _ _ _ _ [(.long (own_cp q1 ((8 : Int32) + ((4 : Int32) * k1))))]
      refine own_retJ X hx hlk hret (hb hby own2_52) (by decide) (by decide) ?_
      rw [eT]
      exact ⟨by unfold own_lv; rw [if_neg hc1, if_pos hc26], N, rfl⟩
  · refine own_lloadN X hx (hb hby own2_4) (pc' := 5) rfl rfl ?_
    refine own_lconst X hx (0 : Int64) (hb hby own2_5) (pc' := 6) rfl rfl ?_
    refine own_lc X hx (hb hby own2_6) (hb hby own2_7) (by decide) (pcY := 14) (pcN := 10) rfl rfl (fun (hc6 : ¬ ((0 : Int64) < q1)) => ?_) (fun (hc6 : (0 : Int64) < q1) => ?_)
    · refine own_iconst X hx (0 : Int32) (hb hby own2_14) (pc' := 15) rfl rfl ?_
      refine own_goto X hx (hb hby own2_15) (by decide) (pc' := 35) rfl ?_
      refine own_istoreN X hx (hb hby own2_35) (pc' := 36) rfl (Ls' := #[.val (.long q1), .second, .val (.int k1), .val (.int (0 : Int32))]) rfl ?_
      refine own_iloadN X hx (hb hby own2_36) (pc' := 37) rfl rfl ?_
      refine own_ifN X hx (hb hby own2_37) (pc' := 40) rfl (show (0 : Int32) = (0 : Int32) from (by decide)) ?_
      refine own_lconst X hx (0 : Int64) (hb hby own2_40) (pc' := 41) rfl rfl ?_
      refine own_retJ X hx hlk hret (hb hby own2_41) (by decide) (by decide) ?_
      rw [eT]
      exact ⟨by unfold own_lv; rw [if_pos hc1, if_neg hc6], N, rfl⟩
    · refine own_iconst X hx (1 : Int32) (hb hby own2_10) (pc' := 11) rfl rfl ?_
      refine own_goto X hx (hb hby own2_11) (by decide) (pc' := 35) rfl ?_
      refine own_istoreN X hx (hb hby own2_35) (pc' := 36) rfl (Ls' := #[.val (.long q1), .second, .val (.int k1), .val (.int (1 : Int32))]) rfl ?_
      refine own_iloadN X hx (hb hby own2_36) (pc' := 37) rfl rfl ?_
      refine own_ifY X hx (hb hby own2_37) (by decide) (pc' := 42) rfl (show ¬ ((1 : Int32) = (0 : Int32)) from (by decide)) ?_
      refine own_lloadN X hx (hb hby own2_42) (pc' := 43) rfl rfl ?_
      refine own_bipush X hx (8 : Int32) (hb hby own2_43) (pc' := 45) rfl rfl ?_
      refine own_iconst X hx (4 : Int32) (hb hby own2_45) (pc' := 46) rfl rfl ?_
      refine own_iloadN X hx (hb hby own2_46) (pc' := 47) rfl rfl ?_
      refine own_imul X hx (hb hby own2_47) (pc' := 48) rfl ?_
      refine own_iadd X hx (hb hby own2_48) (pc' := 49) rfl ?_
      refine own_callS X hx hZ [(.long q1), (.int ((8 : Int32) + ((4 : Int32) * k1)))] hown (own_w hw 68 rfl) (own_w hw 69 rfl) (own_w hw 4 rfl) (own_w hw 70 rfl) (by decide) (rm_cp l Z a0 hw [] q1 ((8 : Int32) + ((4 : Int32) * k1)) h0 n0 Z0) eT (W := 0) (by decide) (by decide) (cells' := 0) (slots' := 0) rfl rfl (by decide) (by decide) (by rw [hml]; rfl) (lenOf own_pd_28JI29J rfl) rfl (S := []) rfl (Nat.le_of_eq rfl) (hb hby own2_49) (pc' := 52) rfl ?_
      intro v T h2 L lc X eT hq fN
      obtain ⟨rfl, Nq, hqe⟩ := hq
      have N := fN _ N Nq
      rw [hqe] at eT
      show own_W _ _ _ _ _ _ _ _ [(.long (own_cp q1 ((8 : Int32) + ((4 : Int32) * k1))))]
      refine own_retJ X hx hlk hret (hb hby own2_52) (by decide) (by decide) ?_
      rw [eT]
      exact ⟨by unfold own_lv; rw [if_pos hc1, if_pos hc6], N, rfl⟩
theorem own3_0 : decode method_3_code 0 = .ok (.lload_n 0, 1) := by decide +kernel
theorem own3_1 : decode method_3_code 1 = .ok (.iconst 0, 1) := by decide +kernel
theorem own3_2 : decode method_3_code 2 = .ok (.invokestatic 27, 3) := by decide +kernel
theorem own3_5 : decode method_3_code 5 = .ok (.lload_n 0, 1) := by decide +kernel
theorem own3_6 : decode method_3_code 6 = .ok (.iconst 1, 1) := by decide +kernel
theorem own3_7 : decode method_3_code 7 = .ok (.invokestatic 27, 3) := by decide +kernel
theorem own3_10 : decode method_3_code 10 = .ok (.ladd, 1) := by decide +kernel
theorem own3_11 : decode method_3_code 11 = .ok (.lload_n 0, 1) := by decide +kernel
theorem own3_12 : decode method_3_code 12 = .ok (.iconst 2, 1) := by decide +kernel
theorem own3_13 : decode method_3_code 13 = .ok (.invokestatic 27, 3) := by decide +kernel
theorem own3_16 : decode method_3_code 16 = .ok (.ladd, 1) := by decide +kernel
theorem own3_17 : decode method_3_code 17 = .ok (.lload_n 0, 1) := by decide +kernel
theorem own3_18 : decode method_3_code 18 = .ok (.iconst 3, 1) := by decide +kernel
theorem own3_19 : decode method_3_code 19 = .ok (.invokestatic 27, 3) := by decide +kernel
theorem own3_22 : decode method_3_code 22 = .ok (.ladd, 1) := by decide +kernel
theorem own3_23 : decode method_3_code 23 = .ok (.lload_n 0, 1) := by decide +kernel
theorem own3_24 : decode method_3_code 24 = .ok (.iconst 4, 1) := by decide +kernel
theorem own3_25 : decode method_3_code 25 = .ok (.invokestatic 27, 3) := by decide +kernel
theorem own3_28 : decode method_3_code 28 = .ok (.ladd, 1) := by decide +kernel
theorem own3_29 : decode method_3_code 29 = .ok (.lload_n 0, 1) := by decide +kernel
theorem own3_30 : decode method_3_code 30 = .ok (.iconst 5, 1) := by decide +kernel
theorem own3_31 : decode method_3_code 31 = .ok (.invokestatic 27, 3) := by decide +kernel
theorem own3_34 : decode method_3_code 34 = .ok (.ladd, 1) := by decide +kernel
theorem own3_35 : decode method_3_code 35 = .ok (.lload_n 0, 1) := by decide +kernel
theorem own3_36 : decode method_3_code 36 = .ok (.bipush 6, 2) := by decide +kernel
theorem own3_38 : decode method_3_code 38 = .ok (.invokestatic 27, 3) := by decide +kernel
theorem own3_41 : decode method_3_code 41 = .ok (.ladd, 1) := by decide +kernel
theorem own3_42 : decode method_3_code 42 = .ok (.lload_n 0, 1) := by decide +kernel
theorem own3_43 : decode method_3_code 43 = .ok (.bipush 7, 2) := by decide +kernel
theorem own3_45 : decode method_3_code 45 = .ok (.invokestatic 27, 3) := by decide +kernel
theorem own3_48 : decode method_3_code 48 = .ok (.ladd, 1) := by decide +kernel
theorem own3_49 : decode method_3_code 49 = .ok (.lload_n 0, 1) := by decide +kernel
theorem own3_50 : decode method_3_code 50 = .ok (.bipush 8, 2) := by decide +kernel
theorem own3_52 : decode method_3_code 52 = .ok (.invokestatic 27, 3) := by decide +kernel
theorem own3_55 : decode method_3_code 55 = .ok (.ladd, 1) := by decide +kernel
theorem own3_56 : decode method_3_code 56 = .ok (.lload_n 0, 1) := by decide +kernel
theorem own3_57 : decode method_3_code 57 = .ok (.bipush 9, 2) := by decide +kernel
theorem own3_59 : decode method_3_code 59 = .ok (.invokestatic 27, 3) := by decide +kernel
theorem own3_62 : decode method_3_code 62 = .ok (.ladd, 1) := by decide +kernel
theorem own3_63 : decode method_3_code 63 = .ok (.lload_n 0, 1) := by decide +kernel
theorem own3_64 : decode method_3_code 64 = .ok (.bipush 10, 2) := by decide +kernel
theorem own3_66 : decode method_3_code 66 = .ok (.invokestatic 27, 3) := by decide +kernel
theorem own3_69 : decode method_3_code 69 = .ok (.ladd, 1) := by decide +kernel
theorem own3_70 : decode method_3_code 70 = .ok (.lload_n 0, 1) := by decide +kernel
theorem own3_71 : decode method_3_code 71 = .ok (.bipush 11, 2) := by decide +kernel
theorem own3_73 : decode method_3_code 73 = .ok (.invokestatic 27, 3) := by decide +kernel
theorem own3_76 : decode method_3_code 76 = .ok (.ladd, 1) := by decide +kernel
theorem own3_77 : decode method_3_code 77 = .ok (.lload_n 0, 1) := by decide +kernel
theorem own3_78 : decode method_3_code 78 = .ok (.bipush 12, 2) := by decide +kernel
theorem own3_80 : decode method_3_code 80 = .ok (.invokestatic 27, 3) := by decide +kernel
theorem own3_83 : decode method_3_code 83 = .ok (.ladd, 1) := by decide +kernel
theorem own3_84 : decode method_3_code 84 = .ok (.lload_n 0, 1) := by decide +kernel
theorem own3_85 : decode method_3_code 85 = .ok (.bipush 13, 2) := by decide +kernel
theorem own3_87 : decode method_3_code 87 = .ok (.invokestatic 27, 3) := by decide +kernel
theorem own3_90 : decode method_3_code 90 = .ok (.ladd, 1) := by decide +kernel
theorem own3_91 : decode method_3_code 91 = .ok (.lload_n 0, 1) := by decide +kernel
theorem own3_92 : decode method_3_code 92 = .ok (.bipush 14, 2) := by decide +kernel
theorem own3_94 : decode method_3_code 94 = .ok (.invokestatic 27, 3) := by decide +kernel
theorem own3_97 : decode method_3_code 97 = .ok (.ladd, 1) := by decide +kernel
theorem own3_98 : decode method_3_code 98 = .ok (.lreturn, 1) := by decide +kernel
theorem ef2J (m : MethodId) (x0 : Int64) : entryFrame m #[(.long x0)] 2 = mkF m 0 #[.val (.long x0), .second] [] := by first | (simp [entryFrame, mkF, argsToLocals, Value.category]; done) | rfl
def Q_nd (Z : State) (q1 : Int64) (h0 : Heap) (n0 : Nat) (v : Option Value) (h : Heap) (L : List Loc) : Prop := v = some (.long (own_nodes q1)) ∧ Fr n0 L ∧ h = h0
set_option maxRecDepth 65536 in
set_option maxHeartbeats 40000000 in
theorem rm_nd (l : Launch) (Z : State) (a0 : Array Value) (hw : ∀ d ∈ tables_1, d.before a0 Z = true) (ws : List Jvm.Cond) (q1 : Int64) (h0 : Heap) (n0 : Nat) (Z0 : n0 ≤ h0.size)  : own_Met l Z ⟨"com/example/wingrow/wingrow/store/SummaryTreeBytesPinLaw", "nodes", "(J)J"⟩ method_3_code 2 (some .long) ws ⟨2, 0, 0, 40⟩ #[(.long q1)] h0 (Q_nd Z q1 h0 n0) := by
  refine own_met n0 own_pn_com_example_wingrow_wingrow_store_SummaryTreeBytesPinLaw (fun m => ef2J m q1) ?_
  intro p e s m below meth c T lc hret hx hZ hby hml hown hnm hlk X eT N
  refine own_lloadN X hx (hb hby own3_0) (pc' := 1) rfl rfl ?_
  refine own_iconst X hx (0 : Int32) (hb hby own3_1) (pc' := 2) rfl rfl ?_
  refine own_callS X hx hZ [(.long q1), (.int (0 : Int32))] hown (own_w hw 6 rfl) (own_w hw 7 rfl) (own_w hw 4 rfl) (own_w hw 8 rfl) (by decide) (rm_lvl l Z a0 hw [] q1 (0 : Int32) h0 n0 Z0) eT (W := 0) (by decide) (by decide) (cells' := 0) (slots' := 0) rfl rfl (by decide) (by decide) (by rw [hml]; rfl) (lenOf own_pd_28JI29J rfl) rfl (S := []) rfl (Nat.le_of_eq rfl) (hb hby own3_2) (pc' := 5) rfl ?_
  intro v T h1 L lc X eT hq fN
  obtain ⟨rfl, Nq, hqe⟩ := hq
  have N := fN _ N Nq
  rw [hqe] at eT
  show own_W _ _ _ _ _ _ _ _ [(.long (own_lv q1 (0 : Int32)))]
  refine own_lloadN X hx (hb hby own3_5) (pc' := 6) rfl rfl ?_
  refine own_iconst X hx (1 : Int32) (hb hby own3_6) (pc' := 7) rfl rfl ?_
  refine own_callS X hx hZ [(.long q1), (.int (1 : Int32))] hown (own_w hw 6 rfl) (own_w hw 7 rfl) (own_w hw 4 rfl) (own_w hw 8 rfl) (by decide) (rm_lvl l Z a0 hw [] q1 (1 : Int32) h0 n0 Z0) eT (W := 2) (by decide) (by decide) (cells' := 0) (slots' := 0) rfl rfl (by decide) (by decide) (by rw [hml]; rfl) (lenOf own_pd_28JI29J rfl) rfl (S := [(.long (own_lv q1 (0 : Int32)))]) rfl (Nat.le_of_eq rfl) (hb hby own3_7) (pc' := 10) rfl ?_
  intro v T h2 L lc X eT hq fN
  obtain ⟨rfl, Nq, hqe⟩ := hq
  have N := fN _ N Nq
  rw [hqe] at eT
  show own_W _ _ _ _ _ _ _ _ [(.long (own_lv q1 (1 : Int32))), (.long (own_lv q1 (0 : Int32)))]
  refine own_ladd X hx (hb hby own3_10) (pc' := 11) rfl ?_
  refine own_lloadN X hx (hb hby own3_11) (pc' := 12) rfl rfl ?_
  refine own_iconst X hx (2 : Int32) (hb hby own3_12) (pc' := 13) rfl rfl ?_
  refine own_callS X hx hZ [(.long q1), (.int (2 : Int32))] hown (own_w hw 6 rfl) (own_w hw 7 rfl) (own_w hw 4 rfl) (own_w hw 8 rfl) (by decide) (rm_lvl l Z a0 hw [] q1 (2 : Int32) h0 n0 Z0) eT (W := 2) (by decide) (by decide) (cells' := 0) (slots' := 0) rfl rfl (by decide) (by decide) (by rw [hml]; rfl) (lenOf own_pd_28JI29J rfl) rfl (S := [(.long ((own_lv q1 (0 : Int32)) + (own_lv q1 (1 : Int32))))]) rfl (Nat.le_of_eq rfl) (hb hby own3_13) (pc' := 16) rfl ?_
  intro v T h3 L lc X eT hq fN
  obtain ⟨rfl, Nq, hqe⟩ := hq
  have N := fN _ N Nq
  rw [hqe] at eT
  show own_W _ _ _ _ _ _ _ _ [(.long (own_lv q1 (2 : Int32))), (.long ((own_lv q1 (0 : Int32)) + (own_lv q1 (1 : Int32))))]
  refine own_ladd X hx (hb hby own3_16) (pc' := 17) rfl ?_
  refine own_lloadN X hx (hb hby own3_17) (pc' := 18) rfl rfl ?_
  refine own_iconst X hx (3 : Int32) (hb hby own3_18) (pc' := 19) rfl rfl ?_
  refine own_callS X hx hZ [(.long q1), (.int (3 : Int32))] hown (own_w hw 6 rfl) (own_w hw 7 rfl) (own_w hw 4 rfl) (own_w hw 8 rfl) (by decide) (rm_lvl l Z a0 hw [] q1 (3 : Int32) h0 n0 Z0) eT (W := 2) (by decide) (by decide) (cells' := 0) (slots' := 0) rfl rfl (by decide) (by decide) (by rw [hml]; rfl) (lenOf own_pd_28JI29J rfl) rfl (S := [(.long (((own_lv q1 (0 : Int32)) + (own_lv q1 (1 : Int32))) + (own_lv q1 (2 : Int32))))]) rfl (Nat.le_of_eq rfl) (hb hby own3_19) (pc' := 22) rfl ?_
  intro v T h4 L lc X eT hq fN
  obtain ⟨rfl, Nq, hqe⟩ := hq
  have N := fN _ N Nq
  rw [hqe] at eT
  show own_W _ _ _ _ _ _ _ _ [(.long (own_lv q1 (3 : Int32))), (.long (((own_lv q1 (0 : Int32)) + (own_lv q1 (1 : Int32))) + (own_lv q1 (2 : Int32))))]
  refine own_ladd X hx (hb hby own3_22) (pc' := 23) rfl ?_
  refine own_lloadN X hx (hb hby own3_23) (pc' := 24) rfl rfl ?_
  refine own_iconst X hx (4 : Int32) (hb hby own3_24) (pc' := 25) rfl rfl ?_
  refine own_callS X hx hZ [(.long q1), (.int (4 : Int32))] hown (own_w hw 6 rfl) (own_w hw 7 rfl) (own_w hw 4 rfl) (own_w hw 8 rfl) (by decide) (rm_lvl l Z a0 hw [] q1 (4 : Int32) h0 n0 Z0) eT (W := 2) (by decide) (by decide) (cells' := 0) (slots' := 0) rfl rfl (by decide) (by decide) (by rw [hml]; rfl) (lenOf own_pd_28JI29J rfl) rfl (S := [(.long ((((own_lv q1 (0 : Int32)) + (own_lv q1 (1 : Int32))) + (own_lv q1 (2 : Int32))) + (own_lv q1 (3 : Int32))))]) rfl (Nat.le_of_eq rfl) (hb hby own3_25) (pc' := 28) rfl ?_
  intro v T h5 L lc X eT hq fN
  obtain ⟨rfl, Nq, hqe⟩ := hq
  have N := fN _ N Nq
  rw [hqe] at eT
  show own_W _ _ _ _ _ _ _ _ [(.long (own_lv q1 (4 : Int32))), (.long ((((own_lv q1 (0 : Int32)) + (own_lv q1 (1 : Int32))) + (own_lv q1 (2 : Int32))) + (own_lv q1 (3 : Int32))))]
  refine own_ladd X hx (hb hby own3_28) (pc' := 29) rfl ?_
  refine own_lloadN X hx (hb hby own3_29) (pc' := 30) rfl rfl ?_
  refine own_iconst X hx (5 : Int32) (hb hby own3_30) (pc' := 31) rfl rfl ?_
  refine own_callS X hx hZ [(.long q1), (.int (5 : Int32))] hown (own_w hw 6 rfl) (own_w hw 7 rfl) (own_w hw 4 rfl) (own_w hw 8 rfl) (by decide) (rm_lvl l Z a0 hw [] q1 (5 : Int32) h0 n0 Z0) eT (W := 2) (by decide) (by decide) (cells' := 0) (slots' := 0) rfl rfl (by decide) (by decide) (by rw [hml]; rfl) (lenOf own_pd_28JI29J rfl) rfl (S := [(.long (((((own_lv q1 (0 : Int32)) + (own_lv q1 (1 : Int32))) + (own_lv q1 (2 : Int32))) + (own_lv q1 (3 : Int32))) + (own_lv q1 (4 : Int32))))]) rfl (Nat.le_of_eq rfl) (hb hby own3_31) (pc' := 34) rfl ?_
  intro v T h6 L lc X eT hq fN
  obtain ⟨rfl, Nq, hqe⟩ := hq
  have N := fN _ N Nq
  rw [hqe] at eT
  show own_W _ _ _ _ _ _ _ _ [(.long (own_lv q1 (5 : Int32))), (.long (((((own_lv q1 (0 : Int32)) + (own_lv q1 (1 : Int32))) + (own_lv q1 (2 : Int32))) + (own_lv q1 (3 : Int32))) + (own_lv q1 (4 : Int32))))]
  refine own_ladd X hx (hb hby own3_34) (pc' := 35) rfl ?_
  refine own_lloadN X hx (hb hby own3_35) (pc' := 36) rfl rfl ?_
  refine own_bipush X hx (6 : Int32) (hb hby own3_36) (pc' := 38) rfl rfl ?_
  refine own_callS X hx hZ [(.long q1), (.int (6 : Int32))] hown (own_w hw 6 rfl) (own_w hw 7 rfl) (own_w hw 4 rfl) (own_w hw 8 rfl) (by decide) (rm_lvl l Z a0 hw [] q1 (6 : Int32) h0 n0 Z0) eT (W := 2) (by decide) (by decide) (cells' := 0) (slots' := 0) rfl rfl (by decide) (by decide) (by rw [hml]; rfl) (lenOf own_pd_28JI29J rfl) rfl (S := [(.long ((((((own_lv q1 (0 : Int32)) + (own_lv q1 (1 : Int32))) + (own_lv q1 (2 : Int32))) + (own_lv q1 (3 : Int32))) + (own_lv q1 (4 : Int32))) + (own_lv q1 (5 : Int32))))]) rfl (Nat.le_of_eq rfl) (hb hby own3_38) (pc' := 41) rfl ?_
  intro v T h7 L lc X eT hq fN
  obtain ⟨rfl, Nq, hqe⟩ := hq
  have N := fN _ N Nq
  rw [hqe] at eT
  show own_W _ _ _ _ _ _ _ _ [(.long (own_lv q1 (6 : Int32))), (.long ((((((own_lv q1 (0 : Int32)) + (own_lv q1 (1 : Int32))) + (own_lv q1 (2 : Int32))) + (own_lv q1 (3 : Int32))) + (own_lv q1 (4 : Int32))) + (own_lv q1 (5 : Int32))))]
  refine own_ladd X hx (hb hby own3_41) (pc' := 42) rfl ?_
  refine own_lloadN X hx (hb hby own3_42) (pc' := 43) rfl rfl ?_
  refine own_bipush X hx (7 : Int32) (hb hby own3_43) (pc' := 45) rfl rfl ?_
  refine own_callS X hx hZ [(.long q1), (.int (7 : Int32))] hown (own_w hw 6 rfl) (own_w hw 7 rfl) (own_w hw 4 rfl) (own_w hw 8 rfl) (by decide) (rm_lvl l Z a0 hw [] q1 (7 : Int32) h0 n0 Z0) eT (W := 2) (by decide) (by decide) (cells' := 0) (slots' := 0) rfl rfl (by decide) (by decide) (by rw [hml]; rfl) (lenOf own_pd_28JI29J rfl) rfl (S := [(.long (((((((own_lv q1 (0 : Int32)) + (own_lv q1 (1 : Int32))) + (own_lv q1 (2 : Int32))) + (own_lv q1 (3 : Int32))) + (own_lv q1 (4 : Int32))) + (own_lv q1 (5 : Int32))) + (own_lv q1 (6 : Int32))))]) rfl (Nat.le_of_eq rfl) (hb hby own3_45) (pc' := 48) rfl ?_
  intro v T h8 L lc X eT hq fN
  obtain ⟨rfl, Nq, hqe⟩ := hq
  have N := fN _ N Nq
  rw [hqe] at eT
  show own_W _ _ _ _ _ _ _ _ [(.long (own_lv q1 (7 : Int32))), (.long (((((((own_lv q1 (0 : Int32)) + (own_lv q1 (1 : Int32))) + (own_lv q1 (2 : Int32))) + (own_lv q1 (3 : Int32))) + (own_lv q1 (4 : Int32))) + (own_lv q1 (5 : Int32))) + (own_lv q1 (6 : Int32))))]
  refine own_ladd X hx (hb hby own3_48) (pc' := 49) rfl ?_
  refine own_lloadN X hx (hb hby own3_49) (pc' := 50) rfl rfl ?_
  refine own_bipush X hx (8 : Int32) (hb hby own3_50) (pc' := 52) rfl rfl ?_
  refine own_callS X hx hZ [(.long q1), (.int (8 : Int32))] hown (own_w hw 6 rfl) (own_w hw 7 rfl) (own_w hw 4 rfl) (own_w hw 8 rfl) (by decide) (rm_lvl l Z a0 hw [] q1 (8 : Int32) h0 n0 Z0) eT (W := 2) (by decide) (by decide) (cells' := 0) (slots' := 0) rfl rfl (by decide) (by decide) (by rw [hml]; rfl) (lenOf own_pd_28JI29J rfl) rfl (S := [(.long ((((((((own_lv q1 (0 : Int32)) + (own_lv q1 (1 : Int32))) + (own_lv q1 (2 : Int32))) + (own_lv q1 (3 : Int32))) + (own_lv q1 (4 : Int32))) + (own_lv q1 (5 : Int32))) + (own_lv q1 (6 : Int32))) + (own_lv q1 (7 : Int32))))]) rfl (Nat.le_of_eq rfl) (hb hby own3_52) (pc' := 55) rfl ?_
  intro v T h9 L lc X eT hq fN
  obtain ⟨rfl, Nq, hqe⟩ := hq
  have N := fN _ N Nq
  rw [hqe] at eT
  show own_W _ _ _ _ _ _ _ _ [(.long (own_lv q1 (8 : Int32))), (.long ((((((((own_lv q1 (0 : Int32)) + (own_lv q1 (1 : Int32))) + (own_lv q1 (2 : Int32))) + (own_lv q1 (3 : Int32))) + (own_lv q1 (4 : Int32))) + (own_lv q1 (5 : Int32))) + (own_lv q1 (6 : Int32))) + (own_lv q1 (7 : Int32))))]
  refine own_ladd X hx (hb hby own3_55) (pc' := 56) rfl ?_
  refine own_lloadN X hx (hb hby own3_56) (pc' := 57) rfl rfl ?_
  refine own_bipush X hx (9 : Int32) (hb hby own3_57) (pc' := 59) rfl rfl ?_
  refine own_callS X hx hZ [(.long q1), (.int (9 : Int32))] hown (own_w hw 6 rfl) (own_w hw 7 rfl) (own_w hw 4 rfl) (own_w hw 8 rfl) (by decide) (rm_lvl l Z a0 hw [] q1 (9 : Int32) h0 n0 Z0) eT (W := 2) (by decide) (by decide) (cells' := 0) (slots' := 0) rfl rfl (by decide) (by decide) (by rw [hml]; rfl) (lenOf own_pd_28JI29J rfl) rfl (S := [(.long (((((((((own_lv q1 (0 : Int32)) + (own_lv q1 (1 : Int32))) + (own_lv q1 (2 : Int32))) + (own_lv q1 (3 : Int32))) + (own_lv q1 (4 : Int32))) + (own_lv q1 (5 : Int32))) + (own_lv q1 (6 : Int32))) + (own_lv q1 (7 : Int32))) + (own_lv q1 (8 : Int32))))]) rfl (Nat.le_of_eq rfl) (hb hby own3_59) (pc' := 62) rfl ?_
  intro v T h10 L lc X eT hq fN
  obtain ⟨rfl, Nq, hqe⟩ := hq
  have N := fN _ N Nq
  rw [hqe] at eT
  show own_W _ _ _ _ _ _ _ _ [(.long (own_lv q1 (9 : Int32))), (.long (((((((((own_lv q1 (0 : Int32)) + (own_lv q1 (1 : Int32))) + (own_lv q1 (2 : Int32))) + (own_lv q1 (3 : Int32))) + (own_lv q1 (4 : Int32))) + (own_lv q1 (5 : Int32))) + (own_lv q1 (6 : Int32))) + (own_lv q1 (7 : Int32))) + (own_lv q1 (8 : Int32))))]
  refine own_ladd X hx (hb hby own3_62) (pc' := 63) rfl ?_
  refine own_lloadN X hx (hb hby own3_63) (pc' := 64) rfl rfl ?_
  refine own_bipush X hx (10 : Int32) (hb hby own3_64) (pc' := 66) rfl rfl ?_
  refine own_callS X hx hZ [(.long q1), (.int (10 : Int32))] hown (own_w hw 6 rfl) (own_w hw 7 rfl) (own_w hw 4 rfl) (own_w hw 8 rfl) (by decide) (rm_lvl l Z a0 hw [] q1 (10 : Int32) h0 n0 Z0) eT (W := 2) (by decide) (by decide) (cells' := 0) (slots' := 0) rfl rfl (by decide) (by decide) (by rw [hml]; rfl) (lenOf own_pd_28JI29J rfl) rfl (S := [(.long ((((((((((own_lv q1 (0 : Int32)) + (own_lv q1 (1 : Int32))) + (own_lv q1 (2 : Int32))) + (own_lv q1 (3 : Int32))) + (own_lv q1 (4 : Int32))) + (own_lv q1 (5 : Int32))) + (own_lv q1 (6 : Int32))) + (own_lv q1 (7 : Int32))) + (own_lv q1 (8 : Int32))) + (own_lv q1 (9 : Int32))))]) rfl (Nat.le_of_eq rfl) (hb hby own3_66) (pc' := 69) rfl ?_
  intro v T h11 L lc X eT hq fN
  obtain ⟨rfl, Nq, hqe⟩ := hq
  have N := fN _ N Nq
  rw [hqe] at eT
  show own_W _ _ _ _ _ _ _ _ [(.long (own_lv q1 (10 : Int32))), (.long ((((((((((own_lv q1 (0 : Int32)) + (own_lv q1 (1 : Int32))) + (own_lv q1 (2 : Int32))) + (own_lv q1 (3 : Int32))) + (own_lv q1 (4 : Int32))) + (own_lv q1 (5 : Int32))) + (own_lv q1 (6 : Int32))) + (own_lv q1 (7 : Int32))) + (own_lv q1 (8 : Int32))) + (own_lv q1 (9 : Int32))))]
  refine own_ladd X hx (hb hby own3_69) (pc' := 70) rfl ?_
  refine own_lloadN X hx (hb hby own3_70) (pc' := 71) rfl rfl ?_
  refine own_bipush X hx (11 : Int32) (hb hby own3_71) (pc' := 73) rfl rfl ?_
  refine own_callS X hx hZ [(.long q1), (.int (11 : Int32))] hown (own_w hw 6 rfl) (own_w hw 7 rfl) (own_w hw 4 rfl) (own_w hw 8 rfl) (by decide) (rm_lvl l Z a0 hw [] q1 (11 : Int32) h0 n0 Z0) eT (W := 2) (by decide) (by decide) (cells' := 0) (slots' := 0) rfl rfl (by decide) (by decide) (by rw [hml]; rfl) (lenOf own_pd_28JI29J rfl) rfl (S := [(.long (((((((((((own_lv q1 (0 : Int32)) + (own_lv q1 (1 : Int32))) + (own_lv q1 (2 : Int32))) + (own_lv q1 (3 : Int32))) + (own_lv q1 (4 : Int32))) + (own_lv q1 (5 : Int32))) + (own_lv q1 (6 : Int32))) + (own_lv q1 (7 : Int32))) + (own_lv q1 (8 : Int32))) + (own_lv q1 (9 : Int32))) + (own_lv q1 (10 : Int32))))]) rfl (Nat.le_of_eq rfl) (hb hby own3_73) (pc' := 76) rfl ?_
  intro v T h12 L lc X eT hq fN
  obtain ⟨rfl, Nq, hqe⟩ := hq
  have N := fN _ N Nq
  rw [hqe] at eT
  show own_W _ _ _ _ _ _ _ _ [(.long (own_lv q1 (11 : Int32))), (.long (((((((((((own_lv q1 (0 : Int32)) + (own_lv q1 (1 : Int32))) + (own_lv q1 (2 : Int32))) + (own_lv q1 (3 : Int32))) + (own_lv q1 (4 : Int32))) + (own_lv q1 (5 : Int32))) + (own_lv q1 (6 : Int32))) + (own_lv q1 (7 : Int32))) + (own_lv q1 (8 : Int32))) + (own_lv q1 (9 : Int32))) + (own_lv q1 (10 : Int32))))]
  refine own_ladd X hx (hb hby own3_76) (pc' := 77) rfl ?_
  refine own_lloadN X hx (hb hby own3_77) (pc' := 78) rfl rfl ?_
  refine own_bipush X hx (12 : Int32) (hb hby own3_78) (pc' := 80) rfl rfl ?_
  refine own_callS X hx hZ [(.long q1), (.int (12 : Int32))] hown (own_w hw 6 rfl) (own_w hw 7 rfl) (own_w hw 4 rfl) (own_w hw 8 rfl) (by decide) (rm_lvl l Z a0 hw [] q1 (12 : Int32) h0 n0 Z0) eT (W := 2) (by decide) (by decide) (cells' := 0) (slots' := 0) rfl rfl (by decide) (by decide) (by rw [hml]; rfl) (lenOf own_pd_28JI29J rfl) rfl (S := [(.long ((((((((((((own_lv q1 (0 : Int32)) + (own_lv q1 (1 : Int32))) + (own_lv q1 (2 : Int32))) + (own_lv q1 (3 : Int32))) + (own_lv q1 (4 : Int32))) + (own_lv q1 (5 : Int32))) + (own_lv q1 (6 : Int32))) + (own_lv q1 (7 : Int32))) + (own_lv q1 (8 : Int32))) + (own_lv q1 (9 : Int32))) + (own_lv q1 (10 : Int32))) + (own_lv q1 (11 : Int32))))]) rfl (Nat.le_of_eq rfl) (hb hby own3_80) (pc' := 83) rfl ?_
  intro v T h13 L lc X eT hq fN
  obtain ⟨rfl, Nq, hqe⟩ := hq
  have N := fN _ N Nq
  rw [hqe] at eT
  show own_W _ _ _ _ _ _ _ _ [(.long (own_lv q1 (12 : Int32))), (.long ((((((((((((own_lv q1 (0 : Int32)) + (own_lv q1 (1 : Int32))) + (own_lv q1 (2 : Int32))) + (own_lv q1 (3 : Int32))) + (own_lv q1 (4 : Int32))) + (own_lv q1 (5 : Int32))) + (own_lv q1 (6 : Int32))) + (own_lv q1 (7 : Int32))) + (own_lv q1 (8 : Int32))) + (own_lv q1 (9 : Int32))) + (own_lv q1 (10 : Int32))) + (own_lv q1 (11 : Int32))))]
  refine own_ladd X hx (hb hby own3_83) (pc' := 84) rfl ?_
  refine own_lloadN X hx (hb hby own3_84) (pc' := 85) rfl rfl ?_
  refine own_bipush X hx (13 : Int32) (hb hby own3_85) (pc' := 87) rfl rfl ?_
  refine own_callS X hx hZ [(.long q1), (.int (13 : Int32))] hown (own_w hw 6 rfl) (own_w hw 7 rfl) (own_w hw 4 rfl) (own_w hw 8 rfl) (by decide) (rm_lvl l Z a0 hw [] q1 (13 : Int32) h0 n0 Z0) eT (W := 2) (by decide) (by decide) (cells' := 0) (slots' := 0) rfl rfl (by decide) (by decide) (by rw [hml]; rfl) (lenOf own_pd_28JI29J rfl) rfl (S := [(.long (((((((((((((own_lv q1 (0 : Int32)) + (own_lv q1 (1 : Int32))) + (own_lv q1 (2 : Int32))) + (own_lv q1 (3 : Int32))) + (own_lv q1 (4 : Int32))) + (own_lv q1 (5 : Int32))) + (own_lv q1 (6 : Int32))) + (own_lv q1 (7 : Int32))) + (own_lv q1 (8 : Int32))) + (own_lv q1 (9 : Int32))) + (own_lv q1 (10 : Int32))) + (own_lv q1 (11 : Int32))) + (own_lv q1 (12 : Int32))))]) rfl (Nat.le_of_eq rfl) (hb hby own3_87) (pc' := 90) rfl ?_
  intro v T h14 L lc X eT hq fN
  obtain ⟨rfl, Nq, hqe⟩ := hq
  have N := fN _ N Nq
  rw [hqe] at eT
  show own_W _ _ _ _ _ _ _ _ [(.long (own_lv q1 (13 : Int32))), (.long (((((((((((((own_lv q1 (0 : Int32)) + (own_lv q1 (1 : Int32))) + (own_lv q1 (2 : Int32))) + (own_lv q1 (3 : Int32))) + (own_lv q1 (4 : Int32))) + (own_lv q1 (5 : Int32))) + (own_lv q1 (6 : Int32))) + (own_lv q1 (7 : Int32))) + (own_lv q1 (8 : Int32))) + (own_lv q1 (9 : Int32))) + (own_lv q1 (10 : Int32))) + (own_lv q1 (11 : Int32))) + (own_lv q1 (12 : Int32))))]
  refine own_ladd X hx (hb hby own3_90) (pc' := 91) rfl ?_
  refine own_lloadN X hx (hb hby own3_91) (pc' := 92) rfl rfl ?_
  refine own_bipush X hx (14 : Int32) (hb hby own3_92) (pc' := 94) rfl rfl ?_
  refine own_callS X hx hZ [(.long q1), (.int (14 : Int32))] hown (own_w hw 6 rfl) (own_w hw 7 rfl) (own_w hw 4 rfl) (own_w hw 8 rfl) (by decide) (rm_lvl l Z a0 hw [] q1 (14 : Int32) h0 n0 Z0) eT (W := 2) (by decide) (by decide) (cells' := 0) (slots' := 0) rfl rfl (by decide) (by decide) (by rw [hml]; rfl) (lenOf own_pd_28JI29J rfl) rfl (S := [(.long ((((((((((((((own_lv q1 (0 : Int32)) + (own_lv q1 (1 : Int32))) + (own_lv q1 (2 : Int32))) + (own_lv q1 (3 : Int32))) + (own_lv q1 (4 : Int32))) + (own_lv q1 (5 : Int32))) + (own_lv q1 (6 : Int32))) + (own_lv q1 (7 : Int32))) + (own_lv q1 (8 : Int32))) + (own_lv q1 (9 : Int32))) + (own_lv q1 (10 : Int32))) + (own_lv q1 (11 : Int32))) + (own_lv q1 (12 : Int32))) + (own_lv q1 (13 : Int32))))]) rfl (Nat.le_of_eq rfl) (hb hby own3_94) (pc' := 97) rfl ?_
  intro v T h15 L lc X eT hq fN
  obtain ⟨rfl, Nq, hqe⟩ := hq
  have N := fN _ N Nq
  rw [hqe] at eT
  show own_W _ _ _ _ _ _ _ _ [(.long (own_lv q1 (14 : Int32))), (.long ((((((((((((((own_lv q1 (0 : Int32)) + (own_lv q1 (1 : Int32))) + (own_lv q1 (2 : Int32))) + (own_lv q1 (3 : Int32))) + (own_lv q1 (4 : Int32))) + (own_lv q1 (5 : Int32))) + (own_lv q1 (6 : Int32))) + (own_lv q1 (7 : Int32))) + (own_lv q1 (8 : Int32))) + (own_lv q1 (9 : Int32))) + (own_lv q1 (10 : Int32))) + (own_lv q1 (11 : Int32))) + (own_lv q1 (12 : Int32))) + (own_lv q1 (13 : Int32))))]
  refine own_ladd X hx (hb hby own3_97) (pc' := 98) rfl ?_
  refine own_retJ X hx hlk hret (hb hby own3_98) (by decide) (by decide) ?_
  rw [eT]
  exact ⟨rfl, N, rfl⟩
theorem own4_0 : decode jdk_35_method_31_code 0 = .ok (.aload_n 0, 1) := by decide +kernel
theorem own4_1 : decode jdk_35_method_31_code 1 = .ok (.getfield 273, 3) := by decide +kernel
theorem own4_4 : decode jdk_35_method_31_code 4 = .ok (.lreturn, 1) := by decide +kernel
theorem own_pn_java_lang_Long : plainName "java/lang/Long" = true := by first | (simp [plainName, overriddenIn]; done) | decide +kernel
theorem ef1R (m : MethodId) (x0 : Addr) : entryFrame m #[(.ref x0)] 1 = mkF m 0 #[.val (.ref x0)] [] := by first | (simp [entryFrame, mkF, argsToLocals, Value.category]; done) | rfl
def Q_lv (Z : State) (a1 : Addr) (q1 : Int64) (h0 : Heap) (n0 : Nat) (v : Option Value) (h : Heap) (L : List Loc) : Prop := v = some (.long q1) ∧ Fr n0 L ∧ h = h0
set_option maxRecDepth 65536 in
set_option maxHeartbeats 40000000 in
theorem rm_lv (l : Launch) (Z : State) (a0 : Array Value) (hw : ∀ d ∈ tables_1, d.before a0 Z = true) (ws : List Jvm.Cond) (a1 : Addr) (q1 : Int64) (h0 : Heap) (n0 : Nat) (Z0 : n0 ≤ h0.size) (F_v : Fld Z h0 a1 "java/lang/Long" "value" "J" (.long q1)) : own_Met l Z ⟨"java/lang/Long", "longValue", "()J"⟩ jdk_35_method_31_code 1 (some .long) ws ⟨0, 0, 0, 0⟩ #[(.ref a1)] h0 (Q_lv Z a1 q1 h0 n0) := by
  refine own_met n0 own_pn_java_lang_Long (fun m => ef1R m a1) ?_
  intro p e s m below meth c T lc hret hx hZ hby hml hown hnm hlk X eT N
  refine own_aloadN X hx (hb hby own4_0) (pc' := 1) rfl rfl rfl ?_
  refine own_getF X hx hZ hown (host := "") (Or.inl (own_w hw 144 rfl)) Via.refl eT F_v (hb hby own4_1) (pc' := 4) rfl ?_
  intro T X eT
  refine own_retJ X hx hlk hret (hb hby own4_4) (by decide) (by decide) ?_
  rw [eT]
  exact ⟨rfl, N, rfl⟩
theorem own5_0 : decode jdk_29_method_70_code 0 = .ok (.lload_n 0, 1) := by decide +kernel
theorem own5_1 : decode jdk_29_method_70_code 1 = .ok (.lload_n 2, 1) := by decide +kernel
theorem own5_2 : decode jdk_29_method_70_code 2 = .ok (.lcmp, 1) := by decide +kernel
theorem own5_3 : decode jdk_29_method_70_code 3 = .ok (.ifCond .gt 7, 3) := by decide +kernel
theorem own5_10 : decode jdk_29_method_70_code 10 = .ok (.lload_n 2, 1) := by decide +kernel
theorem own5_11 : decode jdk_29_method_70_code 11 = .ok (.lreturn, 1) := by decide +kernel
theorem own5_6 : decode jdk_29_method_70_code 6 = .ok (.lload_n 0, 1) := by decide +kernel
theorem own5_7 : decode jdk_29_method_70_code 7 = .ok (.goto 4, 3) := by decide +kernel
theorem ef_min (m : MethodId) (x0 : Int64) (x1 : Int64) : entryFrame m #[(.long x0), (.long x1)] 4 = mkF m 0 #[.val (.long x0), .second, .val (.long x1), .second] [] := by first | (simp [entryFrame, mkF, argsToLocals, Value.category]; done) | rfl
def Q_min (Z : State) (q1 q2 : Int64) (h0 : Heap) (n0 : Nat) (v : Option Value) (h : Heap) (L : List Loc) : Prop := ∃ z : Int64, v = some (.long z) ∧ Fr n0 L ∧ h = h0
set_option maxRecDepth 65536 in
set_option maxHeartbeats 40000000 in
theorem rm_min (l : Launch) (Z : State) (a0 : Array Value) (hw : ∀ d ∈ tables_1, d.before a0 Z = true) (ws : List Jvm.Cond) (q1 q2 : Int64) (h0 : Heap) (n0 : Nat) (Z0 : n0 ≤ h0.size)  :
    MetFree l (⟨"java/lang/Math", "min", "(JJ)J"⟩ : MethodName) (head1 (Jvm.Cond.code (⟨"java/lang/Math", "min", "(JJ)J"⟩ : MethodName) jdk_29_method_70_code 4 (some .long) :: ws) ({ frames := 0, cells := 0, slots := 0, locals := 0 } : Room)) (fun a U => a = #[(.long q1), (.long q2)] ∧ Z.Warmed39 U.vm ∧ U.heap = h0) (fun _ _ _ _ _ => True) (fun _ U o U' => ∃ v L, o = .returned v ∧ Q_min Z q1 q2 h0 n0 v U'.heap L ∧ FrameEnd U o U' L ({ frames := 0, cells := 0, slots := 0, locals := 0 } : Room).cells ({ frames := 0, cells := 0, slots := 0, locals := 0 } : Room).slots) := by
  refine MetFree.of_bodySF (Jvm.Free.JP.mathPlain rfl (by decide +kernel)) hisR ?_
  intro p e s m args below meth c s₁ Bd hml0 hP hK
  obtain ⟨rfl, hZ, hh⟩ := hP
  have hx := Bd.exec
  have hby := Bd.bytes
  have hml : c.maxLocals = 4 := hml0
  have hown : s.vm.findClass "java/lang/Math" = some m.cls := findClass_of_methodNamed Bd.named
  have hnm := (name_of_methodNamed Bd.named Bd.method).1
  have hlk := Bd.notSynchronized
  obtain ⟨lc, hlc⟩ : ∃ lc : List Loc, lc = [] := ⟨_, rfl⟩
  have X : Stand p l e ({ frames := 0, cells := 0, slots := 0, locals := 0 } : Room) s m #[(.long q1), (.long q2)] below meth c s₁ lc 0 0 := hlc ▸ Stand.of_body Bd
  have eT : s₁.heap = h0 := by rw [← hh, Bd.state]; rfl
  have N : Fr n0 lc := hlc ▸ Fr.nil n0
  refine own_enter (ef_min m q1 q2) ?_
  obtain ⟨T, hT⟩ : ∃ T : State, T = s₁ := ⟨_, rfl⟩
  rw [← hT] at X eT ⊢
  show own_W _ _ _ _ _ _ _ _ []
  refine own_lloadN X hx (hb hby own5_0) (pc' := 1) rfl rfl ?_
  refine own_lloadN X hx (hb hby own5_1) (pc' := 2) rfl rfl ?_
  refine own_lc X hx (hb hby own5_2) (hb hby own5_3) (by decide) (pcY := 10) (pcN := 6) rfl rfl (fun (hc2 : q2 < q1) => ?_) (fun (hc2 : ¬ (q2 < q1)) => ?_)
  · refine own_lloadN X hx (hb hby own5_10) (pc' := 11) rfl rfl ?_
    refine own_retJ X hx hlk Bd.returns (hb hby own5_11) (by decide) (by decide) ?_
    rw [eT]
    exact ⟨_, rfl, N, rfl⟩
  · refine own_lloadN X hx (hb hby own5_6) (pc' := 7) rfl rfl ?_
    refine own_goto X hx (hb hby own5_7) (by decide) (pc' := 11) rfl ?_
    refine own_retJ X hx hlk Bd.returns (hb hby own5_11) (by decide) (by decide) ?_
    rw [eT]
    exact ⟨_, rfl, N, rfl⟩
theorem own6_0 : decode prog_65_method_2_code 0 = .ok (.ldc2_w 63, 3) := by decide +kernel
theorem own6_3 : decode prog_65_method_2_code 3 = .ok (.aload_n 0, 1) := by decide +kernel
theorem own6_4 : decode prog_65_method_2_code 4 = .ok (.getfield 47, 3) := by decide +kernel
theorem own6_7 : decode prog_65_method_2_code 7 = .ok (.aload_n 0, 1) := by decide +kernel
theorem own6_8 : decode prog_65_method_2_code 8 = .ok (.getfield 40, 3) := by decide +kernel
theorem own6_11 : decode prog_65_method_2_code 11 = .ok (.arraylength, 1) := by decide +kernel
theorem own6_12 : decode prog_65_method_2_code 12 = .ok (.laload, 1) := by decide +kernel
theorem own6_13 : decode prog_65_method_2_code 13 = .ok (.lmul, 1) := by decide +kernel
theorem own6_14 : decode prog_65_method_2_code 14 = .ok (.lreturn, 1) := by decide +kernel
def Q_by (Z : State) (a1 b1 b3 : Addr) (k : Nat) (t : Int64) (h0 : Heap) (n0 : Nat) (v : Option Value) (h : Heap) (L : List Loc) : Prop := v = some (.long (40 * t)) ∧ Fr n0 L ∧ h = h0
set_option maxRecDepth 65536 in
set_option maxHeartbeats 40000000 in
theorem rm_by (l : Launch) (Z : State) (a0 : Array Value) (hw : ∀ d ∈ tables_1, d.before a0 Z = true) (ws : List Jvm.Cond) (a1 b1 b3 : Addr) (k : Nat) (t : Int64) (h0 : Heap) (n0 : Nat) (Z0 : n0 ≤ h0.size) (hk : k ≤ 15) (F_sizes : Fld Z h0 a1 "com/example/wingrow/wingrow/store/SummaryTree" "sizes" "[J" (.ref b1)) (F_starts : Fld Z h0 a1 "com/example/wingrow/wingrow/store/SummaryTree" "starts" "[J" (.ref b3)) (k1 k3 : ClassId) (v1 v3 : List Value) (A_b1 : Arv Z h0 b1 k1 .long (Int32.ofNat k) v1 (.long 0)) (A_b3 : Arv Z h0 b3 k3 .long (Int32.ofNat k + 1) v3 (.long 0)) (hs : v3.getD k (.long 0) = .long t) : own_Met l Z ⟨"com/example/wingrow/wingrow/store/SummaryTree", "bytes", "()J"⟩ prog_65_method_2_code 1 (some .long) ws ⟨0, 0, 0, 0⟩ #[(.ref a1)] h0 (Q_by Z a1 b1 b3 k t h0 n0) := by
  refine own_met n0 own_pn_com_example_wingrow_wingrow_store_SummaryTree (fun m => ef1R m a1) ?_
  intro p e s m below meth c T lc hret hx hZ hby hml hown hnm hlk X eT N
  refine own_ldc2 X hx hZ hown (own_w hw 67 rfl) (hb hby own6_0) (pc' := 3) rfl ?_
  refine own_aloadN X hx (hb hby own6_3) (pc' := 4) rfl rfl rfl ?_
  refine own_getF X hx hZ hown (host := "") (Or.inl (own_w hw 60 rfl)) Via.refl eT F_starts (hb hby own6_4) (pc' := 7) rfl ?_
  intro T X eT
  refine own_aloadN X hx (hb hby own6_7) (pc' := 8) rfl rfl rfl ?_
  refine own_getF X hx hZ hown (host := "") (Or.inl (own_w hw 56 rfl)) Via.refl eT F_sizes (hb hby own6_8) (pc' := 11) rfl ?_
  intro T X eT
  refine own_arrlen X hx hZ eT A_b1 (hb hby own6_11) (pc' := 12) rfl ?_
  refine own_laload X hx hZ eT A_b3 (v := (.long t)) ⟨own_nn (by omega), by rw [own_inc]; exact own_lt (by omega) (by omega)⟩ (by rw [own_clm (by omega)]; exact hs) (hb hby own6_12) (pc' := 13) rfl ?_
  refine own_lmul X hx (hb hby own6_13) (pc' := 14) rfl ?_
  refine own_retJ X hx hlk hret (hb hby own6_14) (by decide) (by decide) ?_
  rw [eT]
  exact ⟨rfl, N, rfl⟩
theorem own7_9 : decode prog_65_method_1_code 9 = .ok (.new 13, 3) := by decide +kernel
theorem own7_12 : decode prog_65_method_1_code 12 = .ok (.dup, 1) := by decide +kernel
theorem own7_13 : decode prog_65_method_1_code 13 = .ok (.invokespecial 15, 3) := by decide +kernel
theorem own7_35 : decode prog_65_method_1_code 35 = .ok (.invokestatic 22, 3) := by decide +kernel
theorem own7_38 : decode prog_65_method_1_code 38 = .ok (.invokeinterface 28 2, 5) := by decide +kernel
theorem own7_43 : decode prog_65_method_1_code 43 = .ok (.pop, 1) := by decide +kernel
theorem own7_44 : decode prog_65_method_1_code 44 = .ok (.lload 4, 2) := by decide +kernel
theorem own7_46 : decode prog_65_method_1_code 46 = .ok (.lconst 1, 1) := by decide +kernel
theorem own7_47 : decode prog_65_method_1_code 47 = .ok (.lcmp, 1) := by decide +kernel
theorem own7_48 : decode prog_65_method_1_code 48 = .ok (.ifCond .le 28, 3) := by decide +kernel
theorem own7_51 : decode prog_65_method_1_code 51 = .ok (.lload 4, 2) := by decide +kernel
theorem own7_53 : decode prog_65_method_1_code 53 = .ok (.ldc2_w 34, 3) := by decide +kernel
theorem own7_56 : decode prog_65_method_1_code 56 = .ok (.invokestatic 18, 3) := by decide +kernel
theorem own7_59 : decode prog_65_method_1_code 59 = .ok (.lstore 4, 2) := by decide +kernel
theorem own7_61 : decode prog_65_method_1_code 61 = .ok (.aload_n 3, 1) := by decide +kernel
theorem own7_62 : decode prog_65_method_1_code 62 = .ok (.lload 4, 2) := by decide +kernel
theorem own7_64 : decode prog_65_method_1_code 64 = .ok (.invokestatic 22, 3) := by decide +kernel
theorem own7_67 : decode prog_65_method_1_code 67 = .ok (.invokeinterface 28 2, 5) := by decide +kernel
theorem own7_72 : decode prog_65_method_1_code 72 = .ok (.pop, 1) := by decide +kernel
theorem own7_73 : decode prog_65_method_1_code 73 = .ok (.goto (-29), 3) := by decide +kernel
theorem own_pd_28J29Ljava2flang2fLong3b : parseMethodDescriptor "(J)Ljava/lang/Long;" = some ⟨[.long], some (.object "java/lang/Long")⟩ := by decide +kernel
theorem own_pd_28JJ29J : parseMethodDescriptor "(JJ)J" = some ⟨[.long, .long], some .long⟩ := by decide +kernel
def own_Inv (Z : State) (h0 h : Heap) (n0 : Nat) (a1 : Addr) (q : Int64) (xa ea : Addr) (k : Nat) (vs : List Value) : Prop :=
  vs.length = k ∧ Exa Z h a1 "com/example/wingrow/wingrow/store/SummaryTree" ∧ Fld Z h a1 "com/example/wingrow/wingrow/store/SummaryTree" "sizes" "[J" .null ∧ Fld Z h a1 "com/example/wingrow/wingrow/store/SummaryTree" "widths" "[J" .null ∧ Fld Z h a1 "com/example/wingrow/wingrow/store/SummaryTree" "starts" "[J" .null ∧ own_Lst Z h xa ea (own_cap k) vs ∧ own_Bx Z h vs (own_s q) ∧ Ext Z.heap h ∧ Keep h0 h [a1] ∧ h0.size ≤ xa ∧ a1 < xa ∧ n0 ≤ h.size
set_option maxHeartbeats 4000000 in
theorem own_turn {p : Program} {l : Launch} {e : Env} {R : Room} {s : State} {m : MethodId} {args : Array Value} {below : List Frame} {meth : Method} {c : Code} {Z : State} {a0 : Array Value} {P : Outcome → State → Prop} {T : State} {h : Heap} {lc : List Loc} {cells slots pc pc' : Nat} {Ls : Array Slot} (hw : ∀ d ∈ tables_1, d.before a0 Z = true) (X : Stand p l e R s m args below meth c T lc cells slots) (hx : p.tables.exec = Jvm.exec) (hZ : Z.Warmed39 s.vm) (hown : s.vm.findClass "com/example/wingrow/wingrow/store/SummaryTree" = some m.cls) {z : Jvm.Free.ALB.GX} (GZ : own_Gz Z z) (VZ : own_VZ Z) (eT : T.heap = h)
    {h0 : Heap} {n0 : Nat} {a1 xa ea : Addr} {vs : List Value} (Z0 : n0 ≤ h0.size) (Zn : Z.heap.size ≤ n0) (q : Int64) (k : Nat) (hk : k ≤ 14) (I : own_Inv Z h0 h n0 a1 q xa ea k vs) (N : Fr n0 lc) (hd1 : decode c.code pc = .ok (.invokestatic 22, 3)) (hd2 : decode c.code (pc + 3) = .ok (.invokeinterface 28 2, 5)) (hd3 : decode c.code (pc + 8) = .ok (.pop, 1)) (hp : pc + 9 = pc') (hsize : Ls.size = c.maxLocals) (hfr : 8 ≤ R.frames) (hlo : 180 ≤ R.locals)
    (K0 : Nat) (hK0 : (if k = 10 then 15 else 10) = K0) {cells' slots' : Nat} (hc' : cells + 2 = cells') (hs' : slots + (1 + K0) = slots') (hc : cells' ≤ R.cells) (hl : slots' ≤ R.slots)
    (K : ∀ T' h' lc' ea' vs', Stand p l e R s m args below meth c T' lc' cells' slots' → T'.heap = h' → own_Inv Z h0 h' n0 a1 q xa ea' (k + 1) vs' → Fr n0 lc' → own_W p e below P T' m pc' Ls []) : own_W p e below P T m pc Ls [.long (own_s q k), .ref xa] := by
  subst hp hc' hs'
  obtain ⟨i1, i2, i3, i4, i5, i6, i7, i8, i9, i10, i11, i12⟩ := I
  refine own_callS X hx hZ [.long (own_s q k)] hown (own_w hw 75 rfl) (own_w hw 76 rfl) (own_w hw 77 rfl) (own_w hw 78 rfl) (by decide) (rm_vo l Z a0 hw VZ (own_s q k) h n0 i8) eT (W := 1) (by show 3 + 1 ≤ R.frames; omega) (by show 1 + (3 + 11) + 80 ≤ R.locals; omega) (cells' := cells + 1) (slots' := slots + 1) rfl rfl (by omega) (by omega) hsize (lenOf own_pd_28J29Ljava2flang2fLong3b rfl) rfl (S := [.ref xa]) rfl (Nat.le_of_eq rfl) hd1 (pc' := pc + 3) rfl ?_
  intro v T1 h1 L lc1 X1 eT1 hq fN
  obtain ⟨r, rfl, Nq, Ir, Fv, E1⟩ := hq
  have N1 := fN _ N Nq
  show own_W _ _ _ _ _ _ _ _ [.ref r, .ref xa]
  refine own_alAdd X1 hx hZ hw hown (own_w hw 83 rfl) GZ eT1 k i1 hk (i6.ext E1) Ir (own_w hw 114 rfl) hd2 (pc' := pc + 8) rfl hsize (W := 0) (S := []) (Nat.le_refl _) hfr (by omega) (cells' := cells + 2) (slots' := slots + (1 + K0)) rfl (by rw [hK0]; omega) hc hl ?_
  intro T2 h2 lc2 ea2 ea3 X2 eT2 L2 K2 hge hbx fN2
  refine own_pop X2 hx hd3 (pc' := pc + 9) rfl rfl ?_
  have na : a1 ∉ [xa, ea3] := by
    simp only [List.mem_cons, List.not_mem_nil, or_false, not_or]
    exact ⟨Nat.ne_of_lt i11, Nat.ne_of_lt (Nat.lt_of_lt_of_le i11 hge)⟩
  have nz : ∀ x ∈ [xa, ea3], h0.size ≤ x := fun x hx' => by
    simp only [List.mem_cons, List.not_mem_nil, or_false] at hx'
    rcases hx' with rfl | rfl
    · exact i10
    · exact Nat.le_trans i10 hge
  have E01 : Ext Z.heap h1 := ⟨Nat.le_trans i8.1 E1.1, fun a cc qq => E1.2 _ _ (i8.2 _ _ qq)⟩
  exact K T2 h2 lc2 ea2 _ X2 eT2 ⟨by rw [List.length_append, i1]; rfl, (i2.ext E1).keep K2, (i3.ext E1).keep K2 na, (i4.ext E1).keep K2 na, (i5.ext E1).keep K2 na, L2, ((i7.ext E1).snoc Ir (by rw [i1]; exact Fv)).keep K2 hbx, own_Ext.keep E01 K2 (fun x hx' => Nat.le_trans (Nat.le_trans Zn Z0) (nz x hx')), (i9.ext E1).trans K2 (fun x hx' => Or.inr (nz x hx')), i10, i11, Nat.le_trans (Nat.le_trans i12 E1.1) K2.1⟩ (fN2 _ (Nat.le_trans Z0 i10) N1)
set_option maxHeartbeats 4000000 in
theorem own_loop1 {p : Program} {l : Launch} {e : Env} {s : State} {m : MethodId} {args : Array Value} {below : List Frame} {meth : Method} {c : Code} {Z : State} {a0 : Array Value} {P : Outcome → State → Prop} (hw : ∀ d ∈ tables_1, d.before a0 Z = true) (hx : p.tables.exec = Jvm.exec) (hZ : Z.Warmed39 s.vm) (hby : c.code = prog_65_method_1_code) (hml : c.maxLocals = 7) (hown : s.vm.findClass "com/example/wingrow/wingrow/store/SummaryTree" = some m.cls) {z : Jvm.Free.ALB.GX} (GZ : own_Gz Z z) (VZ : own_VZ Z)
    {h0 : Heap} {n0 : Nat} {a1 xa : Addr} {q : Int64} (Z0 : n0 ≤ h0.size) (Zn : Z.heap.size ≤ n0) (hq : 0 ≤ q.toInt ∧ q.toInt < 4611686018427387904) (K76 : ∀ (T : State) (h : Heap) (lc : List Loc) (ea : Addr) (k : Nat) (vs : List Value) (u4 u5 : Slot), Stand p l e (⟨9, 34, 219, 180⟩ : Room) s m args below meth c T lc 31 173 → T.heap = h → own_Inv Z h0 h n0 a1 q xa ea k vs → Fr n0 lc → own_Lv q k → k ≤ 15 → own_sl2 u4 u5 → own_W p e below P T m 76 #[.val (.ref a1), .val (.long q), .second, .val (.ref xa), u4, u5, .unset] []) :
    ∀ (d k : Nat), k + 1 + d = 15 → ∀ (T : State) (h : Heap) (lc : List Loc) (ea : Addr) (vs : List Value), Stand p l e (⟨9, 34, 219, 180⟩ : Room) s m args below meth c T lc (2 * (k + 1) + 1) (own_slo (k + 1)) → T.heap = h → own_Inv Z h0 h n0 a1 q xa ea (k + 1) vs → Fr n0 lc → 0 < q → (∀ j, j < k → 1 < own_s q j) → own_W p e below P T m 44 #[.val (.ref a1), .val (.long q), .second, .val (.ref xa), .val (.long (own_s q k)), .second, .unset] [] := by
  intro d
  induction d with
  | zero =>
    intro k hk T h lc ea vs X eT I N hp hj
    obtain rfl : k = 14 := by omega
    refine own_lload X hx (hb hby own7_44) (pc' := 46) rfl rfl ?_
    refine own_lconst X hx (1 : Int64) (hb hby own7_46) (pc' := 47) rfl rfl ?_
    refine own_lcY X hx (hb hby own7_47) (hb hby own7_48) (by decide) (pc' := 76) rfl (show ¬ ((1 : Int64) < own_s q 14) from own_s14 hq) ?_
    exact K76 T h lc ea 15 vs _ _ (X.more (by decide) (by decide)) eT I N (Or.inr ⟨14, rfl, hp, hj, own_s14 hq⟩) (Nat.le_refl _) (Or.inr ⟨_, rfl, rfl⟩)
  | succ d ih =>
    intro k hk T h lc ea vs X eT I N hp hj
    refine own_lload X hx (hb hby own7_44) (pc' := 46) rfl rfl ?_
    refine own_lconst X hx (1 : Int64) (hb hby own7_46) (pc' := 47) rfl rfl ?_
    refine own_lc X hx (hb hby own7_47) (hb hby own7_48) (by decide) (pcY := 76) (pcN := 51) rfl rfl (fun (hc : ¬ ((1 : Int64) < own_s q k)) => ?_) (fun (hc : (1 : Int64) < own_s q k) => ?_)
    · exact K76 T h lc ea (k + 1) vs _ _ (X.more (by omega) (by unfold own_slo; split <;> omega)) eT I N (Or.inr ⟨k, rfl, hp, hj, hc⟩) (by omega) (Or.inr ⟨_, rfl, rfl⟩)
    · refine own_lload X hx (hb hby own7_51) (pc' := 53) rfl rfl ?_
      refine own_ldc2 X hx hZ hown (own_w hw 115 rfl) (hb hby own7_53) (pc' := 56) rfl ?_
      refine own_callS X hx hZ [.long (own_s q k), .long (16 : Int64)] hown (own_w hw 72 rfl) (own_w hw 73 rfl) (own_w hw 11 rfl) (own_w hw 74 rfl) (by decide) (rm_cd l Z a0 hw [] (own_s q k) 16 h n0 I.2.2.2.2.2.2.2.2.2.2.2 (by decide)) eT (W := 0) (by decide) (by decide) (cells' := 2 * (k + 1) + 1) (slots' := own_slo (k + 1)) rfl rfl (by show 2 * (k + 1) + 1 ≤ 34; omega) (by show own_slo (k + 1) ≤ 219; unfold own_slo; split <;> omega) (by rw [hml]; rfl) (lenOf own_pd_28JJ29J rfl) rfl (S := []) rfl (Nat.le_of_eq rfl) (hb hby own7_56) (pc' := 59) rfl ?_
      intro v T1 h1 L lc1 X1 eT1 hq1 fN
      obtain ⟨rfl, Nq, hqe⟩ := hq1
      have N1 := fN _ N Nq
      rw [hqe] at eT1
      show own_W _ _ _ _ _ _ _ _ [.long (own_s q (k + 1))]
      refine own_lstore X1 hx (hb hby own7_59) (pc' := 61) rfl (Ls' := #[.val (.ref a1), .val (.long q), .second, .val (.ref xa), .val (.long (own_s q (k + 1))), .second, .unset]) rfl ?_
      refine own_aloadN X1 hx (hb hby own7_61) (pc' := 62) rfl rfl rfl ?_
      refine own_lload X1 hx (hb hby own7_62) (pc' := 64) rfl rfl ?_
      refine own_turn hw X1 hx hZ hown GZ VZ eT1 Z0 Zn q (k + 1) (by omega) I N1 (hb hby own7_64) (hb hby own7_67) (hb hby own7_72) (pc' := 73) rfl (by rw [hml]; rfl) (by decide) (by decide) _ rfl (cells' := 2 * (k + 1 + 1) + 1) (slots' := own_slo (k + 1 + 1)) (by omega) (own_slo_step (k + 1)) (by show 2 * (k + 1 + 1) + 1 ≤ 34; omega) (by show own_slo (k + 1 + 1) ≤ 219; unfold own_slo; split <;> omega) ?_
      intro T2 h2 lc2 ea2 vs2 X2 eT2 I2 N2
      refine own_goto X2 hx (hb hby own7_73) (by decide) (pc' := 44) rfl ?_
      exact ih (k + 1) (by omega) T2 h2 lc2 ea2 vs2 X2 eT2 I2 N2 hp (fun j hj' => by
        by_cases e : j = k
        · subst e; exact hc
        · exact hj j (by omega))
theorem own7_0 : decode prog_65_method_1_code 0 = .ok (.aload_n 0, 1) := by decide +kernel
theorem own7_1 : decode prog_65_method_1_code 1 = .ok (.invokespecial 3, 3) := by decide +kernel
theorem own7_4 : decode prog_65_method_1_code 4 = .ok (.aload_n 0, 1) := by decide +kernel
theorem own7_5 : decode prog_65_method_1_code 5 = .ok (.lload_n 1, 1) := by decide +kernel
theorem own7_6 : decode prog_65_method_1_code 6 = .ok (.putfield 9, 3) := by decide +kernel
theorem own7_76 : decode prog_65_method_1_code 76 = .ok (.aload_n 0, 1) := by decide +kernel
theorem own7_77 : decode prog_65_method_1_code 77 = .ok (.aload_n 3, 1) := by decide +kernel
theorem own7_78 : decode prog_65_method_1_code 78 = .ok (.invokeinterface 36 1, 5) := by decide +kernel
theorem own7_83 : decode prog_65_method_1_code 83 = .ok (.newarray .long, 2) := by decide +kernel
theorem own7_85 : decode prog_65_method_1_code 85 = .ok (.putfield 40, 3) := by decide +kernel
theorem own7_88 : decode prog_65_method_1_code 88 = .ok (.aload_n 0, 1) := by decide +kernel
theorem own7_89 : decode prog_65_method_1_code 89 = .ok (.aload_n 3, 1) := by decide +kernel
theorem own7_90 : decode prog_65_method_1_code 90 = .ok (.invokeinterface 36 1, 5) := by decide +kernel
theorem own7_95 : decode prog_65_method_1_code 95 = .ok (.newarray .long, 2) := by decide +kernel
theorem own7_97 : decode prog_65_method_1_code 97 = .ok (.putfield 44, 3) := by decide +kernel
theorem own7_100 : decode prog_65_method_1_code 100 = .ok (.aload_n 0, 1) := by decide +kernel
theorem own7_101 : decode prog_65_method_1_code 101 = .ok (.aload_n 3, 1) := by decide +kernel
theorem own7_102 : decode prog_65_method_1_code 102 = .ok (.invokeinterface 36 1, 5) := by decide +kernel
theorem own7_107 : decode prog_65_method_1_code 107 = .ok (.iconst 1, 1) := by decide +kernel
theorem own7_108 : decode prog_65_method_1_code 108 = .ok (.iadd, 1) := by decide +kernel
theorem own7_109 : decode prog_65_method_1_code 109 = .ok (.newarray .long, 2) := by decide +kernel
theorem own7_111 : decode prog_65_method_1_code 111 = .ok (.putfield 47, 3) := by decide +kernel
theorem own7_114 : decode prog_65_method_1_code 114 = .ok (.iconst 0, 1) := by decide +kernel
theorem own7_115 : decode prog_65_method_1_code 115 = .ok (.istore 4, 2) := by decide +kernel
theorem own7_117 : decode prog_65_method_1_code 117 = .ok (.iload 4, 2) := by decide +kernel
theorem own7_119 : decode prog_65_method_1_code 119 = .ok (.aload_n 0, 1) := by decide +kernel
theorem own7_120 : decode prog_65_method_1_code 120 = .ok (.getfield 40, 3) := by decide +kernel
theorem own7_123 : decode prog_65_method_1_code 123 = .ok (.arraylength, 1) := by decide +kernel
theorem own7_124 : decode prog_65_method_1_code 124 = .ok (.if_icmp .ge 93, 3) := by decide +kernel
theorem own7_217 : decode prog_65_method_1_code 217 = .ok (.return_, 1) := by decide +kernel
theorem own7_127 : decode prog_65_method_1_code 127 = .ok (.aload_n 0, 1) := by decide +kernel
theorem own7_128 : decode prog_65_method_1_code 128 = .ok (.getfield 40, 3) := by decide +kernel
theorem own7_131 : decode prog_65_method_1_code 131 = .ok (.iload 4, 2) := by decide +kernel
theorem own7_133 : decode prog_65_method_1_code 133 = .ok (.aload_n 3, 1) := by decide +kernel
theorem own7_134 : decode prog_65_method_1_code 134 = .ok (.iload 4, 2) := by decide +kernel
theorem own7_136 : decode prog_65_method_1_code 136 = .ok (.invokeinterface 50 2, 5) := by decide +kernel
theorem own7_141 : decode prog_65_method_1_code 141 = .ok (.checkcast 23, 3) := by decide +kernel
theorem own7_144 : decode prog_65_method_1_code 144 = .ok (.invokevirtual 54, 3) := by decide +kernel
theorem own_pd_2829J : parseMethodDescriptor "()J" = some ⟨[], some .long⟩ := by decide +kernel
theorem own7_147 : decode prog_65_method_1_code 147 = .ok (.lastore, 1) := by decide +kernel
theorem own7_148 : decode prog_65_method_1_code 148 = .ok (.iload 4, 2) := by decide +kernel
theorem own7_150 : decode prog_65_method_1_code 150 = .ok (.ifCond .ne 9, 3) := by decide +kernel
theorem own7_159 : decode prog_65_method_1_code 159 = .ok (.aload_n 0, 1) := by decide +kernel
theorem own7_160 : decode prog_65_method_1_code 160 = .ok (.getfield 44, 3) := by decide +kernel
theorem own7_163 : decode prog_65_method_1_code 163 = .ok (.iload 4, 2) := by decide +kernel
theorem own7_165 : decode prog_65_method_1_code 165 = .ok (.iconst 1, 1) := by decide +kernel
theorem own7_166 : decode prog_65_method_1_code 166 = .ok (.isub, 1) := by decide +kernel
theorem own7_167 : decode prog_65_method_1_code 167 = .ok (.laload, 1) := by decide +kernel
theorem own7_168 : decode prog_65_method_1_code 168 = .ok (.ldc2_w 34, 3) := by decide +kernel
theorem own7_171 : decode prog_65_method_1_code 171 = .ok (.lmul, 1) := by decide +kernel
theorem own7_172 : decode prog_65_method_1_code 172 = .ok (.lstore 5, 2) := by decide +kernel
theorem own7_174 : decode prog_65_method_1_code 174 = .ok (.aload_n 0, 1) := by decide +kernel
theorem own7_175 : decode prog_65_method_1_code 175 = .ok (.getfield 44, 3) := by decide +kernel
theorem own7_178 : decode prog_65_method_1_code 178 = .ok (.iload 4, 2) := by decide +kernel
theorem own7_180 : decode prog_65_method_1_code 180 = .ok (.lload 5, 2) := by decide +kernel
theorem own7_182 : decode prog_65_method_1_code 182 = .ok (.lload_n 1, 1) := by decide +kernel
theorem own7_183 : decode prog_65_method_1_code 183 = .ok (.invokestatic 58, 3) := by decide +kernel
theorem own7_186 : decode prog_65_method_1_code 186 = .ok (.lastore, 1) := by decide +kernel
theorem own7_187 : decode prog_65_method_1_code 187 = .ok (.aload_n 0, 1) := by decide +kernel
theorem own7_188 : decode prog_65_method_1_code 188 = .ok (.getfield 47, 3) := by decide +kernel
theorem own7_191 : decode prog_65_method_1_code 191 = .ok (.iload 4, 2) := by decide +kernel
theorem own7_193 : decode prog_65_method_1_code 193 = .ok (.iconst 1, 1) := by decide +kernel
theorem own7_194 : decode prog_65_method_1_code 194 = .ok (.iadd, 1) := by decide +kernel
theorem own7_195 : decode prog_65_method_1_code 195 = .ok (.aload_n 0, 1) := by decide +kernel
theorem own7_196 : decode prog_65_method_1_code 196 = .ok (.getfield 47, 3) := by decide +kernel
theorem own7_199 : decode prog_65_method_1_code 199 = .ok (.iload 4, 2) := by decide +kernel
theorem own7_201 : decode prog_65_method_1_code 201 = .ok (.laload, 1) := by decide +kernel
theorem own7_202 : decode prog_65_method_1_code 202 = .ok (.aload_n 0, 1) := by decide +kernel
theorem own7_203 : decode prog_65_method_1_code 203 = .ok (.getfield 40, 3) := by decide +kernel
theorem own7_206 : decode prog_65_method_1_code 206 = .ok (.iload 4, 2) := by decide +kernel
theorem own7_208 : decode prog_65_method_1_code 208 = .ok (.laload, 1) := by decide +kernel
theorem own7_209 : decode prog_65_method_1_code 209 = .ok (.ladd, 1) := by decide +kernel
theorem own7_210 : decode prog_65_method_1_code 210 = .ok (.lastore, 1) := by decide +kernel
theorem own7_211 : decode prog_65_method_1_code 211 = .ok (.iinc 4 1, 3) := by decide +kernel
theorem own7_214 : decode prog_65_method_1_code 214 = .ok (.goto (-97), 3) := by decide +kernel
theorem own7_153 : decode prog_65_method_1_code 153 = .ok (.ldc2_w 16, 3) := by decide +kernel
theorem own7_156 : decode prog_65_method_1_code 156 = .ok (.goto 16, 3) := by decide +kernel
theorem own7_16 : decode prog_65_method_1_code 16 = .ok (.astore_n 3, 1) := by decide +kernel
theorem own7_17 : decode prog_65_method_1_code 17 = .ok (.lload_n 1, 1) := by decide +kernel
theorem own7_18 : decode prog_65_method_1_code 18 = .ok (.lconst 0, 1) := by decide +kernel
theorem own7_19 : decode prog_65_method_1_code 19 = .ok (.lcmp, 1) := by decide +kernel
theorem own7_20 : decode prog_65_method_1_code 20 = .ok (.ifCond .le 56, 3) := by decide +kernel
theorem own7_23 : decode prog_65_method_1_code 23 = .ok (.lload_n 1, 1) := by decide +kernel
theorem own7_24 : decode prog_65_method_1_code 24 = .ok (.ldc2_w 16, 3) := by decide +kernel
theorem own7_27 : decode prog_65_method_1_code 27 = .ok (.invokestatic 18, 3) := by decide +kernel
theorem own7_30 : decode prog_65_method_1_code 30 = .ok (.lstore 4, 2) := by decide +kernel
theorem own7_32 : decode prog_65_method_1_code 32 = .ok (.aload_n 3, 1) := by decide +kernel
theorem own7_33 : decode prog_65_method_1_code 33 = .ok (.lload 4, 2) := by decide +kernel
theorem ef7RJ (m : MethodId) (x0 : Addr) (x1 : Int64) : entryFrame m #[(.ref x0), (.long x1)] 7 = mkF m 0 #[.val (.ref x0), .val (.long x1), .second, .unset, .unset, .unset, .unset] [] := by first | (simp [entryFrame, mkF, argsToLocals, Value.category]; done) | rfl
def Q_init (Z : State) (a1 : Addr) (q1 : Int64) (h0 : Heap) (n0 : Nat) (v : Option Value) (h : Heap) (L : List Loc) : Prop := v = none ∧ Fr n0 L ∧ Keep h0 h [a1] ∧ ∃ (k : Nat) (b1 b3 : Addr) (k1 k3 : ClassId) (v1 v3 : List Value), own_Lv q1 k ∧ k ≤ 15 ∧ Fld Z h a1 "com/example/wingrow/wingrow/store/SummaryTree" "sizes" "[J" (.ref b1) ∧ Fld Z h a1 "com/example/wingrow/wingrow/store/SummaryTree" "starts" "[J" (.ref b3) ∧ Arv Z h b1 k1 .long (Int32.ofNat k) v1 (.long 0) ∧ Arv Z h b3 k3 .long (Int32.ofNat k + 1) v3 (.long 0) ∧ v3.getD k (.long 0) = .long (own_sum q1 k)
set_option maxRecDepth 65536 in
set_option maxHeartbeats 40000000 in
theorem rm_init (l : Launch) (Z : State) (a0 : Array Value) (hw : ∀ d ∈ tables_1, d.before a0 Z = true) (ws : List Jvm.Cond) (a1 : Addr) (q1 : Int64) (h0 : Heap) (n0 : Nat) (Z0 : n0 ≤ h0.size) (Zn : Z.heap.size ≤ n0) {dc : Addr} {Edc : Cell} (HD : Jvm.Free.ALB.DfArr dc Edc Z) {z : Jvm.Free.ALB.GX} (GZ : own_Gz Z z) (VZ : own_VZ Z) (EZ : Ext Z.heap h0) (hq : 0 ≤ q1.toInt ∧ q1.toInt < 4611686018427387904) (E_a1 : Exa Z h0 a1 "com/example/wingrow/wingrow/store/SummaryTree") (F_samples : Fld Z h0 a1 "com/example/wingrow/wingrow/store/SummaryTree" "samples" "J" (.long 0)) (F_sizes : Fld Z h0 a1 "com/example/wingrow/wingrow/store/SummaryTree" "sizes" "[J" .null) (F_widths : Fld Z h0 a1 "com/example/wingrow/wingrow/store/SummaryTree" "widths" "[J" .null) (F_starts : Fld Z h0 a1 "com/example/wingrow/wingrow/store/SummaryTree" "starts" "[J" .null) (z_a1 : n0 ≤ a1) : own_Met l Z ⟨"com/example/wingrow/wingrow/store/SummaryTree", "<init>", "(J)V"⟩ prog_65_method_1_code 7 none ws ⟨9, 34, 219, 180⟩ #[(.ref a1), (.long q1)] h0 (Q_init Z a1 q1 h0 n0) := by
  refine own_met n0 own_pn_com_example_wingrow_wingrow_store_SummaryTree (fun m => ef7RJ m a1 q1) ?_
  intro p e s m below meth c T lc hret hx hZ hby hml hown hnm hlk X eT N
  have Kp : Keep h0 h0 [a1] := Keep.refl _ _
  have Zh := Z0
  refine own_aloadN X hx (hb hby own7_0) (pc' := 1) rfl rfl rfl ?_
  refine own_initO X hx hZ hown (own_w hw 15 rfl) (own_w hw 16 rfl) (own_w hw 17 rfl) eT (by rw [hml]; rfl) (hb hby own7_1) (pc' := 4) rfl (by decide) (W := 0) (Nat.le_of_eq rfl) (by decide) ?_
  intro T X eT
  refine own_aloadN X hx (hb hby own7_4) (pc' := 5) rfl rfl rfl ?_
  refine own_lloadN X hx (hb hby own7_5) (pc' := 6) rfl rfl ?_
  refine own_putF X hx hZ hown (own_w hw 18 rfl) Via.refl eT F_samples E_a1 (Or.inr ⟨(own_w hw 19 rfl), rfl, hnm⟩) (own_w hw 10 rfl) (ty := .long) (v' := (.long q1)) (by decide) rfl rfl (hb hby own7_6) (pc' := 9) rfl ?_
  intro T h1 lc X eT Wq fN
  have F_samples := F_samples.same Wq
  have E_a1 := E_a1.wr Wq
  have F_sizes := F_sizes.other Wq (Or.inr (slot_ne (Or.inr (own_w hw 57 rfl)) (Or.inr (own_w hw 19 rfl)) (by decide) (t := (.array .long)) (t' := .long) (by decide) (by decide)))
  have F_widths := F_widths.other Wq (Or.inr (slot_ne (Or.inr (own_w hw 59 rfl)) (Or.inr (own_w hw 19 rfl)) (by decide) (t := (.array .long)) (t' := .long) (by decide) (by decide)))
  have F_starts := F_starts.other Wq (Or.inr (slot_ne (Or.inr (own_w hw 61 rfl)) (Or.inr (own_w hw 19 rfl)) (by decide) (t := (.array .long)) (t' := .long) (by decide) (by decide)))
  have Z0 := Nat.le_trans Z0 (Keep.of_wr Wq).1
  have N := fN _ z_a1 N
  have Kp := Kp.wr Wq (Or.inl (List.mem_of_getElem? (i := 0) rfl))
  have EZ := own_Ext.keep EZ (Keep.of_wr Wq) (fun x hx' => by cases List.mem_singleton.mp hx'; exact Nat.le_trans Zn z_a1)
  refine own_alNew X hx hZ hw hown (own_w hw 20 rfl) (own_w hw 23 rfl) eT HD EZ (hb hby own7_9) (hb hby own7_12) (hb hby own7_13) (pc' := 16) rfl (by rw [hml]; rfl) (W := 1) (by decide) (by decide) (by decide) (cells' := 1) (slots' := 3) rfl rfl (by decide) (by decide) ?_
  intro T h2 lc xa X eT E gxa LST fN
  have sxa : h0.size ≤ xa := by rw [gxa]; exact Kp.1
  have lxa : a1 < xa := by rw [gxa]; exact E_a1.lt
  have N := fN _ (Nat.le_trans Zh sxa) N
  have EZ : Ext Z.heap h2 := ⟨Nat.le_trans EZ.1 E.1, fun a cc qq => E.2 _ _ (EZ.2 _ _ qq)⟩
  have E_a1 := E_a1.ext E
  have F_sizes := F_sizes.ext E
  have F_widths := F_widths.ext E
  have F_starts := F_starts.ext E
  have Z0 := Nat.le_trans Z0 E.1
  have Kp := Kp.ext E
  have INV : own_Inv Z h0 h2 n0 a1 q1 xa dc 0 [] := ⟨rfl, E_a1, F_sizes, F_widths, F_starts, LST, fun i hi => absurd hi (Nat.not_lt_zero _), EZ, Kp, sxa, lxa, Z0⟩
  have J_76 : ∀ (T : State) (h : Heap) (lc : List Loc) (ea : Addr) (k : Nat) (vs : List Value) (u4 u5 : Slot), Stand p l e ⟨9, 34, 219, 180⟩ s m #[(.ref a1), (.long q1)] below meth c T lc 31 173 → T.heap = h → own_Inv Z h0 h n0 a1 q1 xa ea k vs → Fr n0 lc → own_Lv q1 k → k ≤ 15 → own_sl2 u4 u5 → own_W p e below (own_Post s (Q_init Z a1 q1 h0 n0) 34 219) T m 76 #[.val (.ref a1), .val (.long q1), .second, .val (.ref xa), u4, u5, .unset] [] := by
    intro T h lc ea k vs u4 u5 X eT I N LV k15 U
    obtain ⟨i1, E_a1, F_sizes, F_widths, F_starts, LST0, BX, EZ, Kp, -, -, Z0⟩ := I
    subst i1
    have LS := own_Lsf.of LST0
    have I_xa := LST0.is.1
    have I_ea := LST0.is.2
    refine own_aloadN X hx (hb hby own7_76) (pc' := 77) rfl rfl rfl ?_
    refine own_aloadN X hx (hb hby own7_77) (pc' := 78) rfl rfl rfl ?_
    refine own_alSize X hx hZ hw hown (own_w hw 44 rfl) eT LS (hb hby own7_78) (pc' := 83) rfl (by rw [hml]; rfl) (W := 1) (Nat.le_of_eq rfl) (by decide) (by decide) (by decide) (by decide) ?_
    intro T X eT
    refine own_newarrE X hx hZ (own_w hw 55 rfl) eT (hb hby own7_83) (pc' := 85) rfl (own_nn (by omega)) 15 (by rw [own_clm (by omega)]; omega) (by decide) (cells' := 32) (slots' := 188) rfl rfl (by decide) (by decide) (ad := "[J") (by decide) ?_
    intro T h11 k_b11 b11 X eT E gb11 E_b11 A_b11
    have lt_a1_b11 : a1 < b11 := Nat.lt_of_lt_of_le E_a1.lt (Nat.le_of_eq gb11.symm)
    have ne_a1_b11 : a1 ≠ b11 := Nat.ne_of_lt lt_a1_b11
    have z_b11 : n0 ≤ b11 := Nat.le_trans Z0 (Nat.le_of_eq gb11.symm)
    have s_b11 : h0.size ≤ b11 := Nat.le_trans Kp.1 (Nat.le_of_eq gb11.symm)
    have LS := LS.ext E
    have BX := BX.ext E
    have I_xa := I_xa.ext E
    have I_ea := I_ea.ext E
    have E_a1 := E_a1.ext E
    have F_sizes := F_sizes.ext E
    have F_widths := F_widths.ext E
    have F_starts := F_starts.ext E
    have Z0 := Nat.le_trans Z0 E.1
    have Kp := Kp.ext E
    have A_b11 : Arv Z h11 b11 k_b11 .long (Int32.ofNat vs.length) [] (.long (0 : Int64)) := A_b11.pad (pad_rep [] (.long (0 : Int64)) 0)
    refine own_putF X hx hZ hown (own_w hw 56 rfl) Via.refl eT F_sizes E_a1 (Or.inr ⟨(own_w hw 57 rfl), rfl, hnm⟩) (own_w hw 10 rfl) (ty := (.array .long)) (v' := (.ref b11)) (by decide) rfl rfl (hb hby own7_85) (pc' := 88) rfl ?_
    intro T h12 lc X eT Wq fN
    have F_sizes := F_sizes.same Wq
    have LS := LS.keep (Keep.of_wr Wq) (ninS (own_Is.ne I_xa (own_Is.of E_a1) (by decide)) nin0) (ninS (own_Is.ne I_ea (own_Is.of E_a1) (by decide)) nin0)
    have BX := BX.keep (Keep.of_wr Wq) (fun r I => (ninS (own_Is.ne I (own_Is.of E_a1) (by decide)) nin0))
    have I_xa := I_xa.keep (Keep.of_wr Wq)
    have I_ea := I_ea.keep (Keep.of_wr Wq)
    have E_a1 := E_a1.wr Wq
    have F_widths := F_widths.other Wq (Or.inr (slot_ne (Or.inr (own_w hw 59 rfl)) (Or.inr (own_w hw 57 rfl)) (by decide) (t := (.array .long)) (t' := (.array .long)) (by decide) (by decide)))
    have F_starts := F_starts.other Wq (Or.inr (slot_ne (Or.inr (own_w hw 61 rfl)) (Or.inr (own_w hw 57 rfl)) (by decide) (t := (.array .long)) (t' := (.array .long)) (by decide) (by decide)))
    have A_b11 := A_b11.other Wq (Ne.symm ne_a1_b11)
    have E_b11 := E_b11.wr Wq
    have Z0 := Nat.le_trans Z0 (Keep.of_wr Wq).1
    have N := fN _ z_a1 N
    have Kp := Kp.wr Wq (Or.inl (List.mem_of_getElem? (i := 0) rfl))
    refine own_aloadN X hx (hb hby own7_88) (pc' := 89) rfl rfl rfl ?_
    refine own_aloadN X hx (hb hby own7_89) (pc' := 90) rfl rfl rfl ?_
    refine own_alSize X hx hZ hw hown (own_w hw 44 rfl) eT LS (hb hby own7_90) (pc' := 95) rfl (by rw [hml]; rfl) (W := 1) (Nat.le_of_eq rfl) (by decide) (by decide) (by decide) (by decide) ?_
    intro T X eT
    refine own_newarrE X hx hZ (own_w hw 55 rfl) eT (hb hby own7_95) (pc' := 97) rfl (own_nn (by omega)) 15 (by rw [own_clm (by omega)]; omega) (by decide) (cells' := 33) (slots' := 203) rfl rfl (by decide) (by decide) (ad := "[J") (by decide) ?_
    intro T h13 k_b13 b13 X eT E gb13 E_b13 A_b13
    have lt_a1_b13 : a1 < b13 := Nat.lt_of_lt_of_le E_a1.lt (Nat.le_of_eq gb13.symm)
    have ne_a1_b13 : a1 ≠ b13 := Nat.ne_of_lt lt_a1_b13
    have lt_b11_b13 : b11 < b13 := Nat.lt_of_lt_of_le A_b11.lt (Nat.le_of_eq gb13.symm)
    have ne_b11_b13 : b11 ≠ b13 := Nat.ne_of_lt lt_b11_b13
    have z_b13 : n0 ≤ b13 := Nat.le_trans Z0 (Nat.le_of_eq gb13.symm)
    have s_b13 : h0.size ≤ b13 := Nat.le_trans Kp.1 (Nat.le_of_eq gb13.symm)
    have LS := LS.ext E
    have BX := BX.ext E
    have I_xa := I_xa.ext E
    have I_ea := I_ea.ext E
    have E_a1 := E_a1.ext E
    have F_widths := F_widths.ext E
    have F_starts := F_starts.ext E
    have A_b11 := A_b11.ext E
    have E_b11 := E_b11.ext E
    have F_sizes := F_sizes.ext E
    have Z0 := Nat.le_trans Z0 E.1
    have Kp := Kp.ext E
    have A_b13 : Arv Z h13 b13 k_b13 .long (Int32.ofNat vs.length) [] (.long (0 : Int64)) := A_b13.pad (pad_rep [] (.long (0 : Int64)) 0)
    refine own_putF X hx hZ hown (own_w hw 58 rfl) Via.refl eT F_widths E_a1 (Or.inr ⟨(own_w hw 59 rfl), rfl, hnm⟩) (own_w hw 10 rfl) (ty := (.array .long)) (v' := (.ref b13)) (by decide) rfl rfl (hb hby own7_97) (pc' := 100) rfl ?_
    intro T h14 lc X eT Wq fN
    have F_widths := F_widths.same Wq
    have LS := LS.keep (Keep.of_wr Wq) (ninS (own_Is.ne I_xa (own_Is.of E_a1) (by decide)) nin0) (ninS (own_Is.ne I_ea (own_Is.of E_a1) (by decide)) nin0)
    have BX := BX.keep (Keep.of_wr Wq) (fun r I => (ninS (own_Is.ne I (own_Is.of E_a1) (by decide)) nin0))
    have I_xa := I_xa.keep (Keep.of_wr Wq)
    have I_ea := I_ea.keep (Keep.of_wr Wq)
    have E_a1 := E_a1.wr Wq
    have F_starts := F_starts.other Wq (Or.inr (slot_ne (Or.inr (own_w hw 61 rfl)) (Or.inr (own_w hw 59 rfl)) (by decide) (t := (.array .long)) (t' := (.array .long)) (by decide) (by decide)))
    have A_b11 := A_b11.other Wq (Ne.symm ne_a1_b11)
    have E_b11 := E_b11.wr Wq
    have F_sizes := F_sizes.other Wq (Or.inr (slot_ne (Or.inr (own_w hw 57 rfl)) (Or.inr (own_w hw 59 rfl)) (by decide) (t := (.array .long)) (t' := (.array .long)) (by decide) (by decide)))
    have A_b13 := A_b13.other Wq (Ne.symm ne_a1_b13)
    have E_b13 := E_b13.wr Wq
    have Z0 := Nat.le_trans Z0 (Keep.of_wr Wq).1
    have N := fN _ z_a1 N
    have Kp := Kp.wr Wq (Or.inl (List.mem_of_getElem? (i := 0) rfl))
    refine own_aloadN X hx (hb hby own7_100) (pc' := 101) rfl rfl rfl ?_
    refine own_aloadN X hx (hb hby own7_101) (pc' := 102) rfl rfl rfl ?_
    refine own_alSize X hx hZ hw hown (own_w hw 44 rfl) eT LS (hb hby own7_102) (pc' := 107) rfl (by rw [hml]; rfl) (W := 1) (Nat.le_of_eq rfl) (by decide) (by decide) (by decide) (by decide) ?_
    intro T X eT
    refine own_iconst X hx (1 : Int32) (hb hby own7_107) (pc' := 108) rfl rfl ?_
    refine own_iadd X hx (hb hby own7_108) (pc' := 109) rfl ?_
    refine own_newarrE X hx hZ (own_w hw 55 rfl) eT (hb hby own7_109) (pc' := 111) rfl (by rw [own_inc]; exact own_nn (by omega)) 16 (by rw [own_inc, own_clm (by omega)]; omega) (by decide) (cells' := 34) (slots' := 219) rfl rfl (by decide) (by decide) (ad := "[J") (by decide) ?_
    intro T h15 k_b15 b15 X eT E gb15 E_b15 A_b15
    have lt_a1_b15 : a1 < b15 := Nat.lt_of_lt_of_le E_a1.lt (Nat.le_of_eq gb15.symm)
    have ne_a1_b15 : a1 ≠ b15 := Nat.ne_of_lt lt_a1_b15
    have lt_b11_b15 : b11 < b15 := Nat.lt_of_lt_of_le A_b11.lt (Nat.le_of_eq gb15.symm)
    have ne_b11_b15 : b11 ≠ b15 := Nat.ne_of_lt lt_b11_b15
    have lt_b13_b15 : b13 < b15 := Nat.lt_of_lt_of_le A_b13.lt (Nat.le_of_eq gb15.symm)
    have ne_b13_b15 : b13 ≠ b15 := Nat.ne_of_lt lt_b13_b15
    have z_b15 : n0 ≤ b15 := Nat.le_trans Z0 (Nat.le_of_eq gb15.symm)
    have s_b15 : h0.size ≤ b15 := Nat.le_trans Kp.1 (Nat.le_of_eq gb15.symm)
    have LS := LS.ext E
    have BX := BX.ext E
    have I_xa := I_xa.ext E
    have I_ea := I_ea.ext E
    have E_a1 := E_a1.ext E
    have F_starts := F_starts.ext E
    have A_b11 := A_b11.ext E
    have E_b11 := E_b11.ext E
    have F_sizes := F_sizes.ext E
    have A_b13 := A_b13.ext E
    have E_b13 := E_b13.ext E
    have F_widths := F_widths.ext E
    have Z0 := Nat.le_trans Z0 E.1
    have Kp := Kp.ext E
    have A_b15 : Arv Z h15 b15 k_b15 .long ((Int32.ofNat vs.length) + (1 : Int32)) [] (.long (0 : Int64)) := A_b15.pad (pad_rep [] (.long (0 : Int64)) 0)
    refine own_putF X hx hZ hown (own_w hw 60 rfl) Via.refl eT F_starts E_a1 (Or.inr ⟨(own_w hw 61 rfl), rfl, hnm⟩) (own_w hw 10 rfl) (ty := (.array .long)) (v' := (.ref b15)) (by decide) rfl rfl (hb hby own7_111) (pc' := 114) rfl ?_
    intro T h16 lc X eT Wq fN
    have F_starts := F_starts.same Wq
    have LS := LS.keep (Keep.of_wr Wq) (ninS (own_Is.ne I_xa (own_Is.of E_a1) (by decide)) nin0) (ninS (own_Is.ne I_ea (own_Is.of E_a1) (by decide)) nin0)
    have BX := BX.keep (Keep.of_wr Wq) (fun r I => (ninS (own_Is.ne I (own_Is.of E_a1) (by decide)) nin0))
    have I_xa := I_xa.keep (Keep.of_wr Wq)
    have I_ea := I_ea.keep (Keep.of_wr Wq)
    have E_a1 := E_a1.wr Wq
    have A_b11 := A_b11.other Wq (Ne.symm ne_a1_b11)
    have E_b11 := E_b11.wr Wq
    have F_sizes := F_sizes.other Wq (Or.inr (slot_ne (Or.inr (own_w hw 57 rfl)) (Or.inr (own_w hw 61 rfl)) (by decide) (t := (.array .long)) (t' := (.array .long)) (by decide) (by decide)))
    have A_b13 := A_b13.other Wq (Ne.symm ne_a1_b13)
    have E_b13 := E_b13.wr Wq
    have F_widths := F_widths.other Wq (Or.inr (slot_ne (Or.inr (own_w hw 59 rfl)) (Or.inr (own_w hw 61 rfl)) (by decide) (t := (.array .long)) (t' := (.array .long)) (by decide) (by decide)))
    have A_b15 := A_b15.other Wq (Ne.symm ne_a1_b15)
    have E_b15 := E_b15.wr Wq
    have Z0 := Nat.le_trans Z0 (Keep.of_wr Wq).1
    have N := fN _ z_a1 N
    have Kp := Kp.wr Wq (Or.inl (List.mem_of_getElem? (i := 0) rfl))
    refine own_iconst X hx (0 : Int32) (hb hby own7_114) (pc' := 115) rfl rfl ?_
    refine own_istore X hx (hb hby own7_115) (pc' := 117) rfl (Ls' := #[.val (.ref a1), .val (.long q1), .second, .val (.ref xa), .val (.int (0 : Int32)), .unset, .unset]) (own_st4 U) ?_
    have A_b11 := A_b11.pad (pad_rep [] (.long (0 : Int64)) vs.length)
    have A_b13 := A_b13.pad (pad_rep [] (.long (0 : Int64)) vs.length)
    have A_b15 := A_b15.pad (pad_rep [] (.long (0 : Int64)) (vs.length + 1))
    have J_117 : ∀ (d i : Nat), i + d = vs.length → ∀ (T : State) (h : Heap) (lc : List Loc) (v1 v2 v3 : List Value) (u5 u6 : Slot), Stand p l e ⟨9, 34, 219, 180⟩ s m #[(.ref a1), (.long q1)] below meth c T lc 34 219 → T.heap = h → own_Lsf Z h xa ea vs → own_Bx Z h vs (own_s q1) → own_Is Z h xa Jvm.Free.AList.AL → own_Is Z h ea Jvm.Free.AList.OAD → Exa Z h a1 "com/example/wingrow/wingrow/store/SummaryTree" → Fld Z h a1 "com/example/wingrow/wingrow/store/SummaryTree" "sizes" "[J" (.ref b11) → Fld Z h a1 "com/example/wingrow/wingrow/store/SummaryTree" "widths" "[J" (.ref b13) → Fld Z h a1 "com/example/wingrow/wingrow/store/SummaryTree" "starts" "[J" (.ref b15) → Exa Z h b11 "[J" → Exa Z h b13 "[J" → Exa Z h b15 "[J" → Arv Z h b11 k_b11 .long (Int32.ofNat vs.length) v1 (.long (0 : Int64)) → Arv Z h b13 k_b13 .long (Int32.ofNat vs.length) v2 (.long (0 : Int64)) → Arv Z h b15 k_b15 .long (Int32.ofNat vs.length + (1 : Int32)) v3 (.long (0 : Int64)) → v1.length = vs.length → v2.length = vs.length → v3.length = vs.length + 1 → v3.getD i (.long (0 : Int64)) = .long (own_sum q1 i) → Keep h0 h [a1] → n0 ≤ h.size → Fr n0 lc → own_sl2 u5 u6 → own_W p e below (own_Post s (Q_init Z a1 q1 h0 n0) 34 219) T m 117 #[.val (.ref a1), .val (.long q1), .second, .val (.ref xa), .val (.int (Int32.ofNat i)), u5, u6] [] := by
      intro d
      induction d with
      | zero =>
        intro i hid T h lc v1 v2 v3 u5 u6 X eT LS BX I_xa I_ea E_a1 F_sizes F_widths F_starts E_b11 E_b13 E_b15 A_b11 A_b13 A_b15 l1 l2 l3 hs Kp Z0 N U
        obtain rfl : i = vs.length := by omega
        refine own_iload X hx (hb hby own7_117) (pc' := 119) rfl rfl ?_
        refine own_aloadN X hx (hb hby own7_119) (pc' := 120) rfl rfl rfl ?_
        refine own_getF X hx hZ hown (host := "") (Or.inl (own_w hw 56 rfl)) Via.refl eT F_sizes (hb hby own7_120) (pc' := 123) rfl ?_
        intro T X eT
        refine own_arrlen X hx hZ eT A_b11 (hb hby own7_123) (pc' := 124) rfl ?_
        refine own_icmpY X hx (hb hby own7_124) (by decide) (pc' := 217) rfl (show ¬ ((Int32.ofNat vs.length) < (Int32.ofNat vs.length)) from own_nlt) ?_
        refine own_ret0 X hx hlk hret (hb hby own7_217) (by decide) (by decide) ?_
        rw [eT]
        exact ⟨rfl, N, Kp, vs.length, b11, b15, _, _, v1, v3, LV, k15, F_sizes, F_starts, A_b11, A_b15, hs⟩
      | succ d ih =>
        intro i hid T h lc v1 v2 v3 u5 u6 X eT LS BX I_xa I_ea E_a1 F_sizes F_widths F_starts E_b11 E_b13 E_b15 A_b11 A_b13 A_b15 l1 l2 l3 hs Kp Z0 N U
        have hi : i < vs.length := by omega
        have hi31 : i < 2 ^ 31 := by omega
        have hin : ¬ (Int32.ofNat i < 0) ∧ Int32.ofNat i < (Int32.ofNat vs.length) := ⟨own_nn hi31, own_lt hi (by omega)⟩
        have hin3 : ¬ (Int32.ofNat i < 0) ∧ Int32.ofNat i < (Int32.ofNat vs.length + (1 : Int32)) := ⟨own_nn hi31, by rw [own_inc]; exact own_lt (by omega) (by omega)⟩
        have hin4 : ¬ (Int32.ofNat i + (1 : Int32) < 0) ∧ Int32.ofNat i + (1 : Int32) < (Int32.ofNat vs.length + (1 : Int32)) := by rw [own_inc, own_inc]; exact ⟨own_nn (by omega), own_lt (by omega) (by omega)⟩
        have hcl := own_clm hi31
        have hcl4 : (Int32.ofNat i + (1 : Int32)).toNatClampNeg = i + 1 := by rw [own_inc]; exact own_clm (by omega)
        obtain ⟨r, hr, I_r, F_r⟩ := BX i hi
        refine own_iload X hx (hb hby own7_117) (pc' := 119) rfl rfl ?_
        refine own_aloadN X hx (hb hby own7_119) (pc' := 120) rfl rfl rfl ?_
        refine own_getF X hx hZ hown (host := "") (Or.inl (own_w hw 56 rfl)) Via.refl eT F_sizes (hb hby own7_120) (pc' := 123) rfl ?_
        intro T X eT
        refine own_arrlen X hx hZ eT A_b11 (hb hby own7_123) (pc' := 124) rfl ?_
        refine own_icmpN X hx (hb hby own7_124) (pc' := 127) rfl (show (Int32.ofNat i) < (Int32.ofNat vs.length) from hin.2) ?_
        refine own_aloadN X hx (hb hby own7_127) (pc' := 128) rfl rfl rfl ?_
        refine own_getF X hx hZ hown (host := "") (Or.inl (own_w hw 56 rfl)) Via.refl eT F_sizes (hb hby own7_128) (pc' := 131) rfl ?_
        intro T X eT
        refine own_iload X hx (hb hby own7_131) (pc' := 133) rfl rfl ?_
        refine own_aloadN X hx (hb hby own7_133) (pc' := 134) rfl rfl rfl ?_
        refine own_iload X hx (hb hby own7_134) (pc' := 136) rfl rfl ?_
        refine own_alGet X hx hZ hw hown (own_w hw 116 rfl) eT LS i hr (hb hby own7_136) (pc' := 141) rfl (by rw [hml]; rfl) (W := 2) (Nat.le_of_eq rfl) (by decide) (by decide) (by decide) (by decide) ?_
        intro T X eT
        refine own_castI X hx hZ hown (own_w hw 137 rfl) eT I_r (hb hby own7_141) (pc' := 144) rfl ?_
        intro T X eT
        refine own_callVI X hx hZ (y := (⟨"java/lang/Long", "longValue", "()J"⟩ : MethodName)) r [] hown (own_w hw 139 rfl) (own_w hw 140 rfl) (own_w hw 142 rfl) (own_w hw 141 rfl) (own_w hw 77 rfl) (own_w hw 143 rfl) (by decide) (rm_lv l Z a0 hw [] r (own_s q1 i) h n0 Z0 F_r) I_r eT (W := 2) (by decide) (by decide) (cells' := 34) (slots' := 219) rfl rfl (by decide) (by decide) (by rw [hml]; rfl) (lenOf own_pd_2829J rfl) rfl (S := [(.int (Int32.ofNat i)), (.ref b11)]) rfl (Nat.le_of_eq rfl) (hb hby own7_144) (pc' := 147) rfl ?_
        intro v T h17 L lc X eT hq fN
        obtain ⟨rfl, Nq, hqe⟩ := hq
        have N := fN _ N Nq
        rw [hqe] at eT
        show own_W _ _ _ _ _ _ _ _ [(.long (own_s q1 i)), (.int (Int32.ofNat i)), (.ref b11)]
        refine own_lastore X hx hZ eT A_b11 hin i hcl (by omega) (hb hby own7_147) (pc' := 148) rfl ?_
        intro T h18 lc X eT Kq A_b11n fN
        have LS := LS.keep Kq (ninS (own_Is.ne I_xa (own_Is.of E_b11) (by decide)) nin0) (ninS (own_Is.ne I_ea (own_Is.of E_b11) (by decide)) nin0)
        have BX := BX.keep Kq (fun r I => (ninS (own_Is.ne I (own_Is.of E_b11) (by decide)) nin0))
        have I_xa := I_xa.keep Kq
        have I_ea := I_ea.keep Kq
        have E_a1 := E_a1.keep Kq
        have F_sizes := F_sizes.keep Kq (ninS ne_a1_b11 nin0)
        have F_widths := F_widths.keep Kq (ninS ne_a1_b11 nin0)
        have F_starts := F_starts.keep Kq (ninS ne_a1_b11 nin0)
        have E_b11 := E_b11.keep Kq
        have E_b13 := E_b13.keep Kq
        have E_b15 := E_b15.keep Kq
        have A_b13 := A_b13.keep Kq (ninS (Ne.symm ne_b11_b13) nin0)
        have A_b15 := A_b15.keep Kq (ninS (Ne.symm ne_b11_b15) nin0)
        have Z0 := Nat.le_trans Z0 Kq.1
        have A_b11 := A_b11n
        have N := fN _ z_b11 N
        have Kp := Kp.trans Kq (allS (P := fun x => x ∈ [a1] ∨ h0.size ≤ x) (Or.inr s_b11) all0)
        refine own_iload X hx (hb hby own7_148) (pc' := 150) rfl rfl ?_
        refine own_if X hx (hb hby own7_150) (by decide) (pcY := 159) (pcN := 153) rfl rfl (fun (hc150 : ¬ ((Int32.ofNat i) = (0 : Int32))) => ?_) (fun (hc150 : (Int32.ofNat i) = (0 : Int32)) => ?_)
        · refine own_aloadN X hx (hb hby own7_159) (pc' := 160) rfl rfl rfl ?_
          refine own_getF X hx hZ hown (host := "") (Or.inl (own_w hw 58 rfl)) Via.refl eT F_widths (hb hby own7_160) (pc' := 163) rfl ?_
          intro T X eT
          refine own_iload X hx (hb hby own7_163) (pc' := 165) rfl rfl ?_
          refine own_iconst X hx (1 : Int32) (hb hby own7_165) (pc' := 166) rfl rfl ?_
          refine own_isub X hx (hb hby own7_166) (pc' := 167) rfl ?_
          have hp0 := own_pos hc150
          have e166 := own_dec hp0
          obtain ⟨ww, hww⟩ := own_lng A_b13 (i := i - 1) (by rw [own_clm (by omega)]; omega)
          refine own_laload X hx hZ eT A_b13 (v := (.long ww)) (by rw [e166]; exact ⟨own_nn (by omega), own_lt (by omega) (by omega)⟩) (by rw [e166, own_clm (by omega)]; exact hww) (hb hby own7_167) (pc' := 168) rfl ?_
          refine own_ldc2 X hx hZ hown (own_w hw 115 rfl) (hb hby own7_168) (pc' := 171) rfl ?_
          refine own_lmul X hx (hb hby own7_171) (pc' := 172) rfl ?_
          refine own_lstore X hx (hb hby own7_172) (pc' := 174) rfl (Ls' := #[.val (.ref a1), .val (.long q1), .second, .val (.ref xa), .val (.int (Int32.ofNat i)), .val (.long (ww * (16 : Int64))), .second]) (own_st5 U) ?_
          refine own_aloadN X hx (hb hby own7_174) (pc' := 175) rfl rfl rfl ?_
          refine own_getF X hx hZ hown (host := "") (Or.inl (own_w hw 58 rfl)) Via.refl eT F_widths (hb hby own7_175) (pc' := 178) rfl ?_
          intro T X eT
          refine own_iload X hx (hb hby own7_178) (pc' := 180) rfl rfl ?_
          refine own_lload X hx (hb hby own7_180) (pc' := 182) rfl rfl ?_
          refine own_lloadN X hx (hb hby own7_182) (pc' := 183) rfl rfl ?_
          refine own_callS X hx hZ [(.long (ww * (16 : Int64))), (.long q1)] hown (own_w hw 146 rfl) (own_w hw 147 rfl) (own_w hw 110 rfl) (own_w hw 148 rfl) (by decide) (rm_min l Z a0 hw [] (ww * (16 : Int64)) q1 h18 n0 Z0) eT (W := 2) (by decide) (by decide) (cells' := 34) (slots' := 219) rfl rfl (by decide) (by decide) (by rw [hml]; rfl) (lenOf own_pd_28JJ29J rfl) rfl (S := [(.int (Int32.ofNat i)), (.ref b13)]) rfl (Nat.le_of_eq rfl) (hb hby own7_183) (pc' := 186) rfl ?_
          intro v T h19 L lc X eT hq fN
          obtain ⟨wm, rfl, Nq, hqe⟩ := hq
          have N := fN _ N Nq
          rw [hqe] at eT
          show own_W _ _ _ _ _ _ _ _ [(.long wm), (.int (Int32.ofNat i)), (.ref b13)]
          refine own_lastore X hx hZ eT A_b13 hin i hcl (by omega) (hb hby own7_186) (pc' := 187) rfl ?_
          intro T h20 lc X eT Kq A_b13n fN
          have LS := LS.keep Kq (ninS (own_Is.ne I_xa (own_Is.of E_b13) (by decide)) nin0) (ninS (own_Is.ne I_ea (own_Is.of E_b13) (by decide)) nin0)
          have BX := BX.keep Kq (fun r I => (ninS (own_Is.ne I (own_Is.of E_b13) (by decide)) nin0))
          have I_xa := I_xa.keep Kq
          have I_ea := I_ea.keep Kq
          have E_a1 := E_a1.keep Kq
          have F_sizes := F_sizes.keep Kq (ninS ne_a1_b13 nin0)
          have F_widths := F_widths.keep Kq (ninS ne_a1_b13 nin0)
          have F_starts := F_starts.keep Kq (ninS ne_a1_b13 nin0)
          have E_b11 := E_b11.keep Kq
          have E_b13 := E_b13.keep Kq
          have E_b15 := E_b15.keep Kq
          have A_b15 := A_b15.keep Kq (ninS (Ne.symm ne_b13_b15) nin0)
          have A_b11 := A_b11.keep Kq (ninS ne_b11_b13 nin0)
          have Z0 := Nat.le_trans Z0 Kq.1
          have A_b13 := A_b13n
          have N := fN _ z_b13 N
          have Kp := Kp.trans Kq (allS (P := fun x => x ∈ [a1] ∨ h0.size ≤ x) (Or.inr s_b13) all0)
          refine own_aloadN X hx (hb hby own7_187) (pc' := 188) rfl rfl rfl ?_
          refine own_getF X hx hZ hown (host := "") (Or.inl (own_w hw 60 rfl)) Via.refl eT F_starts (hb hby own7_188) (pc' := 191) rfl ?_
          intro T X eT
          refine own_iload X hx (hb hby own7_191) (pc' := 193) rfl rfl ?_
          refine own_iconst X hx (1 : Int32) (hb hby own7_193) (pc' := 194) rfl rfl ?_
          refine own_iadd X hx (hb hby own7_194) (pc' := 195) rfl ?_
          refine own_aloadN X hx (hb hby own7_195) (pc' := 196) rfl rfl rfl ?_
          refine own_getF X hx hZ hown (host := "") (Or.inl (own_w hw 60 rfl)) Via.refl eT F_starts (hb hby own7_196) (pc' := 199) rfl ?_
          intro T X eT
          refine own_iload X hx (hb hby own7_199) (pc' := 201) rfl rfl ?_
          refine own_laload X hx hZ eT A_b15 (v := (.long (own_sum q1 i))) hin3 (by rw [hcl]; exact hs) (hb hby own7_201) (pc' := 202) rfl ?_
          refine own_aloadN X hx (hb hby own7_202) (pc' := 203) rfl rfl rfl ?_
          refine own_getF X hx hZ hown (host := "") (Or.inl (own_w hw 56 rfl)) Via.refl eT F_sizes (hb hby own7_203) (pc' := 206) rfl ?_
          intro T X eT
          refine own_iload X hx (hb hby own7_206) (pc' := 208) rfl rfl ?_
          refine own_laload X hx hZ eT A_b11 (v := (.long (own_s q1 i))) hin (by rw [hcl]; exact own_setget (by omega)) (hb hby own7_208) (pc' := 209) rfl ?_
          refine own_ladd X hx (hb hby own7_209) (pc' := 210) rfl ?_
          refine own_lastore X hx hZ eT A_b15 hin4 (i + 1) hcl4 (by omega) (hb hby own7_210) (pc' := 211) rfl ?_
          intro T h21 lc X eT Kq A_b15n fN
          have LS := LS.keep Kq (ninS (own_Is.ne I_xa (own_Is.of E_b15) (by decide)) nin0) (ninS (own_Is.ne I_ea (own_Is.of E_b15) (by decide)) nin0)
          have BX := BX.keep Kq (fun r I => (ninS (own_Is.ne I (own_Is.of E_b15) (by decide)) nin0))
          have I_xa := I_xa.keep Kq
          have I_ea := I_ea.keep Kq
          have E_a1 := E_a1.keep Kq
          have F_sizes := F_sizes.keep Kq (ninS ne_a1_b15 nin0)
          have F_widths := F_widths.keep Kq (ninS ne_a1_b15 nin0)
          have F_starts := F_starts.keep Kq (ninS ne_a1_b15 nin0)
          have E_b11 := E_b11.keep Kq
          have E_b13 := E_b13.keep Kq
          have E_b15 := E_b15.keep Kq
          have A_b11 := A_b11.keep Kq (ninS ne_b11_b15 nin0)
          have A_b13 := A_b13.keep Kq (ninS ne_b13_b15 nin0)
          have Z0 := Nat.le_trans Z0 Kq.1
          have A_b15 := A_b15n
          have N := fN _ z_b15 N
          have Kp := Kp.trans Kq (allS (P := fun x => x ∈ [a1] ∨ h0.size ≤ x) (Or.inr s_b15) all0)
          refine own_iinc X hx (1 : Int32) (hb hby own7_211) (pc' := 214) rfl rfl rfl (Ls' := #[.val (.ref a1), .val (.long q1), .second, .val (.ref xa), .val (.int ((Int32.ofNat i) + (1 : Int32))), .val (.long (ww * (16 : Int64))), .second]) rfl ?_
          refine own_goto X hx (hb hby own7_214) (by decide) (pc' := 117) rfl ?_
          rw [own_inc]
          exact ih (i + 1) (by omega) T _ lc _ _ _ _ _ X eT LS BX I_xa I_ea E_a1 F_sizes F_widths F_starts E_b11 E_b13 E_b15 A_b11 A_b13 A_b15 (by rw [List.length_set]; exact l1) (by rw [List.length_set]; exact l2) (by rw [List.length_set]; exact l3) (own_setget (by omega)) Kp Z0 N (Or.inr ⟨_, rfl, rfl⟩)
        · refine own_ldc2 X hx hZ hown (own_w hw 71 rfl) (hb hby own7_153) (pc' := 156) rfl ?_
          refine own_goto X hx (hb hby own7_156) (by decide) (pc' := 172) rfl ?_
          refine own_lstore X hx (hb hby own7_172) (pc' := 174) rfl (Ls' := #[.val (.ref a1), .val (.long q1), .second, .val (.ref xa), .val (.int (Int32.ofNat i)), .val (.long (256 : Int64)), .second]) (own_st5 U) ?_
          refine own_aloadN X hx (hb hby own7_174) (pc' := 175) rfl rfl rfl ?_
          refine own_getF X hx hZ hown (host := "") (Or.inl (own_w hw 58 rfl)) Via.refl eT F_widths (hb hby own7_175) (pc' := 178) rfl ?_
          intro T X eT
          refine own_iload X hx (hb hby own7_178) (pc' := 180) rfl rfl ?_
          refine own_lload X hx (hb hby own7_180) (pc' := 182) rfl rfl ?_
          refine own_lloadN X hx (hb hby own7_182) (pc' := 183) rfl rfl ?_
          refine own_callS X hx hZ [(.long (256 : Int64)), (.long q1)] hown (own_w hw 146 rfl) (own_w hw 147 rfl) (own_w hw 110 rfl) (own_w hw 148 rfl) (by decide) (rm_min l Z a0 hw [] (256 : Int64) q1 h18 n0 Z0) eT (W := 2) (by decide) (by decide) (cells' := 34) (slots' := 219) rfl rfl (by decide) (by decide) (by rw [hml]; rfl) (lenOf own_pd_28JJ29J rfl) rfl (S := [(.int (Int32.ofNat i)), (.ref b13)]) rfl (Nat.le_of_eq rfl) (hb hby own7_183) (pc' := 186) rfl ?_
          intro v T h22 L lc X eT hq fN
          obtain ⟨wm, rfl, Nq, hqe⟩ := hq
          have N := fN _ N Nq
          rw [hqe] at eT
          show own_W _ _ _ _ _ _ _ _ [(.long wm), (.int (Int32.ofNat i)), (.ref b13)]
          refine own_lastore X hx hZ eT A_b13 hin i hcl (by omega) (hb hby own7_186) (pc' := 187) rfl ?_
          intro T h23 lc X eT Kq A_b13n fN
          have LS := LS.keep Kq (ninS (own_Is.ne I_xa (own_Is.of E_b13) (by decide)) nin0) (ninS (own_Is.ne I_ea (own_Is.of E_b13) (by decide)) nin0)
          have BX := BX.keep Kq (fun r I => (ninS (own_Is.ne I (own_Is.of E_b13) (by decide)) nin0))
          have I_xa := I_xa.keep Kq
          have I_ea := I_ea.keep Kq
          have E_a1 := E_a1.keep Kq
          have F_sizes := F_sizes.keep Kq (ninS ne_a1_b13 nin0)
          have F_widths := F_widths.keep Kq (ninS ne_a1_b13 nin0)
          have F_starts := F_starts.keep Kq (ninS ne_a1_b13 nin0)
          have E_b11 := E_b11.keep Kq
          have E_b13 := E_b13.keep Kq
          have E_b15 := E_b15.keep Kq
          have A_b15 := A_b15.keep Kq (ninS (Ne.symm ne_b13_b15) nin0)
          have A_b11 := A_b11.keep Kq (ninS ne_b11_b13 nin0)
          have Z0 := Nat.le_trans Z0 Kq.1
          have A_b13 := A_b13n
          have N := fN _ z_b13 N
          have Kp := Kp.trans Kq (allS (P := fun x => x ∈ [a1] ∨ h0.size ≤ x) (Or.inr s_b13) all0)
          refine own_aloadN X hx (hb hby own7_187) (pc' := 188) rfl rfl rfl ?_
          refine own_getF X hx hZ hown (host := "") (Or.inl (own_w hw 60 rfl)) Via.refl eT F_starts (hb hby own7_188) (pc' := 191) rfl ?_
          intro T X eT
          refine own_iload X hx (hb hby own7_191) (pc' := 193) rfl rfl ?_
          refine own_iconst X hx (1 : Int32) (hb hby own7_193) (pc' := 194) rfl rfl ?_
          refine own_iadd X hx (hb hby own7_194) (pc' := 195) rfl ?_
          refine own_aloadN X hx (hb hby own7_195) (pc' := 196) rfl rfl rfl ?_
          refine own_getF X hx hZ hown (host := "") (Or.inl (own_w hw 60 rfl)) Via.refl eT F_starts (hb hby own7_196) (pc' := 199) rfl ?_
          intro T X eT
          refine own_iload X hx (hb hby own7_199) (pc' := 201) rfl rfl ?_
          refine own_laload X hx hZ eT A_b15 (v := (.long (own_sum q1 i))) hin3 (by rw [hcl]; exact hs) (hb hby own7_201) (pc' := 202) rfl ?_
          refine own_aloadN X hx (hb hby own7_202) (pc' := 203) rfl rfl rfl ?_
          refine own_getF X hx hZ hown (host := "") (Or.inl (own_w hw 56 rfl)) Via.refl eT F_sizes (hb hby own7_203) (pc' := 206) rfl ?_
          intro T X eT
          refine own_iload X hx (hb hby own7_206) (pc' := 208) rfl rfl ?_
          refine own_laload X hx hZ eT A_b11 (v := (.long (own_s q1 i))) hin (by rw [hcl]; exact own_setget (by omega)) (hb hby own7_208) (pc' := 209) rfl ?_
          refine own_ladd X hx (hb hby own7_209) (pc' := 210) rfl ?_
          refine own_lastore X hx hZ eT A_b15 hin4 (i + 1) hcl4 (by omega) (hb hby own7_210) (pc' := 211) rfl ?_
          intro T h24 lc X eT Kq A_b15n fN
          have LS := LS.keep Kq (ninS (own_Is.ne I_xa (own_Is.of E_b15) (by decide)) nin0) (ninS (own_Is.ne I_ea (own_Is.of E_b15) (by decide)) nin0)
          have BX := BX.keep Kq (fun r I => (ninS (own_Is.ne I (own_Is.of E_b15) (by decide)) nin0))
          have I_xa := I_xa.keep Kq
          have I_ea := I_ea.keep Kq
          have E_a1 := E_a1.keep Kq
          have F_sizes := F_sizes.keep Kq (ninS ne_a1_b15 nin0)
          have F_widths := F_widths.keep Kq (ninS ne_a1_b15 nin0)
          have F_starts := F_starts.keep Kq (ninS ne_a1_b15 nin0)
          have E_b11 := E_b11.keep Kq
          have E_b13 := E_b13.keep Kq
          have E_b15 := E_b15.keep Kq
          have A_b11 := A_b11.keep Kq (ninS ne_b11_b15 nin0)
          have A_b13 := A_b13.keep Kq (ninS ne_b13_b15 nin0)
          have Z0 := Nat.le_trans Z0 Kq.1
          have A_b15 := A_b15n
          have N := fN _ z_b15 N
          have Kp := Kp.trans Kq (allS (P := fun x => x ∈ [a1] ∨ h0.size ≤ x) (Or.inr s_b15) all0)
          refine own_iinc X hx (1 : Int32) (hb hby own7_211) (pc' := 214) rfl rfl rfl (Ls' := #[.val (.ref a1), .val (.long q1), .second, .val (.ref xa), .val (.int ((Int32.ofNat i) + (1 : Int32))), .val (.long (256 : Int64)), .second]) rfl ?_
          refine own_goto X hx (hb hby own7_214) (by decide) (pc' := 117) rfl ?_
          rw [own_inc]
          exact ih (i + 1) (by omega) T _ lc _ _ _ _ _ X eT LS BX I_xa I_ea E_a1 F_sizes F_widths F_starts E_b11 E_b13 E_b15 A_b11 A_b13 A_b15 (by rw [List.length_set]; exact l1) (by rw [List.length_set]; exact l2) (by rw [List.length_set]; exact l3) (own_setget (by omega)) Kp Z0 N (Or.inr ⟨_, rfl, rfl⟩)
    exact J_117 vs.length 0 (Nat.zero_add _) T _ lc _ _ _ _ _ X eT LS BX I_xa I_ea E_a1 F_sizes F_widths F_starts E_b11 E_b13 E_b15 A_b11 A_b13 A_b15 (by simp) (by simp) (by simp) (by simp [own_sum]) Kp Z0 N (Or.inl ⟨rfl, rfl⟩)
  refine own_astoreN X hx (hb hby own7_16) (pc' := 17) rfl rfl (Ls' := #[.val (.ref a1), .val (.long q1), .second, .val (.ref xa), .unset, .unset, .unset]) rfl ?_
  refine own_lloadN X hx (hb hby own7_17) (pc' := 18) rfl rfl ?_
  refine own_lconst X hx (0 : Int64) (hb hby own7_18) (pc' := 19) rfl rfl ?_
  refine own_lc X hx (hb hby own7_19) (hb hby own7_20) (by decide) (pcY := 76) (pcN := 23) rfl rfl (fun (hc19 : ¬ ((0 : Int64) < q1)) => ?_) (fun (hc19 : (0 : Int64) < q1) => ?_)
  · exact J_76 T _ lc dc 0 [] .unset .unset (X.more (by decide) (by decide)) eT INV N (Or.inl ⟨rfl, hc19⟩) (by decide) (Or.inl ⟨rfl, rfl⟩)
  · refine own_lloadN X hx (hb hby own7_23) (pc' := 24) rfl rfl ?_
    refine own_ldc2 X hx hZ hown (own_w hw 71 rfl) (hb hby own7_24) (pc' := 27) rfl ?_
    refine own_callS X hx hZ [(.long q1), (.long (256 : Int64))] hown (own_w hw 72 rfl) (own_w hw 73 rfl) (own_w hw 11 rfl) (own_w hw 74 rfl) (by decide) (rm_cd l Z a0 hw [] q1 (256 : Int64) h2 n0 Z0 (by decide)) eT (W := 0) (by decide) (by decide) (cells' := 1) (slots' := 3) rfl rfl (by decide) (by decide) (by rw [hml]; rfl) (lenOf own_pd_28JJ29J rfl) rfl (S := []) rfl (Nat.le_of_eq rfl) (hb hby own7_27) (pc' := 30) rfl ?_
    intro v T h25 L lc X eT hq fN
    obtain ⟨rfl, Nq, hqe⟩ := hq
    have N := fN _ N Nq
    rw [hqe] at eT
    show own_W _ _ _ _ _ _ _ _ [(.long (own_s q1 0))]
    refine own_lstore X hx (hb hby own7_30) (pc' := 32) rfl (Ls' := #[.val (.ref a1), .val (.long q1), .second, .val (.ref xa), .val (.long (own_s q1 0)), .second, .unset]) rfl ?_
    refine own_aloadN X hx (hb hby own7_32) (pc' := 33) rfl rfl rfl ?_
    refine own_lload X hx (hb hby own7_33) (pc' := 35) rfl rfl ?_
    show own_W _ _ _ _ _ _ _ _ [(.long (own_s q1 0)), (.ref xa)]
    refine own_turn hw X hx hZ hown GZ VZ eT Zh Zn q1 0 (by decide) INV N (hb hby own7_35) (hb hby own7_38) (hb hby own7_43) (pc' := 44) rfl (by rw [hml]; rfl) (by decide) (by decide) 10 rfl (cells' := 3) (slots' := 14) rfl rfl (by decide) (by decide) ?_
    intro T h lc ea vs X eT I N
    exact own_loop1 hw hx hZ hby hml hown GZ VZ Zh Zn hq J_76 14 0 rfl T h lc ea vs X eT I N hc19 (fun j hj => absurd hj (Nat.not_lt_zero _))
theorem own_pd_28J29J : parseMethodDescriptor "(J)J" = some ⟨[.long], some .long⟩ := by decide +kernel
theorem own_pd_28J29V : parseMethodDescriptor "(J)V" = some ⟨[.long], none⟩ := by decide +kernel
theorem ef_law (m : MethodId) (x0 : Int64) (x1 : Int32) (x2 : Int32) (x3 : Int32) (x4 : Int32) : entryFrame m #[(.long x0), (.int x1), (.int x2), (.int x3), (.int x4)] maxLocals = mkF m 0 #[.val (.long x0), .second, .val (.int x1), .val (.int x2), .val (.int x3), .val (.int x4), .unset, .unset, .unset, .unset, .unset] [] := by first | (simp [entryFrame, mkF, argsToLocals, Value.category, maxLocals]; done) | rfl
def Q_law (Z : State) (q1 : Int64) (q2 q3 q4 q5 : Int32) (h0 : Heap) (n0 : Nat) (v : Option Value) (h : Heap) (L : List Loc) : Prop := v = some (.int 1) ∧ Fr n0 L
set_option maxRecDepth 65536 in
set_option maxHeartbeats 40000000 in
theorem rm_law (l : Launch) (Z : State) (a0 : Array Value) (hw : ∀ d ∈ tables_1, d.before a0 Z = true) (ws : List Jvm.Cond) (q1 : Int64) (q2 q3 q4 q5 : Int32) (h0 : Heap) (n0 : Nat) (Z0 : n0 ≤ h0.size) (Zn : Z.heap.size ≤ n0) {dc : Addr} {Edc : Cell} (HD : Jvm.Free.ALB.DfArr dc Edc Z) {z : Jvm.Free.ALB.GX} (GZ : own_Gz Z z) (VZ : own_VZ Z) (EZ : Ext Z.heap h0) :
    MetFree l x (head1 (Jvm.Cond.code x code maxLocals ret :: ws) room_1) (fun a U => a = #[(.long q1), (.int q2), (.int q3), (.int q4), (.int q5)] ∧ Z.Warmed39 U.vm ∧ U.heap = h0) (fun _ _ _ _ _ => True) (fun _ U o U' => ∃ v L, o = .returned v ∧ Q_law Z q1 q2 q3 q4 q5 h0 n0 v U'.heap L ∧ FrameEnd U o U' L room_1.cells room_1.slots) := by
  refine MetFree.of_bodySF (plainFor_of_name own_pn_com_example_wingrow_wingrow_store_SummaryTreeBytesPinLaw) hisR ?_
  intro p e s m args below meth c s₁ Bd hml0 hP hK
  obtain ⟨rfl, hZ, hh⟩ := hP
  have hx := Bd.exec
  have hby := Bd.bytes
  have hml : c.maxLocals = 11 := hml0
  have hown : s.vm.findClass "com/example/wingrow/wingrow/store/SummaryTreeBytesPinLaw" = some m.cls := findClass_of_methodNamed Bd.named
  have hnm := (name_of_methodNamed Bd.named Bd.method).1
  have hlk := Bd.notSynchronized
  obtain ⟨lc, hlc⟩ : ∃ lc : List Loc, lc = [] := ⟨_, rfl⟩
  have X : Stand p l e room_1 s m #[(.long q1), (.int q2), (.int q3), (.int q4), (.int q5)] below meth c s₁ lc 0 0 := hlc ▸ Stand.of_body Bd
  have eT : s₁.heap = h0 := by rw [← hh, Bd.state]; rfl
  have N : Fr n0 lc := hlc ▸ Fr.nil n0
  refine own_enter (ef_law m q1 q2 q3 q4 q5) ?_
  obtain ⟨T, hT⟩ : ∃ T : State, T = s₁ := ⟨_, rfl⟩
  rw [← hT] at X eT ⊢
  show own_W _ _ _ _ _ _ _ _ []
  refine own_iloadN X hx (hb hby at_0) (pc' := 1) rfl rfl ?_
  refine own_iconst X hx (1 : Int32) (hb hby at_1) (pc' := 2) rfl rfl ?_
  refine own_iand X hx (hb hby at_2) (pc' := 3) rfl ?_
  refine own_if X hx (hb hby at_3) (by decide) (pcY := 21) (pcN := 6) rfl rfl (fun (hc3 : ¬ ((q3 &&& (1 : Int32)) = (0 : Int32))) => ?_) (fun (hc3 : (q3 &&& (1 : Int32)) = (0 : Int32)) => ?_)
  · refine own_iload X hx (hb hby at_21) (pc' := 23) rfl rfl ?_
    refine own_ldc X hx hZ hown (own_w hw 0 rfl) (hb hby at_23) (pc' := 25) rfl ?_
    refine own_iand X hx (hb hby at_25) (pc' := 26) rfl ?_
    refine own_bipush X hx (62 : Int32) (hb hby at_26) (pc' := 28) rfl rfl ?_
    refine own_irem X hx (hb hby at_28) (pc' := 29) rfl (by decide) ?_
    refine own_istore X hx (hb hby at_29) (pc' := 31) rfl (Ls' := #[.val (.long q1), .second, .val (.int q2), .val (.int q3), .val (.int q4), .val (.int q5), .unset, .unset, .val (.int ((q4 &&& (2147483647 : Int32)) % (62 : Int32))), .unset, .unset]) rfl ?_
    refine own_iload X hx (hb hby at_31) (pc' := 33) rfl rfl ?_
    refine own_ldc X hx hZ hown (own_w hw 0 rfl) (hb hby at_33) (pc' := 35) rfl ?_
    refine own_iand X hx (hb hby at_35) (pc' := 36) rfl ?_
    refine own_iconst X hx (3 : Int32) (hb hby at_36) (pc' := 37) rfl rfl ?_
    refine own_irem X hx (hb hby at_37) (pc' := 38) rfl (by decide) ?_
    refine own_i2l X hx (hb hby at_38) (pc' := 39) rfl ?_
    refine own_lconst X hx (1 : Int64) (hb hby at_39) (pc' := 40) rfl rfl ?_
    refine own_lsub X hx (hb hby at_40) (pc' := 41) rfl ?_
    refine own_lstore X hx (hb hby at_41) (pc' := 43) rfl (Ls' := #[.val (.long q1), .second, .val (.int q2), .val (.int q3), .val (.int q4), .val (.int q5), .unset, .unset, .val (.int ((q4 &&& (2147483647 : Int32)) % (62 : Int32))), .val (.long (((q5 &&& (2147483647 : Int32)) % (3 : Int32)).toInt64 - (1 : Int64))), .second]) rfl ?_
    refine own_lconst X hx (1 : Int64) (hb hby at_43) (pc' := 44) rfl rfl ?_
    refine own_iload X hx (hb hby at_44) (pc' := 46) rfl rfl ?_
    refine own_lshl X hx (hb hby at_46) (pc' := 47) rfl ?_
    refine own_lload X hx (hb hby at_47) (pc' := 49) rfl rfl ?_
    refine own_ladd X hx (hb hby at_49) (pc' := 50) rfl ?_
    refine own_lstore X hx (hb hby at_50) (pc' := 52) rfl (Ls' := #[.val (.long q1), .second, .val (.int q2), .val (.int q3), .val (.int q4), .val (.int q5), .val (.long (((1 : Int64) <<< (((q4 &&& (2147483647 : Int32)) % (62 : Int32)).toInt64 &&& 63)) + (((q5 &&& (2147483647 : Int32)) % (3 : Int32)).toInt64 - (1 : Int64)))), .second, .val (.int ((q4 &&& (2147483647 : Int32)) % (62 : Int32))), .val (.long (((q5 &&& (2147483647 : Int32)) % (3 : Int32)).toInt64 - (1 : Int64))), .second]) rfl ?_
    obtain ⟨nv, h_nv⟩ : ∃ z, z = (((1 : Int64) <<< (((q4 &&& (2147483647 : Int32)) % (62 : Int32)).toInt64 &&& 63)) + (((q5 &&& (2147483647 : Int32)) % (3 : Int32)).toInt64 - (1 : Int64))) := ⟨_, rfl⟩
    rw [← h_nv]
    have b_nv : 0 ≤ nv.toInt ∧ nv.toInt < 4611686018427387904 := by rw [h_nv]; exact own_n2 _ _
    refine own_ldc2 X hx hZ hown (own_w hw 1 rfl) (hb hby at_52) (pc' := 55) rfl ?_
    refine own_lload X hx (hb hby at_55) (pc' := 57) rfl rfl ?_
    refine own_callS X hx hZ [(.long nv)] hown (own_w hw 2 rfl) (own_w hw 3 rfl) (own_w hw 4 rfl) (own_w hw 5 rfl) (by decide) (rm_nd l Z a0 hw [] nv h0 n0 Z0) eT (W := 2) (by decide) (by decide) (cells' := 0) (slots' := 0) rfl rfl (by decide) (by decide) (by rw [hml]; rfl) (lenOf own_pd_28J29J rfl) rfl (S := [(.long (40 : Int64))]) rfl (Nat.le_of_eq rfl) (hb hby at_57) (pc' := 60) rfl ?_
    intro v T h1 L lc X eT hq fN
    obtain ⟨rfl, Nq, hqe⟩ := hq
    have N := fN _ N Nq
    rw [hqe] at eT
    show own_W _ _ _ _ _ _ _ _ [(.long (own_nodes nv)), (.long (40 : Int64))]
    refine own_lmul X hx (hb hby at_60) (pc' := 61) rfl ?_
    refine own_lstore X hx (hb hby at_61) (pc' := 63) rfl (Ls' := #[.val (.long q1), .second, .val (.int q2), .val (.int q3), .val (.int q4), .val (.int q5), .val (.long nv), .second, .val (.long ((40 : Int64) * (own_nodes nv))), .second, .unset]) rfl ?_
    refine own_new X hx hZ hown (own_w hw 9 rfl) (own_w hw 10 rfl) (own_w hw 11 rfl) eT (hb hby at_63) (pc' := 66) rfl (cells' := 1) (slots' := 4) rfl rfl (by decide) (by decide) ?_
    intro T h2 b2 X eT E gb2 E_b2 Db2
    have z_b2 : n0 ≤ b2 := Nat.le_trans Z0 (Nat.le_of_eq gb2.symm)
    have Z0 := Nat.le_trans Z0 E.1
    have F_samples_b2 : Fld Z h2 b2 "com/example/wingrow/wingrow/store/SummaryTree" "samples" "J" (.long (0 : Int64)) := Db2 (Or.inr (own_w hw 19 rfl)) (ty := .long) (by decide)
    have F_sizes_b2 : Fld Z h2 b2 "com/example/wingrow/wingrow/store/SummaryTree" "sizes" "[J" .null := Db2 (Or.inr (own_w hw 57 rfl)) (ty := (.array .long)) (by decide)
    have F_widths_b2 : Fld Z h2 b2 "com/example/wingrow/wingrow/store/SummaryTree" "widths" "[J" .null := Db2 (Or.inr (own_w hw 59 rfl)) (ty := (.array .long)) (by decide)
    have F_starts_b2 : Fld Z h2 b2 "com/example/wingrow/wingrow/store/SummaryTree" "starts" "[J" .null := Db2 (Or.inr (own_w hw 61 rfl)) (ty := (.array .long)) (by decide)
    have EZ : Ext Z.heap h2 := ⟨Nat.le_trans EZ.1 E.1, fun a cc qq => E.2 _ _ (EZ.2 _ _ qq)⟩
    refine own_dup X hx (hb hby at_66) (pc' := 67) rfl rfl ?_
    refine own_lload X hx (hb hby at_67) (pc' := 69) rfl rfl ?_
    refine own_callN X hx hZ b2 [(.long nv)] rfl hown (own_w hw 12 rfl) (own_w hw 13 rfl) (own_w hw 11 rfl) (own_w hw 14 rfl) (by decide) (rm_init l Z a0 hw [] b2 nv h2 n0 Z0 Zn HD GZ VZ EZ b_nv E_b2 F_samples_b2 F_sizes_b2 F_widths_b2 F_starts_b2 z_b2) eT (W := 1) (by decide) (by decide) (cells' := 35) (slots' := 223) rfl rfl (by decide) (by decide) (by rw [hml]; rfl) (lenOf own_pd_28J29V rfl) rfl (S := [(.ref b2)]) rfl (Nat.le_of_eq rfl) (hb hby at_69) (pc' := 72) rfl ?_
    intro v T h3 L lc X eT hq fN
    obtain ⟨rfl, Nq, Kq, k, b1, b3, k1, k3, v1, v3, LV, k15, G_sizes, G_starts, A_b1, A_b3, hsum⟩ := hq
    have N := fN _ N Nq
    have E_b2 := E_b2.keep Kq
    have Z0 := Nat.le_trans Z0 Kq.1
    show own_W _ _ _ _ _ _ _ _ [(.ref b2)]
    refine own_callV X hx hZ (y := (⟨"com/example/wingrow/wingrow/store/SummaryTree", "bytes", "()J"⟩ : MethodName)) b2 [] hown (own_w hw 62 rfl) (own_w hw 63 rfl) (own_w hw 65 rfl) (own_w hw 64 rfl) (own_w hw 11 rfl) (own_w hw 66 rfl) (by decide) (rm_by l Z a0 hw [] b2 b1 b3 k _ h3 n0 Z0 k15 G_sizes G_starts k1 k3 v1 v3 A_b1 A_b3 hsum) E_b2 eT (W := 0) (by decide) (by decide) (cells' := 35) (slots' := 223) rfl rfl (by decide) (by decide) (by rw [hml]; rfl) (lenOf own_pd_2829J rfl) rfl (S := []) rfl (Nat.le_of_eq rfl) (hb hby at_72) (pc' := 75) rfl ?_
    intro v T h4 L lc X eT hq fN
    obtain ⟨rfl, Nq, hqe⟩ := hq
    have N := fN _ N Nq
    rw [hqe] at eT
    show own_W _ _ _ _ _ _ _ _ [(.long (40 * (own_sum nv k)))]
    refine own_lload X hx (hb hby at_75) (pc' := 77) rfl rfl ?_
    refine own_lcN X hx (hb hby at_77) (hb hby at_78) (pc' := 81) rfl (show (40 * (own_sum nv k)) = ((40 : Int64) * (own_nodes nv)) from own_mul40 b_nv LV k15) ?_
    refine own_iconst X hx (1 : Int32) (hb hby at_81) (pc' := 82) rfl rfl ?_
    refine own_goto X hx (hb hby at_82) (by decide) (pc' := 86) rfl ?_
    refine own_retI X hx hlk (t := .boolean) (w' := (.int (1 : Int32))) Bd.returns (hb hby at_86) rfl rfl (by simp) (by decide) (by decide) ?_
    rw [eT]
    exact ⟨rfl, N⟩
  · refine own_lloadN X hx (hb hby at_6) (pc' := 7) rfl rfl ?_
    refine own_ldc2 X hx hZ hown (own_w hw 149 rfl) (hb hby at_7) (pc' := 10) rfl ?_
    refine own_land X hx (hb hby at_10) (pc' := 11) rfl ?_
    refine own_iloadN X hx (hb hby at_11) (pc' := 12) rfl rfl ?_
    refine own_bipush X hx (63 : Int32) (hb hby at_12) (pc' := 14) rfl rfl ?_
    refine own_iand X hx (hb hby at_14) (pc' := 15) rfl ?_
    refine own_lushr X hx (hb hby at_15) (pc' := 16) rfl ?_
    refine own_lstore X hx (hb hby at_16) (pc' := 18) rfl (Ls' := #[.val (.long q1), .second, .val (.int q2), .val (.int q3), .val (.int q4), .val (.int q5), .val (.long (XT.ushrL (q1 &&& (4611686018427387903 : Int64)) (q2 &&& (63 : Int32)))), .second, .unset, .unset, .unset]) rfl ?_
    refine own_goto X hx (hb hby at_18) (by decide) (pc' := 52) rfl ?_
    obtain ⟨nv, h_nv⟩ : ∃ z, z = (XT.ushrL (q1 &&& (4611686018427387903 : Int64)) (q2 &&& (63 : Int32))) := ⟨_, rfl⟩
    rw [← h_nv]
    have b_nv : 0 ≤ nv.toInt ∧ nv.toInt < 4611686018427387904 := by rw [h_nv]; exact own_n1 _ _
    refine own_ldc2 X hx hZ hown (own_w hw 1 rfl) (hb hby at_52) (pc' := 55) rfl ?_
    refine own_lload X hx (hb hby at_55) (pc' := 57) rfl rfl ?_
    refine own_callS X hx hZ [(.long nv)] hown (own_w hw 2 rfl) (own_w hw 3 rfl) (own_w hw 4 rfl) (own_w hw 5 rfl) (by decide) (rm_nd l Z a0 hw [] nv h0 n0 Z0) eT (W := 2) (by decide) (by decide) (cells' := 0) (slots' := 0) rfl rfl (by decide) (by decide) (by rw [hml]; rfl) (lenOf own_pd_28J29J rfl) rfl (S := [(.long (40 : Int64))]) rfl (Nat.le_of_eq rfl) (hb hby at_57) (pc' := 60) rfl ?_
    intro v T h5 L lc X eT hq fN
    obtain ⟨rfl, Nq, hqe⟩ := hq
    have N := fN _ N Nq
    rw [hqe] at eT
    show own_W _ _ _ _ _ _ _ _ [(.long (own_nodes nv)), (.long (40 : Int64))]
    refine own_lmul X hx (hb hby at_60) (pc' := 61) rfl ?_
    refine own_lstore X hx (hb hby at_61) (pc' := 63) rfl (Ls' := #[.val (.long q1), .second, .val (.int q2), .val (.int q3), .val (.int q4), .val (.int q5), .val (.long nv), .second, .val (.long ((40 : Int64) * (own_nodes nv))), .second, .unset]) rfl ?_
    refine own_new X hx hZ hown (own_w hw 9 rfl) (own_w hw 10 rfl) (own_w hw 11 rfl) eT (hb hby at_63) (pc' := 66) rfl (cells' := 1) (slots' := 4) rfl rfl (by decide) (by decide) ?_
    intro T h6 b6 X eT E gb6 E_b6 Db6
    have z_b6 : n0 ≤ b6 := Nat.le_trans Z0 (Nat.le_of_eq gb6.symm)
    have Z0 := Nat.le_trans Z0 E.1
    have F_samples_b6 : Fld Z h6 b6 "com/example/wingrow/wingrow/store/SummaryTree" "samples" "J" (.long (0 : Int64)) := Db6 (Or.inr (own_w hw 19 rfl)) (ty := .long) (by decide)
    have F_sizes_b6 : Fld Z h6 b6 "com/example/wingrow/wingrow/store/SummaryTree" "sizes" "[J" .null := Db6 (Or.inr (own_w hw 57 rfl)) (ty := (.array .long)) (by decide)
    have F_widths_b6 : Fld Z h6 b6 "com/example/wingrow/wingrow/store/SummaryTree" "widths" "[J" .null := Db6 (Or.inr (own_w hw 59 rfl)) (ty := (.array .long)) (by decide)
    have F_starts_b6 : Fld Z h6 b6 "com/example/wingrow/wingrow/store/SummaryTree" "starts" "[J" .null := Db6 (Or.inr (own_w hw 61 rfl)) (ty := (.array .long)) (by decide)
    have EZ : Ext Z.heap h6 := ⟨Nat.le_trans EZ.1 E.1, fun a cc qq => E.2 _ _ (EZ.2 _ _ qq)⟩
    refine own_dup X hx (hb hby at_66) (pc' := 67) rfl rfl ?_
    refine own_lload X hx (hb hby at_67) (pc' := 69) rfl rfl ?_
    refine own_callN X hx hZ b6 [(.long nv)] rfl hown (own_w hw 12 rfl) (own_w hw 13 rfl) (own_w hw 11 rfl) (own_w hw 14 rfl) (by decide) (rm_init l Z a0 hw [] b6 nv h6 n0 Z0 Zn HD GZ VZ EZ b_nv E_b6 F_samples_b6 F_sizes_b6 F_widths_b6 F_starts_b6 z_b6) eT (W := 1) (by decide) (by decide) (cells' := 35) (slots' := 223) rfl rfl (by decide) (by decide) (by rw [hml]; rfl) (lenOf own_pd_28J29V rfl) rfl (S := [(.ref b6)]) rfl (Nat.le_of_eq rfl) (hb hby at_69) (pc' := 72) rfl ?_
    intro v T h7 L lc X eT hq fN
    obtain ⟨rfl, Nq, Kq, k, b1, b3, k1, k3, v1, v3, LV, k15, G_sizes, G_starts, A_b1, A_b3, hsum⟩ := hq
    have N := fN _ N Nq
    have E_b6 := E_b6.keep Kq
    have Z0 := Nat.le_trans Z0 Kq.1
    show own_W _ _ _ _ _ _ _ _ [(.ref b6)]
    refine own_callV X hx hZ (y := (⟨"com/example/wingrow/wingrow/store/SummaryTree", "bytes", "()J"⟩ : MethodName)) b6 [] hown (own_w hw 62 rfl) (own_w hw 63 rfl) (own_w hw 65 rfl) (own_w hw 64 rfl) (own_w hw 11 rfl) (own_w hw 66 rfl) (by decide) (rm_by l Z a0 hw [] b6 b1 b3 k _ h7 n0 Z0 k15 G_sizes G_starts k1 k3 v1 v3 A_b1 A_b3 hsum) E_b6 eT (W := 0) (by decide) (by decide) (cells' := 35) (slots' := 223) rfl rfl (by decide) (by decide) (by rw [hml]; rfl) (lenOf own_pd_2829J rfl) rfl (S := []) rfl (Nat.le_of_eq rfl) (hb hby at_72) (pc' := 75) rfl ?_
    intro v T h8 L lc X eT hq fN
    obtain ⟨rfl, Nq, hqe⟩ := hq
    have N := fN _ N Nq
    rw [hqe] at eT
    show own_W _ _ _ _ _ _ _ _ [(.long (40 * (own_sum nv k)))]
    refine own_lload X hx (hb hby at_75) (pc' := 77) rfl rfl ?_
    refine own_lcN X hx (hb hby at_77) (hb hby at_78) (pc' := 81) rfl (show (40 * (own_sum nv k)) = ((40 : Int64) * (own_nodes nv)) from own_mul40 b_nv LV k15) ?_
    refine own_iconst X hx (1 : Int32) (hb hby at_81) (pc' := 82) rfl rfl ?_
    refine own_goto X hx (hb hby at_82) (by decide) (pc' := 86) rfl ?_
    refine own_retI X hx hlk (t := .boolean) (w' := (.int (1 : Int32))) Bd.returns (hb hby at_86) rfl rfl (by simp) (by decide) (by decide) ?_
    rw [eT]
    exact ⟨rfl, N⟩
theorem own_setA : Jvm.Free.ALB.clinitW.all (fun w => jdkStatics_1.contains w) = true := by decide +kernel
theorem own_setL : Jvm.Free.LongBox.longClinit.all (fun w => jdkStatics_1.contains w) = true := by decide +kernel
set_option maxRecDepth 65536 in
set_option maxHeartbeats 40000000 in
theorem comes_1 {Post : Tables → Env → Array Value → State → Outcome → State → Prop} (hpost : ∀ tb e args s v u, (limb_1_1.after args s (.returned v) u = true ∧ limb_1_2.after args s (.returned v) u = true ∧ True) → FrameEnd s (.returned v) u (Jvm.fieldLocs frame_1_writes args s ++ Jvm.arrayLocs frame_1_arrays args s ++ Jvm.staticLocs frame_1_statics s) 48 256 → Post tb e args s (.returned v) u) :
    ArmFor flags0 classFile x code maxLocals ret World_1 tables_1 room_1 Calls_1 rest_1 Pre_1 Post := by
  intro l hfl _ _ p e ha hc hk s m args below hf hA hF happ hP
  obtain ⟨hcalls, hrest, hpre⟩ := hP
  obtain ⟨-, -, -, hnamed, -, -, -, hat⟩ := (Spec.applies_iff hf).mp happ
  obtain ⟨hg, hn⟩ := and_e (Cond.before_iff.mp (show (Jvm.Cond.and given_1 narrow_1).before args s = true from hpre))
  obtain ⟨gc, gr0⟩ := and_e hg
  obtain ⟨ga0, gr1⟩ := and_e gr0
  obtain ⟨ga1, gr2⟩ := and_e gr1
  obtain ⟨ga2, gr3⟩ := and_e gr2
  obtain ⟨ga3, gr4⟩ := and_e gr3
  obtain ⟨w0, w1, w2, w3, w4, rfl⟩ : ∃ w0 w1 w2 w3 w4 : Value, args = #[w0, w1, w2, w3, w4] := by
    have hs : args.size = 5 := by simpa [Cond.value, given_1] using gc
    obtain ⟨L⟩ := args
    match L, hs with
    | [w0, w1, w2, w3, w4], _ => exact ⟨w0, w1, w2, w3, w4, rfl⟩
  have hw := fun d (hd : d ∈ tables_1) => atoms_spec (ws := Jvm.Cond.code x code maxLocals ret :: tables_1) hat d (List.mem_cons_of_mem _ hd)
  obtain ⟨i0, ei0⟩ := isL_v ga0
  obtain rfl : w0 = (.long i0) := Option.some.inj ei0
  obtain ⟨i1, ei1⟩ := is_v ga1
  obtain rfl : w1 = (.int i1) := Option.some.inj ei1
  obtain ⟨i2, ei2⟩ := is_v ga2
  obtain rfl : w2 = (.int i2) := Option.some.inj ei2
  obtain ⟨i3, ei3⟩ := is_v ga3
  obtain rfl : w3 = (.int i3) := Option.some.inj ei3
  obtain ⟨i4, ei4⟩ := is_v gr4
  obtain rfl : w4 = (.int i4) := Option.some.inj ei4
  obtain ⟨hsets, -⟩ := atoms_of _ (rest_1_c_eq ▸ (show rest_1_c.before _ s = true from hrest))
  obtain ⟨dc, Edc, HD, -⟩ := Jvm.Free.ALB.DfArr.of_set (args := #[(.long i0), (.int i1), (.int i2), (.int i3), (.int i4)]) (s := s) (fun w hw' => hsets w (by
    have q' := List.all_eq_true.mp own_setA w hw'
    simpa using q'))
  obtain ⟨⟨cm, km, mm, hm1, hm2, hm3, -⟩, -⟩ := hcalls
  obtain ⟨mk, hmk⟩ := Cond.code_named (own_w hw 171 rfl)
  have GZ : own_Gz s ⟨mm, mk.cls⟩ := ⟨findClass_of_methodNamed hmk, cm, km, hm1, hm2, hm3⟩
  have VZ : own_VZ s := by
    obtain ⟨cl, kl, cV, kV, iV, fV, g1, g2, g3, g4, -, -, g7, -⟩ := Cond.laysFinal_spec (own_w hw 145 rfl)
    refine ⟨cV, fV, fun q => Jvm.Free.LongBox.statics_fwd q (args := #[(.long i0), (.int i1), (.int i2), (.int i3), (.int i4)]) ?_ g7 g3 g4⟩
    exact (conj_holds _ _).mpr ⟨rfl, fun d hd => hsets d (by
      have q' := List.all_eq_true.mp own_setL d hd
      simpa using q')⟩
  obtain ⟨n, o, h1, h2, h3, _, L, rfl, ⟨rfl, N⟩, hq⟩ := rm_law l s _ hw tables_1 i0 i1 i2 i3 i4 s.heap s.heap.size (Nat.le_refl _) (Nat.le_refl _) HD GZ VZ ⟨Nat.le_refl _, fun _ _ z => z⟩ p e ha hc hk s m _ below hf ((Spec.applies_iff_loose hf).mp happ).1 ⟨rfl, State.Warmed39.refl s, rfl⟩ trivial
  refine ⟨n, _, h1, h2, h3, hpost _ _ _ _ _ _ ⟨Cond.after_iff.mpr rfl, Cond.after_iff.mpr (eq_i res_at (Term.int_eval (1)) rfl), trivial⟩ ⟨hq.1, hq.2.1, (hq.2.2.sift fun y hy => Or.inr (N y hy)).mono (by decide) (by decide)⟩⟩
theorem main_1_1 : Claimed_1_1 := comes_1 fun _ _ _ _ _ _ h hF => ⟨h.1, hF⟩
theorem main_1_2 : Claimed_1_2 := comes_1 fun _ _ _ _ _ _ h hF => ⟨h.2.1, hF⟩
end Jvm.Pilot.@@N@@
namespace Jvm.Pilot.@@N@@
open Jvm Jvm.ClassFile Sem Op Lib Jvm.Free Jvm.Stand Jvm.Pilot.@@N@@.Jvm.D
/-! MADE BY PROGRAM (witnessworld.py) out of the Statement's table words and the real class files: 34 classes; the members and pool entries that the words name. The judged class is class 1, her method 1. -/
namespace start1
open Jvm.ClassFile
def u (s : String) : CpInfo := .utf8 (stringToUtf16 s)
/-- a pool by its gaps: so many unusable entries, then the entry; so many at the end -/
def gap : Nat → List CpInfo → List CpInfo
  | 0, r => r
  | n + 1, r => .unusable :: gap n r
def poolList (es : List (Nat × CpInfo)) (last : Nat) : List CpInfo := es.foldr (fun e r => gap e.1 (e.2 :: r)) (gap last [])
def pool (es : List (Nat × CpInfo)) (last : Nat) : Array CpInfo := ⟨poolList es last⟩
def fileOf (pool : Array CpInfo) (this : Nat) (attrs : Array Attribute := #[]) (ms : Array MethodInfo := #[]) (fl : Nat := 33) (sup : Nat := 0) (ifs : Array Nat := #[]) (fds : Array FieldInfo := #[]) : ClassFile where
  minorVersion := 0
  majorVersion := 65
  constantPool := pool
  accessFlags := fl
  thisClass := this
  superClass := sup
  interfaces := ifs
  fields := fds
  methods := ms
  attributes := attrs
def plain (name : String) (sup : Option ClassId) : Class where
  name := name
  kind := .ordinary
  loader := none
  accessFlags := 33
  super := sup
  interfaces := #[]
  cf := none
  fields := #[]
  methods := #[]
  instanceTypes := #[]
  staticTypes := #[]
  resolved := #[]
  callSites := []
  init := .initialized
  statics := none
  mirror := none

def pool0 : Array CpInfo := pool [(5, u "<init>"), (0, u "()V"), (1, .class_ 10), (1, u "java/lang/Object"), (0, u "getClass"), (0, u "()Ljava/lang/Class;")] 111

def k0c0 : Code := { maxStack := 0, maxLocals := 1, code := object_method_1_code, exceptionTable := #[], attributes := #[] }
def k0m0 : Method := { name := "<init>", desc := "()V", sig := { parameters := [], returnType := none }, accessFlags := 1, code := some k0c0 }
def k0m1 : Method := { name := "getClass", desc := "()Ljava/lang/Class;", sig := { parameters := [], returnType := some (.object "java/lang/Class") }, accessFlags := 273, code := none }
/-- java/lang/Object -/
def k0 : Class := { plain "java/lang/Object" none with
  accessFlags := 33
  interfaces := #[]
  cf := some (fileOf pool0 8 #[] #[{ accessFlags := 1, nameIndex := 5, descriptorIndex := 6, attributes := #[] }, { accessFlags := 273, nameIndex := 11, descriptorIndex := 12, attributes := #[] }] 33 0 #[] #[])
  fields := #[]
  methods := #[k0m0, k0m1]
  instanceTypes := #[]
  staticTypes := #[]
  resolved := Array.replicate 124 none
  statics := none }

def pool1 : Array CpInfo := pool [(2, .class_ 4), (1, u "java/lang/Object"), (0, u "<init>"), (0, u "()V"), (0, .class_ 8), (0, u "com/example/wingrow/wingrow/store/SummaryTreeBytesPinLaw"), (0, .long 4611686018427387903), (1, .integer 2147483647), (0, .long 40), (1, .methodref 7 15), (0, .nameAndType 16 17), (0, u "nodes"), (0, u "(J)J"), (0, .class_ 19), (0, u "com/example/wingrow/wingrow/store/SummaryTree"), (0, .methodref 18 21), (0, .nameAndType 5 22), (0, u "(J)V"), (0, .methodref 18 24), (0, .nameAndType 25 26), (0, u "bytes"), (0, u "()J"), (0, .methodref 7 28), (0, .nameAndType 29 30), (0, u "level"), (0, u "(JI)J"), (0, .methodref 7 32), (0, .nameAndType 33 30), (0, u "ceilPow2"), (0, u "MASK"), (0, u "J"), (3, u "law"), (0, u "(JIIII)Z")] 3

def k1m0 : Method := { name := "<init>", desc := "()V", sig := { parameters := [], returnType := none }, accessFlags := 1, code := none }
def k1c1 : Code := { maxStack := 4, maxLocals := 11, code := code, exceptionTable := #[], attributes := #[] }
def k1m1 : Method := { name := "law", desc := "(JIIII)Z", sig := { parameters := [.long, .int, .int, .int, .int], returnType := some .boolean }, accessFlags := 9, code := some k1c1 }
def k1c2 : Code := { maxStack := 5, maxLocals := 2, code := method_3_code, exceptionTable := #[], attributes := #[] }
def k1m2 : Method := { name := "nodes", desc := "(J)J", sig := { parameters := [.long], returnType := some .long }, accessFlags := 10, code := some k1c2 }
def k1c3 : Code := { maxStack := 7, maxLocals := 4, code := method_4_code, exceptionTable := #[], attributes := #[] }
def k1m3 : Method := { name := "level", desc := "(JI)J", sig := { parameters := [.long, .int], returnType := some .long }, accessFlags := 10, code := some k1c3 }
def k1c4 : Code := { maxStack := 6, maxLocals := 5, code := method_5_code, exceptionTable := #[], attributes := #[] }
def k1m4 : Method := { name := "ceilPow2", desc := "(JI)J", sig := { parameters := [.long, .int], returnType := some .long }, accessFlags := 10, code := some k1c4 }
/-- com/example/wingrow/wingrow/store/SummaryTreeBytesPinLaw -/
def k1 : Class := { plain "com/example/wingrow/wingrow/store/SummaryTreeBytesPinLaw" (some 0) with
  accessFlags := 49
  interfaces := #[]
  cf := some (fileOf pool1 7 #[] #[{ accessFlags := 1, nameIndex := 5, descriptorIndex := 6, attributes := #[] }, { accessFlags := 9, nameIndex := 39, descriptorIndex := 40, attributes := #[] }, { accessFlags := 10, nameIndex := 16, descriptorIndex := 17, attributes := #[] }, { accessFlags := 10, nameIndex := 29, descriptorIndex := 30, attributes := #[] }, { accessFlags := 10, nameIndex := 33, descriptorIndex := 30, attributes := #[] }] 49 2 #[] #[{ accessFlags := 26, nameIndex := 34, descriptorIndex := 35, attributes := #[] }])
  fields := #[{ name := "MASK", type := .long, accessFlags := 26, slot := 0, constantValue := 0 }]
  methods := #[k1m0, k1m1, k1m2, k1m3, k1m4]
  instanceTypes := #[]
  staticTypes := #[.long]
  resolved := Array.replicate 44 none
  statics := none }

def pool2 : Array CpInfo := pool [(1, .class_ 2), (0, u "com/example/wingrow/wingrow/store/SummaryTree"), (0, .methodref 4 5), (0, .class_ 6), (0, .nameAndType 7 8), (0, u "java/lang/Object"), (0, u "<init>"), (0, u "()V"), (0, .fieldref 1 10), (0, .nameAndType 11 12), (0, u "samples"), (0, u "J"), (0, .class_ 14), (0, u "java/util/ArrayList"), (0, .methodref 13 5), (0, .long 256), (1, .methodref 1 19), (0, .nameAndType 20 21), (0, u "ceilDiv"), (0, u "(JJ)J"), (0, .methodref 23 24), (0, .class_ 25), (0, .nameAndType 26 27), (0, u "java/lang/Long"), (0, u "valueOf"), (0, u "(J)Ljava/lang/Long;"), (0, .interfaceMethodref 29 30), (0, .class_ 31), (0, .nameAndType 32 33), (0, u "java/util/List"), (0, u "add"), (0, u "(Ljava/lang/Object;)Z"), (0, .long 16), (1, .interfaceMethodref 29 37), (0, .nameAndType 38 39), (0, u "size"), (0, u "()I"), (0, .fieldref 1 41), (0, .nameAndType 42 43), (0, u "sizes"), (0, u "[J"), (0, .fieldref 1 45), (0, .nameAndType 46 43), (0, u "widths"), (0, .fieldref 1 48), (0, .nameAndType 49 43), (0, u "starts"), (0, .interfaceMethodref 29 51), (0, .nameAndType 52 53), (0, u "get"), (0, u "(I)Ljava/lang/Object;"), (0, .methodref 23 55), (0, .nameAndType 56 57), (0, u "longValue"), (0, u "()J"), (0, .methodref 59 60), (0, .class_ 61), (0, .nameAndType 62 21), (0, u "java/lang/Math"), (0, u "min"), (0, .long 40), (1, .class_ 66), (0, u "com/example/wingrow/wingrow/store/SummaryTree$Builder"), (63, u "LEAF"), (0, u "I"), (2, u "FAN_OUT"), (1, u "NODE_FIELDS"), (1, u "NODE_BYTES"), (1, u "(J)V"), (3, u "bytes")] 14

def k2c0 : Code := { maxStack := 6, maxLocals := 7, code := prog_65_method_1_code, exceptionTable := #[], attributes := #[] }
def k2m0 : Method := { name := "<init>", desc := "(J)V", sig := { parameters := [.long], returnType := none }, accessFlags := 0, code := some k2c0 }
def k2c1 : Code := { maxStack := 4, maxLocals := 1, code := prog_65_method_2_code, exceptionTable := #[], attributes := #[] }
def k2m1 : Method := { name := "bytes", desc := "()J", sig := { parameters := [], returnType := some .long }, accessFlags := 0, code := some k2c1 }
def k2c2 : Code := { maxStack := 4, maxLocals := 4, code := prog_65_method_6_code, exceptionTable := #[], attributes := #[] }
def k2m2 : Method := { name := "ceilDiv", desc := "(JJ)J", sig := { parameters := [.long, .long], returnType := some .long }, accessFlags := 10, code := some k2c2 }
/-- com/example/wingrow/wingrow/store/SummaryTree -/
def k2 : Class := { plain "com/example/wingrow/wingrow/store/SummaryTree" (some 0) with
  accessFlags := 48
  interfaces := #[]
  cf := some (fileOf pool2 1 #[.nestMembers #[65]] #[{ accessFlags := 0, nameIndex := 7, descriptorIndex := 140, attributes := #[] }, { accessFlags := 0, nameIndex := 144, descriptorIndex := 57, attributes := #[] }, { accessFlags := 10, nameIndex := 20, descriptorIndex := 21, attributes := #[] }] 48 4 #[] #[{ accessFlags := 24, nameIndex := 130, descriptorIndex := 131, attributes := #[] }, { accessFlags := 24, nameIndex := 134, descriptorIndex := 131, attributes := #[] }, { accessFlags := 26, nameIndex := 136, descriptorIndex := 131, attributes := #[] }, { accessFlags := 24, nameIndex := 138, descriptorIndex := 131, attributes := #[] }, { accessFlags := 18, nameIndex := 11, descriptorIndex := 12, attributes := #[] }, { accessFlags := 18, nameIndex := 42, descriptorIndex := 43, attributes := #[] }, { accessFlags := 18, nameIndex := 46, descriptorIndex := 43, attributes := #[] }, { accessFlags := 18, nameIndex := 49, descriptorIndex := 43, attributes := #[] }])
  fields := #[{ name := "LEAF", type := .int, accessFlags := 24, slot := 0, constantValue := 0 }, { name := "FAN_OUT", type := .int, accessFlags := 24, slot := 1, constantValue := 0 }, { name := "NODE_FIELDS", type := .int, accessFlags := 26, slot := 2, constantValue := 0 }, { name := "NODE_BYTES", type := .int, accessFlags := 24, slot := 3, constantValue := 0 }, { name := "samples", type := .long, accessFlags := 18, slot := 0, constantValue := 0 }, { name := "sizes", type := (.array .long), accessFlags := 18, slot := 1, constantValue := 0 }, { name := "widths", type := (.array .long), accessFlags := 18, slot := 2, constantValue := 0 }, { name := "starts", type := (.array .long), accessFlags := 18, slot := 3, constantValue := 0 }]
  methods := #[k2m0, k2m1, k2m2]
  instanceTypes := #[.long, (.array .long), (.array .long), (.array .long)]
  staticTypes := #[.int, .int, .int, .int]
  resolved := Array.replicate 159 none
  statics := none }

def pool3 : Array CpInfo := pool [(8, .class_ 10), (1, u "java/lang/Iterable"), (24, .class_ 36), (0, u "java/lang/Object")] 25

/-- java/lang/Iterable -/
def k3 : Class := { plain "java/lang/Iterable" (some 0) with
  accessFlags := 1537
  interfaces := #[]
  cf := some (fileOf pool3 8 #[] #[] 1537 35 #[] #[])
  fields := #[]
  methods := #[]
  instanceTypes := #[]
  staticTypes := #[]
  resolved := Array.replicate 62 none
  statics := none }

def pool4 : Array CpInfo := pool [(10, .class_ 12), (1, u "java/util/Collection"), (47, .class_ 61), (0, u "java/lang/Object"), (0, .class_ 63), (0, u "java/lang/Iterable")] 51

/-- java/util/Collection -/
def k4 : Class := { plain "java/util/Collection" (some 0) with
  accessFlags := 1537
  interfaces := #[3]
  cf := some (fileOf pool4 10 #[] #[] 1537 60 #[62] #[])
  fields := #[]
  methods := #[]
  instanceTypes := #[]
  staticTypes := #[]
  resolved := Array.replicate 115 none
  statics := none }

def pool5 : Array CpInfo := pool [(1, .methodref 2 3), (0, .class_ 4), (0, .nameAndType 5 6), (0, u "java/lang/Object"), (0, u "<init>"), (0, u "()V"), (1, .class_ 10), (1, u "java/util/AbstractCollection"), (66, .class_ 78), (0, u "java/util/Collection")] 81

def k5c0 : Code := { maxStack := 1, maxLocals := 1, code := jdk_22_method_1_code, exceptionTable := #[], attributes := #[] }
def k5m0 : Method := { name := "<init>", desc := "()V", sig := { parameters := [], returnType := none }, accessFlags := 4, code := some k5c0 }
/-- java/util/AbstractCollection -/
def k5 : Class := { plain "java/util/AbstractCollection" (some 0) with
  accessFlags := 1057
  interfaces := #[4]
  cf := some (fileOf pool5 8 #[] #[{ accessFlags := 4, nameIndex := 5, descriptorIndex := 6, attributes := #[] }] 1057 2 #[77] #[])
  fields := #[]
  methods := #[k5m0]
  instanceTypes := #[]
  staticTypes := #[]
  resolved := Array.replicate 160 none
  statics := none }

def pool6 : Array CpInfo := pool [(8, .class_ 10), (1, u "java/util/SequencedCollection"), (15, .class_ 27), (0, u "java/lang/Object"), (0, .class_ 29), (0, u "java/util/Collection")] 27

/-- java/util/SequencedCollection -/
def k6 : Class := { plain "java/util/SequencedCollection" (some 0) with
  accessFlags := 1537
  interfaces := #[4]
  cf := some (fileOf pool6 8 #[] #[] 1537 26 #[28] #[])
  fields := #[]
  methods := #[]
  instanceTypes := #[]
  staticTypes := #[]
  resolved := Array.replicate 57 none
  statics := none }

def pool7 : Array CpInfo := pool [(8, .class_ 10), (1, u "java/util/List"), (49, u "add"), (3, u "(Ljava/lang/Object;)Z"), (10, u "get"), (0, u "(I)Ljava/lang/Object;"), (2, u "size"), (0, u "()I"), (22, .class_ 104), (0, u "java/lang/Object"), (15, .class_ 121), (0, u "java/util/SequencedCollection")] 129

def k7m0 : Method := { name := "size", desc := "()I", sig := { parameters := [], returnType := some .int }, accessFlags := 1025, code := none }
def k7m1 : Method := { name := "add", desc := "(Ljava/lang/Object;)Z", sig := { parameters := [(.object "java/lang/Object")], returnType := some .boolean }, accessFlags := 1025, code := none }
def k7m2 : Method := { name := "get", desc := "(I)Ljava/lang/Object;", sig := { parameters := [.int], returnType := some (.object "java/lang/Object") }, accessFlags := 1025, code := none }
/-- java/util/List -/
def k7 : Class := { plain "java/util/List" (some 0) with
  accessFlags := 1537
  interfaces := #[6]
  cf := some (fileOf pool7 8 #[] #[{ accessFlags := 1025, nameIndex := 79, descriptorIndex := 80, attributes := #[] }, { accessFlags := 1025, nameIndex := 60, descriptorIndex := 64, attributes := #[] }, { accessFlags := 1025, nameIndex := 75, descriptorIndex := 76, attributes := #[] }] 1537 103 #[120] #[])
  fields := #[]
  methods := #[k7m0, k7m1, k7m2]
  instanceTypes := #[]
  staticTypes := #[]
  resolved := Array.replicate 251 none
  statics := none }

def pool8 : Array CpInfo := pool [(1, .methodref 2 3), (0, .class_ 4), (0, .nameAndType 5 6), (0, u "java/util/AbstractCollection"), (0, u "<init>"), (0, u "()V"), (0, .fieldref 8 9), (0, .class_ 10), (0, .nameAndType 11 12), (0, u "java/util/AbstractList"), (0, u "modCount"), (0, u "I"), (64, .class_ 78), (0, u "java/util/AbstractList$Itr"), (3, .class_ 83), (0, u "java/util/AbstractList$ListItr"), (9, .class_ 94), (0, u "java/util/AbstractList$RandomAccessSubList"), (3, .class_ 99), (0, u "java/util/AbstractList$SubList"), (33, .class_ 134), (0, u "java/util/List"), (73, .class_ 209), (0, u "java/util/AbstractList$SubList$1"), (0, .class_ 211), (0, u "java/util/AbstractList$RandomAccessSpliterator")] 6

def k8c0 : Code := { maxStack := 2, maxLocals := 1, code := jdk_39_method_1_code, exceptionTable := #[], attributes := #[] }
def k8m0 : Method := { name := "<init>", desc := "()V", sig := { parameters := [], returnType := none }, accessFlags := 4, code := some k8c0 }
/-- java/util/AbstractList -/
def k8 : Class := { plain "java/util/AbstractList" (some 5) with
  accessFlags := 1057
  interfaces := #[7]
  cf := some (fileOf pool8 8 #[.nestMembers #[93, 98, 208, 210, 82, 77]] #[{ accessFlags := 4, nameIndex := 5, descriptorIndex := 6, attributes := #[] }] 1057 2 #[133] #[{ accessFlags := 132, nameIndex := 11, descriptorIndex := 12, attributes := #[] }])
  fields := #[{ name := "modCount", type := .int, accessFlags := 132, slot := 0, constantValue := 0 }]
  methods := #[k8m0]
  instanceTypes := #[.int]
  staticTypes := #[]
  resolved := Array.replicate 218 none
  statics := none }

def pool9 : Array CpInfo := pool [(1, .class_ 2), (0, u "java/util/RandomAccess"), (0, .class_ 4), (0, u "java/lang/Object")] 2

/-- java/util/RandomAccess -/
def k9 : Class := { plain "java/util/RandomAccess" (some 0) with
  accessFlags := 1537
  interfaces := #[]
  cf := some (fileOf pool9 1 #[] #[] 1537 3 #[] #[])
  fields := #[]
  methods := #[]
  instanceTypes := #[]
  staticTypes := #[]
  resolved := Array.replicate 7 none
  statics := none }

def pool10 : Array CpInfo := pool [(1, .class_ 2), (0, u "java/lang/Cloneable"), (0, .class_ 4), (0, u "java/lang/Object")] 2

/-- java/lang/Cloneable -/
def k10 : Class := { plain "java/lang/Cloneable" (some 0) with
  accessFlags := 1537
  interfaces := #[]
  cf := some (fileOf pool10 1 #[] #[] 1537 3 #[] #[])
  fields := #[]
  methods := #[]
  instanceTypes := #[]
  staticTypes := #[]
  resolved := Array.replicate 7 none
  statics := none }

def pool11 : Array CpInfo := pool [(1, .class_ 2), (0, u "java/io/Serializable"), (0, .class_ 4), (0, u "java/lang/Object")] 2

/-- java/io/Serializable -/
def k11 : Class := { plain "java/io/Serializable" (some 0) with
  accessFlags := 1537
  interfaces := #[]
  cf := some (fileOf pool11 1 #[] #[] 1537 3 #[] #[])
  fields := #[]
  methods := #[]
  instanceTypes := #[]
  staticTypes := #[]
  resolved := Array.replicate 7 none
  statics := none }

def pool12 : Array CpInfo := pool [(1, .methodref 2 3), (0, .class_ 4), (0, .nameAndType 5 6), (0, u "java/util/AbstractList"), (0, u "<init>"), (0, u "()V"), (0, .class_ 8), (0, u "java/lang/Object"), (0, .fieldref 10 11), (0, .class_ 12), (0, .nameAndType 13 14), (0, u "java/util/ArrayList"), (0, u "elementData"), (0, u "[Ljava/lang/Object;"), (2, u "EMPTY_ELEMENTDATA"), (21, .fieldref 10 40), (0, .nameAndType 41 14), (0, u "DEFAULTCAPACITY_EMPTY_ELEMENTDATA"), (5, u "()[Ljava/lang/Object;"), (0, .fieldref 10 49), (0, .nameAndType 50 51), (0, u "size"), (0, u "I"), (6, .class_ 60), (1, u "java/util/Arrays"), (0, u "copyOf"), (1, .fieldref 10 64), (0, .nameAndType 65 51), (0, u "modCount"), (0, .methodref 58 67), (0, .nameAndType 61 68), (0, u "([Ljava/lang/Object;I)[Ljava/lang/Object;"), (0, .methodref 10 70), (0, .nameAndType 71 72), (0, u "grow"), (0, u "(I)[Ljava/lang/Object;"), (0, .methodref 74 75), (0, .class_ 76), (0, .nameAndType 77 78), (0, u "jdk/internal/util/ArraysSupport"), (0, u "newLength"), (0, u "(III)I"), (0, .methodref 80 81), (0, .class_ 82), (0, .nameAndType 83 84), (0, u "java/lang/Math"), (0, u "max"), (0, u "(II)I"), (11, u "(Ljava/lang/Object;)Z"), (21, .methodref 119 120), (0, .class_ 121), (0, .nameAndType 122 84), (0, u "java/util/Objects"), (0, u "checkIndex"), (0, .methodref 10 124), (0, .nameAndType 13 125), (0, u "(I)Ljava/lang/Object;"), (3, .methodref 10 130), (0, .nameAndType 71 47), (0, .methodref 10 132), (0, .nameAndType 133 134), (0, u "add"), (0, u "(Ljava/lang/Object;[Ljava/lang/Object;I)V"), (13, .class_ 149), (0, u "java/util/List"), (36, u "()I"), (75, .class_ 263), (0, u "java/util/ArrayList$ListItr"), (3, .class_ 268), (0, u "java/util/ArrayList$Itr"), (7, .class_ 277), (0, u "java/util/ArrayList$SubList"), (12, .class_ 291), (0, u "java/util/ArrayList$ArrayListSpliterator"), (37, .class_ 330), (0, u "java/util/RandomAccess"), (0, .class_ 332), (0, u "java/lang/Cloneable"), (0, .class_ 334), (0, u "java/io/Serializable"), (0, u "serialVersionUID"), (0, u "J"), (3, u "DEFAULT_CAPACITY"), (40, u "get"), (118, .class_ 501), (0, u "java/util/ArrayList$SubList$2"), (0, .class_ 503), (0, u "java/util/ArrayList$SubList$1")] 5

def k12c0 : Code := { maxStack := 2, maxLocals := 1, code := jdk_38_method_2_code, exceptionTable := #[], attributes := #[] }
def k12m0 : Method := { name := "<init>", desc := "()V", sig := { parameters := [], returnType := none }, accessFlags := 1, code := some k12c0 }
def k12c1 : Code := { maxStack := 4, maxLocals := 4, code := jdk_38_method_6_code, exceptionTable := #[], attributes := #[] }
def k12m1 : Method := { name := "grow", desc := "(I)[Ljava/lang/Object;", sig := { parameters := [.int], returnType := some (.array (.object "java/lang/Object")) }, accessFlags := 2, code := some k12c1 }
def k12c2 : Code := { maxStack := 3, maxLocals := 1, code := jdk_38_method_7_code, exceptionTable := #[], attributes := #[] }
def k12m2 : Method := { name := "grow", desc := "()[Ljava/lang/Object;", sig := { parameters := [], returnType := some (.array (.object "java/lang/Object")) }, accessFlags := 2, code := some k12c2 }
def k12c3 : Code := { maxStack := 1, maxLocals := 1, code := jdk_38_method_8_code, exceptionTable := #[], attributes := #[] }
def k12m3 : Method := { name := "size", desc := "()I", sig := { parameters := [], returnType := some .int }, accessFlags := 1, code := some k12c3 }
def k12c4 : Code := { maxStack := 2, maxLocals := 2, code := jdk_38_method_18_code, exceptionTable := #[], attributes := #[] }
def k12m4 : Method := { name := "elementData", desc := "(I)Ljava/lang/Object;", sig := { parameters := [.int], returnType := some (.object "java/lang/Object") }, accessFlags := 0, code := some k12c4 }
def k12c5 : Code := { maxStack := 2, maxLocals := 2, code := jdk_38_method_20_code, exceptionTable := #[], attributes := #[] }
def k12m5 : Method := { name := "get", desc := "(I)Ljava/lang/Object;", sig := { parameters := [.int], returnType := some (.object "java/lang/Object") }, accessFlags := 1, code := some k12c5 }
def k12c6 : Code := { maxStack := 3, maxLocals := 4, code := jdk_38_method_24_code, exceptionTable := #[], attributes := #[] }
def k12m6 : Method := { name := "add", desc := "(Ljava/lang/Object;[Ljava/lang/Object;I)V", sig := { parameters := [(.object "java/lang/Object"), (.array (.object "java/lang/Object")), .int], returnType := none }, accessFlags := 2, code := some k12c6 }
def k12c7 : Code := { maxStack := 4, maxLocals := 2, code := jdk_38_method_25_code, exceptionTable := #[], attributes := #[] }
def k12m7 : Method := { name := "add", desc := "(Ljava/lang/Object;)Z", sig := { parameters := [(.object "java/lang/Object")], returnType := some .boolean }, accessFlags := 1, code := some k12c7 }
/-- java/util/ArrayList -/
def k12 : Class := { plain "java/util/ArrayList" (some 8) with
  accessFlags := 33
  interfaces := #[7, 9, 10, 11]
  cf := some (fileOf pool12 10 #[.nestMembers #[290, 276, 500, 502, 262, 267]] #[{ accessFlags := 1, nameIndex := 5, descriptorIndex := 6, attributes := #[] }, { accessFlags := 2, nameIndex := 71, descriptorIndex := 72, attributes := #[] }, { accessFlags := 2, nameIndex := 71, descriptorIndex := 47, attributes := #[] }, { accessFlags := 1, nameIndex := 50, descriptorIndex := 186, attributes := #[] }, { accessFlags := 0, nameIndex := 13, descriptorIndex := 125, attributes := #[] }, { accessFlags := 1, nameIndex := 381, descriptorIndex := 125, attributes := #[] }, { accessFlags := 2, nameIndex := 133, descriptorIndex := 134, attributes := #[] }, { accessFlags := 1, nameIndex := 133, descriptorIndex := 96, attributes := #[] }] 33 2 #[148, 329, 331, 333] #[{ accessFlags := 26, nameIndex := 335, descriptorIndex := 336, attributes := #[] }, { accessFlags := 26, nameIndex := 340, descriptorIndex := 51, attributes := #[] }, { accessFlags := 26, nameIndex := 17, descriptorIndex := 14, attributes := #[] }, { accessFlags := 26, nameIndex := 41, descriptorIndex := 14, attributes := #[] }, { accessFlags := 128, nameIndex := 13, descriptorIndex := 14, attributes := #[] }, { accessFlags := 2, nameIndex := 50, descriptorIndex := 51, attributes := #[] }])
  fields := #[{ name := "serialVersionUID", type := .long, accessFlags := 26, slot := 0, constantValue := 0 }, { name := "DEFAULT_CAPACITY", type := .int, accessFlags := 26, slot := 1, constantValue := 0 }, { name := "EMPTY_ELEMENTDATA", type := (.array (.object "java/lang/Object")), accessFlags := 26, slot := 2, constantValue := 0 }, { name := "DEFAULTCAPACITY_EMPTY_ELEMENTDATA", type := (.array (.object "java/lang/Object")), accessFlags := 26, slot := 3, constantValue := 0 }, { name := "elementData", type := (.array (.object "java/lang/Object")), accessFlags := 128, slot := 1, constantValue := 0 }, { name := "size", type := .int, accessFlags := 2, slot := 2, constantValue := 0 }]
  methods := #[k12m0, k12m1, k12m2, k12m3, k12m4, k12m5, k12m6, k12m7]
  instanceTypes := #[.int, (.array (.object "java/lang/Object")), .int]
  staticTypes := #[.long, .int, (.array (.object "java/lang/Object")), (.array (.object "java/lang/Object"))]
  resolved := Array.replicate 509 none
  statics := some 0 }

def pool13 : Array CpInfo := pool [(1, .methodref 2 3), (0, .class_ 4), (0, .nameAndType 5 6), (0, u "java/lang/Object"), (0, u "<init>"), (0, u "()V"), (1, .class_ 10), (1, u "java/lang/Number"), (2, .class_ 14), (0, u "java/io/Serializable"), (0, u "serialVersionUID"), (0, u "J")] 20

def k13c0 : Code := { maxStack := 1, maxLocals := 1, code := jdk_18_method_1_code, exceptionTable := #[], attributes := #[] }
def k13m0 : Method := { name := "<init>", desc := "()V", sig := { parameters := [], returnType := none }, accessFlags := 1, code := some k13c0 }
/-- java/lang/Number -/
def k13 : Class := { plain "java/lang/Number" (some 0) with
  accessFlags := 1057
  interfaces := #[11]
  cf := some (fileOf pool13 8 #[] #[{ accessFlags := 1, nameIndex := 5, descriptorIndex := 6, attributes := #[] }] 1057 2 #[13] #[{ accessFlags := 26, nameIndex := 15, descriptorIndex := 16, attributes := #[] }])
  fields := #[{ name := "serialVersionUID", type := .long, accessFlags := 26, slot := 0, constantValue := 0 }]
  methods := #[k13m0]
  instanceTypes := #[]
  staticTypes := #[.long]
  resolved := Array.replicate 37 none
  statics := none }

def pool14 : Array CpInfo := pool [(1, .class_ 2), (0, u "java/lang/Comparable"), (0, .class_ 4), (0, u "java/lang/Object")] 7

/-- java/lang/Comparable -/
def k14 : Class := { plain "java/lang/Comparable" (some 0) with
  accessFlags := 1537
  interfaces := #[]
  cf := some (fileOf pool14 1 #[] #[] 1537 3 #[] #[])
  fields := #[]
  methods := #[]
  instanceTypes := #[]
  staticTypes := #[]
  resolved := Array.replicate 12 none
  statics := none }

def pool15 : Array CpInfo := pool [(1, .class_ 2), (0, u "java/lang/constant/Constable"), (0, .class_ 4), (0, u "java/lang/Object")] 6

/-- java/lang/constant/Constable -/
def k15 : Class := { plain "java/lang/constant/Constable" (some 0) with
  accessFlags := 1537
  interfaces := #[]
  cf := some (fileOf pool15 1 #[] #[] 1537 3 #[] #[])
  fields := #[]
  methods := #[]
  instanceTypes := #[]
  staticTypes := #[]
  resolved := Array.replicate 11 none
  statics := none }

def pool16 : Array CpInfo := pool [(1, .class_ 2), (0, u "java/lang/constant/ConstantDesc"), (0, .class_ 4), (0, u "java/lang/Object")] 32

/-- java/lang/constant/ConstantDesc -/
def k16 : Class := { plain "java/lang/constant/ConstantDesc" (some 0) with
  accessFlags := 1537
  interfaces := #[]
  cf := some (fileOf pool16 1 #[] #[] 1537 3 #[] #[])
  fields := #[]
  methods := #[]
  instanceTypes := #[]
  staticTypes := #[]
  resolved := Array.replicate 37 none
  statics := none }

def pool17 : Array CpInfo := pool [(1, .class_ 2), (0, u "java/lang/Long"), (55, .nameAndType 59 60), (0, u "<init>"), (0, u "()V"), (24, u "valueOf"), (143, u "(J)Ljava/lang/Long;"), (0, .long 18446744073709551488), (1, .long 127), (1, .fieldref 235 236), (0, .class_ 237), (0, .nameAndType 238 239), (0, u "java/lang/Long$LongCache"), (0, u "cache"), (0, u "[Ljava/lang/Long;"), (0, .methodref 1 241), (0, .nameAndType 59 242), (0, u "(J)V"), (27, .methodref 271 58), (0, .class_ 272), (0, u "java/lang/Number"), (0, .fieldref 1 274), (0, .nameAndType 275 276), (0, u "value"), (0, u "J"), (5, u "longValue"), (0, u "()J"), (77, u "TYPE"), (0, u "Ljava/lang/Class;"), (0, .class_ 364), (0, u "java/lang/Comparable"), (0, .class_ 366), (0, u "java/lang/constant/Constable"), (0, .class_ 368), (0, u "java/lang/constant/ConstantDesc"), (0, u "MIN_VALUE"), (1, u "MAX_VALUE"), (4, u "SIZE"), (0, u "I"), (1, u "BYTES"), (1, u "serialVersionUID")] 142

def k17c0 : Code := { maxStack := 4, maxLocals := 3, code := jdk_35_method_24_code, exceptionTable := #[], attributes := #[] }
def k17m0 : Method := { name := "valueOf", desc := "(J)Ljava/lang/Long;", sig := { parameters := [.long], returnType := some (.object "java/lang/Long") }, accessFlags := 9, code := some k17c0 }
def k17c1 : Code := { maxStack := 3, maxLocals := 3, code := jdk_35_method_26_code, exceptionTable := #[], attributes := #[] }
def k17m1 : Method := { name := "<init>", desc := "(J)V", sig := { parameters := [.long], returnType := none }, accessFlags := 1, code := some k17c1 }
def k17c2 : Code := { maxStack := 2, maxLocals := 1, code := jdk_35_method_31_code, exceptionTable := #[], attributes := #[] }
def k17m2 : Method := { name := "longValue", desc := "()J", sig := { parameters := [], returnType := some .long }, accessFlags := 1, code := some k17c2 }
/-- java/lang/Long -/
def k17 : Class := { plain "java/lang/Long" (some 13) with
  accessFlags := 49
  interfaces := #[14, 15, 16]
  cf := some (fileOf pool17 1 #[.nestMembers #[235]] #[{ accessFlags := 9, nameIndex := 85, descriptorIndex := 229, attributes := #[] }, { accessFlags := 1, nameIndex := 59, descriptorIndex := 242, attributes := #[] }, { accessFlags := 1, nameIndex := 282, descriptorIndex := 283, attributes := #[] }] 49 271 #[363, 365, 367] #[{ accessFlags := 25, nameIndex := 369, descriptorIndex := 276, attributes := #[] }, { accessFlags := 25, nameIndex := 371, descriptorIndex := 276, attributes := #[] }, { accessFlags := 25, nameIndex := 361, descriptorIndex := 362, attributes := #[] }, { accessFlags := 18, nameIndex := 275, descriptorIndex := 276, attributes := #[] }, { accessFlags := 25, nameIndex := 376, descriptorIndex := 377, attributes := #[] }, { accessFlags := 25, nameIndex := 379, descriptorIndex := 377, attributes := #[] }, { accessFlags := 26, nameIndex := 381, descriptorIndex := 276, attributes := #[] }])
  fields := #[{ name := "MIN_VALUE", type := .long, accessFlags := 25, slot := 0, constantValue := 0 }, { name := "MAX_VALUE", type := .long, accessFlags := 25, slot := 1, constantValue := 0 }, { name := "TYPE", type := (.object "java/lang/Class"), accessFlags := 25, slot := 2, constantValue := 0 }, { name := "value", type := .long, accessFlags := 18, slot := 0, constantValue := 0 }, { name := "SIZE", type := .int, accessFlags := 25, slot := 3, constantValue := 0 }, { name := "BYTES", type := .int, accessFlags := 25, slot := 4, constantValue := 0 }, { name := "serialVersionUID", type := .long, accessFlags := 26, slot := 5, constantValue := 0 }]
  methods := #[k17m0, k17m1, k17m2]
  instanceTypes := #[.long]
  staticTypes := #[.long, .long, (.object "java/lang/Class"), .int, .int, .long]
  resolved := Array.replicate 524 none
  statics := none }

def pool18 : Array CpInfo := pool [(2, .class_ 4), (1, u "java/lang/Object"), (0, u "<init>"), (0, u "()V"), (0, .class_ 8), (0, u "java/lang/Long"), (7, .class_ 18), (1, u "java/lang/Long$LongCache"), (0, u "$assertionsDisabled"), (0, u "Z"), (8, u "archivedCache"), (0, u "[Ljava/lang/Long;"), (7, u "cache")] 24

def k18m0 : Method := { name := "<init>", desc := "()V", sig := { parameters := [], returnType := none }, accessFlags := 2, code := none }
/-- java/lang/Long$LongCache -/
def k18 : Class := { plain "java/lang/Long$LongCache" (some 0) with
  accessFlags := 48
  interfaces := #[]
  cf := some (fileOf pool18 16 #[.nestHost 7] #[{ accessFlags := 2, nameIndex := 5, descriptorIndex := 6, attributes := #[] }] 48 2 #[] #[{ accessFlags := 24, nameIndex := 38, descriptorIndex := 30, attributes := #[] }, { accessFlags := 8, nameIndex := 29, descriptorIndex := 30, attributes := #[] }, { accessFlags := 4120, nameIndex := 19, descriptorIndex := 20, attributes := #[] }])
  fields := #[{ name := "cache", type := (.array (.object "java/lang/Long")), accessFlags := 24, slot := 0, constantValue := 0 }, { name := "archivedCache", type := (.array (.object "java/lang/Long")), accessFlags := 8, slot := 1, constantValue := 0 }, { name := "$assertionsDisabled", type := .boolean, accessFlags := 4120, slot := 2, constantValue := 0 }]
  methods := #[k18m0]
  instanceTypes := #[]
  staticTypes := #[(.array (.object "java/lang/Long")), (.array (.object "java/lang/Long")), .boolean]
  resolved := Array.replicate 63 none
  statics := some 1 }

def pool19 : Array CpInfo := pool [(1, .class_ 2), (0, u "java/lang/Math"), (1, .class_ 6), (1, u "java/lang/Object"), (0, u "<init>"), (0, u "()V"), (89, .class_ 100), (1, u "java/lang/Math$RandomNumberGeneratorHolder"), (20, u "(JJ)J"), (50, u "negativeZeroFloatBits"), (0, u "J"), (2, u "negativeZeroDoubleBits"), (21, u "max"), (2, u "min"), (43, u "$assertionsDisabled"), (0, u "Z"), (88, u "(II)I"), (2, u "twoToTheDoubleScaleDown"), (0, u "D"), (4, u "twoToTheDoubleScaleUp"), (9, u "E"), (3, u "PI"), (2, u "TAU"), (2, u "DEGREES_TO_RADIANS"), (0, u "RADIANS_TO_DEGREES")] 94

def k19m0 : Method := { name := "<init>", desc := "()V", sig := { parameters := [], returnType := none }, accessFlags := 2, code := none }
def k19c1 : Code := { maxStack := 2, maxLocals := 2, code := jdk_29_method_65_code, exceptionTable := #[], attributes := #[] }
def k19m1 : Method := { name := "max", desc := "(II)I", sig := { parameters := [.int, .int], returnType := some .int }, accessFlags := 9, code := some k19c1 }
def k19c2 : Code := { maxStack := 2, maxLocals := 2, code := jdk_29_method_69_code, exceptionTable := #[], attributes := #[] }
def k19m2 : Method := { name := "min", desc := "(II)I", sig := { parameters := [.int, .int], returnType := some .int }, accessFlags := 9, code := some k19c2 }
def k19c3 : Code := { maxStack := 4, maxLocals := 4, code := jdk_29_method_70_code, exceptionTable := #[], attributes := #[] }
def k19m3 : Method := { name := "min", desc := "(JJ)J", sig := { parameters := [.long, .long], returnType := some .long }, accessFlags := 9, code := some k19c3 }
/-- java/lang/Math -/
def k19 : Class := { plain "java/lang/Math" (some 0) with
  accessFlags := 49
  interfaces := #[]
  cf := some (fileOf pool19 1 #[.nestMembers #[98]] #[{ accessFlags := 2, nameIndex := 7, descriptorIndex := 8, attributes := #[] }, { accessFlags := 9, nameIndex := 198, descriptorIndex := 335, attributes := #[] }, { accessFlags := 9, nameIndex := 201, descriptorIndex := 335, attributes := #[] }, { accessFlags := 9, nameIndex := 201, descriptorIndex := 121, attributes := #[] }] 49 4 #[] #[{ accessFlags := 25, nameIndex := 354, descriptorIndex := 339, attributes := #[] }, { accessFlags := 25, nameIndex := 358, descriptorIndex := 339, attributes := #[] }, { accessFlags := 25, nameIndex := 361, descriptorIndex := 339, attributes := #[] }, { accessFlags := 26, nameIndex := 364, descriptorIndex := 339, attributes := #[] }, { accessFlags := 26, nameIndex := 365, descriptorIndex := 339, attributes := #[] }, { accessFlags := 26, nameIndex := 172, descriptorIndex := 173, attributes := #[] }, { accessFlags := 26, nameIndex := 176, descriptorIndex := 173, attributes := #[] }, { accessFlags := 8, nameIndex := 344, descriptorIndex := 339, attributes := #[] }, { accessFlags := 8, nameIndex := 338, descriptorIndex := 339, attributes := #[] }, { accessFlags := 4120, nameIndex := 245, descriptorIndex := 246, attributes := #[] }])
  fields := #[{ name := "E", type := .double, accessFlags := 25, slot := 0, constantValue := 0 }, { name := "PI", type := .double, accessFlags := 25, slot := 1, constantValue := 0 }, { name := "TAU", type := .double, accessFlags := 25, slot := 2, constantValue := 0 }, { name := "DEGREES_TO_RADIANS", type := .double, accessFlags := 26, slot := 3, constantValue := 0 }, { name := "RADIANS_TO_DEGREES", type := .double, accessFlags := 26, slot := 4, constantValue := 0 }, { name := "negativeZeroFloatBits", type := .long, accessFlags := 26, slot := 5, constantValue := 0 }, { name := "negativeZeroDoubleBits", type := .long, accessFlags := 26, slot := 6, constantValue := 0 }, { name := "twoToTheDoubleScaleUp", type := .double, accessFlags := 8, slot := 7, constantValue := 0 }, { name := "twoToTheDoubleScaleDown", type := .double, accessFlags := 8, slot := 8, constantValue := 0 }, { name := "$assertionsDisabled", type := .boolean, accessFlags := 4120, slot := 9, constantValue := 0 }]
  methods := #[k19m0, k19m1, k19m2, k19m3]
  instanceTypes := #[]
  staticTypes := #[.double, .double, .double, .double, .double, .long, .long, .double, .double, .boolean]
  resolved := Array.replicate 460 none
  statics := none }

def pool20 : Array CpInfo := pool [(2, .class_ 4), (1, u "java/lang/Object"), (0, u "<init>"), (0, u "()V"), (35, .class_ 44), (1, u "java/util/Objects"), (60, .methodref 106 107), (0, .class_ 108), (0, .nameAndType 109 110), (0, u "jdk/internal/util/Preconditions"), (0, u "checkIndex"), (0, u "(IILjava/util/function/BiFunction;)I"), (60, u "(II)I")] 12

def k20m0 : Method := { name := "<init>", desc := "()V", sig := { parameters := [], returnType := none }, accessFlags := 2, code := none }
def k20c1 : Code := { maxStack := 3, maxLocals := 2, code := jdk_31_method_17_code, exceptionTable := #[], attributes := #[] }
def k20m1 : Method := { name := "checkIndex", desc := "(II)I", sig := { parameters := [.int, .int], returnType := some .int }, accessFlags := 9, code := some k20c1 }
/-- java/util/Objects -/
def k20 : Class := { plain "java/util/Objects" (some 0) with
  accessFlags := 49
  interfaces := #[]
  cf := some (fileOf pool20 42 #[] #[{ accessFlags := 2, nameIndex := 5, descriptorIndex := 6, attributes := #[] }, { accessFlags := 9, nameIndex := 109, descriptorIndex := 171, attributes := #[] }] 49 2 #[] #[])
  fields := #[]
  methods := #[k20m0, k20m1]
  instanceTypes := #[]
  staticTypes := #[]
  resolved := Array.replicate 184 none
  statics := none }

def pool21 : Array CpInfo := pool [(2, .class_ 4), (1, u "java/lang/Object"), (0, u "<init>"), (0, u "()V"), (17, .class_ 26), (1, u "jdk/internal/util/Preconditions"), (6, u "checkIndex"), (21, .class_ 56), (0, u "jdk/internal/util/Preconditions$4"), (57, .class_ 115), (0, u "jdk/internal/util/Preconditions$1"), (7, u "SIOOBE_FORMATTER"), (0, u "Ljava/util/function/BiFunction;"), (0, .class_ 126), (0, u "jdk/internal/util/Preconditions$2"), (3, u "AIOOBE_FORMATTER"), (0, .class_ 132), (0, u "jdk/internal/util/Preconditions$3"), (3, u "IOOBE_FORMATTER"), (41, u "(IILjava/util/function/BiFunction;)I")] 15

def k21m0 : Method := { name := "<init>", desc := "()V", sig := { parameters := [], returnType := none }, accessFlags := 1, code := none }
def k21c1 : Code := { maxStack := 3, maxLocals := 3, code := jdk_41_method_11_code, exceptionTable := #[], attributes := #[] }
def k21m1 : Method := { name := "checkIndex", desc := "(IILjava/util/function/BiFunction;)I", sig := { parameters := [.int, .int, (.object "java/util/function/BiFunction")], returnType := some .int }, accessFlags := 9, code := some k21c1 }
/-- jdk/internal/util/Preconditions -/
def k21 : Class := { plain "jdk/internal/util/Preconditions" (some 0) with
  accessFlags := 33
  interfaces := #[]
  cf := some (fileOf pool21 24 #[.nestMembers #[55, 131, 125, 114]] #[{ accessFlags := 1, nameIndex := 5, descriptorIndex := 6, attributes := #[] }, { accessFlags := 9, nameIndex := 33, descriptorIndex := 178, attributes := #[] }] 33 2 #[] #[{ accessFlags := 25, nameIndex := 123, descriptorIndex := 124, attributes := #[] }, { accessFlags := 25, nameIndex := 130, descriptorIndex := 124, attributes := #[] }, { accessFlags := 25, nameIndex := 136, descriptorIndex := 124, attributes := #[] }])
  fields := #[{ name := "SIOOBE_FORMATTER", type := (.object "java/util/function/BiFunction"), accessFlags := 25, slot := 0, constantValue := 0 }, { name := "AIOOBE_FORMATTER", type := (.object "java/util/function/BiFunction"), accessFlags := 25, slot := 1, constantValue := 0 }, { name := "IOOBE_FORMATTER", type := (.object "java/util/function/BiFunction"), accessFlags := 25, slot := 2, constantValue := 0 }]
  methods := #[k21m0, k21m1]
  instanceTypes := #[]
  staticTypes := #[(.object "java/util/function/BiFunction"), (.object "java/util/function/BiFunction"), (.object "java/util/function/BiFunction")]
  resolved := Array.replicate 194 none
  statics := none }

def pool22 : Array CpInfo := pool [(9, u "<init>"), (6, .class_ 18), (1, u "java/lang/Object"), (0, u "()V"), (1, .class_ 23), (1, u "jdk/internal/util/ArraysSupport"), (0, u "LOG2_ARRAY_LONG_INDEX_SCALE"), (0, u "I"), (2, u "U"), (0, u "Ljdk/internal/misc/Unsafe;"), (8, u "BIG_ENDIAN"), (0, u "Z"), (8, u "LOG2_BYTE_BIT_SIZE"), (4, u "LOG2_ARRAY_INT_INDEX_SCALE"), (54, u "JLA"), (0, u "Ljdk/internal/access/JavaLangAccess;"), (11, u "LOG2_ARRAY_BOOLEAN_INDEX_SCALE"), (9, u "LOG2_ARRAY_BYTE_INDEX_SCALE"), (5, u "LOG2_ARRAY_CHAR_INDEX_SCALE"), (5, u "LOG2_ARRAY_SHORT_INDEX_SCALE"), (18, u "LOG2_ARRAY_FLOAT_INDEX_SCALE"), (24, u "LOG2_ARRAY_DOUBLE_INDEX_SCALE"), (6, .methodref 195 196), (0, .class_ 197), (0, .nameAndType 198 199), (0, u "java/lang/Math"), (0, u "max"), (0, u "(II)I"), (0, .integer 2147483639), (76, u "T_BOOLEAN"), (2, u "T_CHAR"), (1, u "T_FLOAT"), (1, u "T_DOUBLE"), (1, u "T_BYTE"), (1, u "T_SHORT"), (1, u "T_INT"), (1, u "T_LONG"), (1, u "SOFT_MAX_ARRAY_LENGTH"), (56, u "newLength"), (0, u "(III)I")] 25

def k22m0 : Method := { name := "<init>", desc := "()V", sig := { parameters := [], returnType := none }, accessFlags := 2, code := none }
def k22c1 : Code := { maxStack := 3, maxLocals := 4, code := jdk_48_method_27_code, exceptionTable := #[], attributes := #[] }
def k22m1 : Method := { name := "newLength", desc := "(III)I", sig := { parameters := [.int, .int, .int], returnType := some .int }, accessFlags := 9, code := some k22c1 }
/-- jdk/internal/util/ArraysSupport -/
def k22 : Class := { plain "jdk/internal/util/ArraysSupport" (some 0) with
  accessFlags := 33
  interfaces := #[]
  cf := some (fileOf pool22 21 #[] #[{ accessFlags := 2, nameIndex := 9, descriptorIndex := 19, attributes := #[] }, { accessFlags := 9, nameIndex := 351, descriptorIndex := 352, attributes := #[] }] 33 16 #[] #[{ accessFlags := 24, nameIndex := 28, descriptorIndex := 29, attributes := #[] }, { accessFlags := 26, nameIndex := 38, descriptorIndex := 39, attributes := #[] }, { accessFlags := 25, nameIndex := 121, descriptorIndex := 25, attributes := #[] }, { accessFlags := 25, nameIndex := 131, descriptorIndex := 25, attributes := #[] }, { accessFlags := 25, nameIndex := 137, descriptorIndex := 25, attributes := #[] }, { accessFlags := 25, nameIndex := 143, descriptorIndex := 25, attributes := #[] }, { accessFlags := 25, nameIndex := 53, descriptorIndex := 25, attributes := #[] }, { accessFlags := 25, nameIndex := 24, descriptorIndex := 25, attributes := #[] }, { accessFlags := 25, nameIndex := 162, descriptorIndex := 25, attributes := #[] }, { accessFlags := 25, nameIndex := 187, descriptorIndex := 25, attributes := #[] }, { accessFlags := 26, nameIndex := 48, descriptorIndex := 25, attributes := #[] }, { accessFlags := 25, nameIndex := 277, descriptorIndex := 25, attributes := #[] }, { accessFlags := 25, nameIndex := 280, descriptorIndex := 25, attributes := #[] }, { accessFlags := 25, nameIndex := 282, descriptorIndex := 25, attributes := #[] }, { accessFlags := 25, nameIndex := 284, descriptorIndex := 25, attributes := #[] }, { accessFlags := 25, nameIndex := 286, descriptorIndex := 25, attributes := #[] }, { accessFlags := 25, nameIndex := 288, descriptorIndex := 25, attributes := #[] }, { accessFlags := 25, nameIndex := 290, descriptorIndex := 25, attributes := #[] }, { accessFlags := 25, nameIndex := 292, descriptorIndex := 25, attributes := #[] }, { accessFlags := 26, nameIndex := 108, descriptorIndex := 109, attributes := #[] }, { accessFlags := 25, nameIndex := 294, descriptorIndex := 25, attributes := #[] }])
  fields := #[{ name := "U", type := (.object "jdk/internal/misc/Unsafe"), accessFlags := 24, slot := 0, constantValue := 0 }, { name := "BIG_ENDIAN", type := .boolean, accessFlags := 26, slot := 1, constantValue := 0 }, { name := "LOG2_ARRAY_BOOLEAN_INDEX_SCALE", type := .int, accessFlags := 25, slot := 2, constantValue := 0 }, { name := "LOG2_ARRAY_BYTE_INDEX_SCALE", type := .int, accessFlags := 25, slot := 3, constantValue := 0 }, { name := "LOG2_ARRAY_CHAR_INDEX_SCALE", type := .int, accessFlags := 25, slot := 4, constantValue := 0 }, { name := "LOG2_ARRAY_SHORT_INDEX_SCALE", type := .int, accessFlags := 25, slot := 5, constantValue := 0 }, { name := "LOG2_ARRAY_INT_INDEX_SCALE", type := .int, accessFlags := 25, slot := 6, constantValue := 0 }, { name := "LOG2_ARRAY_LONG_INDEX_SCALE", type := .int, accessFlags := 25, slot := 7, constantValue := 0 }, { name := "LOG2_ARRAY_FLOAT_INDEX_SCALE", type := .int, accessFlags := 25, slot := 8, constantValue := 0 }, { name := "LOG2_ARRAY_DOUBLE_INDEX_SCALE", type := .int, accessFlags := 25, slot := 9, constantValue := 0 }, { name := "LOG2_BYTE_BIT_SIZE", type := .int, accessFlags := 26, slot := 10, constantValue := 0 }, { name := "T_BOOLEAN", type := .int, accessFlags := 25, slot := 11, constantValue := 0 }, { name := "T_CHAR", type := .int, accessFlags := 25, slot := 12, constantValue := 0 }, { name := "T_FLOAT", type := .int, accessFlags := 25, slot := 13, constantValue := 0 }, { name := "T_DOUBLE", type := .int, accessFlags := 25, slot := 14, constantValue := 0 }, { name := "T_BYTE", type := .int, accessFlags := 25, slot := 15, constantValue := 0 }, { name := "T_SHORT", type := .int, accessFlags := 25, slot := 16, constantValue := 0 }, { name := "T_INT", type := .int, accessFlags := 25, slot := 17, constantValue := 0 }, { name := "T_LONG", type := .int, accessFlags := 25, slot := 18, constantValue := 0 }, { name := "JLA", type := (.object "jdk/internal/access/JavaLangAccess"), accessFlags := 26, slot := 19, constantValue := 0 }, { name := "SOFT_MAX_ARRAY_LENGTH", type := .int, accessFlags := 25, slot := 20, constantValue := 0 }]
  methods := #[k22m0, k22m1]
  instanceTypes := #[]
  staticTypes := #[(.object "jdk/internal/misc/Unsafe"), .boolean, .int, .int, .int, .int, .int, .int, .int, .int, .int, .int, .int, .int, .int, .int, .int, .int, .int, (.object "jdk/internal/access/JavaLangAccess"), .int]
  resolved := Array.replicate 378 none
  statics := none }

def pool23 : Array CpInfo := pool [(2, .class_ 4), (1, u "java/lang/Object"), (0, u "<init>"), (0, u "()V"), (7, .class_ 16), (1, u "java/util/Arrays"), (57, .class_ 76), (1, u "java/util/Arrays$NaturalOrder"), (9, .methodref 2 87), (0, .nameAndType 88 89), (0, u "getClass"), (0, u "()Ljava/lang/Class;"), (20, .class_ 111), (0, u "[Ljava/lang/Object;"), (1, .class_ 115), (1, u "java/util/Arrays$LegacyMergeSort"), (1, u "Z"), (32, .methodref 151 152), (0, .class_ 153), (0, .nameAndType 154 155), (0, u "java/lang/System"), (0, u "arraycopy"), (0, u "(Ljava/lang/Object;ILjava/lang/Object;II)V"), (144, .methodref 14 301), (0, .nameAndType 302 303), (0, u "copyOf"), (0, u "([Ljava/lang/Object;ILjava/lang/Class;)[Ljava/lang/Object;"), (0, .methodref 305 306), (0, .class_ 307), (0, .nameAndType 308 309), (0, u "java/lang/Math"), (0, u "min"), (0, u "(II)I"), (65, .class_ 376), (0, u "java/util/Arrays$ArrayList"), (68, u "$assertionsDisabled"), (269, u "MIN_ARRAY_SORT_GRAN"), (0, u "I"), (2, u "INSERTIONSORT_THRESHOLD"), (140, u "([Ljava/lang/Object;I)[Ljava/lang/Object;"), (114, .class_ 976), (0, u "java/util/Arrays$ArrayItr")] 52

def k23m0 : Method := { name := "<init>", desc := "()V", sig := { parameters := [], returnType := none }, accessFlags := 2, code := none }
def k23c1 : Code := { maxStack := 3, maxLocals := 2, code := jdk_65_method_119_code, exceptionTable := #[], attributes := #[] }
def k23m1 : Method := { name := "copyOf", desc := "([Ljava/lang/Object;I)[Ljava/lang/Object;", sig := { parameters := [(.array (.object "java/lang/Object")), .int], returnType := some (.array (.object "java/lang/Object")) }, accessFlags := 9, code := some k23c1 }
def k23c2 : Code := { maxStack := 6, maxLocals := 4, code := jdk_65_method_120_code, exceptionTable := #[], attributes := #[] }
def k23m2 : Method := { name := "copyOf", desc := "([Ljava/lang/Object;ILjava/lang/Class;)[Ljava/lang/Object;", sig := { parameters := [(.array (.object "java/lang/Object")), .int, (.object "java/lang/Class")], returnType := some (.array (.object "java/lang/Object")) }, accessFlags := 9, code := some k23c2 }
/-- java/util/Arrays -/
def k23 : Class := { plain "java/util/Arrays" (some 0) with
  accessFlags := 49
  interfaces := #[]
  cf := some (fileOf pool23 14 #[.nestMembers #[975, 375, 113, 74]] #[{ accessFlags := 2, nameIndex := 5, descriptorIndex := 6, attributes := #[] }, { accessFlags := 9, nameIndex := 302, descriptorIndex := 860, attributes := #[] }, { accessFlags := 9, nameIndex := 302, descriptorIndex := 303, attributes := #[] }] 49 2 #[] #[{ accessFlags := 26, nameIndex := 715, descriptorIndex := 716, attributes := #[] }, { accessFlags := 26, nameIndex := 719, descriptorIndex := 716, attributes := #[] }, { accessFlags := 4120, nameIndex := 445, descriptorIndex := 117, attributes := #[] }])
  fields := #[{ name := "MIN_ARRAY_SORT_GRAN", type := .int, accessFlags := 26, slot := 0, constantValue := 0 }, { name := "INSERTIONSORT_THRESHOLD", type := .int, accessFlags := 26, slot := 1, constantValue := 0 }, { name := "$assertionsDisabled", type := .boolean, accessFlags := 4120, slot := 2, constantValue := 0 }]
  methods := #[k23m0, k23m1, k23m2]
  instanceTypes := #[]
  staticTypes := #[.int, .int, .boolean]
  resolved := Array.replicate 1029 none
  statics := none }

def pool24 : Array CpInfo := pool [(2, .class_ 4), (1, u "java/lang/Object"), (0, u "<init>"), (0, u "()V"), (1, .class_ 10), (1, u "java/lang/System"), (0, u "allowSecurityManager"), (0, u "I"), (16, u "cons"), (0, u "Ljava/io/Console;"), (77, .class_ 110), (1, u "java/lang/System$CallersHolder"), (43, u "initialErrStream"), (0, u "Ljava/io/PrintStream;"), (19, u "security"), (0, u "Ljava/lang/SecurityManager;"), (31, .class_ 209), (0, u "java/lang/System$1"), (7, u "props"), (0, u "Ljava/util/Properties;"), (2, u "lineSeparator"), (0, u "Ljava/lang/String;"), (96, .class_ 321), (1, u "java/lang/System$LoggerFinder"), (5, .class_ 328), (0, u "java/lang/System$Logger"), (67, u "err"), (2, u "out"), (91, u "notSupportedJnuEncoding"), (15, u "in"), (17, u "initialIn"), (0, u "Ljava/io/InputStream;"), (35, u "bootLayer"), (0, u "Ljava/lang/ModuleLayer;"), (99, .class_ 664), (0, u "java/lang/System$2"), (9, u "NEVER"), (2, u "MAYBE"), (49, u "arraycopy"), (0, u "(Ljava/lang/Object;ILjava/lang/Object;II)V"), (72, .class_ 802), (0, u "java/lang/System$Logger$Level")] 31

def k24m0 : Method := { name := "<init>", desc := "()V", sig := { parameters := [], returnType := none }, accessFlags := 2, code := none }
def k24m1 : Method := { name := "arraycopy", desc := "(Ljava/lang/Object;ILjava/lang/Object;II)V", sig := { parameters := [(.object "java/lang/Object"), .int, (.object "java/lang/Object"), .int, .int], returnType := none }, accessFlags := 265, code := none }
/-- java/lang/System -/
def k24 : Class := { plain "java/lang/System" (some 0) with
  accessFlags := 49
  interfaces := #[]
  cf := some (fileOf pool24 8 #[.nestMembers #[319, 327, 801, 108, 663, 208]] #[{ accessFlags := 2, nameIndex := 5, descriptorIndex := 6, attributes := #[] }, { accessFlags := 265, nameIndex := 727, descriptorIndex := 728, attributes := #[] }] 49 2 #[] #[{ accessFlags := 25, nameIndex := 507, descriptorIndex := 526, attributes := #[] }, { accessFlags := 25, nameIndex := 399, descriptorIndex := 155, attributes := #[] }, { accessFlags := 25, nameIndex := 396, descriptorIndex := 155, attributes := #[] }, { accessFlags := 10, nameIndex := 525, descriptorIndex := 526, attributes := #[] }, { accessFlags := 26, nameIndex := 674, descriptorIndex := 12, attributes := #[] }, { accessFlags := 26, nameIndex := 677, descriptorIndex := 12, attributes := #[] }, { accessFlags := 10, nameIndex := 11, descriptorIndex := 12, attributes := #[] }, { accessFlags := 74, nameIndex := 175, descriptorIndex := 176, attributes := #[] }, { accessFlags := 10, nameIndex := 491, descriptorIndex := 222, attributes := #[] }, { accessFlags := 74, nameIndex := 29, descriptorIndex := 30, attributes := #[] }, { accessFlags := 74, nameIndex := 154, descriptorIndex := 155, attributes := #[] }, { accessFlags := 10, nameIndex := 217, descriptorIndex := 218, attributes := #[] }, { accessFlags := 10, nameIndex := 221, descriptorIndex := 222, attributes := #[] }, { accessFlags := 8, nameIndex := 562, descriptorIndex := 563, attributes := #[] }])
  fields := #[{ name := "in", type := (.object "java/io/InputStream"), accessFlags := 25, slot := 0, constantValue := 0 }, { name := "out", type := (.object "java/io/PrintStream"), accessFlags := 25, slot := 1, constantValue := 0 }, { name := "err", type := (.object "java/io/PrintStream"), accessFlags := 25, slot := 2, constantValue := 0 }, { name := "initialIn", type := (.object "java/io/InputStream"), accessFlags := 10, slot := 3, constantValue := 0 }, { name := "NEVER", type := .int, accessFlags := 26, slot := 4, constantValue := 0 }, { name := "MAYBE", type := .int, accessFlags := 26, slot := 5, constantValue := 0 }, { name := "allowSecurityManager", type := .int, accessFlags := 10, slot := 6, constantValue := 0 }, { name := "security", type := (.object "java/lang/SecurityManager"), accessFlags := 74, slot := 7, constantValue := 0 }, { name := "notSupportedJnuEncoding", type := (.object "java/lang/String"), accessFlags := 10, slot := 8, constantValue := 0 }, { name := "cons", type := (.object "java/io/Console"), accessFlags := 74, slot := 9, constantValue := 0 }, { name := "initialErrStream", type := (.object "java/io/PrintStream"), accessFlags := 74, slot := 10, constantValue := 0 }, { name := "props", type := (.object "java/util/Properties"), accessFlags := 10, slot := 11, constantValue := 0 }, { name := "lineSeparator", type := (.object "java/lang/String"), accessFlags := 10, slot := 12, constantValue := 0 }, { name := "bootLayer", type := (.object "java/lang/ModuleLayer"), accessFlags := 8, slot := 13, constantValue := 0 }]
  methods := #[k24m0, k24m1]
  instanceTypes := #[]
  staticTypes := #[(.object "java/io/InputStream"), (.object "java/io/PrintStream"), (.object "java/io/PrintStream"), (.object "java/io/InputStream"), .int, .int, .int, (.object "java/lang/SecurityManager"), (.object "java/lang/String"), (.object "java/io/Console"), (.object "java/io/PrintStream"), (.object "java/util/Properties"), (.object "java/lang/String"), (.object "java/lang/ModuleLayer")]
  resolved := Array.replicate 834 none
  statics := none }

def pool25 : Array CpInfo := pool [(1, u "java/lang/Class"), (0, .class_ 1), (0, u "java/lang/Object"), (0, .class_ 3)] 3

/-- java/lang/Class -/
def k25 : Class := { plain "java/lang/Class" (some 0) with
  accessFlags := 49
  interfaces := #[]
  cf := some (fileOf pool25 2 #[] #[] 49 4 #[] #[])
  fields := #[]
  methods := #[]
  instanceTypes := #[]
  staticTypes := #[]
  resolved := Array.replicate 8 none
  statics := none }

/-- the primitive byte -/
def k26 : Class := { plain "byte" none with kind := .primitive 'B', accessFlags := 0x411 }
/-- [B -/
def k27 : Class := { plain "[B" (some 0) with kind := .array 26 .byte, interfaces := #[10, 11], accessFlags := 1041 }

/-- the primitive int -/
def k28 : Class := { plain "int" none with kind := .primitive 'I', accessFlags := 0x411 }
/-- [I -/
def k29 : Class := { plain "[I" (some 0) with kind := .array 28 .int, interfaces := #[10, 11], accessFlags := 1041 }

/-- the primitive long -/
def k30 : Class := { plain "long" none with kind := .primitive 'J', accessFlags := 0x411 }
/-- [J -/
def k31 : Class := { plain "[J" (some 0) with kind := .array 30 .long, interfaces := #[10, 11], accessFlags := 1041 }

/-- [Ljava/lang/Long; -/
def k32 : Class := { plain "[Ljava/lang/Long;" (some 0) with kind := .array 17 (.object "java/lang/Long"), interfaces := #[10, 11], accessFlags := 1041 }

/-- [Ljava/lang/Object; -/
def k33 : Class := { plain "[Ljava/lang/Object;" (some 0) with mirror := some 2, kind := .array 0 (.object "java/lang/Object"), interfaces := #[10, 11], accessFlags := 1041 }

def heap : Heap := #[{ cls := 12, slots := #[.long 0, .int 0, .ref 260, .ref 261], vm := .statics 12 },
  { cls := 18, slots := #[.ref 3, .null, .int 0], vm := .statics 18 },
  { cls := 25, slots := #[], vm := .mirror 33 },
  { cls := 32, slots := #[.ref 4, .ref 5, .ref 6, .ref 7, .ref 8, .ref 9, .ref 10, .ref 11, .ref 12, .ref 13, .ref 14, .ref 15, .ref 16, .ref 17, .ref 18, .ref 19, .ref 20, .ref 21, .ref 22, .ref 23, .ref 24, .ref 25, .ref 26, .ref 27, .ref 28, .ref 29, .ref 30, .ref 31, .ref 32, .ref 33, .ref 34, .ref 35, .ref 36, .ref 37, .ref 38, .ref 39, .ref 40, .ref 41, .ref 42, .ref 43, .ref 44, .ref 45, .ref 46, .ref 47, .ref 48, .ref 49, .ref 50, .ref 51, .ref 52, .ref 53, .ref 54, .ref 55, .ref 56, .ref 57, .ref 58, .ref 59, .ref 60, .ref 61, .ref 62, .ref 63, .ref 64, .ref 65, .ref 66, .ref 67, .ref 68, .ref 69, .ref 70, .ref 71, .ref 72, .ref 73, .ref 74, .ref 75, .ref 76, .ref 77, .ref 78, .ref 79, .ref 80, .ref 81, .ref 82, .ref 83, .ref 84, .ref 85, .ref 86, .ref 87, .ref 88, .ref 89, .ref 90, .ref 91, .ref 92, .ref 93, .ref 94, .ref 95, .ref 96, .ref 97, .ref 98, .ref 99, .ref 100, .ref 101, .ref 102, .ref 103, .ref 104, .ref 105, .ref 106, .ref 107, .ref 108, .ref 109, .ref 110, .ref 111, .ref 112, .ref 113, .ref 114, .ref 115, .ref 116, .ref 117, .ref 118, .ref 119, .ref 120, .ref 121, .ref 122, .ref 123, .ref 124, .ref 125, .ref 126, .ref 127, .ref 128, .ref 129, .ref 130, .ref 131, .ref 132, .ref 133, .ref 134, .ref 135, .ref 136, .ref 137, .ref 138, .ref 139, .ref 140, .ref 141, .ref 142, .ref 143, .ref 144, .ref 145, .ref 146, .ref 147, .ref 148, .ref 149, .ref 150, .ref 151, .ref 152, .ref 153, .ref 154, .ref 155, .ref 156, .ref 157, .ref 158, .ref 159, .ref 160, .ref 161, .ref 162, .ref 163, .ref 164, .ref 165, .ref 166, .ref 167, .ref 168, .ref 169, .ref 170, .ref 171, .ref 172, .ref 173, .ref 174, .ref 175, .ref 176, .ref 177, .ref 178, .ref 179, .ref 180, .ref 181, .ref 182, .ref 183, .ref 184, .ref 185, .ref 186, .ref 187, .ref 188, .ref 189, .ref 190, .ref 191, .ref 192, .ref 193, .ref 194, .ref 195, .ref 196, .ref 197, .ref 198, .ref 199, .ref 200, .ref 201, .ref 202, .ref 203, .ref 204, .ref 205, .ref 206, .ref 207, .ref 208, .ref 209, .ref 210, .ref 211, .ref 212, .ref 213, .ref 214, .ref 215, .ref 216, .ref 217, .ref 218, .ref 219, .ref 220, .ref 221, .ref 222, .ref 223, .ref 224, .ref 225, .ref 226, .ref 227, .ref 228, .ref 229, .ref 230, .ref 231, .ref 232, .ref 233, .ref 234, .ref 235, .ref 236, .ref 237, .ref 238, .ref 239, .ref 240, .ref 241, .ref 242, .ref 243, .ref 244, .ref 245, .ref 246, .ref 247, .ref 248, .ref 249, .ref 250, .ref 251, .ref 252, .ref 253, .ref 254, .ref 255, .ref 256, .ref 257, .ref 258, .ref 259], vm := .none },
  { cls := 17, slots := #[.long (-128)], vm := .none },
  { cls := 17, slots := #[.long (-127)], vm := .none },
  { cls := 17, slots := #[.long (-126)], vm := .none },
  { cls := 17, slots := #[.long (-125)], vm := .none },
  { cls := 17, slots := #[.long (-124)], vm := .none },
  { cls := 17, slots := #[.long (-123)], vm := .none },
  { cls := 17, slots := #[.long (-122)], vm := .none },
  { cls := 17, slots := #[.long (-121)], vm := .none },
  { cls := 17, slots := #[.long (-120)], vm := .none },
  { cls := 17, slots := #[.long (-119)], vm := .none },
  { cls := 17, slots := #[.long (-118)], vm := .none },
  { cls := 17, slots := #[.long (-117)], vm := .none },
  { cls := 17, slots := #[.long (-116)], vm := .none },
  { cls := 17, slots := #[.long (-115)], vm := .none },
  { cls := 17, slots := #[.long (-114)], vm := .none },
  { cls := 17, slots := #[.long (-113)], vm := .none },
  { cls := 17, slots := #[.long (-112)], vm := .none },
  { cls := 17, slots := #[.long (-111)], vm := .none },
  { cls := 17, slots := #[.long (-110)], vm := .none },
  { cls := 17, slots := #[.long (-109)], vm := .none },
  { cls := 17, slots := #[.long (-108)], vm := .none },
  { cls := 17, slots := #[.long (-107)], vm := .none },
  { cls := 17, slots := #[.long (-106)], vm := .none },
  { cls := 17, slots := #[.long (-105)], vm := .none },
  { cls := 17, slots := #[.long (-104)], vm := .none },
  { cls := 17, slots := #[.long (-103)], vm := .none },
  { cls := 17, slots := #[.long (-102)], vm := .none },
  { cls := 17, slots := #[.long (-101)], vm := .none },
  { cls := 17, slots := #[.long (-100)], vm := .none },
  { cls := 17, slots := #[.long (-99)], vm := .none },
  { cls := 17, slots := #[.long (-98)], vm := .none },
  { cls := 17, slots := #[.long (-97)], vm := .none },
  { cls := 17, slots := #[.long (-96)], vm := .none },
  { cls := 17, slots := #[.long (-95)], vm := .none },
  { cls := 17, slots := #[.long (-94)], vm := .none },
  { cls := 17, slots := #[.long (-93)], vm := .none },
  { cls := 17, slots := #[.long (-92)], vm := .none },
  { cls := 17, slots := #[.long (-91)], vm := .none },
  { cls := 17, slots := #[.long (-90)], vm := .none },
  { cls := 17, slots := #[.long (-89)], vm := .none },
  { cls := 17, slots := #[.long (-88)], vm := .none },
  { cls := 17, slots := #[.long (-87)], vm := .none },
  { cls := 17, slots := #[.long (-86)], vm := .none },
  { cls := 17, slots := #[.long (-85)], vm := .none },
  { cls := 17, slots := #[.long (-84)], vm := .none },
  { cls := 17, slots := #[.long (-83)], vm := .none },
  { cls := 17, slots := #[.long (-82)], vm := .none },
  { cls := 17, slots := #[.long (-81)], vm := .none },
  { cls := 17, slots := #[.long (-80)], vm := .none },
  { cls := 17, slots := #[.long (-79)], vm := .none },
  { cls := 17, slots := #[.long (-78)], vm := .none },
  { cls := 17, slots := #[.long (-77)], vm := .none },
  { cls := 17, slots := #[.long (-76)], vm := .none },
  { cls := 17, slots := #[.long (-75)], vm := .none },
  { cls := 17, slots := #[.long (-74)], vm := .none },
  { cls := 17, slots := #[.long (-73)], vm := .none },
  { cls := 17, slots := #[.long (-72)], vm := .none },
  { cls := 17, slots := #[.long (-71)], vm := .none },
  { cls := 17, slots := #[.long (-70)], vm := .none },
  { cls := 17, slots := #[.long (-69)], vm := .none },
  { cls := 17, slots := #[.long (-68)], vm := .none },
  { cls := 17, slots := #[.long (-67)], vm := .none },
  { cls := 17, slots := #[.long (-66)], vm := .none },
  { cls := 17, slots := #[.long (-65)], vm := .none },
  { cls := 17, slots := #[.long (-64)], vm := .none },
  { cls := 17, slots := #[.long (-63)], vm := .none },
  { cls := 17, slots := #[.long (-62)], vm := .none },
  { cls := 17, slots := #[.long (-61)], vm := .none },
  { cls := 17, slots := #[.long (-60)], vm := .none },
  { cls := 17, slots := #[.long (-59)], vm := .none },
  { cls := 17, slots := #[.long (-58)], vm := .none },
  { cls := 17, slots := #[.long (-57)], vm := .none },
  { cls := 17, slots := #[.long (-56)], vm := .none },
  { cls := 17, slots := #[.long (-55)], vm := .none },
  { cls := 17, slots := #[.long (-54)], vm := .none },
  { cls := 17, slots := #[.long (-53)], vm := .none },
  { cls := 17, slots := #[.long (-52)], vm := .none },
  { cls := 17, slots := #[.long (-51)], vm := .none },
  { cls := 17, slots := #[.long (-50)], vm := .none },
  { cls := 17, slots := #[.long (-49)], vm := .none },
  { cls := 17, slots := #[.long (-48)], vm := .none },
  { cls := 17, slots := #[.long (-47)], vm := .none },
  { cls := 17, slots := #[.long (-46)], vm := .none },
  { cls := 17, slots := #[.long (-45)], vm := .none },
  { cls := 17, slots := #[.long (-44)], vm := .none },
  { cls := 17, slots := #[.long (-43)], vm := .none },
  { cls := 17, slots := #[.long (-42)], vm := .none },
  { cls := 17, slots := #[.long (-41)], vm := .none },
  { cls := 17, slots := #[.long (-40)], vm := .none },
  { cls := 17, slots := #[.long (-39)], vm := .none },
  { cls := 17, slots := #[.long (-38)], vm := .none },
  { cls := 17, slots := #[.long (-37)], vm := .none },
  { cls := 17, slots := #[.long (-36)], vm := .none },
  { cls := 17, slots := #[.long (-35)], vm := .none },
  { cls := 17, slots := #[.long (-34)], vm := .none },
  { cls := 17, slots := #[.long (-33)], vm := .none },
  { cls := 17, slots := #[.long (-32)], vm := .none },
  { cls := 17, slots := #[.long (-31)], vm := .none },
  { cls := 17, slots := #[.long (-30)], vm := .none },
  { cls := 17, slots := #[.long (-29)], vm := .none },
  { cls := 17, slots := #[.long (-28)], vm := .none },
  { cls := 17, slots := #[.long (-27)], vm := .none },
  { cls := 17, slots := #[.long (-26)], vm := .none },
  { cls := 17, slots := #[.long (-25)], vm := .none },
  { cls := 17, slots := #[.long (-24)], vm := .none },
  { cls := 17, slots := #[.long (-23)], vm := .none },
  { cls := 17, slots := #[.long (-22)], vm := .none },
  { cls := 17, slots := #[.long (-21)], vm := .none },
  { cls := 17, slots := #[.long (-20)], vm := .none },
  { cls := 17, slots := #[.long (-19)], vm := .none },
  { cls := 17, slots := #[.long (-18)], vm := .none },
  { cls := 17, slots := #[.long (-17)], vm := .none },
  { cls := 17, slots := #[.long (-16)], vm := .none },
  { cls := 17, slots := #[.long (-15)], vm := .none },
  { cls := 17, slots := #[.long (-14)], vm := .none },
  { cls := 17, slots := #[.long (-13)], vm := .none },
  { cls := 17, slots := #[.long (-12)], vm := .none },
  { cls := 17, slots := #[.long (-11)], vm := .none },
  { cls := 17, slots := #[.long (-10)], vm := .none },
  { cls := 17, slots := #[.long (-9)], vm := .none },
  { cls := 17, slots := #[.long (-8)], vm := .none },
  { cls := 17, slots := #[.long (-7)], vm := .none },
  { cls := 17, slots := #[.long (-6)], vm := .none },
  { cls := 17, slots := #[.long (-5)], vm := .none },
  { cls := 17, slots := #[.long (-4)], vm := .none },
  { cls := 17, slots := #[.long (-3)], vm := .none },
  { cls := 17, slots := #[.long (-2)], vm := .none },
  { cls := 17, slots := #[.long (-1)], vm := .none },
  { cls := 17, slots := #[.long (0)], vm := .none },
  { cls := 17, slots := #[.long (1)], vm := .none },
  { cls := 17, slots := #[.long (2)], vm := .none },
  { cls := 17, slots := #[.long (3)], vm := .none },
  { cls := 17, slots := #[.long (4)], vm := .none },
  { cls := 17, slots := #[.long (5)], vm := .none },
  { cls := 17, slots := #[.long (6)], vm := .none },
  { cls := 17, slots := #[.long (7)], vm := .none },
  { cls := 17, slots := #[.long (8)], vm := .none },
  { cls := 17, slots := #[.long (9)], vm := .none },
  { cls := 17, slots := #[.long (10)], vm := .none },
  { cls := 17, slots := #[.long (11)], vm := .none },
  { cls := 17, slots := #[.long (12)], vm := .none },
  { cls := 17, slots := #[.long (13)], vm := .none },
  { cls := 17, slots := #[.long (14)], vm := .none },
  { cls := 17, slots := #[.long (15)], vm := .none },
  { cls := 17, slots := #[.long (16)], vm := .none },
  { cls := 17, slots := #[.long (17)], vm := .none },
  { cls := 17, slots := #[.long (18)], vm := .none },
  { cls := 17, slots := #[.long (19)], vm := .none },
  { cls := 17, slots := #[.long (20)], vm := .none },
  { cls := 17, slots := #[.long (21)], vm := .none },
  { cls := 17, slots := #[.long (22)], vm := .none },
  { cls := 17, slots := #[.long (23)], vm := .none },
  { cls := 17, slots := #[.long (24)], vm := .none },
  { cls := 17, slots := #[.long (25)], vm := .none },
  { cls := 17, slots := #[.long (26)], vm := .none },
  { cls := 17, slots := #[.long (27)], vm := .none },
  { cls := 17, slots := #[.long (28)], vm := .none },
  { cls := 17, slots := #[.long (29)], vm := .none },
  { cls := 17, slots := #[.long (30)], vm := .none },
  { cls := 17, slots := #[.long (31)], vm := .none },
  { cls := 17, slots := #[.long (32)], vm := .none },
  { cls := 17, slots := #[.long (33)], vm := .none },
  { cls := 17, slots := #[.long (34)], vm := .none },
  { cls := 17, slots := #[.long (35)], vm := .none },
  { cls := 17, slots := #[.long (36)], vm := .none },
  { cls := 17, slots := #[.long (37)], vm := .none },
  { cls := 17, slots := #[.long (38)], vm := .none },
  { cls := 17, slots := #[.long (39)], vm := .none },
  { cls := 17, slots := #[.long (40)], vm := .none },
  { cls := 17, slots := #[.long (41)], vm := .none },
  { cls := 17, slots := #[.long (42)], vm := .none },
  { cls := 17, slots := #[.long (43)], vm := .none },
  { cls := 17, slots := #[.long (44)], vm := .none },
  { cls := 17, slots := #[.long (45)], vm := .none },
  { cls := 17, slots := #[.long (46)], vm := .none },
  { cls := 17, slots := #[.long (47)], vm := .none },
  { cls := 17, slots := #[.long (48)], vm := .none },
  { cls := 17, slots := #[.long (49)], vm := .none },
  { cls := 17, slots := #[.long (50)], vm := .none },
  { cls := 17, slots := #[.long (51)], vm := .none },
  { cls := 17, slots := #[.long (52)], vm := .none },
  { cls := 17, slots := #[.long (53)], vm := .none },
  { cls := 17, slots := #[.long (54)], vm := .none },
  { cls := 17, slots := #[.long (55)], vm := .none },
  { cls := 17, slots := #[.long (56)], vm := .none },
  { cls := 17, slots := #[.long (57)], vm := .none },
  { cls := 17, slots := #[.long (58)], vm := .none },
  { cls := 17, slots := #[.long (59)], vm := .none },
  { cls := 17, slots := #[.long (60)], vm := .none },
  { cls := 17, slots := #[.long (61)], vm := .none },
  { cls := 17, slots := #[.long (62)], vm := .none },
  { cls := 17, slots := #[.long (63)], vm := .none },
  { cls := 17, slots := #[.long (64)], vm := .none },
  { cls := 17, slots := #[.long (65)], vm := .none },
  { cls := 17, slots := #[.long (66)], vm := .none },
  { cls := 17, slots := #[.long (67)], vm := .none },
  { cls := 17, slots := #[.long (68)], vm := .none },
  { cls := 17, slots := #[.long (69)], vm := .none },
  { cls := 17, slots := #[.long (70)], vm := .none },
  { cls := 17, slots := #[.long (71)], vm := .none },
  { cls := 17, slots := #[.long (72)], vm := .none },
  { cls := 17, slots := #[.long (73)], vm := .none },
  { cls := 17, slots := #[.long (74)], vm := .none },
  { cls := 17, slots := #[.long (75)], vm := .none },
  { cls := 17, slots := #[.long (76)], vm := .none },
  { cls := 17, slots := #[.long (77)], vm := .none },
  { cls := 17, slots := #[.long (78)], vm := .none },
  { cls := 17, slots := #[.long (79)], vm := .none },
  { cls := 17, slots := #[.long (80)], vm := .none },
  { cls := 17, slots := #[.long (81)], vm := .none },
  { cls := 17, slots := #[.long (82)], vm := .none },
  { cls := 17, slots := #[.long (83)], vm := .none },
  { cls := 17, slots := #[.long (84)], vm := .none },
  { cls := 17, slots := #[.long (85)], vm := .none },
  { cls := 17, slots := #[.long (86)], vm := .none },
  { cls := 17, slots := #[.long (87)], vm := .none },
  { cls := 17, slots := #[.long (88)], vm := .none },
  { cls := 17, slots := #[.long (89)], vm := .none },
  { cls := 17, slots := #[.long (90)], vm := .none },
  { cls := 17, slots := #[.long (91)], vm := .none },
  { cls := 17, slots := #[.long (92)], vm := .none },
  { cls := 17, slots := #[.long (93)], vm := .none },
  { cls := 17, slots := #[.long (94)], vm := .none },
  { cls := 17, slots := #[.long (95)], vm := .none },
  { cls := 17, slots := #[.long (96)], vm := .none },
  { cls := 17, slots := #[.long (97)], vm := .none },
  { cls := 17, slots := #[.long (98)], vm := .none },
  { cls := 17, slots := #[.long (99)], vm := .none },
  { cls := 17, slots := #[.long (100)], vm := .none },
  { cls := 17, slots := #[.long (101)], vm := .none },
  { cls := 17, slots := #[.long (102)], vm := .none },
  { cls := 17, slots := #[.long (103)], vm := .none },
  { cls := 17, slots := #[.long (104)], vm := .none },
  { cls := 17, slots := #[.long (105)], vm := .none },
  { cls := 17, slots := #[.long (106)], vm := .none },
  { cls := 17, slots := #[.long (107)], vm := .none },
  { cls := 17, slots := #[.long (108)], vm := .none },
  { cls := 17, slots := #[.long (109)], vm := .none },
  { cls := 17, slots := #[.long (110)], vm := .none },
  { cls := 17, slots := #[.long (111)], vm := .none },
  { cls := 17, slots := #[.long (112)], vm := .none },
  { cls := 17, slots := #[.long (113)], vm := .none },
  { cls := 17, slots := #[.long (114)], vm := .none },
  { cls := 17, slots := #[.long (115)], vm := .none },
  { cls := 17, slots := #[.long (116)], vm := .none },
  { cls := 17, slots := #[.long (117)], vm := .none },
  { cls := 17, slots := #[.long (118)], vm := .none },
  { cls := 17, slots := #[.long (119)], vm := .none },
  { cls := 17, slots := #[.long (120)], vm := .none },
  { cls := 17, slots := #[.long (121)], vm := .none },
  { cls := 17, slots := #[.long (122)], vm := .none },
  { cls := 17, slots := #[.long (123)], vm := .none },
  { cls := 17, slots := #[.long (124)], vm := .none },
  { cls := 17, slots := #[.long (125)], vm := .none },
  { cls := 17, slots := #[.long (126)], vm := .none },
  { cls := 17, slots := #[.long (127)], vm := .none },
  { cls := 33, slots := #[], vm := .none },
  { cls := 33, slots := #[], vm := .none }]
def classes : Array Class := #[k0, k1, k2, k3, k4, k5, k6, k7, k8, k9, k10, k11, k12, k13, k14, k15, k16, k17, k18, k19, k20, k21, k22, k23, k24, k25, k26, k27, k28, k29, k30, k31, k32, k33]
def interned : List (Array UInt16 × Addr) := []
def slotsUsed : Nat := 519
def theMethod : MethodId := ⟨1, 1⟩
def args0 : Array Value := #[.long 1000, .int 3, .int 2, .int 5, .int 7]
def aboutOver (below : List Frame) : State where
  vm := { classes := classes, interned := interned.toArray }
  heap := heap
  slotsUsed := slotsUsed
  threads := #[{ frames := .invoking theMethod args0 :: below }]
def below0 : List Frame := [.native { method := ⟨0, 0⟩, args := #[] }]
def about1 : State := aboutOver below0
def p0 : Program := .bare "" "" ""
def e0 : Env := launch0.env 0 0 0
theorem w_frames : about1.frames = Frame.invoking theMethod args0 :: below0 := rfl
set_option maxRecDepth 65536 in
theorem w_args : argsFit about1.vm theMethod args0 = true := by decide +kernel
set_option maxRecDepth 65536 in
theorem w_heap : heapFits about1 = true := by decide +kernel
set_option maxRecDepth 65536 in
theorem w_runnable : about1.curStatus? = some .runnable := by decide +kernel
set_option maxRecDepth 65536 in
theorem w_alone : about1.alone = true := by decide +kernel
set_option maxRecDepth 65536 in
theorem w_named : about1.methodNamed? x = some theMethod := by decide +kernel
set_option maxRecDepth 65536 in
theorem w_hears : about1.hears theMethod below0 = true := by decide +kernel
set_option maxRecDepth 65536 in
theorem w_ripe : about1.ripe theMethod args0 below0 = true := by decide +kernel
theorem w_running : about1.status = .running := rfl
set_option maxRecDepth 65536 in
theorem w_room : about1.hasRoom e0.platform room_1 = true :=
  launch0.hasRoom_least _ room_1 (by decide +kernel) (by decide +kernel) (by decide +kernel) (by decide +kernel) (by decide +kernel) (by decide +kernel)
theorem allAtoms_all (ts : List Jvm.Cond) (a : Array Jvm.Value) (st : Jvm.State) : (allAtoms ts).before a st = ts.all (fun c => c.before a st) := by
  induction ts with
  | nil => rfl
  | cons c t ih =>
    show (Jvm.Cond.and c (allAtoms t)).before a st = _
    rw [Jvm.Cond.before_and, ih, List.all_cons]
def words1 : List Jvm.Cond := Jvm.Cond.code x code maxLocals ret :: tables_1
/-- a 'code' word, met by the world's own term for the bytes: nothing is compared byte by byte -/
theorem code_word {y : MethodName} {bytes : ByteArray} {mx : Nat} {rt : Option FieldType} {a : Array Value} {s : State} {m : MethodId} {meth : Method} {c : Code} (h1 : s.methodNamed? y = some m) (h2 : s.vm.method? m = some meth) (h3 : meth.code = some c) (h4 : c.code = bytes)
    (h5 : (c.maxLocals == mx && c.exceptionTable.isEmpty && decide (c.maxStack ≤ mostOperands) && decide (meth.sig.returnType = rt) && !meth.locks && decide (parseMethodDescriptor y.desc = some meth.sig)) = true) : (Jvm.Cond.code y bytes mx rt).before a s = true := by
  simp only [Bool.and_eq_true, beq_iff_eq, Bool.not_eq_true', decide_eq_true_eq] at h5
  obtain ⟨⟨⟨⟨⟨g1, g2⟩, g3⟩, g4⟩, g5⟩, g6⟩ := h5
  simp [Cond.before, Cond.holds, Cond.value, h1, h2, h3, h4, g1, g2, g3, g4, g5, g6]
def isCode : Jvm.Cond → Bool
  | .code _ _ _ _ => true
  | _ => false
theorem all_split {L : List Jvm.Cond} {P : Jvm.Cond → Bool} (h1 : L.all (fun c => isCode c || P c) = true) (h2 : ∀ c ∈ L.filter isCode, P c = true) : L.all P = true := by
  refine List.all_eq_true.mpr fun c hc => ?_
  have h := List.all_eq_true.mp h1 c hc
  rcases Bool.eq_false_or_eq_true (isCode c) with hi | hi
  · exact h2 c (List.mem_filter.mpr ⟨hc, hi⟩)
  · simpa [hi] using h
set_option maxRecDepth 65536 in
theorem w_c0 : (Jvm.Cond.code x code maxLocals ret).before args0 about1 = true := code_word (m := ⟨1, 1⟩) (meth := k1m1) (c := k1c1) (by decide +kernel) rfl rfl rfl (by decide +kernel)
set_option maxRecDepth 65536 in
theorem w_c1 : (Jvm.Cond.code ({ cls := "com/example/wingrow/wingrow/store/SummaryTreeBytesPinLaw", name := "nodes", desc := "(J)J" } : Jvm.MethodName) method_3_code (2 : Nat) (Option.some Jvm.ClassFile.FieldType.long)).before args0 about1 = true := code_word (m := ⟨1, 2⟩) (meth := k1m2) (c := k1c2) (by decide +kernel) rfl rfl rfl (by decide +kernel)
set_option maxRecDepth 65536 in
theorem w_c2 : (Jvm.Cond.code ({ cls := "com/example/wingrow/wingrow/store/SummaryTreeBytesPinLaw", name := "level", desc := "(JI)J" } : Jvm.MethodName) method_4_code (4 : Nat) (Option.some Jvm.ClassFile.FieldType.long)).before args0 about1 = true := code_word (m := ⟨1, 3⟩) (meth := k1m3) (c := k1c3) (by decide +kernel) rfl rfl rfl (by decide +kernel)
set_option maxRecDepth 65536 in
theorem w_c3 : (Jvm.Cond.code ({ cls := "com/example/wingrow/wingrow/store/SummaryTree", name := "<init>", desc := "(J)V" } : Jvm.MethodName) prog_65_method_1_code (7 : Nat) (Option.none : Option Jvm.ClassFile.FieldType)).before args0 about1 = true := code_word (m := ⟨2, 0⟩) (meth := k2m0) (c := k2c0) (by decide +kernel) rfl rfl rfl (by decide +kernel)
set_option maxRecDepth 65536 in
theorem w_c4 : (Jvm.Cond.code ({ cls := "java/lang/Object", name := "<init>", desc := "()V" } : Jvm.MethodName) object_method_1_code (1 : Nat) (Option.none : Option Jvm.ClassFile.FieldType)).before args0 about1 = true := code_word (m := ⟨0, 0⟩) (meth := k0m0) (c := k0c0) (by decide +kernel) rfl rfl rfl (by decide +kernel)
set_option maxRecDepth 65536 in
theorem w_c5 : (Jvm.Cond.code ({ cls := "java/util/ArrayList", name := "<init>", desc := "()V" } : Jvm.MethodName) jdk_38_method_2_code (1 : Nat) (Option.none : Option Jvm.ClassFile.FieldType)).before args0 about1 = true := code_word (m := ⟨12, 0⟩) (meth := k12m0) (c := k12c0) (by decide +kernel) rfl rfl rfl (by decide +kernel)
set_option maxRecDepth 65536 in
theorem w_c6 : (Jvm.Cond.code ({ cls := "java/util/AbstractList", name := "<init>", desc := "()V" } : Jvm.MethodName) jdk_39_method_1_code (1 : Nat) (Option.none : Option Jvm.ClassFile.FieldType)).before args0 about1 = true := code_word (m := ⟨8, 0⟩) (meth := k8m0) (c := k8c0) (by decide +kernel) rfl rfl rfl (by decide +kernel)
set_option maxRecDepth 65536 in
theorem w_c7 : (Jvm.Cond.code ({ cls := "java/util/AbstractCollection", name := "<init>", desc := "()V" } : Jvm.MethodName) jdk_22_method_1_code (1 : Nat) (Option.none : Option Jvm.ClassFile.FieldType)).before args0 about1 = true := code_word (m := ⟨5, 0⟩) (meth := k5m0) (c := k5c0) (by decide +kernel) rfl rfl rfl (by decide +kernel)
set_option maxRecDepth 65536 in
theorem w_c8 : (Jvm.Cond.code ({ cls := "java/util/ArrayList", name := "size", desc := "()I" } : Jvm.MethodName) jdk_38_method_8_code (1 : Nat) (Option.some Jvm.ClassFile.FieldType.int)).before args0 about1 = true := code_word (m := ⟨12, 3⟩) (meth := k12m3) (c := k12c3) (by decide +kernel) rfl rfl rfl (by decide +kernel)
set_option maxRecDepth 65536 in
theorem w_c9 : (Jvm.Cond.code ({ cls := "com/example/wingrow/wingrow/store/SummaryTree", name := "bytes", desc := "()J" } : Jvm.MethodName) prog_65_method_2_code (1 : Nat) (Option.some Jvm.ClassFile.FieldType.long)).before args0 about1 = true := code_word (m := ⟨2, 1⟩) (meth := k2m1) (c := k2c1) (by decide +kernel) rfl rfl rfl (by decide +kernel)
set_option maxRecDepth 65536 in
theorem w_c10 : (Jvm.Cond.code ({ cls := "com/example/wingrow/wingrow/store/SummaryTreeBytesPinLaw", name := "ceilPow2", desc := "(JI)J" } : Jvm.MethodName) method_5_code (5 : Nat) (Option.some Jvm.ClassFile.FieldType.long)).before args0 about1 = true := code_word (m := ⟨1, 4⟩) (meth := k1m4) (c := k1c4) (by decide +kernel) rfl rfl rfl (by decide +kernel)
set_option maxRecDepth 65536 in
theorem w_c11 : (Jvm.Cond.code ({ cls := "com/example/wingrow/wingrow/store/SummaryTree", name := "ceilDiv", desc := "(JJ)J" } : Jvm.MethodName) prog_65_method_6_code (4 : Nat) (Option.some Jvm.ClassFile.FieldType.long)).before args0 about1 = true := code_word (m := ⟨2, 2⟩) (meth := k2m2) (c := k2c2) (by decide +kernel) rfl rfl rfl (by decide +kernel)
set_option maxRecDepth 65536 in
theorem w_c12 : (Jvm.Cond.code ({ cls := "java/lang/Long", name := "valueOf", desc := "(J)Ljava/lang/Long;" } : Jvm.MethodName) jdk_35_method_24_code (3 : Nat) (Option.some (Jvm.ClassFile.FieldType.object "java/lang/Long"))).before args0 about1 = true := code_word (m := ⟨17, 0⟩) (meth := k17m0) (c := k17c0) (by decide +kernel) rfl rfl rfl (by decide +kernel)
set_option maxRecDepth 65536 in
theorem w_c13 : (Jvm.Cond.code ({ cls := "java/util/ArrayList", name := "add", desc := "(Ljava/lang/Object;)Z" } : Jvm.MethodName) jdk_38_method_25_code (2 : Nat) (Option.some Jvm.ClassFile.FieldType.boolean)).before args0 about1 = true := code_word (m := ⟨12, 7⟩) (meth := k12m7) (c := k12c7) (by decide +kernel) rfl rfl rfl (by decide +kernel)
set_option maxRecDepth 65536 in
theorem w_c14 : (Jvm.Cond.code ({ cls := "java/util/ArrayList", name := "add", desc := "(Ljava/lang/Object;[Ljava/lang/Object;I)V" } : Jvm.MethodName) jdk_38_method_24_code (4 : Nat) (Option.none : Option Jvm.ClassFile.FieldType)).before args0 about1 = true := code_word (m := ⟨12, 6⟩) (meth := k12m6) (c := k12c6) (by decide +kernel) rfl rfl rfl (by decide +kernel)
set_option maxRecDepth 65536 in
theorem w_c15 : (Jvm.Cond.code ({ cls := "java/util/ArrayList", name := "grow", desc := "()[Ljava/lang/Object;" } : Jvm.MethodName) jdk_38_method_7_code (1 : Nat) (Option.some (Jvm.ClassFile.FieldType.array (Jvm.ClassFile.FieldType.object "java/lang/Object")))).before args0 about1 = true := code_word (m := ⟨12, 2⟩) (meth := k12m2) (c := k12c2) (by decide +kernel) rfl rfl rfl (by decide +kernel)
set_option maxRecDepth 65536 in
theorem w_c16 : (Jvm.Cond.code ({ cls := "java/util/ArrayList", name := "grow", desc := "(I)[Ljava/lang/Object;" } : Jvm.MethodName) jdk_38_method_6_code (4 : Nat) (Option.some (Jvm.ClassFile.FieldType.array (Jvm.ClassFile.FieldType.object "java/lang/Object")))).before args0 about1 = true := code_word (m := ⟨12, 1⟩) (meth := k12m1) (c := k12c1) (by decide +kernel) rfl rfl rfl (by decide +kernel)
set_option maxRecDepth 65536 in
theorem w_c17 : (Jvm.Cond.code ({ cls := "java/lang/Math", name := "max", desc := "(II)I" } : Jvm.MethodName) jdk_29_method_65_code (2 : Nat) (Option.some Jvm.ClassFile.FieldType.int)).before args0 about1 = true := code_word (m := ⟨19, 1⟩) (meth := k19m1) (c := k19c1) (by decide +kernel) rfl rfl rfl (by decide +kernel)
set_option maxRecDepth 65536 in
theorem w_c18 : (Jvm.Cond.code ({ cls := "java/util/ArrayList", name := "get", desc := "(I)Ljava/lang/Object;" } : Jvm.MethodName) jdk_38_method_20_code (2 : Nat) (Option.some (Jvm.ClassFile.FieldType.object "java/lang/Object"))).before args0 about1 = true := code_word (m := ⟨12, 5⟩) (meth := k12m5) (c := k12c5) (by decide +kernel) rfl rfl rfl (by decide +kernel)
set_option maxRecDepth 65536 in
theorem w_c19 : (Jvm.Cond.code ({ cls := "java/util/Objects", name := "checkIndex", desc := "(II)I" } : Jvm.MethodName) jdk_31_method_17_code (2 : Nat) (Option.some Jvm.ClassFile.FieldType.int)).before args0 about1 = true := code_word (m := ⟨20, 1⟩) (meth := k20m1) (c := k20c1) (by decide +kernel) rfl rfl rfl (by decide +kernel)
set_option maxRecDepth 65536 in
theorem w_c20 : (Jvm.Cond.code ({ cls := "jdk/internal/util/Preconditions", name := "checkIndex", desc := "(IILjava/util/function/BiFunction;)I" } : Jvm.MethodName) jdk_41_method_11_code (3 : Nat) (Option.some Jvm.ClassFile.FieldType.int)).before args0 about1 = true := code_word (m := ⟨21, 1⟩) (meth := k21m1) (c := k21c1) (by decide +kernel) rfl rfl rfl (by decide +kernel)
set_option maxRecDepth 65536 in
theorem w_c21 : (Jvm.Cond.code ({ cls := "java/util/ArrayList", name := "elementData", desc := "(I)Ljava/lang/Object;" } : Jvm.MethodName) jdk_38_method_18_code (2 : Nat) (Option.some (Jvm.ClassFile.FieldType.object "java/lang/Object"))).before args0 about1 = true := code_word (m := ⟨12, 4⟩) (meth := k12m4) (c := k12c4) (by decide +kernel) rfl rfl rfl (by decide +kernel)
set_option maxRecDepth 65536 in
theorem w_c22 : (Jvm.Cond.code ({ cls := "java/lang/Long", name := "longValue", desc := "()J" } : Jvm.MethodName) jdk_35_method_31_code (1 : Nat) (Option.some Jvm.ClassFile.FieldType.long)).before args0 about1 = true := code_word (m := ⟨17, 2⟩) (meth := k17m2) (c := k17c2) (by decide +kernel) rfl rfl rfl (by decide +kernel)
set_option maxRecDepth 65536 in
theorem w_c23 : (Jvm.Cond.code ({ cls := "java/lang/Math", name := "min", desc := "(JJ)J" } : Jvm.MethodName) jdk_29_method_70_code (4 : Nat) (Option.some Jvm.ClassFile.FieldType.long)).before args0 about1 = true := code_word (m := ⟨19, 3⟩) (meth := k19m3) (c := k19c3) (by decide +kernel) rfl rfl rfl (by decide +kernel)
set_option maxRecDepth 65536 in
theorem w_c24 : (Jvm.Cond.code ({ cls := "java/lang/Long", name := "<init>", desc := "(J)V" } : Jvm.MethodName) jdk_35_method_26_code (3 : Nat) (Option.none : Option Jvm.ClassFile.FieldType)).before args0 about1 = true := code_word (m := ⟨17, 1⟩) (meth := k17m1) (c := k17c1) (by decide +kernel) rfl rfl rfl (by decide +kernel)
set_option maxRecDepth 65536 in
theorem w_c25 : (Jvm.Cond.code ({ cls := "java/lang/Number", name := "<init>", desc := "()V" } : Jvm.MethodName) jdk_18_method_1_code (1 : Nat) (Option.none : Option Jvm.ClassFile.FieldType)).before args0 about1 = true := code_word (m := ⟨13, 0⟩) (meth := k13m0) (c := k13c0) (by decide +kernel) rfl rfl rfl (by decide +kernel)
set_option maxRecDepth 65536 in
theorem w_c26 : (Jvm.Cond.code ({ cls := "jdk/internal/util/ArraysSupport", name := "newLength", desc := "(III)I" } : Jvm.MethodName) jdk_48_method_27_code (4 : Nat) (Option.some Jvm.ClassFile.FieldType.int)).before args0 about1 = true := code_word (m := ⟨22, 1⟩) (meth := k22m1) (c := k22c1) (by decide +kernel) rfl rfl rfl (by decide +kernel)
set_option maxRecDepth 65536 in
theorem w_c27 : (Jvm.Cond.code ({ cls := "java/util/Arrays", name := "copyOf", desc := "([Ljava/lang/Object;I)[Ljava/lang/Object;" } : Jvm.MethodName) jdk_65_method_119_code (2 : Nat) (Option.some (Jvm.ClassFile.FieldType.array (Jvm.ClassFile.FieldType.object "java/lang/Object")))).before args0 about1 = true := code_word (m := ⟨23, 1⟩) (meth := k23m1) (c := k23c1) (by decide +kernel) rfl rfl rfl (by decide +kernel)
set_option maxRecDepth 65536 in
theorem w_c28 : (Jvm.Cond.code ({ cls := "java/util/Arrays", name := "copyOf", desc := "([Ljava/lang/Object;ILjava/lang/Class;)[Ljava/lang/Object;" } : Jvm.MethodName) jdk_65_method_120_code (4 : Nat) (Option.some (Jvm.ClassFile.FieldType.array (Jvm.ClassFile.FieldType.object "java/lang/Object")))).before args0 about1 = true := code_word (m := ⟨23, 2⟩) (meth := k23m2) (c := k23c2) (by decide +kernel) rfl rfl rfl (by decide +kernel)
set_option maxRecDepth 65536 in
theorem w_c29 : (Jvm.Cond.code ({ cls := "java/lang/Math", name := "min", desc := "(II)I" } : Jvm.MethodName) jdk_29_method_69_code (2 : Nat) (Option.some Jvm.ClassFile.FieldType.int)).before args0 about1 = true := code_word (m := ⟨19, 2⟩) (meth := k19m2) (c := k19c2) (by decide +kernel) rfl rfl rfl (by decide +kernel)
def codes1 : List Jvm.Cond := [Jvm.Cond.code x code maxLocals ret, Jvm.Cond.code ({ cls := "com/example/wingrow/wingrow/store/SummaryTreeBytesPinLaw", name := "nodes", desc := "(J)J" } : Jvm.MethodName) method_3_code (2 : Nat) (Option.some Jvm.ClassFile.FieldType.long), Jvm.Cond.code ({ cls := "com/example/wingrow/wingrow/store/SummaryTreeBytesPinLaw", name := "level", desc := "(JI)J" } : Jvm.MethodName) method_4_code (4 : Nat) (Option.some Jvm.ClassFile.FieldType.long), Jvm.Cond.code ({ cls := "com/example/wingrow/wingrow/store/SummaryTree", name := "<init>", desc := "(J)V" } : Jvm.MethodName) prog_65_method_1_code (7 : Nat) (Option.none : Option Jvm.ClassFile.FieldType), Jvm.Cond.code ({ cls := "java/lang/Object", name := "<init>", desc := "()V" } : Jvm.MethodName) object_method_1_code (1 : Nat) (Option.none : Option Jvm.ClassFile.FieldType), Jvm.Cond.code ({ cls := "java/util/ArrayList", name := "<init>", desc := "()V" } : Jvm.MethodName) jdk_38_method_2_code (1 : Nat) (Option.none : Option Jvm.ClassFile.FieldType), Jvm.Cond.code ({ cls := "java/util/AbstractList", name := "<init>", desc := "()V" } : Jvm.MethodName) jdk_39_method_1_code (1 : Nat) (Option.none : Option Jvm.ClassFile.FieldType), Jvm.Cond.code ({ cls := "java/util/AbstractCollection", name := "<init>", desc := "()V" } : Jvm.MethodName) jdk_22_method_1_code (1 : Nat) (Option.none : Option Jvm.ClassFile.FieldType), Jvm.Cond.code ({ cls := "java/util/ArrayList", name := "size", desc := "()I" } : Jvm.MethodName) jdk_38_method_8_code (1 : Nat) (Option.some Jvm.ClassFile.FieldType.int), Jvm.Cond.code ({ cls := "com/example/wingrow/wingrow/store/SummaryTree", name := "bytes", desc := "()J" } : Jvm.MethodName) prog_65_method_2_code (1 : Nat) (Option.some Jvm.ClassFile.FieldType.long), Jvm.Cond.code ({ cls := "com/example/wingrow/wingrow/store/SummaryTreeBytesPinLaw", name := "ceilPow2", desc := "(JI)J" } : Jvm.MethodName) method_5_code (5 : Nat) (Option.some Jvm.ClassFile.FieldType.long), Jvm.Cond.code ({ cls := "com/example/wingrow/wingrow/store/SummaryTree", name := "ceilDiv", desc := "(JJ)J" } : Jvm.MethodName) prog_65_method_6_code (4 : Nat) (Option.some Jvm.ClassFile.FieldType.long), Jvm.Cond.code ({ cls := "java/lang/Long", name := "valueOf", desc := "(J)Ljava/lang/Long;" } : Jvm.MethodName) jdk_35_method_24_code (3 : Nat) (Option.some (Jvm.ClassFile.FieldType.object "java/lang/Long")), Jvm.Cond.code ({ cls := "java/util/ArrayList", name := "add", desc := "(Ljava/lang/Object;)Z" } : Jvm.MethodName) jdk_38_method_25_code (2 : Nat) (Option.some Jvm.ClassFile.FieldType.boolean), Jvm.Cond.code ({ cls := "java/util/ArrayList", name := "add", desc := "(Ljava/lang/Object;[Ljava/lang/Object;I)V" } : Jvm.MethodName) jdk_38_method_24_code (4 : Nat) (Option.none : Option Jvm.ClassFile.FieldType), Jvm.Cond.code ({ cls := "java/util/ArrayList", name := "grow", desc := "()[Ljava/lang/Object;" } : Jvm.MethodName) jdk_38_method_7_code (1 : Nat) (Option.some (Jvm.ClassFile.FieldType.array (Jvm.ClassFile.FieldType.object "java/lang/Object"))), Jvm.Cond.code ({ cls := "java/util/ArrayList", name := "grow", desc := "(I)[Ljava/lang/Object;" } : Jvm.MethodName) jdk_38_method_6_code (4 : Nat) (Option.some (Jvm.ClassFile.FieldType.array (Jvm.ClassFile.FieldType.object "java/lang/Object"))), Jvm.Cond.code ({ cls := "java/lang/Math", name := "max", desc := "(II)I" } : Jvm.MethodName) jdk_29_method_65_code (2 : Nat) (Option.some Jvm.ClassFile.FieldType.int), Jvm.Cond.code ({ cls := "java/util/ArrayList", name := "get", desc := "(I)Ljava/lang/Object;" } : Jvm.MethodName) jdk_38_method_20_code (2 : Nat) (Option.some (Jvm.ClassFile.FieldType.object "java/lang/Object")), Jvm.Cond.code ({ cls := "java/util/Objects", name := "checkIndex", desc := "(II)I" } : Jvm.MethodName) jdk_31_method_17_code (2 : Nat) (Option.some Jvm.ClassFile.FieldType.int), Jvm.Cond.code ({ cls := "jdk/internal/util/Preconditions", name := "checkIndex", desc := "(IILjava/util/function/BiFunction;)I" } : Jvm.MethodName) jdk_41_method_11_code (3 : Nat) (Option.some Jvm.ClassFile.FieldType.int), Jvm.Cond.code ({ cls := "java/util/ArrayList", name := "elementData", desc := "(I)Ljava/lang/Object;" } : Jvm.MethodName) jdk_38_method_18_code (2 : Nat) (Option.some (Jvm.ClassFile.FieldType.object "java/lang/Object")), Jvm.Cond.code ({ cls := "java/lang/Long", name := "longValue", desc := "()J" } : Jvm.MethodName) jdk_35_method_31_code (1 : Nat) (Option.some Jvm.ClassFile.FieldType.long), Jvm.Cond.code ({ cls := "java/lang/Math", name := "min", desc := "(JJ)J" } : Jvm.MethodName) jdk_29_method_70_code (4 : Nat) (Option.some Jvm.ClassFile.FieldType.long), Jvm.Cond.code ({ cls := "java/lang/Long", name := "<init>", desc := "(J)V" } : Jvm.MethodName) jdk_35_method_26_code (3 : Nat) (Option.none : Option Jvm.ClassFile.FieldType), Jvm.Cond.code ({ cls := "java/lang/Number", name := "<init>", desc := "()V" } : Jvm.MethodName) jdk_18_method_1_code (1 : Nat) (Option.none : Option Jvm.ClassFile.FieldType), Jvm.Cond.code ({ cls := "jdk/internal/util/ArraysSupport", name := "newLength", desc := "(III)I" } : Jvm.MethodName) jdk_48_method_27_code (4 : Nat) (Option.some Jvm.ClassFile.FieldType.int), Jvm.Cond.code ({ cls := "java/util/Arrays", name := "copyOf", desc := "([Ljava/lang/Object;I)[Ljava/lang/Object;" } : Jvm.MethodName) jdk_65_method_119_code (2 : Nat) (Option.some (Jvm.ClassFile.FieldType.array (Jvm.ClassFile.FieldType.object "java/lang/Object"))), Jvm.Cond.code ({ cls := "java/util/Arrays", name := "copyOf", desc := "([Ljava/lang/Object;ILjava/lang/Class;)[Ljava/lang/Object;" } : Jvm.MethodName) jdk_65_method_120_code (4 : Nat) (Option.some (Jvm.ClassFile.FieldType.array (Jvm.ClassFile.FieldType.object "java/lang/Object"))), Jvm.Cond.code ({ cls := "java/lang/Math", name := "min", desc := "(II)I" } : Jvm.MethodName) jdk_29_method_69_code (2 : Nat) (Option.some Jvm.ClassFile.FieldType.int)]
set_option maxRecDepth 65536 in
theorem codes_eq : words1.filter isCode = codes1 := rfl
theorem w_codes : ∀ c ∈ words1.filter isCode, c.before args0 about1 = true := by
  rw [codes_eq]
  intro c hc
  simp only [codes1, List.mem_cons, List.not_mem_nil, or_false] at hc
  rcases hc with rfl | rfl | rfl | rfl | rfl | rfl | rfl | rfl | rfl | rfl | rfl | rfl | rfl | rfl | rfl | rfl | rfl | rfl | rfl | rfl | rfl | rfl | rfl | rfl | rfl | rfl | rfl | rfl | rfl | rfl
  · exact w_c0
  · exact w_c1
  · exact w_c2
  · exact w_c3
  · exact w_c4
  · exact w_c5
  · exact w_c6
  · exact w_c7
  · exact w_c8
  · exact w_c9
  · exact w_c10
  · exact w_c11
  · exact w_c12
  · exact w_c13
  · exact w_c14
  · exact w_c15
  · exact w_c16
  · exact w_c17
  · exact w_c18
  · exact w_c19
  · exact w_c20
  · exact w_c21
  · exact w_c22
  · exact w_c23
  · exact w_c24
  · exact w_c25
  · exact w_c26
  · exact w_c27
  · exact w_c28
  · exact w_c29
set_option maxRecDepth 65536 in
theorem w_t1 : (words1.take 24).all (fun c => isCode c || c.before args0 about1) = true := by decide +kernel
set_option maxRecDepth 65536 in
theorem w_t2 : ((words1.drop 24).take 24).all (fun c => isCode c || c.before args0 about1) = true := by decide +kernel
set_option maxRecDepth 65536 in
theorem w_t3 : (((words1.drop 24).drop 24).take 24).all (fun c => isCode c || c.before args0 about1) = true := by decide +kernel
set_option maxRecDepth 65536 in
theorem w_t4 : ((((words1.drop 24).drop 24).drop 24).take 24).all (fun c => isCode c || c.before args0 about1) = true := by decide +kernel
set_option maxRecDepth 65536 in
theorem w_t5 : (((((words1.drop 24).drop 24).drop 24).drop 24).take 24).all (fun c => isCode c || c.before args0 about1) = true := by decide +kernel
set_option maxRecDepth 65536 in
theorem w_t6 : ((((((words1.drop 24).drop 24).drop 24).drop 24).drop 24).take 24).all (fun c => isCode c || c.before args0 about1) = true := by decide +kernel
set_option maxRecDepth 65536 in
theorem w_t7 : (((((((words1.drop 24).drop 24).drop 24).drop 24).drop 24).drop 24).take 24).all (fun c => isCode c || c.before args0 about1) = true := by decide +kernel
set_option maxRecDepth 65536 in
theorem w_t8 : (((((((words1.drop 24).drop 24).drop 24).drop 24).drop 24).drop 24).drop 24).all (fun c => isCode c || c.before args0 about1) = true := by decide +kernel
theorem w_tables : (allAtoms (Jvm.Cond.code x code maxLocals ret :: tables_1)).before args0 about1 = true := by
  rw [allAtoms_all]
  show words1.all (fun c => c.before args0 about1) = true
  refine all_split ?_ w_codes
  rw [← List.take_append_drop 24 words1, List.all_append, w_t1, ← List.take_append_drop 24 (words1.drop 24), List.all_append, w_t2, ← List.take_append_drop 24 ((words1.drop 24).drop 24), List.all_append, w_t3, ← List.take_append_drop 24 (((words1.drop 24).drop 24).drop 24), List.all_append, w_t4, ← List.take_append_drop 24 ((((words1.drop 24).drop 24).drop 24).drop 24), List.all_append, w_t5, ← List.take_append_drop 24 (((((words1.drop 24).drop 24).drop 24).drop 24).drop 24), List.all_append, w_t6, ← List.take_append_drop 24 ((((((words1.drop 24).drop 24).drop 24).drop 24).drop 24).drop 24), List.all_append, w_t7, w_t8]
  rfl
set_option maxRecDepth 65536 in
theorem w_rest : rest_1_c.before args0 about1 = true := by decide +kernel
set_option maxRecDepth 65536 in
theorem w_case : (Jvm.Cond.and given_1 narrow_1).before args0 about1 = true := by decide +kernel
theorem w_applies : (headSpec (Jvm.Cond.code x code maxLocals ret :: tables_1) room_1).applies x e0.platform about1 = true :=
  (Spec.applies_iff w_frames).mpr ⟨w_running, w_runnable, w_alone, w_named, w_hears, w_ripe, w_room, w_tables⟩
set_option maxRecDepth 65536 in
theorem atStart : AtStart classFile x code maxLocals ret World_1 tables_1 room_1 Calls_1 rest_1 Pre_1 launch0 p0 e0 about1 theMethod args0 below0 :=
  ⟨lists_1, trivial, launch0.admits_env _ _ _, launch0.least_env, fairChoices_fair.cas, fairChoices_fair.clock, w_frames, w_args, w_heap, w_applies, ⟨⟨33, k33, 2, by decide +kernel, rfl, rfl, _, rfl, rfl⟩, trivial⟩, w_rest, w_case⟩
end start1
theorem witness_1 : WitnessClaimed_1 := ⟨start1.p0, start1.e0, start1.about1, start1.theMethod, start1.args0, start1.below0, start1.atStart⟩
end Jvm.Pilot.@@N@@
